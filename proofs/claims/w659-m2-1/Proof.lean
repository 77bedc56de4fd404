import JvmDerived
import JvmDerived.Pilot.@@N@@Statement
import JvmDerived.Pilot.@@N@@Code
set_option linter.unusedVariables false
set_option linter.unusedSimpArgs false
namespace Jvm.Pilot.@@N@@
open Jvm Jvm.ClassFile Sem Op Lib Jvm.Free Jvm.Stand Jvm.LawKit Jvm.RoadKit Bundle Jvm.Pilot.@@N@@.Jvm.D
section Own0
theorem own_fld_to {Z : State} {h : Heap} {a : Addr} {C n d : String} {v v' : Value} (F : Fld Z h a C n d v) (q : v = v') : Fld Z h a C n d v' := q ▸ F
theorem own_sta_keep {Z : State} {h h' : Heap} {C n d : String} {v : Value} {ws : List Addr} (F : Sta Z h C n d v) (K : Keep h h' ws) (q : ∀ x ∈ ws, ∀ c : Cell, h[x]? = some c → c.vm.isStatics = false) : Sta Z h' C n d v := by
  obtain ⟨cf, i, k, f, st, cell, h1, h2, h3, h4, h5, h6, h7⟩ := F
  exact ⟨cf, i, k, f, st, cell, h1, h2, h3, h4, K.2.1 st cell h5 (fun y => by rw [q st y cell h5] at h6; cases h6), h6, h7⟩
theorem own_ins_keep {Z : State} {h h' : Heap} {a : Addr} {C : String} {bo : Bool} {ws : List Addr} (F : Ins Z h a C bo) (K : Keep h h' ws) : Ins Z h' a C bo := by
  obtain ⟨cell, cT, h1, h2, h3⟩ := F
  obtain ⟨c', e1, e2, e3, -⟩ := K.2.2 a cell h1
  exact ⟨c', cT, e1, h2, by rw [e2, e3]; exact h3⟩
theorem notsta_exa {Z : State} {h : Heap} {a : Addr} {C : String} (F : Exa Z h a C) : ∀ c : Cell, h[a]? = some c → c.vm.isStatics = false := fun c hc => by
  obtain ⟨cell, _, h1, -, -, h4, -⟩ := F
  cases hc.symm.trans h1; exact h4
theorem eqi_v {args : Array Value} {first s : State} {o : Option Outcome} {idx : List Nat} {a : Term} {k : Int32} (h : (Cond.eq a (.int k)).value args first o s idx = some true) : a.eval args first o idx s = some (.int k) := by
  obtain ⟨x, y, e1, e2, k1, k2⟩ := cmp_v (Or.inl h)
  have e3 : (Term.int k).eval args first o idx s = some (.int k) := rfl
  cases e3.symm.trans e2
  cases x <;> simp [Cond.value, e1, e3] at h
  rw [e1, h]
end Own0
section Own
variable {p : Program} {l : Launch} {e : Env} {R : Room} {s : State} {m : MethodId} {args : Array Value} {below : List Frame} {meth : Method} {c : Code} {T T' : State} {locs : List Loc} {cells slots : Nat} {Z : State} {h h' : Heap} {Q : Option Value → Heap → List Loc → Prop} {kc ks : Nat} {a b : Addr}
/-- from T the method comes to its end, and Q holds of what it returns, of the heap and of the written places -/
def Goes (p : Program) (e : Env) (below : List Frame) (s : State) (Q : Option Value → Heap → List Loc → Prop) (kc ks : Nat) (T : State) : Prop :=
  ∃ s₂ o, Steps p.tables e below T s₂ ∧ s₂.status = .running ∧ Ended s₂ below o ∧ ∃ v L, o = .returned v ∧ Q v s₂.heap L ∧ FrameEnd s o s₂ L kc ks
theorem Goes.step (st : ∀ t, Steps p.tables e below T' t → Steps p.tables e below T t) (k : Goes p e below s Q kc ks T') : Goes p e below s Q kc ks T := by
  obtain ⟨s₂, o, h1, h2⟩ := k; exact ⟨s₂, o, st _ h1, h2⟩
theorem Goes.ret (X : Stand p l e R s m args below meth c T locs cells slots) {v : Option Value} (hv : meth.sig.returnType = none → v = none) (hlocks : meth.locks = false) {T₀ : State}
    (st : ∀ fs, (∀ (f : JFrame) (acts : List Action), f.method = m → f.locked = none → f.entered = [] → (doReturn e (T.setTop f) acts v).1 = T.setFrames fs) → Steps p.tables e below T₀ (T.setFrames fs))
    (hq : Q v T.heap locs) (hc : cells ≤ kc) (hs : slots ≤ ks) : Goes p e below s Q kc ks T₀ := by
  obtain ⟨fs, hr, hrun, hended, hW, hsame⟩ := X.leave (v := v) hv hlocks
  exact ⟨_, _, st fs hr, hrun, hended, _, _, rfl, hq, ⟨_, rfl⟩, hW, hsame.mono hc hs⟩
theorem Goes.retZ (X : Stand p l e R s m args below meth c T locs cells slots) (hx : p.tables.exec = Jvm.exec) (hlocks : meth.locks = false) {pc : Nat} {Ls : Array Slot} {z r : Int32} {t : FieldType} {rest : List Value} (hret : meth.sig.returnType = some t) (ht : t = .boolean ∨ t = .byte ∨ t = .char ∨ t = .short)
    (hd : decode c.code pc = .ok (.ireturn, 1)) (hz : nar t z = r) (hq : Q (some (.int r)) T.heap locs) (hc : cells ≤ kc) (hs : slots ≤ ks) : Goes p e below s Q kc ks (T.setTop (mkF m pc Ls (.int z :: rest))) := by
  subst hz
  exact Goes.ret X (fun h => by rw [hret] at h; cases h) hlocks (fun fs hr => retN X hx hret ht hd hr) hq hc hs
theorem Goes.retI (X : Stand p l e R s m args below meth c T locs cells slots) (hx : p.tables.exec = Jvm.exec) (hlocks : meth.locks = false) {pc : Nat} {Ls : Array Slot} {z r : Int32} {rest : List Value} (hret : meth.sig.returnType = some .int)
    (hd : decode c.code pc = .ok (.ireturn, 1)) (hz : z = r) (hq : Q (some (.int r)) T.heap locs) (hc : cells ≤ kc) (hs : slots ≤ ks) : Goes p e below s Q kc ks (T.setTop (mkF m pc Ls (.int z :: rest))) := by
  subst hz
  exact Goes.ret X (fun h => by rw [hret] at h; cases h) hlocks (fun fs hr => retOut X hx hret rfl (Or.inl ⟨rfl, Or.inl rfl, z, rfl⟩) hd hr) hq hc hs
theorem Goes.retJ (X : Stand p l e R s m args below meth c T locs cells slots) (hx : p.tables.exec = Jvm.exec) (hlocks : meth.locks = false) {pc : Nat} {Ls : Array Slot} {z r : Int64} {rest : List Value} (hret : meth.sig.returnType = some .long)
    (hd : decode c.code pc = .ok (.lreturn, 1)) (hz : z = r) (hq : Q (some (.long r)) T.heap locs) (hc : cells ≤ kc) (hs : slots ≤ ks) : Goes p e below s Q kc ks (T.setTop (mkF m pc Ls (.long z :: rest))) := by
  subst hz
  exact Goes.ret X (fun h => by rw [hret] at h; cases h) hlocks (fun fs hr => retOut X hx hret rfl (Or.inr (Or.inl ⟨rfl, rfl, z, rfl⟩)) hd hr) hq hc hs
theorem Goes.retR (X : Stand p l e R s m args below meth c T locs cells slots) (hx : p.tables.exec = Jvm.exec) (hlocks : meth.locks = false) {pc : Nat} {Ls : Array Slot} {z r : Value} {t : FieldType} {rest : List Value} (hret : meth.sig.returnType = some t) (ht : t.isReference = true) (hn : narrow t z = z) (hw : z.isRef = true)
    (hd : decode c.code pc = .ok (.areturn, 1)) (hz : z = r) (hq : Q (some r) T.heap locs) (hc : cells ≤ kc) (hs : slots ≤ ks) : Goes p e below s Q kc ks (T.setTop (mkF m pc Ls (z :: rest))) := by
  subst hz
  exact Goes.ret X (fun h => by rw [hret] at h; cases h) hlocks (fun fs hr => retOut X hx hret hn (Or.inr (Or.inr (Or.inr (Or.inr ⟨rfl, ht, hw⟩)))) hd hr) hq hc hs
theorem Goes.retV (X : Stand p l e R s m args below meth c T locs cells slots) (hx : p.tables.exec = Jvm.exec) (hlocks : meth.locks = false) {pc : Nat} {Ls : Array Slot} (hret : meth.sig.returnType = none)
    (hd : decode c.code pc = .ok (.return_, 1)) (hq : Q none T.heap locs) (hc : cells ≤ kc) (hs : slots ≤ ks) : Goes p e below s Q kc ks (T.setTop (mkF m pc Ls [])) :=
  Goes.ret X (fun _ => rfl) hlocks (fun fs hr => X.returnOut hx hret hd hr) hq hc hs
/-- the array at a holds vs -/
def Ara (Z : State) (h : Heap) (a : Addr) (ty : FieldType) (vs : List Value) : Prop := ∃ cl : Cell, Arr Z h a cl ty ∧ cl.slots.toList = vs ∧ vs.length < 2 ^ 31 ∧ (∀ v ∈ vs, fits ty v = true) ∧ ∀ C, ty = .object C → Ovr Z cl.cls C
variable {ty : FieldType} {vs : List Value} {sl : Nat} {v : Value} {ws : List Addr}
theorem Ara.lt (F : Ara Z h a ty vs) : a < h.size := by obtain ⟨c, A, -⟩ := F; exact A.lt
theorem Ara.ext (F : Ara Z h a ty vs) (E : Ext h h') : Ara Z h' a ty vs := by obtain ⟨c, A, r⟩ := F; exact ⟨c, A.ext E, r⟩
theorem Ara.other (F : Ara Z h b ty vs) (W : Wr h h' a sl v) (q : b ≠ a) : Ara Z h' b ty vs := by obtain ⟨c, A, r⟩ := F; exact ⟨c, A.other W q, r⟩
theorem Ara.keep (F : Ara Z h a ty vs) (K : Keep h h' ws) (q : a ∉ ws) : Ara Z h' a ty vs := by obtain ⟨c, A, r⟩ := F; exact ⟨c, ⟨K.2.1 a c A.1 q, A.2⟩, r⟩
theorem fits_dflt (ty : FieldType) : fits ty (defaultValue ty) = true := by cases ty <;> rfl
theorem Ara.new {k : ClassId} {z : Int32} (A : Arr Z h a (newA k ty z) ty) (q : ¬ z < 0) (e : List.replicate z.toNatClampNeg (defaultValue ty) = vs) (O : ∀ C, ty = .object C → Ovr Z k C) : Ara Z h a ty vs := by
  subst e
  refine ⟨_, A, by simp [newA], by simpa using (back32 q).2, fun v hv => ?_, O⟩
  rw [(List.mem_replicate.mp hv).2]; exact fits_dflt ty
theorem Ara.same {j : Int32} {cl : Cell} (A : Arr Z h a cl ty) (e : cl.slots.toList = vs) (hl : vs.length < 2 ^ 31) (hf : ∀ v ∈ vs, fits ty v = true) (O : ∀ C, ty = .object C → Ovr Z cl.cls C) (hv : fits ty v = true) (W : Wr h h' a j.toNatClampNeg v) : Ara Z h' a ty (vs.set j.toNatClampNeg v) := by
  refine ⟨_, A.same W, by simp [Cell.setSlot, ← e], by simpa using hl, fun u hu => ?_, O⟩
  rcases List.mem_or_eq_of_mem_set hu with q | q
  · exact hf u q
  · rw [q]; exact hv
theorem inb {j : Int32} {cl : Cell} (e : cl.slots.toList = vs) (h0 : ¬ j < 0) (hj : j.toNatClampNeg < vs.length) : ¬ (j < 0 ∨ cl.slots.size ≤ j.toNatClampNeg) := by
  rintro (q | q)
  · exact h0 q
  · rw [← e] at hj; simp at hj; omega
theorem getb {j : Int32} {cl : Cell} (e : cl.slots.toList = vs) (hv : vs[j.toNatClampNeg]? = some v) : cl.slots[j.toNatClampNeg]? = some v := by rw [← e] at hv; simpa using hv
theorem ltb {n : Nat} (hv : vs[n]? = some v) : n < vs.length := (List.getElem?_eq_some_iff.mp hv).1
theorem lenb {cl : Cell} (e : cl.slots.toList = vs) : cl.slots.size = vs.length := by rw [← e]; simp
theorem notsta_ara (F : Ara Z h a ty vs) : ∀ c : Cell, h[a]? = some c → c.vm.isStatics = false := fun c hc => by
  obtain ⟨cl, A, -⟩ := F
  cases hc.symm.trans A.1; exact A.plain
theorem Ara.to {vs' : List Value} (F : Ara Z h a ty vs) (q : vs = vs') : Ara Z h a ty vs' := q ▸ F
end Own

def sel4 (i : Int32) (a b c d : Int32) : Int32 := if i = 0 then a else if i = 1 then b else if i = 2 then c else d
theorem idx4 {i : Int32} (h0 : ¬ i < 0) (h4 : i.toNatClampNeg < 4) : i = 0 ∨ i = 1 ∨ i = 2 ∨ i = 3 := by
  have q := nat_of h0
  have : i.toInt = 0 ∨ i.toInt = 1 ∨ i.toInt = 2 ∨ i.toInt = 3 := by omega
  rcases this with h | h | h | h
  · exact Or.inl (Int32.toInt_inj.mp h)
  · exact Or.inr (Or.inl (Int32.toInt_inj.mp h))
  · exact Or.inr (Or.inr (Or.inl (Int32.toInt_inj.mp h)))
  · exact Or.inr (Or.inr (Or.inr (Int32.toInt_inj.mp h)))
theorem get4 {i : Int32} {a b c d : Int32} (h0 : ¬ i < 0) (h4 : i.toNatClampNeg < 4) : [Value.int a, .int b, .int c, .int d][i.toNatClampNeg]? = some (.int (sel4 i a b c d)) := by
  rcases idx4 h0 h4 with rfl | rfl | rfl | rfl <;> rfl
theorem own_at {s i n : Int32} (hs : ¬ s < 0) (hi : ¬ i < 0) (hn : i < n) (h : s.toInt + n.toInt ≤ 4) : (s + i).toInt = s.toInt + i.toInt ∧ ¬ (s + i) < 0 ∧ (s + i).toNatClampNeg < 4 := by
  have z : (0 : Int32).toInt = 0 := by decide
  rw [Int32.lt_iff_toInt_lt] at hs hi hn
  have e := c_iadd s i
  have r1 := rng32 s; have r2 := rng32 i; have r3 := rng32 (s + i); have r4 := rng32 n
  have q : (s + i).toInt = s.toInt + i.toInt := by omega
  have p : ¬ (s + i) < 0 := by rw [Int32.lt_iff_toInt_lt]; omega
  have w := nat_of p
  exact ⟨q, p, by omega⟩
theorem own_m (x : Int32) : 0 ≤ (x &&& 127).toInt ∧ (x &&& 127).toInt < 128 := by
  have h := c_mask x 127 7 (by decide) (by decide); omega
theorem own_b7 (x : Int32) : (x &&& 127).toInt8.toInt32 = x &&& 127 := by
  have h1 := own_m x
  have h2 := c_i2b (x &&& 127)
  rw [← Int32.toInt_inj]; omega
theorem own_c7 (x : Int32) : (x &&& 127).toUInt32.toUInt16.toUInt32.toInt32 = x &&& 127 := by
  have h1 := own_m x
  have h2 := c_i2c (x &&& 127)
  rw [← Int32.toInt_inj]; omega
theorem own_s0 (p : Int32) : (p.toUInt32 >>> (((8 : Int32) * 0) &&& 31).toUInt32).toInt32 = p := by
  have : (((8 : Int32) * 0) &&& 31).toUInt32 = 0 := by decide
  rw [this]; simp
theorem own_r5 (a y : Int32) (h0 : 0 ≤ a.toInt) (h : a % 5 = y) : 0 ≤ y.toInt ∧ y.toInt < 5 := by
  have := (c_irem a 5 5 (by decide)).1 h0
  rw [h] at this; omega
theorem own_sub5 (y : Int32) (h : 0 ≤ y.toInt ∧ y.toInt < 5) : (5 - y).toInt = 5 - y.toInt := by
  have h1 := c_isub 5 y
  rw [(by decide : (5 : Int32).toInt = 5)] at h1
  have := rng32 (5 - y); omega
theorem own_nz5 (y : Int32) (h : 0 ≤ y.toInt ∧ y.toInt < 5) : ¬ (5 - y = 0) := fun q => by
  have := own_sub5 y h
  rw [q, (by decide : (0 : Int32).toInt = 0)] at this; omega
theorem own_rg (a y z : Int32) (ha : 0 ≤ a.toInt) (h : 0 ≤ y.toInt ∧ y.toInt < 5) (hz : a % (5 - y) = z) : ¬ y < 0 ∧ y.toInt + z.toInt ≤ 4 := by
  have h1 := own_sub5 y h
  have h2 := (c_iremV a (5 - y)).1 ha (by omega)
  rw [hz] at h2
  refine ⟨?_, by omega⟩
  rw [Int32.lt_iff_toInt_lt, (by decide : (0 : Int32).toInt = 0)]; omega
theorem own_pn0 : plainName "com/example/crisp_monitor/crispmonitor/io/AsciiViewOfPinLaw" = true := by first | (simp [plainName, overriddenIn]; done) | decide +kernel
theorem own_pn1 : plainName "com/example/crisp_monitor/crispmonitor/io/AsciiView" = true := by first | (simp [plainName, overriddenIn]; done) | decide +kernel
theorem own_pd0 : parseMethodDescriptor "(I)C" = some ⟨[.int], some .char⟩ := by decide +kernel
theorem own_pd1 : parseMethodDescriptor "(I)[B" = some ⟨[.int], some (.array .byte)⟩ := by decide +kernel
theorem own_pd2 : parseMethodDescriptor "()V" = some ⟨[], none⟩ := by decide +kernel
theorem own_pd3 : parseMethodDescriptor "([BII)Lcom/example/crisp_monitor/crispmonitor/io/AsciiView;" = some ⟨[(.array .byte), .int, .int], some (.object "com/example/crisp_monitor/crispmonitor/io/AsciiView")⟩ := by decide +kernel
theorem own_pd4 : parseMethodDescriptor "()I" = some ⟨[], some .int⟩ := by decide +kernel
theorem own_pd5 : parseMethodDescriptor "(Lcom/example/crisp_monitor/crispmonitor/io/AsciiView;IIII)Z" = some ⟨[(.object "com/example/crisp_monitor/crispmonitor/io/AsciiView"), .int, .int, .int, .int], some .boolean⟩ := by decide +kernel
theorem own_d1_0 : decode method_3_code 0 = .ok (.iconst 4, 1) := by decide +kernel
theorem own_d1_1 : decode method_3_code 1 = .ok (.newarray .byte, 2) := by decide +kernel
theorem own_d1_3 : decode method_3_code 3 = .ok (.astore_n 1, 1) := by decide +kernel
theorem own_d1_4 : decode method_3_code 4 = .ok (.aload_n 1, 1) := by decide +kernel
theorem own_d1_5 : decode method_3_code 5 = .ok (.iconst 0, 1) := by decide +kernel
theorem own_d1_6 : decode method_3_code 6 = .ok (.iload_n 0, 1) := by decide +kernel
theorem own_d1_7 : decode method_3_code 7 = .ok (.bipush 127, 2) := by decide +kernel
theorem own_d1_9 : decode method_3_code 9 = .ok (.iand, 1) := by decide +kernel
theorem own_d1_10 : decode method_3_code 10 = .ok (.i2b, 1) := by decide +kernel
theorem own_d1_11 : decode method_3_code 11 = .ok (.bastore, 1) := by decide +kernel
theorem own_d1_12 : decode method_3_code 12 = .ok (.aload_n 1, 1) := by decide +kernel
theorem own_d1_13 : decode method_3_code 13 = .ok (.iconst 1, 1) := by decide +kernel
theorem own_d1_14 : decode method_3_code 14 = .ok (.iload_n 0, 1) := by decide +kernel
theorem own_d1_15 : decode method_3_code 15 = .ok (.bipush 8, 2) := by decide +kernel
theorem own_d1_17 : decode method_3_code 17 = .ok (.iushr, 1) := by decide +kernel
theorem own_d1_18 : decode method_3_code 18 = .ok (.bipush 127, 2) := by decide +kernel
theorem own_d1_20 : decode method_3_code 20 = .ok (.iand, 1) := by decide +kernel
theorem own_d1_21 : decode method_3_code 21 = .ok (.i2b, 1) := by decide +kernel
theorem own_d1_22 : decode method_3_code 22 = .ok (.bastore, 1) := by decide +kernel
theorem own_d1_23 : decode method_3_code 23 = .ok (.aload_n 1, 1) := by decide +kernel
theorem own_d1_24 : decode method_3_code 24 = .ok (.iconst 2, 1) := by decide +kernel
theorem own_d1_25 : decode method_3_code 25 = .ok (.iload_n 0, 1) := by decide +kernel
theorem own_d1_26 : decode method_3_code 26 = .ok (.bipush 16, 2) := by decide +kernel
theorem own_d1_28 : decode method_3_code 28 = .ok (.iushr, 1) := by decide +kernel
theorem own_d1_29 : decode method_3_code 29 = .ok (.bipush 127, 2) := by decide +kernel
theorem own_d1_31 : decode method_3_code 31 = .ok (.iand, 1) := by decide +kernel
theorem own_d1_32 : decode method_3_code 32 = .ok (.i2b, 1) := by decide +kernel
theorem own_d1_33 : decode method_3_code 33 = .ok (.bastore, 1) := by decide +kernel
theorem own_d1_34 : decode method_3_code 34 = .ok (.aload_n 1, 1) := by decide +kernel
theorem own_d1_35 : decode method_3_code 35 = .ok (.iconst 3, 1) := by decide +kernel
theorem own_d1_36 : decode method_3_code 36 = .ok (.iload_n 0, 1) := by decide +kernel
theorem own_d1_37 : decode method_3_code 37 = .ok (.bipush 24, 2) := by decide +kernel
theorem own_d1_39 : decode method_3_code 39 = .ok (.iushr, 1) := by decide +kernel
theorem own_d1_40 : decode method_3_code 40 = .ok (.bipush 127, 2) := by decide +kernel
theorem own_d1_42 : decode method_3_code 42 = .ok (.iand, 1) := by decide +kernel
theorem own_d1_43 : decode method_3_code 43 = .ok (.i2b, 1) := by decide +kernel
theorem own_d1_44 : decode method_3_code 44 = .ok (.bastore, 1) := by decide +kernel
theorem own_d1_45 : decode method_3_code 45 = .ok (.aload_n 1, 1) := by decide +kernel
theorem own_d1_46 : decode method_3_code 46 = .ok (.areturn, 1) := by decide +kernel
theorem own_ef1 (m : MethodId) (p0 : Int32) : entryFrame m #[(.int p0)] 2 = mkF m 0 #[.val (.int p0), .unset] [] := by first | (simp [entryFrame, mkF, argsToLocals, Value.category, maxLocals]; done) | rfl
abbrev RM1 : Room := ({ frames := 0, cells := 1, slots := 4, locals := 0 } : Room)
abbrev kC1 : Nat := 1
abbrev kS1 : Nat := 4
def Q1 (Z : State) (p0 : Int32) (h0 : Heap) (n0 : Nat) (v : Option Value) (h : Heap) (L : List Loc) : Prop := ∃ b1 : Addr, v = some (.ref b1) ∧ Fr n0 L ∧ Keep h0 h [] ∧ h0.size ≤ b1 ∧ Ara Z h b1 .byte [(.int (((p0 &&& (127 : Int32)).toInt8.toInt32).toInt8.toInt32)), (.int (((((p0.toUInt32 >>> ((8 : Int32) &&& 31).toUInt32).toInt32) &&& (127 : Int32)).toInt8.toInt32).toInt8.toInt32)), (.int (((((p0.toUInt32 >>> ((16 : Int32) &&& 31).toUInt32).toInt32) &&& (127 : Int32)).toInt8.toInt32).toInt8.toInt32)), (.int (((((p0.toUInt32 >>> ((24 : Int32) &&& 31).toUInt32).toInt32) &&& (127 : Int32)).toInt8.toInt32).toInt8.toInt32))]
set_option maxRecDepth 65536 in
set_option maxHeartbeats 40000000 in
theorem rm1 (l : Launch) (Z : State) (tA : Array Value) (hw : ∀ d ∈ tables_1, d.before tA Z = true) (ws : List Jvm.Cond) (p0 : Int32) (h0 : Heap) (n0 : Nat) (Z0 : n0 ≤ h0.size)  :
    MetFree l (⟨"com/example/crisp_monitor/crispmonitor/io/AsciiViewOfPinLaw", "bytes", "(I)[B"⟩ : MethodName) (head1 (Jvm.Cond.code (⟨"com/example/crisp_monitor/crispmonitor/io/AsciiViewOfPinLaw", "bytes", "(I)[B"⟩ : MethodName) method_3_code 2 (some (.array .byte)) :: ws) RM1) (fun a U => a = #[(.int p0)] ∧ Z.Warmed39 U.vm ∧ U.heap = h0) (fun _ _ _ _ _ => True) (fun _ U o U' => ∃ v L, o = .returned v ∧ Q1 Z p0 h0 n0 v U'.heap L ∧ FrameEnd U o U' L RM1.cells RM1.slots) := by
  refine MetFree.of_bodySF (plainFor_of_name own_pn0) hisR ?_
  intro p e s m args below meth c s₁ Bd hml0 hP hK
  obtain ⟨rfl, hZ, hh⟩ := hP
  have hx := Bd.exec
  have hby := Bd.bytes
  have hml : c.maxLocals = 2 := hml0
  have hown : s.vm.findClass "com/example/crisp_monitor/crispmonitor/io/AsciiViewOfPinLaw" = some m.cls := findClass_of_methodNamed Bd.named
  have hnm := (name_of_methodNamed Bd.named Bd.method).1
  have X0 : Stand p l e RM1 s m #[(.int p0)] below meth c s₁ [] 0 0 := Stand.of_body Bd
  have e0 : s₁.heap = h0 := by rw [← hh, Bd.state]; rfl
  have N0 := Fr.nil n0
  show Goes p e below s (Q1 Z p0 h0 n0) kC1 kS1 (s₁.setTop (entryFrame m #[(.int p0)] 2))
  refine Goes.step (fun t k => castTop (own_ef1 m p0) k) ?_
  show Goes _ _ _ _ _ _ _ (s₁.setTop (mkF m 0 #[.val (.int p0), .unset] []))
  refine Goes.step (fun t k => XS.iconst X0.here hx rfl (hb hby own_d1_0) k) ?_
  show Goes _ _ _ _ _ _ _ (s₁.setTop (mkF m 1 #[.val (.int p0), .unset] [(.int (4 : Int32))]))
  obtain ⟨T1, h1, k1, X1, e1, E1, A1, st1⟩ := newP X0 hx hZ (hw _ (List.mem_of_getElem? (i := 4) rfl)) e0 (g := (mkF m 1 #[.val (.int p0), .unset] [(.int (4 : Int32))])) rfl (hb hby own_d1_1) rfl (by decide) (cap := 4) (by decide) (by decide) (by decide) (by decide)
  obtain ⟨b1, g1⟩ : ∃ z, z = h0.size := ⟨_, rfl⟩
  rw [← g1] at A1 st1
  have Zs1 : n0 ≤ b1 := Nat.le_trans Z0 (Nat.le_of_eq g1.symm)
  have Zh1 : h0.size ≤ b1 := Nat.le_trans (Keep.refl h0 []).1 (Nat.le_of_eq g1.symm)
  have K1 := (Keep.refl h0 []).ext E1
  have Z1 := Nat.le_trans Z0 E1.1
  have V1 : Ara Z h1 b1 .byte [(.int (0 : Int32)), (.int (0 : Int32)), (.int (0 : Int32)), (.int (0 : Int32))] := Ara.new A1 (by decide) rfl (fun _ q => nomatch q)
  refine Goes.step (fun t k => st1 t k) ?_
  show Goes _ _ _ _ _ _ _ (T1.setTop (mkF m 3 #[.val (.int p0), .unset] [(.ref b1)]))
  refine Goes.step (fun t k => XS.astoreN X1.here hx rfl (hb hby own_d1_3) rfl rfl (l' := #[.val (.int p0), .val (.ref b1)]) rfl k) ?_
  show Goes _ _ _ _ _ _ _ (T1.setTop (mkF m 4 #[.val (.int p0), .val (.ref b1)] []))
  refine Goes.step (fun t k => XS.aloadN X1.here hx rfl (hb hby own_d1_4) rfl rfl k) ?_
  show Goes _ _ _ _ _ _ _ (T1.setTop (mkF m 5 #[.val (.int p0), .val (.ref b1)] [(.ref b1)]))
  refine Goes.step (fun t k => XS.iconst X1.here hx rfl (hb hby own_d1_5) k) ?_
  show Goes _ _ _ _ _ _ _ (T1.setTop (mkF m 6 #[.val (.int p0), .val (.ref b1)] [(.int (0 : Int32)), (.ref b1)]))
  refine Goes.step (fun t k => XS.iloadN X1.here hx rfl (hb hby own_d1_6) rfl k) ?_
  show Goes _ _ _ _ _ _ _ (T1.setTop (mkF m 7 #[.val (.int p0), .val (.ref b1)] [(.int p0), (.int (0 : Int32)), (.ref b1)]))
  refine Goes.step (fun t k => XS.bipush X1.here hx rfl (hb hby own_d1_7) k) ?_
  show Goes _ _ _ _ _ _ _ (T1.setTop (mkF m 9 #[.val (.int p0), .val (.ref b1)] [(.int (127 : Int32)), (.int p0), (.int (0 : Int32)), (.ref b1)]))
  refine Goes.step (fun t k => XS.iand X1.here hx rfl (hb hby own_d1_9) rfl k) ?_
  show Goes _ _ _ _ _ _ _ (T1.setTop (mkF m 10 #[.val (.int p0), .val (.ref b1)] [(.int (p0 &&& (127 : Int32))), (.int (0 : Int32)), (.ref b1)]))
  refine Goes.step (fun t k => XS.i2b X1.here hx rfl (hb hby own_d1_10) rfl k) ?_
  show Goes _ _ _ _ _ _ _ (T1.setTop (mkF m 11 #[.val (.int p0), .val (.ref b1)] [(.int ((p0 &&& (127 : Int32)).toInt8.toInt32)), (.int (0 : Int32)), (.ref b1)]))
  obtain ⟨cl2, Ar2, q2, ll2, ff2, oo2⟩ := id V1
  have hn2 : ¬ (0 : Int32) < 0 := by decide
  have hl2 : ((0 : Int32)).toNatClampNeg < ([(.int (0 : Int32)), (.int (0 : Int32)), (.int (0 : Int32)), (.int (0 : Int32))] : List Value).length := by exact Nat.le_of_ble_eq_true rfl
  obtain ⟨T2, h2, X2, e2, W2, st2⟩ := stB X1 hx hZ e1 Ar2 (j := (0 : Int32)) (inb q2 hn2 hl2) (g := (mkF m 11 #[.val (.int p0), .val (.ref b1)] [(.int ((p0 &&& (127 : Int32)).toInt8.toInt32)), (.int (0 : Int32)), (.ref b1)])) rfl rfl (hb hby own_d1_11)
  have V2 : Ara Z h2 b1 .byte [(.int (((p0 &&& (127 : Int32)).toInt8.toInt32).toInt8.toInt32)), (.int (0 : Int32)), (.int (0 : Int32)), (.int (0 : Int32))] := Ara.same (j := (0 : Int32)) Ar2 q2 ll2 ff2 oo2 (fits_nar_byte _) W2
  have K2 := K1.wr W2 (Or.inr Zh1)
  have N2 := Fr.snoc X2 N0 Zs1
  have Z2 := Nat.le_trans Z1 (Nat.le_of_eq W2.size.symm)
  refine Goes.step (fun t k => st2 t k) ?_
  show Goes _ _ _ _ _ _ _ (T2.setTop (mkF m 12 #[.val (.int p0), .val (.ref b1)] []))
  refine Goes.step (fun t k => XS.aloadN X2.here hx rfl (hb hby own_d1_12) rfl rfl k) ?_
  show Goes _ _ _ _ _ _ _ (T2.setTop (mkF m 13 #[.val (.int p0), .val (.ref b1)] [(.ref b1)]))
  refine Goes.step (fun t k => XS.iconst X2.here hx rfl (hb hby own_d1_13) k) ?_
  show Goes _ _ _ _ _ _ _ (T2.setTop (mkF m 14 #[.val (.int p0), .val (.ref b1)] [(.int (1 : Int32)), (.ref b1)]))
  refine Goes.step (fun t k => XS.iloadN X2.here hx rfl (hb hby own_d1_14) rfl k) ?_
  show Goes _ _ _ _ _ _ _ (T2.setTop (mkF m 15 #[.val (.int p0), .val (.ref b1)] [(.int p0), (.int (1 : Int32)), (.ref b1)]))
  refine Goes.step (fun t k => XS.bipush X2.here hx rfl (hb hby own_d1_15) k) ?_
  show Goes _ _ _ _ _ _ _ (T2.setTop (mkF m 17 #[.val (.int p0), .val (.ref b1)] [(.int (8 : Int32)), (.int p0), (.int (1 : Int32)), (.ref b1)]))
  refine Goes.step (fun t k => XS.iushr X2.here hx rfl (hb hby own_d1_17) rfl k) ?_
  show Goes _ _ _ _ _ _ _ (T2.setTop (mkF m 18 #[.val (.int p0), .val (.ref b1)] [(.int ((p0.toUInt32 >>> ((8 : Int32) &&& 31).toUInt32).toInt32)), (.int (1 : Int32)), (.ref b1)]))
  refine Goes.step (fun t k => XS.bipush X2.here hx rfl (hb hby own_d1_18) k) ?_
  show Goes _ _ _ _ _ _ _ (T2.setTop (mkF m 20 #[.val (.int p0), .val (.ref b1)] [(.int (127 : Int32)), (.int ((p0.toUInt32 >>> ((8 : Int32) &&& 31).toUInt32).toInt32)), (.int (1 : Int32)), (.ref b1)]))
  refine Goes.step (fun t k => XS.iand X2.here hx rfl (hb hby own_d1_20) rfl k) ?_
  show Goes _ _ _ _ _ _ _ (T2.setTop (mkF m 21 #[.val (.int p0), .val (.ref b1)] [(.int (((p0.toUInt32 >>> ((8 : Int32) &&& 31).toUInt32).toInt32) &&& (127 : Int32))), (.int (1 : Int32)), (.ref b1)]))
  refine Goes.step (fun t k => XS.i2b X2.here hx rfl (hb hby own_d1_21) rfl k) ?_
  show Goes _ _ _ _ _ _ _ (T2.setTop (mkF m 22 #[.val (.int p0), .val (.ref b1)] [(.int ((((p0.toUInt32 >>> ((8 : Int32) &&& 31).toUInt32).toInt32) &&& (127 : Int32)).toInt8.toInt32)), (.int (1 : Int32)), (.ref b1)]))
  obtain ⟨cl3, Ar3, q3, ll3, ff3, oo3⟩ := id V2
  have hn3 : ¬ (1 : Int32) < 0 := by decide
  have hl3 : ((1 : Int32)).toNatClampNeg < ([(.int (((p0 &&& (127 : Int32)).toInt8.toInt32).toInt8.toInt32)), (.int (0 : Int32)), (.int (0 : Int32)), (.int (0 : Int32))] : List Value).length := by exact Nat.le_of_ble_eq_true rfl
  obtain ⟨T3, h3, X3, e3, W3, st3⟩ := stB X2 hx hZ e2 Ar3 (j := (1 : Int32)) (inb q3 hn3 hl3) (g := (mkF m 22 #[.val (.int p0), .val (.ref b1)] [(.int ((((p0.toUInt32 >>> ((8 : Int32) &&& 31).toUInt32).toInt32) &&& (127 : Int32)).toInt8.toInt32)), (.int (1 : Int32)), (.ref b1)])) rfl rfl (hb hby own_d1_22)
  have V3 : Ara Z h3 b1 .byte [(.int (((p0 &&& (127 : Int32)).toInt8.toInt32).toInt8.toInt32)), (.int (((((p0.toUInt32 >>> ((8 : Int32) &&& 31).toUInt32).toInt32) &&& (127 : Int32)).toInt8.toInt32).toInt8.toInt32)), (.int (0 : Int32)), (.int (0 : Int32))] := Ara.same (j := (1 : Int32)) Ar3 q3 ll3 ff3 oo3 (fits_nar_byte _) W3
  have K3 := K2.wr W3 (Or.inr Zh1)
  have N3 := Fr.snoc X3 N2 Zs1
  have Z3 := Nat.le_trans Z2 (Nat.le_of_eq W3.size.symm)
  refine Goes.step (fun t k => st3 t k) ?_
  show Goes _ _ _ _ _ _ _ (T3.setTop (mkF m 23 #[.val (.int p0), .val (.ref b1)] []))
  refine Goes.step (fun t k => XS.aloadN X3.here hx rfl (hb hby own_d1_23) rfl rfl k) ?_
  show Goes _ _ _ _ _ _ _ (T3.setTop (mkF m 24 #[.val (.int p0), .val (.ref b1)] [(.ref b1)]))
  refine Goes.step (fun t k => XS.iconst X3.here hx rfl (hb hby own_d1_24) k) ?_
  show Goes _ _ _ _ _ _ _ (T3.setTop (mkF m 25 #[.val (.int p0), .val (.ref b1)] [(.int (2 : Int32)), (.ref b1)]))
  refine Goes.step (fun t k => XS.iloadN X3.here hx rfl (hb hby own_d1_25) rfl k) ?_
  show Goes _ _ _ _ _ _ _ (T3.setTop (mkF m 26 #[.val (.int p0), .val (.ref b1)] [(.int p0), (.int (2 : Int32)), (.ref b1)]))
  refine Goes.step (fun t k => XS.bipush X3.here hx rfl (hb hby own_d1_26) k) ?_
  show Goes _ _ _ _ _ _ _ (T3.setTop (mkF m 28 #[.val (.int p0), .val (.ref b1)] [(.int (16 : Int32)), (.int p0), (.int (2 : Int32)), (.ref b1)]))
  refine Goes.step (fun t k => XS.iushr X3.here hx rfl (hb hby own_d1_28) rfl k) ?_
  show Goes _ _ _ _ _ _ _ (T3.setTop (mkF m 29 #[.val (.int p0), .val (.ref b1)] [(.int ((p0.toUInt32 >>> ((16 : Int32) &&& 31).toUInt32).toInt32)), (.int (2 : Int32)), (.ref b1)]))
  refine Goes.step (fun t k => XS.bipush X3.here hx rfl (hb hby own_d1_29) k) ?_
  show Goes _ _ _ _ _ _ _ (T3.setTop (mkF m 31 #[.val (.int p0), .val (.ref b1)] [(.int (127 : Int32)), (.int ((p0.toUInt32 >>> ((16 : Int32) &&& 31).toUInt32).toInt32)), (.int (2 : Int32)), (.ref b1)]))
  refine Goes.step (fun t k => XS.iand X3.here hx rfl (hb hby own_d1_31) rfl k) ?_
  show Goes _ _ _ _ _ _ _ (T3.setTop (mkF m 32 #[.val (.int p0), .val (.ref b1)] [(.int (((p0.toUInt32 >>> ((16 : Int32) &&& 31).toUInt32).toInt32) &&& (127 : Int32))), (.int (2 : Int32)), (.ref b1)]))
  refine Goes.step (fun t k => XS.i2b X3.here hx rfl (hb hby own_d1_32) rfl k) ?_
  show Goes _ _ _ _ _ _ _ (T3.setTop (mkF m 33 #[.val (.int p0), .val (.ref b1)] [(.int ((((p0.toUInt32 >>> ((16 : Int32) &&& 31).toUInt32).toInt32) &&& (127 : Int32)).toInt8.toInt32)), (.int (2 : Int32)), (.ref b1)]))
  obtain ⟨cl4, Ar4, q4, ll4, ff4, oo4⟩ := id V3
  have hn4 : ¬ (2 : Int32) < 0 := by decide
  have hl4 : ((2 : Int32)).toNatClampNeg < ([(.int (((p0 &&& (127 : Int32)).toInt8.toInt32).toInt8.toInt32)), (.int (((((p0.toUInt32 >>> ((8 : Int32) &&& 31).toUInt32).toInt32) &&& (127 : Int32)).toInt8.toInt32).toInt8.toInt32)), (.int (0 : Int32)), (.int (0 : Int32))] : List Value).length := by exact Nat.le_of_ble_eq_true rfl
  obtain ⟨T4, h4, X4, e4, W4, st4⟩ := stB X3 hx hZ e3 Ar4 (j := (2 : Int32)) (inb q4 hn4 hl4) (g := (mkF m 33 #[.val (.int p0), .val (.ref b1)] [(.int ((((p0.toUInt32 >>> ((16 : Int32) &&& 31).toUInt32).toInt32) &&& (127 : Int32)).toInt8.toInt32)), (.int (2 : Int32)), (.ref b1)])) rfl rfl (hb hby own_d1_33)
  have V4 : Ara Z h4 b1 .byte [(.int (((p0 &&& (127 : Int32)).toInt8.toInt32).toInt8.toInt32)), (.int (((((p0.toUInt32 >>> ((8 : Int32) &&& 31).toUInt32).toInt32) &&& (127 : Int32)).toInt8.toInt32).toInt8.toInt32)), (.int (((((p0.toUInt32 >>> ((16 : Int32) &&& 31).toUInt32).toInt32) &&& (127 : Int32)).toInt8.toInt32).toInt8.toInt32)), (.int (0 : Int32))] := Ara.same (j := (2 : Int32)) Ar4 q4 ll4 ff4 oo4 (fits_nar_byte _) W4
  have K4 := K3.wr W4 (Or.inr Zh1)
  have N4 := Fr.snoc X4 N3 Zs1
  have Z4 := Nat.le_trans Z3 (Nat.le_of_eq W4.size.symm)
  refine Goes.step (fun t k => st4 t k) ?_
  show Goes _ _ _ _ _ _ _ (T4.setTop (mkF m 34 #[.val (.int p0), .val (.ref b1)] []))
  refine Goes.step (fun t k => XS.aloadN X4.here hx rfl (hb hby own_d1_34) rfl rfl k) ?_
  show Goes _ _ _ _ _ _ _ (T4.setTop (mkF m 35 #[.val (.int p0), .val (.ref b1)] [(.ref b1)]))
  refine Goes.step (fun t k => XS.iconst X4.here hx rfl (hb hby own_d1_35) k) ?_
  show Goes _ _ _ _ _ _ _ (T4.setTop (mkF m 36 #[.val (.int p0), .val (.ref b1)] [(.int (3 : Int32)), (.ref b1)]))
  refine Goes.step (fun t k => XS.iloadN X4.here hx rfl (hb hby own_d1_36) rfl k) ?_
  show Goes _ _ _ _ _ _ _ (T4.setTop (mkF m 37 #[.val (.int p0), .val (.ref b1)] [(.int p0), (.int (3 : Int32)), (.ref b1)]))
  refine Goes.step (fun t k => XS.bipush X4.here hx rfl (hb hby own_d1_37) k) ?_
  show Goes _ _ _ _ _ _ _ (T4.setTop (mkF m 39 #[.val (.int p0), .val (.ref b1)] [(.int (24 : Int32)), (.int p0), (.int (3 : Int32)), (.ref b1)]))
  refine Goes.step (fun t k => XS.iushr X4.here hx rfl (hb hby own_d1_39) rfl k) ?_
  show Goes _ _ _ _ _ _ _ (T4.setTop (mkF m 40 #[.val (.int p0), .val (.ref b1)] [(.int ((p0.toUInt32 >>> ((24 : Int32) &&& 31).toUInt32).toInt32)), (.int (3 : Int32)), (.ref b1)]))
  refine Goes.step (fun t k => XS.bipush X4.here hx rfl (hb hby own_d1_40) k) ?_
  show Goes _ _ _ _ _ _ _ (T4.setTop (mkF m 42 #[.val (.int p0), .val (.ref b1)] [(.int (127 : Int32)), (.int ((p0.toUInt32 >>> ((24 : Int32) &&& 31).toUInt32).toInt32)), (.int (3 : Int32)), (.ref b1)]))
  refine Goes.step (fun t k => XS.iand X4.here hx rfl (hb hby own_d1_42) rfl k) ?_
  show Goes _ _ _ _ _ _ _ (T4.setTop (mkF m 43 #[.val (.int p0), .val (.ref b1)] [(.int (((p0.toUInt32 >>> ((24 : Int32) &&& 31).toUInt32).toInt32) &&& (127 : Int32))), (.int (3 : Int32)), (.ref b1)]))
  refine Goes.step (fun t k => XS.i2b X4.here hx rfl (hb hby own_d1_43) rfl k) ?_
  show Goes _ _ _ _ _ _ _ (T4.setTop (mkF m 44 #[.val (.int p0), .val (.ref b1)] [(.int ((((p0.toUInt32 >>> ((24 : Int32) &&& 31).toUInt32).toInt32) &&& (127 : Int32)).toInt8.toInt32)), (.int (3 : Int32)), (.ref b1)]))
  obtain ⟨cl5, Ar5, q5, ll5, ff5, oo5⟩ := id V4
  have hn5 : ¬ (3 : Int32) < 0 := by decide
  have hl5 : ((3 : Int32)).toNatClampNeg < ([(.int (((p0 &&& (127 : Int32)).toInt8.toInt32).toInt8.toInt32)), (.int (((((p0.toUInt32 >>> ((8 : Int32) &&& 31).toUInt32).toInt32) &&& (127 : Int32)).toInt8.toInt32).toInt8.toInt32)), (.int (((((p0.toUInt32 >>> ((16 : Int32) &&& 31).toUInt32).toInt32) &&& (127 : Int32)).toInt8.toInt32).toInt8.toInt32)), (.int (0 : Int32))] : List Value).length := by exact Nat.le_of_ble_eq_true rfl
  obtain ⟨T5, h5, X5, e5, W5, st5⟩ := stB X4 hx hZ e4 Ar5 (j := (3 : Int32)) (inb q5 hn5 hl5) (g := (mkF m 44 #[.val (.int p0), .val (.ref b1)] [(.int ((((p0.toUInt32 >>> ((24 : Int32) &&& 31).toUInt32).toInt32) &&& (127 : Int32)).toInt8.toInt32)), (.int (3 : Int32)), (.ref b1)])) rfl rfl (hb hby own_d1_44)
  have V5 : Ara Z h5 b1 .byte [(.int (((p0 &&& (127 : Int32)).toInt8.toInt32).toInt8.toInt32)), (.int (((((p0.toUInt32 >>> ((8 : Int32) &&& 31).toUInt32).toInt32) &&& (127 : Int32)).toInt8.toInt32).toInt8.toInt32)), (.int (((((p0.toUInt32 >>> ((16 : Int32) &&& 31).toUInt32).toInt32) &&& (127 : Int32)).toInt8.toInt32).toInt8.toInt32)), (.int (((((p0.toUInt32 >>> ((24 : Int32) &&& 31).toUInt32).toInt32) &&& (127 : Int32)).toInt8.toInt32).toInt8.toInt32))] := Ara.same (j := (3 : Int32)) Ar5 q5 ll5 ff5 oo5 (fits_nar_byte _) W5
  have K5 := K4.wr W5 (Or.inr Zh1)
  have N5 := Fr.snoc X5 N4 Zs1
  have Z5 := Nat.le_trans Z4 (Nat.le_of_eq W5.size.symm)
  refine Goes.step (fun t k => st5 t k) ?_
  show Goes _ _ _ _ _ _ _ (T5.setTop (mkF m 45 #[.val (.int p0), .val (.ref b1)] []))
  refine Goes.step (fun t k => XS.aloadN X5.here hx rfl (hb hby own_d1_45) rfl rfl k) ?_
  show Goes _ _ _ _ _ _ _ (T5.setTop (mkF m 46 #[.val (.int p0), .val (.ref b1)] [(.ref b1)]))
  exact Goes.retR X5 hx Bd.notSynchronized (r := (.ref b1)) Bd.returns rfl rfl rfl (hb hby own_d1_46) rfl (by rw [e5]; exact ⟨b1, rfl, N5, K5, Zh1, V5⟩) (by decide) (by decide)
theorem own_d2_0 : decode prog_52_method_1_code 0 = .ok (.aload_n 0, 1) := by decide +kernel
theorem own_d2_1 : decode prog_52_method_1_code 1 = .ok (.invokespecial 1, 3) := by decide +kernel
theorem own_d2_4 : decode prog_52_method_1_code 4 = .ok (.aload_n 0, 1) := by decide +kernel
theorem own_d2_5 : decode prog_52_method_1_code 5 = .ok (.iconst 0, 1) := by decide +kernel
theorem own_d2_6 : decode prog_52_method_1_code 6 = .ok (.newarray .byte, 2) := by decide +kernel
theorem own_d2_8 : decode prog_52_method_1_code 8 = .ok (.putfield 7, 3) := by decide +kernel
theorem own_d2_11 : decode prog_52_method_1_code 11 = .ok (.return_, 1) := by decide +kernel
theorem own_ef2 (m : MethodId) (a0 : Addr) : entryFrame m #[(.ref a0)] 1 = mkF m 0 #[.val (.ref a0)] [] := by first | (simp [entryFrame, mkF, argsToLocals, Value.category, maxLocals]; done) | rfl
abbrev RM2 : Room := ({ frames := 1, cells := 1, slots := 0, locals := 12 } : Room)
abbrev kC2 : Nat := 1
abbrev kS2 : Nat := 0
def Q2 (Z : State) (a0 : Addr) (h0 : Heap) (n0 : Nat) (v : Option Value) (h : Heap) (L : List Loc) : Prop := ∃ b2 : Addr, v = none ∧ Fr n0 L ∧ Keep h0 h [a0] ∧ h0.size ≤ b2 ∧ Exa Z h a0 "com/example/crisp_monitor/crispmonitor/io/AsciiView" ∧ Fld Z h a0 "com/example/crisp_monitor/crispmonitor/io/AsciiView" "bytes" "[B" (.ref b2) ∧ Fld Z h a0 "com/example/crisp_monitor/crispmonitor/io/AsciiView" "start" "I" (.int (0 : Int32)) ∧ Fld Z h a0 "com/example/crisp_monitor/crispmonitor/io/AsciiView" "length" "I" (.int (0 : Int32))
set_option maxRecDepth 65536 in
set_option maxHeartbeats 40000000 in
theorem rm2 (l : Launch) (Z : State) (tA : Array Value) (hw : ∀ d ∈ tables_1, d.before tA Z = true) (ws : List Jvm.Cond) (a0 : Addr) (h0 : Heap) (n0 : Nat) (Z0 : n0 ≤ h0.size) (H0 : Exa Z h0 a0 "com/example/crisp_monitor/crispmonitor/io/AsciiView") (H1 : Fld Z h0 a0 "com/example/crisp_monitor/crispmonitor/io/AsciiView" "bytes" "[B" .null) (H2 : Fld Z h0 a0 "com/example/crisp_monitor/crispmonitor/io/AsciiView" "start" "I" (.int (0 : Int32))) (H3 : Fld Z h0 a0 "com/example/crisp_monitor/crispmonitor/io/AsciiView" "length" "I" (.int (0 : Int32))) (g_a0 : n0 ≤ a0) :
    MetFree l (⟨"com/example/crisp_monitor/crispmonitor/io/AsciiView", "<init>", "()V"⟩ : MethodName) (head1 (Jvm.Cond.code (⟨"com/example/crisp_monitor/crispmonitor/io/AsciiView", "<init>", "()V"⟩ : MethodName) prog_52_method_1_code 1 none :: ws) RM2) (fun a U => a = #[(.ref a0)] ∧ Z.Warmed39 U.vm ∧ U.heap = h0) (fun _ _ _ _ _ => True) (fun _ U o U' => ∃ v L, o = .returned v ∧ Q2 Z a0 h0 n0 v U'.heap L ∧ FrameEnd U o U' L RM2.cells RM2.slots) := by
  refine MetFree.of_bodySF (plainFor_of_name own_pn1) hisR ?_
  intro p e s m args below meth c s₁ Bd hml0 hP hK
  obtain ⟨rfl, hZ, hh⟩ := hP
  have hx := Bd.exec
  have hby := Bd.bytes
  have hml : c.maxLocals = 1 := hml0
  have hown : s.vm.findClass "com/example/crisp_monitor/crispmonitor/io/AsciiView" = some m.cls := findClass_of_methodNamed Bd.named
  have hnm := (name_of_methodNamed Bd.named Bd.method).1
  have X0 : Stand p l e RM2 s m #[(.ref a0)] below meth c s₁ [] 0 0 := Stand.of_body Bd
  have e0 : s₁.heap = h0 := by rw [← hh, Bd.state]; rfl
  have N0 := Fr.nil n0
  show Goes p e below s (Q2 Z a0 h0 n0) kC2 kS2 (s₁.setTop (entryFrame m #[(.ref a0)] 1))
  refine Goes.step (fun t k => castTop (own_ef2 m a0) k) ?_
  show Goes _ _ _ _ _ _ _ (s₁.setTop (mkF m 0 #[.val (.ref a0)] []))
  refine Goes.step (fun t k => XS.aloadN X0.here hx rfl (hb hby own_d2_0) rfl rfl k) ?_
  show Goes _ _ _ _ _ _ _ (s₁.setTop (mkF m 1 #[.val (.ref a0)] [(.ref a0)]))
  obtain ⟨T1, X1, e1, st1⟩ := initO X0 hx hZ hown (hw _ (List.mem_of_getElem? (i := 11) rfl)) (hw _ (List.mem_of_getElem? (i := 12) rfl)) (hw _ (List.mem_of_getElem? (i := 13) rfl)) e0 (g := (mkF m 1 #[.val (.ref a0)] [(.ref a0)])) rfl (by rw [hml]; rfl) rfl (hb hby own_d2_1) (by decide) (W := 0) (by show 2 * 0 + _ ≤ _; exact Nat.le_of_eq rfl) (by decide)
  refine Goes.step (fun t k => st1 t k) ?_
  show Goes _ _ _ _ _ _ _ (T1.setTop (mkF m 4 #[.val (.ref a0)] []))
  refine Goes.step (fun t k => XS.aloadN X1.here hx rfl (hb hby own_d2_4) rfl rfl k) ?_
  show Goes _ _ _ _ _ _ _ (T1.setTop (mkF m 5 #[.val (.ref a0)] [(.ref a0)]))
  refine Goes.step (fun t k => XS.iconst X1.here hx rfl (hb hby own_d2_5) k) ?_
  show Goes _ _ _ _ _ _ _ (T1.setTop (mkF m 6 #[.val (.ref a0)] [(.int (0 : Int32)), (.ref a0)]))
  obtain ⟨T2, h2, k2, X2, e2, E2, A2, st2⟩ := newP X1 hx hZ (hw _ (List.mem_of_getElem? (i := 4) rfl)) e1 (g := (mkF m 6 #[.val (.ref a0)] [(.int (0 : Int32)), (.ref a0)])) rfl (hb hby own_d2_6) rfl (by decide) (cap := 0) (by decide) (by decide) (by decide) (by decide)
  obtain ⟨b2, g2⟩ : ∃ z, z = h0.size := ⟨_, rfl⟩
  rw [← g2] at A2 st2
  have ne_a0_b2 : a0 ≠ b2 := Nat.ne_of_lt (Nat.lt_of_lt_of_le H0.lt (Nat.le_of_eq g2.symm))
  have Zs2 : n0 ≤ b2 := Nat.le_trans Z0 (Nat.le_of_eq g2.symm)
  have Zh2 : h0.size ≤ b2 := Nat.le_trans (Keep.refl h0 [a0]).1 (Nat.le_of_eq g2.symm)
  have F3 := H0.ext E2
  have F4 := H1.ext E2
  have F5 := H2.ext E2
  have F6 := H3.ext E2
  have K2 := (Keep.refl h0 [a0]).ext E2
  have Z2 := Nat.le_trans Z0 E2.1
  have V2 : Ara Z h2 b2 .byte [] := Ara.new A2 (by decide) rfl (fun _ q => nomatch q)
  refine Goes.step (fun t k => st2 t k) ?_
  show Goes _ _ _ _ _ _ _ (T2.setTop (mkF m 8 #[.val (.ref a0)] [(.ref b2), (.ref a0)]))
  obtain ⟨T7, h7, X7, e7, W7, st7⟩ := putF X2 hx hZ hown (host := "") (Or.inl (hw _ (List.mem_of_getElem? (i := 14) rfl))) Via.refl e2 F4 F3 (Or.inl (hw _ (List.mem_of_getElem? (i := 15) rfl))) (hw _ (List.mem_of_getElem? (i := 6) rfl)) (ty := (.array .byte)) (by decide) rfl rfl (g := (mkF m 8 #[.val (.ref a0)] [(.ref b2), (.ref a0)])) rfl rfl (hb hby own_d2_8)
  have Fw7 := F4.same W7
  have F8 := F3.wr W7
  have F9 := F5.other W7 (Or.inr (slot_ne (Or.inl (hw _ (List.mem_of_getElem? (i := 22) rfl))) (Or.inl (hw _ (List.mem_of_getElem? (i := 15) rfl))) (by decide) (t := .int) (t' := (.array .byte)) (by decide) (by decide)))
  have F10 := F6.other W7 (Or.inr (slot_ne (Or.inl (hw _ (List.mem_of_getElem? (i := 24) rfl))) (Or.inl (hw _ (List.mem_of_getElem? (i := 15) rfl))) (by decide) (t := .int) (t' := (.array .byte)) (by decide) (by decide)))
  have F11 := V2.other W7 (Ne.symm ne_a0_b2)
  have K7 := K2.wr W7 (Or.inl (List.mem_of_getElem? (i := 0) rfl))
  have N7 := Fr.snoc X7 N0 g_a0
  have Z7 := Nat.le_trans Z2 (Nat.le_of_eq W7.size.symm)
  refine Goes.step (fun t k => st7 t k) ?_
  show Goes _ _ _ _ _ _ _ (T7.setTop (mkF m 11 #[.val (.ref a0)] []))
  exact Goes.retV X7 hx Bd.notSynchronized Bd.returns (hb hby own_d2_11) (by rw [e7]; exact ⟨b2, rfl, N7, K7, Zh2, F8, Fw7, F9, F10⟩) (by decide) (by decide)
theorem own_d4_0 : decode prog_52_method_2_code 0 = .ok (.aload_n 0, 1) := by decide +kernel
theorem own_d4_1 : decode prog_52_method_2_code 1 = .ok (.aload_n 1, 1) := by decide +kernel
theorem own_d4_2 : decode prog_52_method_2_code 2 = .ok (.putfield 7, 3) := by decide +kernel
theorem own_d4_5 : decode prog_52_method_2_code 5 = .ok (.aload_n 0, 1) := by decide +kernel
theorem own_d4_6 : decode prog_52_method_2_code 6 = .ok (.iload_n 2, 1) := by decide +kernel
theorem own_d4_7 : decode prog_52_method_2_code 7 = .ok (.putfield 13, 3) := by decide +kernel
theorem own_d4_10 : decode prog_52_method_2_code 10 = .ok (.aload_n 0, 1) := by decide +kernel
theorem own_d4_11 : decode prog_52_method_2_code 11 = .ok (.iload_n 3, 1) := by decide +kernel
theorem own_d4_12 : decode prog_52_method_2_code 12 = .ok (.putfield 17, 3) := by decide +kernel
theorem own_d4_15 : decode prog_52_method_2_code 15 = .ok (.aload_n 0, 1) := by decide +kernel
theorem own_d4_16 : decode prog_52_method_2_code 16 = .ok (.areturn, 1) := by decide +kernel
theorem own_ef4 (m : MethodId) (a0 : Addr) (a1 : Addr) (p2 : Int32) (p3 : Int32) : entryFrame m #[(.ref a0), (.ref a1), (.int p2), (.int p3)] 4 = mkF m 0 #[.val (.ref a0), .val (.ref a1), .val (.int p2), .val (.int p3)] [] := by first | (simp [entryFrame, mkF, argsToLocals, Value.category, maxLocals]; done) | rfl
abbrev RM4 : Room := ({ frames := 0, cells := 0, slots := 0, locals := 0 } : Room)
abbrev kC4 : Nat := 0
abbrev kS4 : Nat := 0
def Q4 (Z : State) (a0 : Addr) (a1 : Addr) (p2 : Int32) (p3 : Int32) (wB : Addr) (wS : Int32) (wL : Int32) (h0 : Heap) (n0 : Nat) (v : Option Value) (h : Heap) (L : List Loc) : Prop := v = some (.ref a0) ∧ Fr n0 L ∧ Keep h0 h [a0] ∧ Exa Z h a0 "com/example/crisp_monitor/crispmonitor/io/AsciiView" ∧ Fld Z h a0 "com/example/crisp_monitor/crispmonitor/io/AsciiView" "bytes" "[B" (.ref a1) ∧ Fld Z h a0 "com/example/crisp_monitor/crispmonitor/io/AsciiView" "start" "I" (.int p2) ∧ Fld Z h a0 "com/example/crisp_monitor/crispmonitor/io/AsciiView" "length" "I" (.int p3)
set_option maxRecDepth 65536 in
set_option maxHeartbeats 40000000 in
theorem rm4 (l : Launch) (Z : State) (tA : Array Value) (hw : ∀ d ∈ tables_1, d.before tA Z = true) (ws : List Jvm.Cond) (a0 : Addr) (a1 : Addr) (p2 : Int32) (p3 : Int32) (wB : Addr) (wS : Int32) (wL : Int32) (h0 : Heap) (n0 : Nat) (Z0 : n0 ≤ h0.size) (H0 : Exa Z h0 a0 "com/example/crisp_monitor/crispmonitor/io/AsciiView") (H1 : Fld Z h0 a0 "com/example/crisp_monitor/crispmonitor/io/AsciiView" "bytes" "[B" (.ref wB)) (H2 : Fld Z h0 a0 "com/example/crisp_monitor/crispmonitor/io/AsciiView" "start" "I" (.int wS)) (H3 : Fld Z h0 a0 "com/example/crisp_monitor/crispmonitor/io/AsciiView" "length" "I" (.int wL)) (g_a0 : n0 ≤ a0) :
    MetFree l (⟨"com/example/crisp_monitor/crispmonitor/io/AsciiView", "of", "([BII)Lcom/example/crisp_monitor/crispmonitor/io/AsciiView;"⟩ : MethodName) (head1 (Jvm.Cond.code (⟨"com/example/crisp_monitor/crispmonitor/io/AsciiView", "of", "([BII)Lcom/example/crisp_monitor/crispmonitor/io/AsciiView;"⟩ : MethodName) prog_52_method_2_code 4 (some (.object "com/example/crisp_monitor/crispmonitor/io/AsciiView")) :: ws) RM4) (fun a U => a = #[(.ref a0), (.ref a1), (.int p2), (.int p3)] ∧ Z.Warmed39 U.vm ∧ U.heap = h0) (fun _ _ _ _ _ => True) (fun _ U o U' => ∃ v L, o = .returned v ∧ Q4 Z a0 a1 p2 p3 wB wS wL h0 n0 v U'.heap L ∧ FrameEnd U o U' L RM4.cells RM4.slots) := by
  refine MetFree.of_bodySF (plainFor_of_name own_pn1) hisR ?_
  intro p e s m args below meth c s₁ Bd hml0 hP hK
  obtain ⟨rfl, hZ, hh⟩ := hP
  have hx := Bd.exec
  have hby := Bd.bytes
  have hml : c.maxLocals = 4 := hml0
  have hown : s.vm.findClass "com/example/crisp_monitor/crispmonitor/io/AsciiView" = some m.cls := findClass_of_methodNamed Bd.named
  have hnm := (name_of_methodNamed Bd.named Bd.method).1
  have X0 : Stand p l e RM4 s m #[(.ref a0), (.ref a1), (.int p2), (.int p3)] below meth c s₁ [] 0 0 := Stand.of_body Bd
  have e0 : s₁.heap = h0 := by rw [← hh, Bd.state]; rfl
  have N0 := Fr.nil n0
  show Goes p e below s (Q4 Z a0 a1 p2 p3 wB wS wL h0 n0) kC4 kS4 (s₁.setTop (entryFrame m #[(.ref a0), (.ref a1), (.int p2), (.int p3)] 4))
  refine Goes.step (fun t k => castTop (own_ef4 m a0 a1 p2 p3) k) ?_
  show Goes _ _ _ _ _ _ _ (s₁.setTop (mkF m 0 #[.val (.ref a0), .val (.ref a1), .val (.int p2), .val (.int p3)] []))
  refine Goes.step (fun t k => XS.aloadN X0.here hx rfl (hb hby own_d4_0) rfl rfl k) ?_
  show Goes _ _ _ _ _ _ _ (s₁.setTop (mkF m 1 #[.val (.ref a0), .val (.ref a1), .val (.int p2), .val (.int p3)] [(.ref a0)]))
  refine Goes.step (fun t k => XS.aloadN X0.here hx rfl (hb hby own_d4_1) rfl rfl k) ?_
  show Goes _ _ _ _ _ _ _ (s₁.setTop (mkF m 2 #[.val (.ref a0), .val (.ref a1), .val (.int p2), .val (.int p3)] [(.ref a1), (.ref a0)]))
  obtain ⟨T1, h1, X1, e1, W1, st1⟩ := putF X0 hx hZ hown (host := "") (Or.inl (hw _ (List.mem_of_getElem? (i := 14) rfl))) Via.refl e0 H1 H0 (Or.inl (hw _ (List.mem_of_getElem? (i := 15) rfl))) (hw _ (List.mem_of_getElem? (i := 6) rfl)) (ty := (.array .byte)) (by decide) rfl rfl (g := (mkF m 2 #[.val (.ref a0), .val (.ref a1), .val (.int p2), .val (.int p3)] [(.ref a1), (.ref a0)])) rfl rfl (hb hby own_d4_2)
  have Fw1 := H1.same W1
  have F2 := H0.wr W1
  have F3 := H2.other W1 (Or.inr (slot_ne (Or.inl (hw _ (List.mem_of_getElem? (i := 22) rfl))) (Or.inl (hw _ (List.mem_of_getElem? (i := 15) rfl))) (by decide) (t := .int) (t' := (.array .byte)) (by decide) (by decide)))
  have F4 := H3.other W1 (Or.inr (slot_ne (Or.inl (hw _ (List.mem_of_getElem? (i := 24) rfl))) (Or.inl (hw _ (List.mem_of_getElem? (i := 15) rfl))) (by decide) (t := .int) (t' := (.array .byte)) (by decide) (by decide)))
  have K1 := (Keep.refl h0 [a0]).wr W1 (Or.inl (List.mem_of_getElem? (i := 0) rfl))
  have N1 := Fr.snoc X1 N0 g_a0
  have Z1 := Nat.le_trans Z0 (Nat.le_of_eq W1.size.symm)
  refine Goes.step (fun t k => st1 t k) ?_
  show Goes _ _ _ _ _ _ _ (T1.setTop (mkF m 5 #[.val (.ref a0), .val (.ref a1), .val (.int p2), .val (.int p3)] []))
  refine Goes.step (fun t k => XS.aloadN X1.here hx rfl (hb hby own_d4_5) rfl rfl k) ?_
  show Goes _ _ _ _ _ _ _ (T1.setTop (mkF m 6 #[.val (.ref a0), .val (.ref a1), .val (.int p2), .val (.int p3)] [(.ref a0)]))
  refine Goes.step (fun t k => XS.iloadN X1.here hx rfl (hb hby own_d4_6) rfl k) ?_
  show Goes _ _ _ _ _ _ _ (T1.setTop (mkF m 7 #[.val (.ref a0), .val (.ref a1), .val (.int p2), .val (.int p3)] [(.int p2), (.ref a0)]))
  obtain ⟨T5, h5, X5, e5, W5, st5⟩ := putF X1 hx hZ hown (host := "") (Or.inl (hw _ (List.mem_of_getElem? (i := 21) rfl))) Via.refl e1 F3 F2 (Or.inl (hw _ (List.mem_of_getElem? (i := 22) rfl))) (hw _ (List.mem_of_getElem? (i := 6) rfl)) (ty := .int) (by decide) rfl rfl (g := (mkF m 7 #[.val (.ref a0), .val (.ref a1), .val (.int p2), .val (.int p3)] [(.int p2), (.ref a0)])) rfl rfl (hb hby own_d4_7)
  have Fw5 := F3.same W5
  have F6 := F2.wr W5
  have F7 := F4.other W5 (Or.inr (slot_ne (Or.inl (hw _ (List.mem_of_getElem? (i := 24) rfl))) (Or.inl (hw _ (List.mem_of_getElem? (i := 22) rfl))) (by decide) (t := .int) (t' := .int) (by decide) (by decide)))
  have F8 := Fw1.other W5 (Or.inr (slot_ne (Or.inl (hw _ (List.mem_of_getElem? (i := 15) rfl))) (Or.inl (hw _ (List.mem_of_getElem? (i := 22) rfl))) (by decide) (t := (.array .byte)) (t' := .int) (by decide) (by decide)))
  have K5 := K1.wr W5 (Or.inl (List.mem_of_getElem? (i := 0) rfl))
  have N5 := Fr.snoc X5 N1 g_a0
  have Z5 := Nat.le_trans Z1 (Nat.le_of_eq W5.size.symm)
  refine Goes.step (fun t k => st5 t k) ?_
  show Goes _ _ _ _ _ _ _ (T5.setTop (mkF m 10 #[.val (.ref a0), .val (.ref a1), .val (.int p2), .val (.int p3)] []))
  refine Goes.step (fun t k => XS.aloadN X5.here hx rfl (hb hby own_d4_10) rfl rfl k) ?_
  show Goes _ _ _ _ _ _ _ (T5.setTop (mkF m 11 #[.val (.ref a0), .val (.ref a1), .val (.int p2), .val (.int p3)] [(.ref a0)]))
  refine Goes.step (fun t k => XS.iloadN X5.here hx rfl (hb hby own_d4_11) rfl k) ?_
  show Goes _ _ _ _ _ _ _ (T5.setTop (mkF m 12 #[.val (.ref a0), .val (.ref a1), .val (.int p2), .val (.int p3)] [(.int p3), (.ref a0)]))
  obtain ⟨T9, h9, X9, e9, W9, st9⟩ := putF X5 hx hZ hown (host := "") (Or.inl (hw _ (List.mem_of_getElem? (i := 23) rfl))) Via.refl e5 F7 F6 (Or.inl (hw _ (List.mem_of_getElem? (i := 24) rfl))) (hw _ (List.mem_of_getElem? (i := 6) rfl)) (ty := .int) (by decide) rfl rfl (g := (mkF m 12 #[.val (.ref a0), .val (.ref a1), .val (.int p2), .val (.int p3)] [(.int p3), (.ref a0)])) rfl rfl (hb hby own_d4_12)
  have Fw9 := F7.same W9
  have F10 := F6.wr W9
  have F11 := F8.other W9 (Or.inr (slot_ne (Or.inl (hw _ (List.mem_of_getElem? (i := 15) rfl))) (Or.inl (hw _ (List.mem_of_getElem? (i := 24) rfl))) (by decide) (t := (.array .byte)) (t' := .int) (by decide) (by decide)))
  have F12 := Fw5.other W9 (Or.inr (slot_ne (Or.inl (hw _ (List.mem_of_getElem? (i := 22) rfl))) (Or.inl (hw _ (List.mem_of_getElem? (i := 24) rfl))) (by decide) (t := .int) (t' := .int) (by decide) (by decide)))
  have K9 := K5.wr W9 (Or.inl (List.mem_of_getElem? (i := 0) rfl))
  have N9 := Fr.snoc X9 N5 g_a0
  have Z9 := Nat.le_trans Z5 (Nat.le_of_eq W9.size.symm)
  refine Goes.step (fun t k => st9 t k) ?_
  show Goes _ _ _ _ _ _ _ (T9.setTop (mkF m 15 #[.val (.ref a0), .val (.ref a1), .val (.int p2), .val (.int p3)] []))
  refine Goes.step (fun t k => XS.aloadN X9.here hx rfl (hb hby own_d4_15) rfl rfl k) ?_
  show Goes _ _ _ _ _ _ _ (T9.setTop (mkF m 16 #[.val (.ref a0), .val (.ref a1), .val (.int p2), .val (.int p3)] [(.ref a0)]))
  exact Goes.retR X9 hx Bd.notSynchronized (r := (.ref a0)) Bd.returns rfl rfl rfl (hb hby own_d4_16) rfl (by rw [e9]; exact ⟨rfl, N9, K9, F10, F11, F12, Fw9⟩) (by decide) (by decide)
def f5 (wL : Int32) : Int32 := wL
theorem own_d5_0 : decode prog_52_method_3_code 0 = .ok (.aload_n 0, 1) := by decide +kernel
theorem own_d5_1 : decode prog_52_method_3_code 1 = .ok (.getfield 17, 3) := by decide +kernel
theorem own_d5_4 : decode prog_52_method_3_code 4 = .ok (.ireturn, 1) := by decide +kernel
theorem own_ef5 (m : MethodId) (a0 : Addr) : entryFrame m #[(.ref a0)] 1 = mkF m 0 #[.val (.ref a0)] [] := by first | (simp [entryFrame, mkF, argsToLocals, Value.category, maxLocals]; done) | rfl
abbrev RM5 : Room := ({ frames := 0, cells := 0, slots := 0, locals := 0 } : Room)
abbrev kC5 : Nat := 0
abbrev kS5 : Nat := 0
def Q5 (Z : State) (a0 : Addr) (wL : Int32) (h0 : Heap) (v : Option Value) (h : Heap) (L : List Loc) : Prop := v = some (.int (f5 wL)) ∧ L = [] ∧ h = h0
set_option maxRecDepth 65536 in
set_option maxHeartbeats 40000000 in
theorem rm5 (l : Launch) (Z : State) (tA : Array Value) (hw : ∀ d ∈ tables_1, d.before tA Z = true) (ws : List Jvm.Cond) (a0 : Addr) (wL : Int32) (h0 : Heap) (H0 : Fld Z h0 a0 "com/example/crisp_monitor/crispmonitor/io/AsciiView" "length" "I" (.int wL)) :
    MetFree l (⟨"com/example/crisp_monitor/crispmonitor/io/AsciiView", "length", "()I"⟩ : MethodName) (head1 (Jvm.Cond.code (⟨"com/example/crisp_monitor/crispmonitor/io/AsciiView", "length", "()I"⟩ : MethodName) prog_52_method_3_code 1 (some .int) :: ws) RM5) (fun a U => a = #[(.ref a0)] ∧ Z.Warmed39 U.vm ∧ U.heap = h0) (fun _ _ _ _ _ => True) (fun _ U o U' => ∃ v L, o = .returned v ∧ Q5 Z a0 wL h0 v U'.heap L ∧ FrameEnd U o U' L RM5.cells RM5.slots) := by
  refine MetFree.of_bodySF (plainFor_of_name own_pn1) hisR ?_
  intro p e s m args below meth c s₁ Bd hml0 hP hK
  obtain ⟨rfl, hZ, hh⟩ := hP
  have hx := Bd.exec
  have hby := Bd.bytes
  have hml : c.maxLocals = 1 := hml0
  have hown : s.vm.findClass "com/example/crisp_monitor/crispmonitor/io/AsciiView" = some m.cls := findClass_of_methodNamed Bd.named
  have hnm := (name_of_methodNamed Bd.named Bd.method).1
  have X0 : Stand p l e RM5 s m #[(.ref a0)] below meth c s₁ [] 0 0 := Stand.of_body Bd
  have e0 : s₁.heap = h0 := by rw [← hh, Bd.state]; rfl
  show Goes p e below s (Q5 Z a0 wL h0) kC5 kS5 (s₁.setTop (entryFrame m #[(.ref a0)] 1))
  refine Goes.step (fun t k => castTop (own_ef5 m a0) k) ?_
  show Goes _ _ _ _ _ _ _ (s₁.setTop (mkF m 0 #[.val (.ref a0)] []))
  refine Goes.step (fun t k => XS.aloadN X0.here hx rfl (hb hby own_d5_0) rfl rfl k) ?_
  show Goes _ _ _ _ _ _ _ (s₁.setTop (mkF m 1 #[.val (.ref a0)] [(.ref a0)]))
  obtain ⟨T1, X1, e1, st1⟩ := getF X0 hx hZ hown (host := "") (Or.inl (hw _ (List.mem_of_getElem? (i := 23) rfl))) Via.refl e0 H0 (g := (mkF m 1 #[.val (.ref a0)] [(.ref a0)])) rfl rfl (hb hby own_d5_1)
  refine Goes.step (fun t k => st1 t k) ?_
  show Goes _ _ _ _ _ _ _ (T1.setTop (mkF m 4 #[.val (.ref a0)] [(.int wL)]))
  exact Goes.retI X1 hx Bd.notSynchronized (r := (f5 wL)) Bd.returns (hb hby own_d5_4) rfl ⟨rfl, rfl, e1⟩ (by decide) (by decide)
def f7 (p1 : Int32) (wS : Int32) (u0 : Int32) (u1 : Int32) (u2 : Int32) (u3 : Int32) : Int32 := (nar .char ((sel4 (wS + p1) u0 u1 u2 u3).toUInt32.toUInt16.toUInt32.toInt32))
theorem own_d7_0 : decode prog_52_method_4_code 0 = .ok (.iload_n 1, 1) := by decide +kernel
theorem own_d7_1 : decode prog_52_method_4_code 1 = .ok (.ifCond .lt 11, 3) := by decide +kernel
theorem own_d7_4 : decode prog_52_method_4_code 4 = .ok (.iload_n 1, 1) := by decide +kernel
theorem own_d7_5 : decode prog_52_method_4_code 5 = .ok (.aload_n 0, 1) := by decide +kernel
theorem own_d7_6 : decode prog_52_method_4_code 6 = .ok (.getfield 17, 3) := by decide +kernel
theorem own_d7_9 : decode prog_52_method_4_code 9 = .ok (.if_icmp .lt 12, 3) := by decide +kernel
theorem own_d7_21 : decode prog_52_method_4_code 21 = .ok (.aload_n 0, 1) := by decide +kernel
theorem own_d7_22 : decode prog_52_method_4_code 22 = .ok (.getfield 7, 3) := by decide +kernel
theorem own_d7_25 : decode prog_52_method_4_code 25 = .ok (.aload_n 0, 1) := by decide +kernel
theorem own_d7_26 : decode prog_52_method_4_code 26 = .ok (.getfield 13, 3) := by decide +kernel
theorem own_d7_29 : decode prog_52_method_4_code 29 = .ok (.iload_n 1, 1) := by decide +kernel
theorem own_d7_30 : decode prog_52_method_4_code 30 = .ok (.iadd, 1) := by decide +kernel
theorem own_d7_31 : decode prog_52_method_4_code 31 = .ok (.baload, 1) := by decide +kernel
theorem own_d7_32 : decode prog_52_method_4_code 32 = .ok (.i2c, 1) := by decide +kernel
theorem own_d7_33 : decode prog_52_method_4_code 33 = .ok (.ireturn, 1) := by decide +kernel
theorem own_ef7 (m : MethodId) (a0 : Addr) (p1 : Int32) : entryFrame m #[(.ref a0), (.int p1)] 2 = mkF m 0 #[.val (.ref a0), .val (.int p1)] [] := by first | (simp [entryFrame, mkF, argsToLocals, Value.category, maxLocals]; done) | rfl
abbrev RM7 : Room := ({ frames := 0, cells := 0, slots := 0, locals := 0 } : Room)
abbrev kC7 : Nat := 0
abbrev kS7 : Nat := 0
def Q7 (Z : State) (a0 : Addr) (p1 : Int32) (wB : Addr) (wS : Int32) (wL : Int32) (u0 : Int32) (u1 : Int32) (u2 : Int32) (u3 : Int32) (h0 : Heap) (v : Option Value) (h : Heap) (L : List Loc) : Prop := v = some (.int (f7 p1 wS u0 u1 u2 u3)) ∧ L = [] ∧ h = h0
set_option maxRecDepth 65536 in
set_option maxHeartbeats 40000000 in
theorem rm7 (l : Launch) (Z : State) (tA : Array Value) (hw : ∀ d ∈ tables_1, d.before tA Z = true) (ws : List Jvm.Cond) (a0 : Addr) (p1 : Int32) (wB : Addr) (wS : Int32) (wL : Int32) (u0 : Int32) (u1 : Int32) (u2 : Int32) (u3 : Int32) (h0 : Heap) (H0 : Fld Z h0 a0 "com/example/crisp_monitor/crispmonitor/io/AsciiView" "bytes" "[B" (.ref wB)) (H1 : Fld Z h0 a0 "com/example/crisp_monitor/crispmonitor/io/AsciiView" "start" "I" (.int wS)) (H2 : Fld Z h0 a0 "com/example/crisp_monitor/crispmonitor/io/AsciiView" "length" "I" (.int wL)) (H3 : Ara Z h0 wB .byte [(.int u0), (.int u1), (.int u2), (.int u3)]) (hi : ¬ p1 < 0) (hn : p1 < wL) (hs : ¬ wS < 0) (h4 : wS.toInt + wL.toInt ≤ 4) :
    MetFree l (⟨"com/example/crisp_monitor/crispmonitor/io/AsciiView", "charAt", "(I)C"⟩ : MethodName) (head1 (Jvm.Cond.code (⟨"com/example/crisp_monitor/crispmonitor/io/AsciiView", "charAt", "(I)C"⟩ : MethodName) prog_52_method_4_code 2 (some .char) :: ws) RM7) (fun a U => a = #[(.ref a0), (.int p1)] ∧ Z.Warmed39 U.vm ∧ U.heap = h0) (fun _ _ _ _ _ => True) (fun _ U o U' => ∃ v L, o = .returned v ∧ Q7 Z a0 p1 wB wS wL u0 u1 u2 u3 h0 v U'.heap L ∧ FrameEnd U o U' L RM7.cells RM7.slots) := by
  refine MetFree.of_bodySF (plainFor_of_name own_pn1) hisR ?_
  intro p e s m args below meth c s₁ Bd hml0 hP hK
  obtain ⟨rfl, hZ, hh⟩ := hP
  have hx := Bd.exec
  have hby := Bd.bytes
  have hml : c.maxLocals = 2 := hml0
  have hown : s.vm.findClass "com/example/crisp_monitor/crispmonitor/io/AsciiView" = some m.cls := findClass_of_methodNamed Bd.named
  have hnm := (name_of_methodNamed Bd.named Bd.method).1
  have X0 : Stand p l e RM7 s m #[(.ref a0), (.int p1)] below meth c s₁ [] 0 0 := Stand.of_body Bd
  have e0 : s₁.heap = h0 := by rw [← hh, Bd.state]; rfl
  show Goes p e below s (Q7 Z a0 p1 wB wS wL u0 u1 u2 u3 h0) kC7 kS7 (s₁.setTop (entryFrame m #[(.ref a0), (.int p1)] 2))
  refine Goes.step (fun t k => castTop (own_ef7 m a0 p1) k) ?_
  show Goes _ _ _ _ _ _ _ (s₁.setTop (mkF m 0 #[.val (.ref a0), .val (.int p1)] []))
  refine Goes.step (fun t k => XS.iloadN X0.here hx rfl (hb hby own_d7_0) rfl k) ?_
  show Goes _ _ _ _ _ _ _ (s₁.setTop (mkF m 1 #[.val (.ref a0), .val (.int p1)] [(.int p1)]))
  have hc1_1 : ¬ (p1 < (0 : Int32)) := by exact hi
  refine Goes.step (fun t k => XS.ifNo X0.here hx rfl (hb hby own_d7_1) rfl ((if0 _ _).trans (flt hc1_1).1) k) ?_
  show Goes _ _ _ _ _ _ _ (s₁.setTop (mkF m 4 #[.val (.ref a0), .val (.int p1)] []))
  refine Goes.step (fun t k => XS.iloadN X0.here hx rfl (hb hby own_d7_4) rfl k) ?_
  show Goes _ _ _ _ _ _ _ (s₁.setTop (mkF m 5 #[.val (.ref a0), .val (.int p1)] [(.int p1)]))
  refine Goes.step (fun t k => XS.aloadN X0.here hx rfl (hb hby own_d7_5) rfl rfl k) ?_
  show Goes _ _ _ _ _ _ _ (s₁.setTop (mkF m 6 #[.val (.ref a0), .val (.int p1)] [(.ref a0), (.int p1)]))
  obtain ⟨T2, X2, e2, st2⟩ := getF X0 hx hZ hown (host := "") (Or.inl (hw _ (List.mem_of_getElem? (i := 23) rfl))) Via.refl e0 H2 (g := (mkF m 6 #[.val (.ref a0), .val (.int p1)] [(.ref a0), (.int p1)])) rfl rfl (hb hby own_d7_6)
  refine Goes.step (fun t k => st2 t k) ?_
  show Goes _ _ _ _ _ _ _ (T2.setTop (mkF m 9 #[.val (.ref a0), .val (.int p1)] [(.int wL), (.int p1)]))
  have hc9_3 : p1 < wL := by exact hn
  refine Goes.step (fun t k => XS.icmpYes X2.here hx rfl (pc0 := 9) (pc' := 21) rfl (hb hby own_d7_9) rfl (tlt hc9_3).1 (by decide) (by decide) k) ?_
  show Goes _ _ _ _ _ _ _ (T2.setTop (mkF m 21 #[.val (.ref a0), .val (.int p1)] []))
  refine Goes.step (fun t k => XS.aloadN X2.here hx rfl (hb hby own_d7_21) rfl rfl k) ?_
  show Goes _ _ _ _ _ _ _ (T2.setTop (mkF m 22 #[.val (.ref a0), .val (.int p1)] [(.ref a0)]))
  obtain ⟨T4, X4, e4, st4⟩ := getF X2 hx hZ hown (host := "") (Or.inl (hw _ (List.mem_of_getElem? (i := 14) rfl))) Via.refl e2 H0 (g := (mkF m 22 #[.val (.ref a0), .val (.int p1)] [(.ref a0)])) rfl rfl (hb hby own_d7_22)
  refine Goes.step (fun t k => st4 t k) ?_
  show Goes _ _ _ _ _ _ _ (T4.setTop (mkF m 25 #[.val (.ref a0), .val (.int p1)] [(.ref wB)]))
  refine Goes.step (fun t k => XS.aloadN X4.here hx rfl (hb hby own_d7_25) rfl rfl k) ?_
  show Goes _ _ _ _ _ _ _ (T4.setTop (mkF m 26 #[.val (.ref a0), .val (.int p1)] [(.ref a0), (.ref wB)]))
  obtain ⟨T5, X5, e5, st5⟩ := getF X4 hx hZ hown (host := "") (Or.inl (hw _ (List.mem_of_getElem? (i := 21) rfl))) Via.refl e4 H1 (g := (mkF m 26 #[.val (.ref a0), .val (.int p1)] [(.ref a0), (.ref wB)])) rfl rfl (hb hby own_d7_26)
  refine Goes.step (fun t k => st5 t k) ?_
  show Goes _ _ _ _ _ _ _ (T5.setTop (mkF m 29 #[.val (.ref a0), .val (.int p1)] [(.int wS), (.ref wB)]))
  refine Goes.step (fun t k => XS.iloadN X5.here hx rfl (hb hby own_d7_29) rfl k) ?_
  show Goes _ _ _ _ _ _ _ (T5.setTop (mkF m 30 #[.val (.ref a0), .val (.int p1)] [(.int p1), (.int wS), (.ref wB)]))
  refine Goes.step (fun t k => XS.iadd X5.here hx rfl (hb hby own_d7_30) rfl k) ?_
  show Goes _ _ _ _ _ _ _ (T5.setTop (mkF m 31 #[.val (.ref a0), .val (.int p1)] [(.int (wS + p1)), (.ref wB)]))
  obtain ⟨cl6, Ar6, q6, ll6, ff6, oo6⟩ := id H3
  have hn6 : ¬ (wS + p1) < 0 := by exact (own_at hs hi hn h4).2.1
  have hv6 : ([(.int u0), (.int u1), (.int u2), (.int u3)] : List Value)[((wS + p1)).toNatClampNeg]? = some (.int (sel4 (wS + p1) u0 u1 u2 u3)) := by exact get4 (own_at hs hi hn h4).2.1 (own_at hs hi hn h4).2.2
  refine Goes.step (fun t k => X5.baloadBytes hx (j := (wS + p1)) (v := (.int (sel4 (wS + p1) u0 u1 u2 u3))) (by rw [e5]; exact Ar6.1) (State.isArrayOf_alike hZ.alike Ar6.2.1) Ar6.2.2 (inb q6 hn6 (ltb hv6)) (getb q6 hv6) (g := (mkF m 31 #[.val (.ref a0), .val (.int p1)] [(.int (wS + p1)), (.ref wB)])) rfl rfl (hb hby own_d7_31) t k) ?_
  show Goes _ _ _ _ _ _ _ (T5.setTop (mkF m 32 #[.val (.ref a0), .val (.int p1)] [(.int (sel4 (wS + p1) u0 u1 u2 u3))]))
  refine Goes.step (fun t k => XS.i2c X5.here hx rfl (hb hby own_d7_32) rfl k) ?_
  show Goes _ _ _ _ _ _ _ (T5.setTop (mkF m 33 #[.val (.ref a0), .val (.int p1)] [(.int ((sel4 (wS + p1) u0 u1 u2 u3).toUInt32.toUInt16.toUInt32.toInt32))]))
  exact Goes.retZ X5 hx Bd.notSynchronized (r := (f7 p1 wS u0 u1 u2 u3)) Bd.returns (by simp) (hb hby own_d7_33) rfl ⟨rfl, rfl, e5⟩ (by decide) (by decide)
def f6 (p1 : Int32) (p2 : Int32) (p3 : Int32) (p4 : Int32) (u0 : Int32) (u1 : Int32) (u2 : Int32) (u3 : Int32) : Int32 := (if p4 < p3 then (nar .boolean (if (f7 p4 p2 u0 u1 u2 u3) = ((((p1.toUInt32 >>> (((8 : Int32) * (p2 + p4)) &&& 31).toUInt32).toInt32) &&& (127 : Int32)).toUInt32.toUInt16.toUInt32.toInt32) then (1 : Int32) else (0 : Int32))) else (1 : Int32))
theorem own_d6_0 : decode method_4_code 0 = .ok (.iload 4, 2) := by decide +kernel
theorem own_d6_2 : decode method_4_code 2 = .ok (.iload_n 3, 1) := by decide +kernel
theorem own_d6_3 : decode method_4_code 3 = .ok (.if_icmp .lt 5, 3) := by decide +kernel
theorem own_d6_6 : decode method_4_code 6 = .ok (.iconst 1, 1) := by decide +kernel
theorem own_d6_7 : decode method_4_code 7 = .ok (.ireturn, 1) := by decide +kernel
theorem own_d6_8 : decode method_4_code 8 = .ok (.iload_n 1, 1) := by decide +kernel
theorem own_d6_9 : decode method_4_code 9 = .ok (.bipush 8, 2) := by decide +kernel
theorem own_d6_11 : decode method_4_code 11 = .ok (.iload_n 2, 1) := by decide +kernel
theorem own_d6_12 : decode method_4_code 12 = .ok (.iload 4, 2) := by decide +kernel
theorem own_d6_14 : decode method_4_code 14 = .ok (.iadd, 1) := by decide +kernel
theorem own_d6_15 : decode method_4_code 15 = .ok (.imul, 1) := by decide +kernel
theorem own_d6_16 : decode method_4_code 16 = .ok (.iushr, 1) := by decide +kernel
theorem own_d6_17 : decode method_4_code 17 = .ok (.bipush 127, 2) := by decide +kernel
theorem own_d6_19 : decode method_4_code 19 = .ok (.iand, 1) := by decide +kernel
theorem own_d6_20 : decode method_4_code 20 = .ok (.i2c, 1) := by decide +kernel
theorem own_d6_21 : decode method_4_code 21 = .ok (.istore 5, 2) := by decide +kernel
theorem own_d6_23 : decode method_4_code 23 = .ok (.aload_n 0, 1) := by decide +kernel
theorem own_d6_24 : decode method_4_code 24 = .ok (.iload 4, 2) := by decide +kernel
theorem own_d6_26 : decode method_4_code 26 = .ok (.invokevirtual 28, 3) := by decide +kernel
theorem own_d6_29 : decode method_4_code 29 = .ok (.iload 5, 2) := by decide +kernel
theorem own_d6_31 : decode method_4_code 31 = .ok (.if_icmp .ne 7, 3) := by decide +kernel
theorem own_d6_34 : decode method_4_code 34 = .ok (.iconst 1, 1) := by decide +kernel
theorem own_d6_35 : decode method_4_code 35 = .ok (.goto 4, 3) := by decide +kernel
theorem own_d6_38 : decode method_4_code 38 = .ok (.iconst 0, 1) := by decide +kernel
theorem own_d6_39 : decode method_4_code 39 = .ok (.ireturn, 1) := by decide +kernel
theorem own_ef6 (m : MethodId) (a0 : Addr) (p1 : Int32) (p2 : Int32) (p3 : Int32) (p4 : Int32) : entryFrame m #[(.ref a0), (.int p1), (.int p2), (.int p3), (.int p4)] 6 = mkF m 0 #[.val (.ref a0), .val (.int p1), .val (.int p2), .val (.int p3), .val (.int p4), .unset] [] := by first | (simp [entryFrame, mkF, argsToLocals, Value.category, maxLocals]; done) | rfl
abbrev RM6 : Room := ({ frames := 1, cells := 0, slots := 0, locals := 13 } : Room)
abbrev kC6 : Nat := 0
abbrev kS6 : Nat := 0
def Q6 (Z : State) (a0 : Addr) (p1 : Int32) (p2 : Int32) (p3 : Int32) (p4 : Int32) (wB : Addr) (u0 : Int32) (u1 : Int32) (u2 : Int32) (u3 : Int32) (h0 : Heap) (v : Option Value) (h : Heap) (L : List Loc) : Prop := v = some (.int (f6 p1 p2 p3 p4 u0 u1 u2 u3)) ∧ L = [] ∧ h = h0
set_option maxRecDepth 65536 in
set_option maxHeartbeats 40000000 in
theorem rm6 (l : Launch) (Z : State) (tA : Array Value) (hw : ∀ d ∈ tables_1, d.before tA Z = true) (ws : List Jvm.Cond) (a0 : Addr) (p1 : Int32) (p2 : Int32) (p3 : Int32) (p4 : Int32) (wB : Addr) (u0 : Int32) (u1 : Int32) (u2 : Int32) (u3 : Int32) (h0 : Heap) (H0 : Exa Z h0 a0 "com/example/crisp_monitor/crispmonitor/io/AsciiView") (H1 : Fld Z h0 a0 "com/example/crisp_monitor/crispmonitor/io/AsciiView" "bytes" "[B" (.ref wB)) (H2 : Fld Z h0 a0 "com/example/crisp_monitor/crispmonitor/io/AsciiView" "start" "I" (.int p2)) (H3 : Fld Z h0 a0 "com/example/crisp_monitor/crispmonitor/io/AsciiView" "length" "I" (.int p3)) (H4 : Ara Z h0 wB .byte [(.int u0), (.int u1), (.int u2), (.int u3)]) (hi : ¬ p4 < 0) (hs : ¬ p2 < 0) (h4 : p2.toInt + p3.toInt ≤ 4) :
    MetFree l (⟨"com/example/crisp_monitor/crispmonitor/io/AsciiViewOfPinLaw", "at", "(Lcom/example/crisp_monitor/crispmonitor/io/AsciiView;IIII)Z"⟩ : MethodName) (head1 (Jvm.Cond.code (⟨"com/example/crisp_monitor/crispmonitor/io/AsciiViewOfPinLaw", "at", "(Lcom/example/crisp_monitor/crispmonitor/io/AsciiView;IIII)Z"⟩ : MethodName) method_4_code 6 (some .boolean) :: ws) RM6) (fun a U => a = #[(.ref a0), (.int p1), (.int p2), (.int p3), (.int p4)] ∧ Z.Warmed39 U.vm ∧ U.heap = h0) (fun _ _ _ _ _ => True) (fun _ U o U' => ∃ v L, o = .returned v ∧ Q6 Z a0 p1 p2 p3 p4 wB u0 u1 u2 u3 h0 v U'.heap L ∧ FrameEnd U o U' L RM6.cells RM6.slots) := by
  refine MetFree.of_bodySF (plainFor_of_name own_pn0) hisR ?_
  intro p e s m args below meth c s₁ Bd hml0 hP hK
  obtain ⟨rfl, hZ, hh⟩ := hP
  have hx := Bd.exec
  have hby := Bd.bytes
  have hml : c.maxLocals = 6 := hml0
  have hown : s.vm.findClass "com/example/crisp_monitor/crispmonitor/io/AsciiViewOfPinLaw" = some m.cls := findClass_of_methodNamed Bd.named
  have hnm := (name_of_methodNamed Bd.named Bd.method).1
  have X0 : Stand p l e RM6 s m #[(.ref a0), (.int p1), (.int p2), (.int p3), (.int p4)] below meth c s₁ [] 0 0 := Stand.of_body Bd
  have e0 : s₁.heap = h0 := by rw [← hh, Bd.state]; rfl
  show Goes p e below s (Q6 Z a0 p1 p2 p3 p4 wB u0 u1 u2 u3 h0) kC6 kS6 (s₁.setTop (entryFrame m #[(.ref a0), (.int p1), (.int p2), (.int p3), (.int p4)] 6))
  refine Goes.step (fun t k => castTop (own_ef6 m a0 p1 p2 p3 p4) k) ?_
  show Goes _ _ _ _ _ _ _ (s₁.setTop (mkF m 0 #[.val (.ref a0), .val (.int p1), .val (.int p2), .val (.int p3), .val (.int p4), .unset] []))
  refine Goes.step (fun t k => XS.iload X0.here hx rfl (hb hby own_d6_0) rfl k) ?_
  show Goes _ _ _ _ _ _ _ (s₁.setTop (mkF m 2 #[.val (.ref a0), .val (.int p1), .val (.int p2), .val (.int p3), .val (.int p4), .unset] [(.int p4)]))
  refine Goes.step (fun t k => XS.iloadN X0.here hx rfl (hb hby own_d6_2) rfl k) ?_
  show Goes _ _ _ _ _ _ _ (s₁.setTop (mkF m 3 #[.val (.ref a0), .val (.int p1), .val (.int p2), .val (.int p3), .val (.int p4), .unset] [(.int p3), (.int p4)]))
  by_cases hc3_1 : p4 < p3
  · refine Goes.step (fun t k => XS.icmpYes X0.here hx rfl (pc0 := 3) (pc' := 8) rfl (hb hby own_d6_3) rfl (tlt hc3_1).1 (by decide) (by decide) k) ?_
    show Goes _ _ _ _ _ _ _ (s₁.setTop (mkF m 8 #[.val (.ref a0), .val (.int p1), .val (.int p2), .val (.int p3), .val (.int p4), .unset] []))
    refine Goes.step (fun t k => XS.iloadN X0.here hx rfl (hb hby own_d6_8) rfl k) ?_
    show Goes _ _ _ _ _ _ _ (s₁.setTop (mkF m 9 #[.val (.ref a0), .val (.int p1), .val (.int p2), .val (.int p3), .val (.int p4), .unset] [(.int p1)]))
    refine Goes.step (fun t k => XS.bipush X0.here hx rfl (hb hby own_d6_9) k) ?_
    show Goes _ _ _ _ _ _ _ (s₁.setTop (mkF m 11 #[.val (.ref a0), .val (.int p1), .val (.int p2), .val (.int p3), .val (.int p4), .unset] [(.int (8 : Int32)), (.int p1)]))
    refine Goes.step (fun t k => XS.iloadN X0.here hx rfl (hb hby own_d6_11) rfl k) ?_
    show Goes _ _ _ _ _ _ _ (s₁.setTop (mkF m 12 #[.val (.ref a0), .val (.int p1), .val (.int p2), .val (.int p3), .val (.int p4), .unset] [(.int p2), (.int (8 : Int32)), (.int p1)]))
    refine Goes.step (fun t k => XS.iload X0.here hx rfl (hb hby own_d6_12) rfl k) ?_
    show Goes _ _ _ _ _ _ _ (s₁.setTop (mkF m 14 #[.val (.ref a0), .val (.int p1), .val (.int p2), .val (.int p3), .val (.int p4), .unset] [(.int p4), (.int p2), (.int (8 : Int32)), (.int p1)]))
    refine Goes.step (fun t k => XS.iadd X0.here hx rfl (hb hby own_d6_14) rfl k) ?_
    show Goes _ _ _ _ _ _ _ (s₁.setTop (mkF m 15 #[.val (.ref a0), .val (.int p1), .val (.int p2), .val (.int p3), .val (.int p4), .unset] [(.int (p2 + p4)), (.int (8 : Int32)), (.int p1)]))
    refine Goes.step (fun t k => XS.imul X0.here hx rfl (hb hby own_d6_15) rfl k) ?_
    show Goes _ _ _ _ _ _ _ (s₁.setTop (mkF m 16 #[.val (.ref a0), .val (.int p1), .val (.int p2), .val (.int p3), .val (.int p4), .unset] [(.int ((8 : Int32) * (p2 + p4))), (.int p1)]))
    refine Goes.step (fun t k => XS.iushr X0.here hx rfl (hb hby own_d6_16) rfl k) ?_
    show Goes _ _ _ _ _ _ _ (s₁.setTop (mkF m 17 #[.val (.ref a0), .val (.int p1), .val (.int p2), .val (.int p3), .val (.int p4), .unset] [(.int ((p1.toUInt32 >>> (((8 : Int32) * (p2 + p4)) &&& 31).toUInt32).toInt32))]))
    refine Goes.step (fun t k => XS.bipush X0.here hx rfl (hb hby own_d6_17) k) ?_
    show Goes _ _ _ _ _ _ _ (s₁.setTop (mkF m 19 #[.val (.ref a0), .val (.int p1), .val (.int p2), .val (.int p3), .val (.int p4), .unset] [(.int (127 : Int32)), (.int ((p1.toUInt32 >>> (((8 : Int32) * (p2 + p4)) &&& 31).toUInt32).toInt32))]))
    refine Goes.step (fun t k => XS.iand X0.here hx rfl (hb hby own_d6_19) rfl k) ?_
    show Goes _ _ _ _ _ _ _ (s₁.setTop (mkF m 20 #[.val (.ref a0), .val (.int p1), .val (.int p2), .val (.int p3), .val (.int p4), .unset] [(.int (((p1.toUInt32 >>> (((8 : Int32) * (p2 + p4)) &&& 31).toUInt32).toInt32) &&& (127 : Int32)))]))
    refine Goes.step (fun t k => XS.i2c X0.here hx rfl (hb hby own_d6_20) rfl k) ?_
    show Goes _ _ _ _ _ _ _ (s₁.setTop (mkF m 21 #[.val (.ref a0), .val (.int p1), .val (.int p2), .val (.int p3), .val (.int p4), .unset] [(.int ((((p1.toUInt32 >>> (((8 : Int32) * (p2 + p4)) &&& 31).toUInt32).toInt32) &&& (127 : Int32)).toUInt32.toUInt16.toUInt32.toInt32))]))
    refine Goes.step (fun t k => XS.istore X0.here hx rfl (hb hby own_d6_21) rfl (l' := #[.val (.ref a0), .val (.int p1), .val (.int p2), .val (.int p3), .val (.int p4), .val (.int ((((p1.toUInt32 >>> (((8 : Int32) * (p2 + p4)) &&& 31).toUInt32).toInt32) &&& (127 : Int32)).toUInt32.toUInt16.toUInt32.toInt32))]) rfl k) ?_
    show Goes _ _ _ _ _ _ _ (s₁.setTop (mkF m 23 #[.val (.ref a0), .val (.int p1), .val (.int p2), .val (.int p3), .val (.int p4), .val (.int ((((p1.toUInt32 >>> (((8 : Int32) * (p2 + p4)) &&& 31).toUInt32).toInt32) &&& (127 : Int32)).toUInt32.toUInt16.toUInt32.toInt32))] []))
    generalize hy2 : ((((p1.toUInt32 >>> (((8 : Int32) * (p2 + p4)) &&& 31).toUInt32).toInt32) &&& (127 : Int32)).toUInt32.toUInt16.toUInt32.toInt32) = y2
    refine Goes.step (fun t k => XS.aloadN X0.here hx rfl (hb hby own_d6_23) rfl rfl k) ?_
    show Goes _ _ _ _ _ _ _ (s₁.setTop (mkF m 24 #[.val (.ref a0), .val (.int p1), .val (.int p2), .val (.int p3), .val (.int p4), .val (.int y2)] [(.ref a0)]))
    refine Goes.step (fun t k => XS.iload X0.here hx rfl (hb hby own_d6_24) rfl k) ?_
    show Goes _ _ _ _ _ _ _ (s₁.setTop (mkF m 26 #[.val (.ref a0), .val (.int p1), .val (.int p2), .val (.int p3), .val (.int p4), .val (.int y2)] [(.int p4), (.ref a0)]))
    obtain ⟨cq3, kq3, q3a, q3b, q3c⟩ := isOf hZ e0 H0
    obtain ⟨_, _, ⟨T3, L3, k3, n3⟩, -, X3, ⟨Lc3, hQ3, l3, y3, z3⟩, st3⟩ := X0.virtualBack hx (y := (⟨"com/example/crisp_monitor/crispmonitor/io/AsciiView", "charAt", "(I)C"⟩ : MethodName)) (z := (⟨"com/example/crisp_monitor/crispmonitor/io/AsciiView", "charAt", "(I)C"⟩ : MethodName)) hown (mvT hZ (hw _ (List.mem_of_getElem? (i := 33) rfl))) (mvT hZ (hw _ (List.mem_of_getElem? (i := 34) rfl))) (notFace_of_selects (args := #[]) (mvT hZ (hw _ (List.mem_of_getElem? (i := 36) rfl)))) (mvT hZ (hw _ (List.mem_of_getElem? (i := 36) rfl))) (mvT hZ (hw _ (List.mem_of_getElem? (i := 35) rfl))) (by decide) (backOf (W := 0) (rm7 l Z tA hw [] a0 p4 wB p2 p3 u0 u1 u2 u3 h0 H1 H2 H3 H4 hi hc3_1 hs h4) hZ (hw _ (List.mem_of_getElem? (i := 37) rfl)) (hw _ (List.mem_of_getElem? (i := 7) rfl)) (by decide) (by decide)) q3a q3c (g := (mkF m 26 #[.val (.ref a0), .val (.int p1), .val (.int p2), .val (.int p3), .val (.int p4), .val (.int y2)] [(.int p4), (.ref a0)])) rfl (by rw [hml]; rfl) (Steps.refl _) (argsL := [(.int p4)]) (rest := []) (lenOf own_pd0 rfl) rfl (by show 2 * 0 + _ ≤ _; exact Nat.le_of_eq rfl) (hb hby own_d6_26) (fun _ _ => ⟨rfl, e0, (by decide : 0 + 0 ≤ _), (by decide : 0 + 0 ≤ _)⟩)
    dsimp only [Pt.U, Pt.locs, Pt.cells, Pt.slots] at X3 l3 y3 z3 st3 hQ3
    subst l3 y3 z3
    obtain ⟨rfl, rfl, e3⟩ := hQ3
    try rw [List.append_nil] at X3
    change Stand _ _ _ _ _ _ _ _ _ _ _ _ 0 0 at X3
    refine Goes.step (fun t k => st3.trans k) ?_
    show Goes _ _ _ _ _ _ _ (T3.setTop (mkF m 29 #[.val (.ref a0), .val (.int p1), .val (.int p2), .val (.int p3), .val (.int p4), .val (.int y2)] [(.int (f7 p4 p2 u0 u1 u2 u3))]))
    refine Goes.step (fun t k => XS.iload X3.here hx rfl (hb hby own_d6_29) rfl k) ?_
    show Goes _ _ _ _ _ _ _ (T3.setTop (mkF m 31 #[.val (.ref a0), .val (.int p1), .val (.int p2), .val (.int p3), .val (.int p4), .val (.int y2)] [(.int y2), (.int (f7 p4 p2 u0 u1 u2 u3))]))
    suffices k5 : ∀ (x5_0 : Int32), x5_0 = (if (f7 p4 p2 u0 u1 u2 u3) = y2 then (1 : Int32) else (0 : Int32)) → Goes p e below s (Q6 Z a0 p1 p2 p3 p4 wB u0 u1 u2 u3 h0) kC6 kS6 (T3.setTop (mkF m 39 #[.val (.ref a0), .val (.int p1), .val (.int p2), .val (.int p3), .val (.int p4), .val (.int y2)] [(.int x5_0)])) by
      by_cases hc31_4 : (f7 p4 p2 u0 u1 u2 u3) = y2
      · refine Goes.step (fun t k => XS.icmpNo X3.here hx rfl (hb hby own_d6_31) rfl (teq hc31_4).2 k) ?_
        show Goes _ _ _ _ _ _ _ (T3.setTop (mkF m 34 #[.val (.ref a0), .val (.int p1), .val (.int p2), .val (.int p3), .val (.int p4), .val (.int y2)] []))
        refine Goes.step (fun t k => XS.iconst X3.here hx rfl (hb hby own_d6_34) k) ?_
        show Goes _ _ _ _ _ _ _ (T3.setTop (mkF m 35 #[.val (.ref a0), .val (.int p1), .val (.int p2), .val (.int p3), .val (.int p4), .val (.int y2)] [(.int (1 : Int32))]))
        refine Goes.step (fun t k => XS.goto X3.here hx rfl (pc0 := 35) (pc' := 39) rfl (hb hby own_d6_35) (by decide) (by decide) k) ?_
        show Goes _ _ _ _ _ _ _ (T3.setTop (mkF m 39 #[.val (.ref a0), .val (.int p1), .val (.int p2), .val (.int p3), .val (.int p4), .val (.int y2)] [(.int (1 : Int32))]))
        exact k5 _ (if_pos hc31_4).symm
      · refine Goes.step (fun t k => XS.icmpYes X3.here hx rfl (pc0 := 31) (pc' := 38) rfl (hb hby own_d6_31) rfl (feq hc31_4).2 (by decide) (by decide) k) ?_
        show Goes _ _ _ _ _ _ _ (T3.setTop (mkF m 38 #[.val (.ref a0), .val (.int p1), .val (.int p2), .val (.int p3), .val (.int p4), .val (.int y2)] []))
        refine Goes.step (fun t k => XS.iconst X3.here hx rfl (hb hby own_d6_38) k) ?_
        show Goes _ _ _ _ _ _ _ (T3.setTop (mkF m 39 #[.val (.ref a0), .val (.int p1), .val (.int p2), .val (.int p3), .val (.int p4), .val (.int y2)] [(.int (0 : Int32))]))
        exact k5 _ (if_neg hc31_4).symm
    intro x5_0 hx5_0
    subst hx5_0
    subst hy2
    exact Goes.retZ X3 hx Bd.notSynchronized (r := (f6 p1 p2 p3 p4 u0 u1 u2 u3)) Bd.returns (by simp) (hb hby own_d6_39) ((if_pos hc3_1).symm) ⟨rfl, rfl, e3⟩ (by decide) (by decide)
  · refine Goes.step (fun t k => XS.icmpNo X0.here hx rfl (hb hby own_d6_3) rfl (flt hc3_1).1 k) ?_
    show Goes _ _ _ _ _ _ _ (s₁.setTop (mkF m 6 #[.val (.ref a0), .val (.int p1), .val (.int p2), .val (.int p3), .val (.int p4), .unset] []))
    refine Goes.step (fun t k => XS.iconst X0.here hx rfl (hb hby own_d6_6) k) ?_
    show Goes _ _ _ _ _ _ _ (s₁.setTop (mkF m 7 #[.val (.ref a0), .val (.int p1), .val (.int p2), .val (.int p3), .val (.int p4), .unset] [(.int (1 : Int32))]))
    exact Goes.retZ X0 hx Bd.notSynchronized (r := (f6 p1 p2 p3 p4 u0 u1 u2 u3)) Bd.returns (by simp) (hb hby own_d6_7) ((if_neg hc3_1).symm) ⟨rfl, rfl, e0⟩ (by decide) (by decide)

def own_B (w : Int32) : Int32 × Int32 × Int32 × Int32 := ((((w &&& (127 : Int32)).toInt8.toInt32).toInt8.toInt32), (((((w.toUInt32 >>> ((8 : Int32) &&& 31).toUInt32).toInt32) &&& (127 : Int32)).toInt8.toInt32).toInt8.toInt32), (((((w.toUInt32 >>> ((16 : Int32) &&& 31).toUInt32).toInt32) &&& (127 : Int32)).toInt8.toInt32).toInt8.toInt32), (((((w.toUInt32 >>> ((24 : Int32) &&& 31).toUInt32).toInt32) &&& (127 : Int32)).toInt8.toInt32).toInt8.toInt32))
theorem own_f6 (w s l i : Int32) (hi : ¬ i < 0) (hs : ¬ s < 0) (h4 : s.toInt + l.toInt ≤ 4) : f6 w s l i (((w &&& (127 : Int32)).toInt8.toInt32).toInt8.toInt32) (((((w.toUInt32 >>> ((8 : Int32) &&& 31).toUInt32).toInt32) &&& (127 : Int32)).toInt8.toInt32).toInt8.toInt32) (((((w.toUInt32 >>> ((16 : Int32) &&& 31).toUInt32).toInt32) &&& (127 : Int32)).toInt8.toInt32).toInt8.toInt32) (((((w.toUInt32 >>> ((24 : Int32) &&& 31).toUInt32).toInt32) &&& (127 : Int32)).toInt8.toInt32).toInt8.toInt32) = 1 := by
  by_cases hn : i < l
  · obtain ⟨e, p, q⟩ := own_at hs hi hn h4
    unfold f6 f7
    rw [if_pos hn]
    simp only [own_b7]
    rcases idx4 p q with h | h | h | h
    · rw [h, own_s0, show ∀ a b c d, sel4 0 a b c d = a from fun _ _ _ _ => rfl]
      rw [if_pos]; · rfl
      show ((w &&& 127).toUInt32.toUInt16.toUInt32.toInt32).toUInt32.toUInt16.toUInt32.toInt32 = _
      rw [own_c7, own_c7]
    · rw [h, show ∀ a b c d, sel4 1 a b c d = b from fun _ _ _ _ => rfl, show (((8 : Int32) * 1) &&& 31) = ((8 : Int32) &&& 31) from by decide]
      generalize (w.toUInt32 >>> ((8 : Int32) &&& 31).toUInt32).toInt32 = x
      rw [if_pos]; · rfl
      show ((x &&& 127).toUInt32.toUInt16.toUInt32.toInt32).toUInt32.toUInt16.toUInt32.toInt32 = _
      rw [own_c7, own_c7]
    · rw [h, show ∀ a b c d, sel4 2 a b c d = c from fun _ _ _ _ => rfl, show (((8 : Int32) * 2) &&& 31) = ((16 : Int32) &&& 31) from by decide]
      generalize (w.toUInt32 >>> ((16 : Int32) &&& 31).toUInt32).toInt32 = x
      rw [if_pos]; · rfl
      show ((x &&& 127).toUInt32.toUInt16.toUInt32.toInt32).toUInt32.toUInt16.toUInt32.toInt32 = _
      rw [own_c7, own_c7]
    · rw [h, show ∀ a b c d, sel4 3 a b c d = d from fun _ _ _ _ => rfl, show (((8 : Int32) * 3) &&& 31) = ((24 : Int32) &&& 31) from by decide]
      generalize (w.toUInt32 >>> ((24 : Int32) &&& 31).toUInt32).toInt32 = x
      rw [if_pos]; · rfl
      show ((x &&& 127).toUInt32.toUInt16.toUInt32.toInt32).toUInt32.toUInt16.toUInt32.toInt32 = _
      rw [own_c7, own_c7]
  · unfold f6; rw [if_neg hn]
set_option maxRecDepth 65536 in
set_option maxHeartbeats 4000000 in
theorem own_nz34 (p2 : Int32) (y5 : Int32) (hy5 : ((((p2.toUInt32 >>> ((24 : Int32) &&& 31).toUInt32).toInt32) &&& (127 : Int32)) % (5 : Int32)) = y5) : ¬ (((5 : Int32) - y5) = (0 : Int32)) := by
  exact own_nz5 _ (own_r5 _ y5 (by have := c_mask (((p2.toUInt32 >>> ((24 : Int32) &&& 31).toUInt32).toInt32)) 127 7 (by decide) (by decide); omega) hy5)
set_option maxRecDepth 65536 in
set_option maxHeartbeats 4000000 in
theorem own_nz58 (p2 : Int32) (y9 : Int32) (hy9 : ((((p2.toUInt32 >>> ((8 : Int32) &&& 31).toUInt32).toInt32) &&& (255 : Int32)) % (5 : Int32)) = y9) : ¬ (((5 : Int32) - y9) = (0 : Int32)) := by
  exact own_nz5 _ (own_r5 _ y9 (by have := c_mask (((p2.toUInt32 >>> ((8 : Int32) &&& 31).toUInt32).toInt32)) 255 8 (by decide) (by decide); omega) hy9)
set_option maxRecDepth 65536 in
set_option maxHeartbeats 4000000 in
theorem own_rng27 (p2 : Int32) (y5 : Int32) (y7 : Int32) (hy5 : ((((p2.toUInt32 >>> ((24 : Int32) &&& 31).toUInt32).toInt32) &&& (127 : Int32)) % (5 : Int32)) = y5) (hy7 : ((((p2.toUInt32 >>> ((16 : Int32) &&& 31).toUInt32).toInt32) &&& (255 : Int32)) % ((5 : Int32) - y5)) = y7) : ¬ y5 < 0 ∧ y5.toInt + y7.toInt ≤ 4 := by
  first | exact own_rg _ _ _ (by have := c_mask (((p2.toUInt32 >>> ((16 : Int32) &&& 31).toUInt32).toInt32)) 255 8 (by decide) (by decide); omega) (own_r5 _ y5 (by have := c_mask (((p2.toUInt32 >>> ((24 : Int32) &&& 31).toUInt32).toInt32)) 127 7 (by decide) (by decide); omega) hy5) hy7 | exact own_rg _ _ _ (by have := c_mask (p2) 255 8 (by decide) (by decide); omega) (own_r5 _ y9 (by have := c_mask (((p2.toUInt32 >>> ((8 : Int32) &&& 31).toUInt32).toInt32)) 255 8 (by decide) (by decide); omega) hy9) hy11
set_option maxRecDepth 65536 in
set_option maxHeartbeats 4000000 in
theorem own_rng40 (p2 : Int32) (y9 : Int32) (y11 : Int32) (hy9 : ((((p2.toUInt32 >>> ((8 : Int32) &&& 31).toUInt32).toInt32) &&& (255 : Int32)) % (5 : Int32)) = y9) (hy11 : ((p2 &&& (255 : Int32)) % ((5 : Int32) - y9)) = y11) : ¬ y9 < 0 ∧ y9.toInt + y11.toInt ≤ 4 := by
  first | exact own_rg _ _ _ (by have := c_mask (((p2.toUInt32 >>> ((16 : Int32) &&& 31).toUInt32).toInt32)) 255 8 (by decide) (by decide); omega) (own_r5 _ y5 (by have := c_mask (((p2.toUInt32 >>> ((24 : Int32) &&& 31).toUInt32).toInt32)) 127 7 (by decide) (by decide); omega) hy5) hy7 | exact own_rg _ _ _ (by have := c_mask (p2) 255 8 (by decide) (by decide); omega) (own_r5 _ y9 (by have := c_mask (((p2.toUInt32 >>> ((8 : Int32) &&& 31).toUInt32).toInt32)) 255 8 (by decide) (by decide); omega) hy9) hy11
set_option maxRecDepth 65536 in
set_option maxHeartbeats 4000000 in
theorem own_rng45 (p2 : Int32) (y9 : Int32) (y11 : Int32) (hy9 : ((((p2.toUInt32 >>> ((8 : Int32) &&& 31).toUInt32).toInt32) &&& (255 : Int32)) % (5 : Int32)) = y9) (hy11 : ((p2 &&& (255 : Int32)) % ((5 : Int32) - y9)) = y11) : ¬ y9 < 0 ∧ y9.toInt + y11.toInt ≤ 4 := by
  first | exact own_rg _ _ _ (by have := c_mask (((p2.toUInt32 >>> ((16 : Int32) &&& 31).toUInt32).toInt32)) 255 8 (by decide) (by decide); omega) (own_r5 _ y5 (by have := c_mask (((p2.toUInt32 >>> ((24 : Int32) &&& 31).toUInt32).toInt32)) 127 7 (by decide) (by decide); omega) hy5) hy7 | exact own_rg _ _ _ (by have := c_mask (p2) 255 8 (by decide) (by decide); omega) (own_r5 _ y9 (by have := c_mask (((p2.toUInt32 >>> ((8 : Int32) &&& 31).toUInt32).toInt32)) 255 8 (by decide) (by decide); omega) hy9) hy11
set_option maxRecDepth 65536 in
set_option maxHeartbeats 4000000 in
theorem own_rng50 (p2 : Int32) (y9 : Int32) (y11 : Int32) (hy9 : ((((p2.toUInt32 >>> ((8 : Int32) &&& 31).toUInt32).toInt32) &&& (255 : Int32)) % (5 : Int32)) = y9) (hy11 : ((p2 &&& (255 : Int32)) % ((5 : Int32) - y9)) = y11) : ¬ y9 < 0 ∧ y9.toInt + y11.toInt ≤ 4 := by
  first | exact own_rg _ _ _ (by have := c_mask (((p2.toUInt32 >>> ((16 : Int32) &&& 31).toUInt32).toInt32)) 255 8 (by decide) (by decide); omega) (own_r5 _ y5 (by have := c_mask (((p2.toUInt32 >>> ((24 : Int32) &&& 31).toUInt32).toInt32)) 127 7 (by decide) (by decide); omega) hy5) hy7 | exact own_rg _ _ _ (by have := c_mask (p2) 255 8 (by decide) (by decide); omega) (own_r5 _ y9 (by have := c_mask (((p2.toUInt32 >>> ((8 : Int32) &&& 31).toUInt32).toInt32)) 255 8 (by decide) (by decide); omega) hy9) hy11
set_option maxRecDepth 65536 in
set_option maxHeartbeats 4000000 in
theorem own_rng55 (p2 : Int32) (y9 : Int32) (y11 : Int32) (hy9 : ((((p2.toUInt32 >>> ((8 : Int32) &&& 31).toUInt32).toInt32) &&& (255 : Int32)) % (5 : Int32)) = y9) (hy11 : ((p2 &&& (255 : Int32)) % ((5 : Int32) - y9)) = y11) : ¬ y9 < 0 ∧ y9.toInt + y11.toInt ≤ 4 := by
  first | exact own_rg _ _ _ (by have := c_mask (((p2.toUInt32 >>> ((16 : Int32) &&& 31).toUInt32).toInt32)) 255 8 (by decide) (by decide); omega) (own_r5 _ y5 (by have := c_mask (((p2.toUInt32 >>> ((24 : Int32) &&& 31).toUInt32).toInt32)) 127 7 (by decide) (by decide); omega) hy5) hy7 | exact own_rg _ _ _ (by have := c_mask (p2) 255 8 (by decide) (by decide); omega) (own_r5 _ y9 (by have := c_mask (((p2.toUInt32 >>> ((8 : Int32) &&& 31).toUInt32).toInt32)) 255 8 (by decide) (by decide); omega) hy9) hy11
set_option maxRecDepth 65536 in
set_option maxHeartbeats 4000000 in
theorem own_plain (p0 : Int32) (p1 : Int32) (p2 : Int32) (y5 : Int32) (y7 : Int32) (y9 : Int32) (y11 : Int32) (x30_0 : Int32) (x38_0 : Int32) (x43_0 : Int32) (x48_0 : Int32) (x53_0 : Int32) (x58_0 : Int32) (hy5 : ((((p2.toUInt32 >>> ((24 : Int32) &&& 31).toUInt32).toInt32) &&& (127 : Int32)) % (5 : Int32)) = y5) (hy7 : ((((p2.toUInt32 >>> ((16 : Int32) &&& 31).toUInt32).toInt32) &&& (255 : Int32)) % ((5 : Int32) - y5)) = y7) (hy9 : ((((p2.toUInt32 >>> ((8 : Int32) &&& 31).toUInt32).toInt32) &&& (255 : Int32)) % (5 : Int32)) = y9) (hy11 : ((p2 &&& (255 : Int32)) % ((5 : Int32) - y9)) = y11) (hx30_0 : x30_0 = (if (f5 y7) = y7 then (if (f6 p0 y5 y7 (0 : Int32) (((p0 &&& (127 : Int32)).toInt8.toInt32).toInt8.toInt32) (((((p0.toUInt32 >>> ((8 : Int32) &&& 31).toUInt32).toInt32) &&& (127 : Int32)).toInt8.toInt32).toInt8.toInt32) (((((p0.toUInt32 >>> ((16 : Int32) &&& 31).toUInt32).toInt32) &&& (127 : Int32)).toInt8.toInt32).toInt8.toInt32) (((((p0.toUInt32 >>> ((24 : Int32) &&& 31).toUInt32).toInt32) &&& (127 : Int32)).toInt8.toInt32).toInt8.toInt32)) = (0 : Int32) then (0 : Int32) else (1 : Int32)) else (0 : Int32))) (hx38_0 : x38_0 = (if x30_0 = (0 : Int32) then (0 : Int32) else (if (f5 y11) = y11 then (1 : Int32) else (0 : Int32)))) (hx43_0 : x43_0 = (if x38_0 = (0 : Int32) then (0 : Int32) else (if (f6 p1 y9 y11 (0 : Int32) (((p1 &&& (127 : Int32)).toInt8.toInt32).toInt8.toInt32) (((((p1.toUInt32 >>> ((8 : Int32) &&& 31).toUInt32).toInt32) &&& (127 : Int32)).toInt8.toInt32).toInt8.toInt32) (((((p1.toUInt32 >>> ((16 : Int32) &&& 31).toUInt32).toInt32) &&& (127 : Int32)).toInt8.toInt32).toInt8.toInt32) (((((p1.toUInt32 >>> ((24 : Int32) &&& 31).toUInt32).toInt32) &&& (127 : Int32)).toInt8.toInt32).toInt8.toInt32)) = (0 : Int32) then (0 : Int32) else (1 : Int32)))) (hx48_0 : x48_0 = (if x43_0 = (0 : Int32) then (0 : Int32) else (if (f6 p1 y9 y11 (1 : Int32) (((p1 &&& (127 : Int32)).toInt8.toInt32).toInt8.toInt32) (((((p1.toUInt32 >>> ((8 : Int32) &&& 31).toUInt32).toInt32) &&& (127 : Int32)).toInt8.toInt32).toInt8.toInt32) (((((p1.toUInt32 >>> ((16 : Int32) &&& 31).toUInt32).toInt32) &&& (127 : Int32)).toInt8.toInt32).toInt8.toInt32) (((((p1.toUInt32 >>> ((24 : Int32) &&& 31).toUInt32).toInt32) &&& (127 : Int32)).toInt8.toInt32).toInt8.toInt32)) = (0 : Int32) then (0 : Int32) else (1 : Int32)))) (hx53_0 : x53_0 = (if x48_0 = (0 : Int32) then (0 : Int32) else (if (f6 p1 y9 y11 (2 : Int32) (((p1 &&& (127 : Int32)).toInt8.toInt32).toInt8.toInt32) (((((p1.toUInt32 >>> ((8 : Int32) &&& 31).toUInt32).toInt32) &&& (127 : Int32)).toInt8.toInt32).toInt8.toInt32) (((((p1.toUInt32 >>> ((16 : Int32) &&& 31).toUInt32).toInt32) &&& (127 : Int32)).toInt8.toInt32).toInt8.toInt32) (((((p1.toUInt32 >>> ((24 : Int32) &&& 31).toUInt32).toInt32) &&& (127 : Int32)).toInt8.toInt32).toInt8.toInt32)) = (0 : Int32) then (0 : Int32) else (1 : Int32)))) (hx58_0 : x58_0 = (if x53_0 = (0 : Int32) then (0 : Int32) else (if (f6 p1 y9 y11 (3 : Int32) (((p1 &&& (127 : Int32)).toInt8.toInt32).toInt8.toInt32) (((((p1.toUInt32 >>> ((8 : Int32) &&& 31).toUInt32).toInt32) &&& (127 : Int32)).toInt8.toInt32).toInt8.toInt32) (((((p1.toUInt32 >>> ((16 : Int32) &&& 31).toUInt32).toInt32) &&& (127 : Int32)).toInt8.toInt32).toInt8.toInt32) (((((p1.toUInt32 >>> ((24 : Int32) &&& 31).toUInt32).toInt32) &&& (127 : Int32)).toInt8.toInt32).toInt8.toInt32)) = (0 : Int32) then (0 : Int32) else (1 : Int32)))) : nar .boolean x58_0 = (1 : Int32) := by
  have ra : ¬ y5 < 0 ∧ y5.toInt + y7.toInt ≤ 4 := by exact own_rg _ _ _ (by have := c_mask (((p2.toUInt32 >>> ((16 : Int32) &&& 31).toUInt32).toInt32)) 255 8 (by decide) (by decide); omega) (own_r5 _ y5 (by have := c_mask (((p2.toUInt32 >>> ((24 : Int32) &&& 31).toUInt32).toInt32)) 127 7 (by decide) (by decide); omega) hy5) hy7
  have rb : ¬ y9 < 0 ∧ y9.toInt + y11.toInt ≤ 4 := by exact own_rg _ _ _ (by have := c_mask (p2) 255 8 (by decide) (by decide); omega) (own_r5 _ y9 (by have := c_mask (((p2.toUInt32 >>> ((8 : Int32) &&& 31).toUInt32).toInt32)) 255 8 (by decide) (by decide); omega) hy9) hy11
  rw [own_f6 p0 y5 y7 0 (by decide) ra.1 ra.2, show f5 y7 = y7 from rfl, if_pos rfl] at hx30_0
  rw [show f5 y11 = y11 from rfl, if_pos rfl] at hx38_0
  rw [own_f6 p1 y9 y11 0 (by decide) rb.1 rb.2] at hx43_0
  rw [own_f6 p1 y9 y11 1 (by decide) rb.1 rb.2] at hx48_0
  rw [own_f6 p1 y9 y11 2 (by decide) rb.1 rb.2] at hx53_0
  rw [own_f6 p1 y9 y11 3 (by decide) rb.1 rb.2] at hx58_0
  subst hx30_0 hx38_0 hx43_0 hx48_0 hx53_0 hx58_0
  decide
theorem own_ef0 (m : MethodId) (p0 : Int32) (p1 : Int32) (p2 : Int32) : entryFrame m #[(.int p0), (.int p1), (.int p2)] maxLocals = mkF m 0 #[.val (.int p0), .val (.int p1), .val (.int p2), .unset, .unset, .unset, .unset, .unset, .unset, .unset, .unset, .unset, .unset] [] := by first | (simp [entryFrame, mkF, argsToLocals, Value.category, maxLocals]; done) | rfl
abbrev kC0 : Nat := 4
abbrev kS0 : Nat := 11
def Q0 (Z : State) (p0 : Int32) (p1 : Int32) (p2 : Int32) (h0 : Heap) (n0 : Nat) (v : Option Value) (h : Heap) (L : List Loc) : Prop := v = some (.int 1) ∧ Fr n0 L
set_option maxRecDepth 65536 in
set_option maxHeartbeats 40000000 in
theorem rm0 (l : Launch) (Z : State) (tA : Array Value) (hw : ∀ d ∈ tables_1, d.before tA Z = true) (ws : List Jvm.Cond) (p0 : Int32) (p1 : Int32) (p2 : Int32) (h0 : Heap) (n0 : Nat) (Z0 : n0 ≤ h0.size)  :
    MetFree l x (head1 (Jvm.Cond.code x code maxLocals ret :: ws) room_1) (fun a U => a = #[(.int p0), (.int p1), (.int p2)] ∧ Z.Warmed39 U.vm ∧ U.heap = h0) (fun _ _ _ _ _ => True) (fun _ U o U' => ∃ v L, o = .returned v ∧ Q0 Z p0 p1 p2 h0 n0 v U'.heap L ∧ FrameEnd U o U' L kC0 kS0) := by
  refine MetFree.of_bodySF (plainFor_of_name own_pn0) hisR ?_
  intro p e s m args below meth c s₁ Bd hml0 hP hK
  obtain ⟨rfl, hZ, hh⟩ := hP
  have hx := Bd.exec
  have hby := Bd.bytes
  have hml : c.maxLocals = 13 := hml0
  have hown : s.vm.findClass "com/example/crisp_monitor/crispmonitor/io/AsciiViewOfPinLaw" = some m.cls := findClass_of_methodNamed Bd.named
  have hnm := (name_of_methodNamed Bd.named Bd.method).1
  have X0 : Stand p l e room_1 s m #[(.int p0), (.int p1), (.int p2)] below meth c s₁ [] 0 0 := Stand.of_body Bd
  have e0 : s₁.heap = h0 := by rw [← hh, Bd.state]; rfl
  have N0 := Fr.nil n0
  show Goes p e below s (Q0 Z p0 p1 p2 h0 n0) kC0 kS0 (s₁.setTop (entryFrame m #[(.int p0), (.int p1), (.int p2)] maxLocals))
  refine Goes.step (fun t k => castTop (own_ef0 m p0 p1 p2) k) ?_
  show Goes _ _ _ _ _ _ _ (s₁.setTop (mkF m 0 #[.val (.int p0), .val (.int p1), .val (.int p2), .unset, .unset, .unset, .unset, .unset, .unset, .unset, .unset, .unset, .unset] []))
  refine Goes.step (fun t k => XS.iloadN X0.here hx rfl (hb hby at_0) rfl k) ?_
  show Goes _ _ _ _ _ _ _ (s₁.setTop (mkF m 1 #[.val (.int p0), .val (.int p1), .val (.int p2), .unset, .unset, .unset, .unset, .unset, .unset, .unset, .unset, .unset, .unset] [(.int p0)]))
  obtain ⟨_, _, ⟨T1, L1, k1, n1⟩, -, X1, ⟨Lc1, hQ1, l1, y1, z1⟩, st1⟩ := Jvm.LawKit.callS X0 hx (y := (⟨"com/example/crisp_monitor/crispmonitor/io/AsciiViewOfPinLaw", "bytes", "(I)[B"⟩ : MethodName)) hown (mvT hZ (hw _ (List.mem_of_getElem? (i := 0) rfl))) (mvT hZ (hw _ (List.mem_of_getElem? (i := 1) rfl))) (mvT hZ (hw _ (List.mem_of_getElem? (i := 2) rfl))) (mvT hZ (hw _ (List.mem_of_getElem? (i := 3) rfl))) (by decide) (backOf (W := 0) (rm1 l Z tA hw [] p0 h0 n0 Z0) hZ (hw _ (List.mem_of_getElem? (i := 3) rfl)) (hw _ (List.mem_of_getElem? (i := 2) rfl)) (by decide) (by decide)) (g := (mkF m 1 #[.val (.int p0), .val (.int p1), .val (.int p2), .unset, .unset, .unset, .unset, .unset, .unset, .unset, .unset, .unset, .unset] [(.int p0)])) rfl (by rw [hml]; rfl) (argsL := [(.int p0)]) (rest := []) (lenOf own_pd1 rfl) rfl (by show 2 * 0 + _ ≤ _; exact Nat.le_of_eq rfl) (hb hby at_1) (fun _ _ => ⟨rfl, e0, (by decide : 0 + 1 ≤ _), (by decide : 0 + 4 ≤ _)⟩)
  dsimp only [Pt.U, Pt.locs, Pt.cells, Pt.slots] at X1 l1 y1 z1 st1 hQ1
  subst l1 y1 z1
  generalize e1 : T1.heap = h1 at hQ1
  obtain ⟨r1_0, rfl, Nq1, Kq1, Zf1_r1_0, G1_0⟩ := hQ1
  have Zs1_r1_0 := Nat.le_trans Z0 Zf1_r1_0
  have Zh1_r1_0 := Nat.le_trans (Keep.refl h0 []).1 Zf1_r1_0
  have N1 := Fr.app N0 Nq1
  have K1 := (Keep.refl h0 []).trans Kq1 all0
  have Z1 := Nat.le_trans Z0 Kq1.1
  change Stand _ _ _ _ _ _ _ _ _ _ _ _ 1 4 at X1
  refine Goes.step (fun t k => st1 t k) ?_
  show Goes _ _ _ _ _ _ _ (T1.setTop (mkF m 4 #[.val (.int p0), .val (.int p1), .val (.int p2), .unset, .unset, .unset, .unset, .unset, .unset, .unset, .unset, .unset, .unset] [(.ref r1_0)]))
  refine Goes.step (fun t k => XS.astoreN X1.here hx rfl (hb hby at_4) rfl rfl (l' := #[.val (.int p0), .val (.int p1), .val (.int p2), .val (.ref r1_0), .unset, .unset, .unset, .unset, .unset, .unset, .unset, .unset, .unset]) rfl k) ?_
  show Goes _ _ _ _ _ _ _ (T1.setTop (mkF m 5 #[.val (.int p0), .val (.int p1), .val (.int p2), .val (.ref r1_0), .unset, .unset, .unset, .unset, .unset, .unset, .unset, .unset, .unset] []))
  refine Goes.step (fun t k => XS.iloadN X1.here hx rfl (hb hby at_5) rfl k) ?_
  show Goes _ _ _ _ _ _ _ (T1.setTop (mkF m 6 #[.val (.int p0), .val (.int p1), .val (.int p2), .val (.ref r1_0), .unset, .unset, .unset, .unset, .unset, .unset, .unset, .unset, .unset] [(.int p1)]))
  obtain ⟨_, _, ⟨T2, L2, k2, n2⟩, -, X2, ⟨Lc2, hQ2, l2, y2, z2⟩, st2⟩ := Jvm.LawKit.callS X1 hx (y := (⟨"com/example/crisp_monitor/crispmonitor/io/AsciiViewOfPinLaw", "bytes", "(I)[B"⟩ : MethodName)) hown (mvT hZ (hw _ (List.mem_of_getElem? (i := 0) rfl))) (mvT hZ (hw _ (List.mem_of_getElem? (i := 1) rfl))) (mvT hZ (hw _ (List.mem_of_getElem? (i := 2) rfl))) (mvT hZ (hw _ (List.mem_of_getElem? (i := 3) rfl))) (by decide) (backOf (W := 0) (rm1 l Z tA hw [] p1 h1 n0 Z1) hZ (hw _ (List.mem_of_getElem? (i := 3) rfl)) (hw _ (List.mem_of_getElem? (i := 2) rfl)) (by decide) (by decide)) (g := (mkF m 6 #[.val (.int p0), .val (.int p1), .val (.int p2), .val (.ref r1_0), .unset, .unset, .unset, .unset, .unset, .unset, .unset, .unset, .unset] [(.int p1)])) rfl (by rw [hml]; rfl) (argsL := [(.int p1)]) (rest := []) (lenOf own_pd1 rfl) rfl (by show 2 * 0 + _ ≤ _; exact Nat.le_of_eq rfl) (hb hby at_6) (fun _ _ => ⟨rfl, e1, (by decide : 1 + 1 ≤ _), (by decide : 4 + 4 ≤ _)⟩)
  dsimp only [Pt.U, Pt.locs, Pt.cells, Pt.slots] at X2 l2 y2 z2 st2 hQ2
  subst l2 y2 z2
  generalize e2 : T2.heap = h2 at hQ2
  obtain ⟨r2_0, rfl, Nq2, Kq2, Zf2_r2_0, G2_0⟩ := hQ2
  have ne_r1_0_r2_0 : r1_0 ≠ r2_0 := Nat.ne_of_lt (Nat.lt_of_lt_of_le G1_0.lt Zf2_r2_0)
  have Zs2_r2_0 := Nat.le_trans Z1 Zf2_r2_0
  have Zh2_r2_0 := Nat.le_trans K1.1 Zf2_r2_0
  have F3 := G1_0.keep Kq2 nin0
  have N2 := Fr.app N1 Nq2
  have K2 := K1.trans Kq2 all0
  have Z2 := Nat.le_trans Z1 Kq2.1
  change Stand _ _ _ _ _ _ _ _ _ _ _ _ 2 8 at X2
  refine Goes.step (fun t k => st2 t k) ?_
  show Goes _ _ _ _ _ _ _ (T2.setTop (mkF m 9 #[.val (.int p0), .val (.int p1), .val (.int p2), .val (.ref r1_0), .unset, .unset, .unset, .unset, .unset, .unset, .unset, .unset, .unset] [(.ref r2_0)]))
  refine Goes.step (fun t k => XS.astore X2.here hx rfl (hb hby at_9) rfl rfl (l' := #[.val (.int p0), .val (.int p1), .val (.int p2), .val (.ref r1_0), .val (.ref r2_0), .unset, .unset, .unset, .unset, .unset, .unset, .unset, .unset]) rfl k) ?_
  show Goes _ _ _ _ _ _ _ (T2.setTop (mkF m 11 #[.val (.int p0), .val (.int p1), .val (.int p2), .val (.ref r1_0), .val (.ref r2_0), .unset, .unset, .unset, .unset, .unset, .unset, .unset, .unset] []))
  refine Goes.step (fun t k => XS.iloadN X2.here hx rfl (hb hby at_11) rfl k) ?_
  show Goes _ _ _ _ _ _ _ (T2.setTop (mkF m 12 #[.val (.int p0), .val (.int p1), .val (.int p2), .val (.ref r1_0), .val (.ref r2_0), .unset, .unset, .unset, .unset, .unset, .unset, .unset, .unset] [(.int p2)]))
  refine Goes.step (fun t k => XS.bipush X2.here hx rfl (hb hby at_12) k) ?_
  show Goes _ _ _ _ _ _ _ (T2.setTop (mkF m 14 #[.val (.int p0), .val (.int p1), .val (.int p2), .val (.ref r1_0), .val (.ref r2_0), .unset, .unset, .unset, .unset, .unset, .unset, .unset, .unset] [(.int (24 : Int32)), (.int p2)]))
  refine Goes.step (fun t k => XS.iushr X2.here hx rfl (hb hby at_14) rfl k) ?_
  show Goes _ _ _ _ _ _ _ (T2.setTop (mkF m 15 #[.val (.int p0), .val (.int p1), .val (.int p2), .val (.ref r1_0), .val (.ref r2_0), .unset, .unset, .unset, .unset, .unset, .unset, .unset, .unset] [(.int ((p2.toUInt32 >>> ((24 : Int32) &&& 31).toUInt32).toInt32))]))
  refine Goes.step (fun t k => XS.bipush X2.here hx rfl (hb hby at_15) k) ?_
  show Goes _ _ _ _ _ _ _ (T2.setTop (mkF m 17 #[.val (.int p0), .val (.int p1), .val (.int p2), .val (.ref r1_0), .val (.ref r2_0), .unset, .unset, .unset, .unset, .unset, .unset, .unset, .unset] [(.int (127 : Int32)), (.int ((p2.toUInt32 >>> ((24 : Int32) &&& 31).toUInt32).toInt32))]))
  refine Goes.step (fun t k => XS.iand X2.here hx rfl (hb hby at_17) rfl k) ?_
  show Goes _ _ _ _ _ _ _ (T2.setTop (mkF m 18 #[.val (.int p0), .val (.int p1), .val (.int p2), .val (.ref r1_0), .val (.ref r2_0), .unset, .unset, .unset, .unset, .unset, .unset, .unset, .unset] [(.int (((p2.toUInt32 >>> ((24 : Int32) &&& 31).toUInt32).toInt32) &&& (127 : Int32)))]))
  refine Goes.step (fun t k => XS.iconst X2.here hx rfl (hb hby at_18) k) ?_
  show Goes _ _ _ _ _ _ _ (T2.setTop (mkF m 19 #[.val (.int p0), .val (.int p1), .val (.int p2), .val (.ref r1_0), .val (.ref r2_0), .unset, .unset, .unset, .unset, .unset, .unset, .unset, .unset] [(.int (5 : Int32)), (.int (((p2.toUInt32 >>> ((24 : Int32) &&& 31).toUInt32).toInt32) &&& (127 : Int32)))]))
  have hnz4 : ¬ ((5 : Int32) = (0 : Int32)) := by decide
  refine Goes.step (fun t k => iremM X2 hx rfl (hb hby at_19) rfl hnz4 k) ?_
  show Goes _ _ _ _ _ _ _ (T2.setTop (mkF m 20 #[.val (.int p0), .val (.int p1), .val (.int p2), .val (.ref r1_0), .val (.ref r2_0), .unset, .unset, .unset, .unset, .unset, .unset, .unset, .unset] [(.int ((((p2.toUInt32 >>> ((24 : Int32) &&& 31).toUInt32).toInt32) &&& (127 : Int32)) % (5 : Int32)))]))
  refine Goes.step (fun t k => XS.istore X2.here hx rfl (hb hby at_20) rfl (l' := #[.val (.int p0), .val (.int p1), .val (.int p2), .val (.ref r1_0), .val (.ref r2_0), .val (.int ((((p2.toUInt32 >>> ((24 : Int32) &&& 31).toUInt32).toInt32) &&& (127 : Int32)) % (5 : Int32))), .unset, .unset, .unset, .unset, .unset, .unset, .unset]) rfl k) ?_
  show Goes _ _ _ _ _ _ _ (T2.setTop (mkF m 22 #[.val (.int p0), .val (.int p1), .val (.int p2), .val (.ref r1_0), .val (.ref r2_0), .val (.int ((((p2.toUInt32 >>> ((24 : Int32) &&& 31).toUInt32).toInt32) &&& (127 : Int32)) % (5 : Int32))), .unset, .unset, .unset, .unset, .unset, .unset, .unset] []))
  generalize hy5 : ((((p2.toUInt32 >>> ((24 : Int32) &&& 31).toUInt32).toInt32) &&& (127 : Int32)) % (5 : Int32)) = y5
  refine Goes.step (fun t k => XS.iloadN X2.here hx rfl (hb hby at_22) rfl k) ?_
  show Goes _ _ _ _ _ _ _ (T2.setTop (mkF m 23 #[.val (.int p0), .val (.int p1), .val (.int p2), .val (.ref r1_0), .val (.ref r2_0), .val (.int y5), .unset, .unset, .unset, .unset, .unset, .unset, .unset] [(.int p2)]))
  refine Goes.step (fun t k => XS.bipush X2.here hx rfl (hb hby at_23) k) ?_
  show Goes _ _ _ _ _ _ _ (T2.setTop (mkF m 25 #[.val (.int p0), .val (.int p1), .val (.int p2), .val (.ref r1_0), .val (.ref r2_0), .val (.int y5), .unset, .unset, .unset, .unset, .unset, .unset, .unset] [(.int (16 : Int32)), (.int p2)]))
  refine Goes.step (fun t k => XS.iushr X2.here hx rfl (hb hby at_25) rfl k) ?_
  show Goes _ _ _ _ _ _ _ (T2.setTop (mkF m 26 #[.val (.int p0), .val (.int p1), .val (.int p2), .val (.ref r1_0), .val (.ref r2_0), .val (.int y5), .unset, .unset, .unset, .unset, .unset, .unset, .unset] [(.int ((p2.toUInt32 >>> ((16 : Int32) &&& 31).toUInt32).toInt32))]))
  refine Goes.step (fun t k => XS.sipush X2.here hx rfl (hb hby at_26) k) ?_
  show Goes _ _ _ _ _ _ _ (T2.setTop (mkF m 29 #[.val (.int p0), .val (.int p1), .val (.int p2), .val (.ref r1_0), .val (.ref r2_0), .val (.int y5), .unset, .unset, .unset, .unset, .unset, .unset, .unset] [(.int (255 : Int32)), (.int ((p2.toUInt32 >>> ((16 : Int32) &&& 31).toUInt32).toInt32))]))
  refine Goes.step (fun t k => XS.iand X2.here hx rfl (hb hby at_29) rfl k) ?_
  show Goes _ _ _ _ _ _ _ (T2.setTop (mkF m 30 #[.val (.int p0), .val (.int p1), .val (.int p2), .val (.ref r1_0), .val (.ref r2_0), .val (.int y5), .unset, .unset, .unset, .unset, .unset, .unset, .unset] [(.int (((p2.toUInt32 >>> ((16 : Int32) &&& 31).toUInt32).toInt32) &&& (255 : Int32)))]))
  refine Goes.step (fun t k => XS.iconst X2.here hx rfl (hb hby at_30) k) ?_
  show Goes _ _ _ _ _ _ _ (T2.setTop (mkF m 31 #[.val (.int p0), .val (.int p1), .val (.int p2), .val (.ref r1_0), .val (.ref r2_0), .val (.int y5), .unset, .unset, .unset, .unset, .unset, .unset, .unset] [(.int (5 : Int32)), (.int (((p2.toUInt32 >>> ((16 : Int32) &&& 31).toUInt32).toInt32) &&& (255 : Int32)))]))
  refine Goes.step (fun t k => XS.iload X2.here hx rfl (hb hby at_31) rfl k) ?_
  show Goes _ _ _ _ _ _ _ (T2.setTop (mkF m 33 #[.val (.int p0), .val (.int p1), .val (.int p2), .val (.ref r1_0), .val (.ref r2_0), .val (.int y5), .unset, .unset, .unset, .unset, .unset, .unset, .unset] [(.int y5), (.int (5 : Int32)), (.int (((p2.toUInt32 >>> ((16 : Int32) &&& 31).toUInt32).toInt32) &&& (255 : Int32)))]))
  refine Goes.step (fun t k => XS.isub X2.here hx rfl (hb hby at_33) rfl k) ?_
  show Goes _ _ _ _ _ _ _ (T2.setTop (mkF m 34 #[.val (.int p0), .val (.int p1), .val (.int p2), .val (.ref r1_0), .val (.ref r2_0), .val (.int y5), .unset, .unset, .unset, .unset, .unset, .unset, .unset] [(.int ((5 : Int32) - y5)), (.int (((p2.toUInt32 >>> ((16 : Int32) &&& 31).toUInt32).toInt32) &&& (255 : Int32)))]))
  have hnz6 : ¬ (((5 : Int32) - y5) = (0 : Int32)) := by exact (own_nz34 p2 y5 hy5)
  refine Goes.step (fun t k => iremM X2 hx rfl (hb hby at_34) rfl hnz6 k) ?_
  show Goes _ _ _ _ _ _ _ (T2.setTop (mkF m 35 #[.val (.int p0), .val (.int p1), .val (.int p2), .val (.ref r1_0), .val (.ref r2_0), .val (.int y5), .unset, .unset, .unset, .unset, .unset, .unset, .unset] [(.int ((((p2.toUInt32 >>> ((16 : Int32) &&& 31).toUInt32).toInt32) &&& (255 : Int32)) % ((5 : Int32) - y5)))]))
  refine Goes.step (fun t k => XS.istore X2.here hx rfl (hb hby at_35) rfl (l' := #[.val (.int p0), .val (.int p1), .val (.int p2), .val (.ref r1_0), .val (.ref r2_0), .val (.int y5), .val (.int ((((p2.toUInt32 >>> ((16 : Int32) &&& 31).toUInt32).toInt32) &&& (255 : Int32)) % ((5 : Int32) - y5))), .unset, .unset, .unset, .unset, .unset, .unset]) rfl k) ?_
  show Goes _ _ _ _ _ _ _ (T2.setTop (mkF m 37 #[.val (.int p0), .val (.int p1), .val (.int p2), .val (.ref r1_0), .val (.ref r2_0), .val (.int y5), .val (.int ((((p2.toUInt32 >>> ((16 : Int32) &&& 31).toUInt32).toInt32) &&& (255 : Int32)) % ((5 : Int32) - y5))), .unset, .unset, .unset, .unset, .unset, .unset] []))
  generalize hy7 : ((((p2.toUInt32 >>> ((16 : Int32) &&& 31).toUInt32).toInt32) &&& (255 : Int32)) % ((5 : Int32) - y5)) = y7
  refine Goes.step (fun t k => XS.iloadN X2.here hx rfl (hb hby at_37) rfl k) ?_
  show Goes _ _ _ _ _ _ _ (T2.setTop (mkF m 38 #[.val (.int p0), .val (.int p1), .val (.int p2), .val (.ref r1_0), .val (.ref r2_0), .val (.int y5), .val (.int y7), .unset, .unset, .unset, .unset, .unset, .unset] [(.int p2)]))
  refine Goes.step (fun t k => XS.bipush X2.here hx rfl (hb hby at_38) k) ?_
  show Goes _ _ _ _ _ _ _ (T2.setTop (mkF m 40 #[.val (.int p0), .val (.int p1), .val (.int p2), .val (.ref r1_0), .val (.ref r2_0), .val (.int y5), .val (.int y7), .unset, .unset, .unset, .unset, .unset, .unset] [(.int (8 : Int32)), (.int p2)]))
  refine Goes.step (fun t k => XS.iushr X2.here hx rfl (hb hby at_40) rfl k) ?_
  show Goes _ _ _ _ _ _ _ (T2.setTop (mkF m 41 #[.val (.int p0), .val (.int p1), .val (.int p2), .val (.ref r1_0), .val (.ref r2_0), .val (.int y5), .val (.int y7), .unset, .unset, .unset, .unset, .unset, .unset] [(.int ((p2.toUInt32 >>> ((8 : Int32) &&& 31).toUInt32).toInt32))]))
  refine Goes.step (fun t k => XS.sipush X2.here hx rfl (hb hby at_41) k) ?_
  show Goes _ _ _ _ _ _ _ (T2.setTop (mkF m 44 #[.val (.int p0), .val (.int p1), .val (.int p2), .val (.ref r1_0), .val (.ref r2_0), .val (.int y5), .val (.int y7), .unset, .unset, .unset, .unset, .unset, .unset] [(.int (255 : Int32)), (.int ((p2.toUInt32 >>> ((8 : Int32) &&& 31).toUInt32).toInt32))]))
  refine Goes.step (fun t k => XS.iand X2.here hx rfl (hb hby at_44) rfl k) ?_
  show Goes _ _ _ _ _ _ _ (T2.setTop (mkF m 45 #[.val (.int p0), .val (.int p1), .val (.int p2), .val (.ref r1_0), .val (.ref r2_0), .val (.int y5), .val (.int y7), .unset, .unset, .unset, .unset, .unset, .unset] [(.int (((p2.toUInt32 >>> ((8 : Int32) &&& 31).toUInt32).toInt32) &&& (255 : Int32)))]))
  refine Goes.step (fun t k => XS.iconst X2.here hx rfl (hb hby at_45) k) ?_
  show Goes _ _ _ _ _ _ _ (T2.setTop (mkF m 46 #[.val (.int p0), .val (.int p1), .val (.int p2), .val (.ref r1_0), .val (.ref r2_0), .val (.int y5), .val (.int y7), .unset, .unset, .unset, .unset, .unset, .unset] [(.int (5 : Int32)), (.int (((p2.toUInt32 >>> ((8 : Int32) &&& 31).toUInt32).toInt32) &&& (255 : Int32)))]))
  have hnz8 : ¬ ((5 : Int32) = (0 : Int32)) := by decide
  refine Goes.step (fun t k => iremM X2 hx rfl (hb hby at_46) rfl hnz8 k) ?_
  show Goes _ _ _ _ _ _ _ (T2.setTop (mkF m 47 #[.val (.int p0), .val (.int p1), .val (.int p2), .val (.ref r1_0), .val (.ref r2_0), .val (.int y5), .val (.int y7), .unset, .unset, .unset, .unset, .unset, .unset] [(.int ((((p2.toUInt32 >>> ((8 : Int32) &&& 31).toUInt32).toInt32) &&& (255 : Int32)) % (5 : Int32)))]))
  refine Goes.step (fun t k => XS.istore X2.here hx rfl (hb hby at_47) rfl (l' := #[.val (.int p0), .val (.int p1), .val (.int p2), .val (.ref r1_0), .val (.ref r2_0), .val (.int y5), .val (.int y7), .val (.int ((((p2.toUInt32 >>> ((8 : Int32) &&& 31).toUInt32).toInt32) &&& (255 : Int32)) % (5 : Int32))), .unset, .unset, .unset, .unset, .unset]) rfl k) ?_
  show Goes _ _ _ _ _ _ _ (T2.setTop (mkF m 49 #[.val (.int p0), .val (.int p1), .val (.int p2), .val (.ref r1_0), .val (.ref r2_0), .val (.int y5), .val (.int y7), .val (.int ((((p2.toUInt32 >>> ((8 : Int32) &&& 31).toUInt32).toInt32) &&& (255 : Int32)) % (5 : Int32))), .unset, .unset, .unset, .unset, .unset] []))
  generalize hy9 : ((((p2.toUInt32 >>> ((8 : Int32) &&& 31).toUInt32).toInt32) &&& (255 : Int32)) % (5 : Int32)) = y9
  refine Goes.step (fun t k => XS.iloadN X2.here hx rfl (hb hby at_49) rfl k) ?_
  show Goes _ _ _ _ _ _ _ (T2.setTop (mkF m 50 #[.val (.int p0), .val (.int p1), .val (.int p2), .val (.ref r1_0), .val (.ref r2_0), .val (.int y5), .val (.int y7), .val (.int y9), .unset, .unset, .unset, .unset, .unset] [(.int p2)]))
  refine Goes.step (fun t k => XS.sipush X2.here hx rfl (hb hby at_50) k) ?_
  show Goes _ _ _ _ _ _ _ (T2.setTop (mkF m 53 #[.val (.int p0), .val (.int p1), .val (.int p2), .val (.ref r1_0), .val (.ref r2_0), .val (.int y5), .val (.int y7), .val (.int y9), .unset, .unset, .unset, .unset, .unset] [(.int (255 : Int32)), (.int p2)]))
  refine Goes.step (fun t k => XS.iand X2.here hx rfl (hb hby at_53) rfl k) ?_
  show Goes _ _ _ _ _ _ _ (T2.setTop (mkF m 54 #[.val (.int p0), .val (.int p1), .val (.int p2), .val (.ref r1_0), .val (.ref r2_0), .val (.int y5), .val (.int y7), .val (.int y9), .unset, .unset, .unset, .unset, .unset] [(.int (p2 &&& (255 : Int32)))]))
  refine Goes.step (fun t k => XS.iconst X2.here hx rfl (hb hby at_54) k) ?_
  show Goes _ _ _ _ _ _ _ (T2.setTop (mkF m 55 #[.val (.int p0), .val (.int p1), .val (.int p2), .val (.ref r1_0), .val (.ref r2_0), .val (.int y5), .val (.int y7), .val (.int y9), .unset, .unset, .unset, .unset, .unset] [(.int (5 : Int32)), (.int (p2 &&& (255 : Int32)))]))
  refine Goes.step (fun t k => XS.iload X2.here hx rfl (hb hby at_55) rfl k) ?_
  show Goes _ _ _ _ _ _ _ (T2.setTop (mkF m 57 #[.val (.int p0), .val (.int p1), .val (.int p2), .val (.ref r1_0), .val (.ref r2_0), .val (.int y5), .val (.int y7), .val (.int y9), .unset, .unset, .unset, .unset, .unset] [(.int y9), (.int (5 : Int32)), (.int (p2 &&& (255 : Int32)))]))
  refine Goes.step (fun t k => XS.isub X2.here hx rfl (hb hby at_57) rfl k) ?_
  show Goes _ _ _ _ _ _ _ (T2.setTop (mkF m 58 #[.val (.int p0), .val (.int p1), .val (.int p2), .val (.ref r1_0), .val (.ref r2_0), .val (.int y5), .val (.int y7), .val (.int y9), .unset, .unset, .unset, .unset, .unset] [(.int ((5 : Int32) - y9)), (.int (p2 &&& (255 : Int32)))]))
  have hnz10 : ¬ (((5 : Int32) - y9) = (0 : Int32)) := by exact (own_nz58 p2 y9 hy9)
  refine Goes.step (fun t k => iremM X2 hx rfl (hb hby at_58) rfl hnz10 k) ?_
  show Goes _ _ _ _ _ _ _ (T2.setTop (mkF m 59 #[.val (.int p0), .val (.int p1), .val (.int p2), .val (.ref r1_0), .val (.ref r2_0), .val (.int y5), .val (.int y7), .val (.int y9), .unset, .unset, .unset, .unset, .unset] [(.int ((p2 &&& (255 : Int32)) % ((5 : Int32) - y9)))]))
  refine Goes.step (fun t k => XS.istore X2.here hx rfl (hb hby at_59) rfl (l' := #[.val (.int p0), .val (.int p1), .val (.int p2), .val (.ref r1_0), .val (.ref r2_0), .val (.int y5), .val (.int y7), .val (.int y9), .val (.int ((p2 &&& (255 : Int32)) % ((5 : Int32) - y9))), .unset, .unset, .unset, .unset]) rfl k) ?_
  show Goes _ _ _ _ _ _ _ (T2.setTop (mkF m 61 #[.val (.int p0), .val (.int p1), .val (.int p2), .val (.ref r1_0), .val (.ref r2_0), .val (.int y5), .val (.int y7), .val (.int y9), .val (.int ((p2 &&& (255 : Int32)) % ((5 : Int32) - y9))), .unset, .unset, .unset, .unset] []))
  generalize hy11 : ((p2 &&& (255 : Int32)) % ((5 : Int32) - y9)) = y11
  obtain ⟨T12, h12, X12, e12, E12, A12, D12, -, st12⟩ := newO X2 hx hZ hown (hw _ (List.mem_of_getElem? (i := 5) rfl)) (hw _ (List.mem_of_getElem? (i := 6) rfl)) (hw _ (List.mem_of_getElem? (i := 7) rfl)) e2 (g := (mkF m 61 #[.val (.int p0), .val (.int p1), .val (.int p2), .val (.ref r1_0), .val (.ref r2_0), .val (.int y5), .val (.int y7), .val (.int y9), .val (.int y11), .unset, .unset, .unset, .unset] [])) rfl (hb hby at_61) (by decide) (by decide)
  obtain ⟨b12, g12⟩ : ∃ z, z = h2.size := ⟨_, rfl⟩
  rw [← g12] at A12 D12 st12
  have ne_r1_0_b12 : r1_0 ≠ b12 := Nat.ne_of_lt (Nat.lt_of_lt_of_le F3.lt (Nat.le_of_eq g12.symm))
  have ne_r2_0_b12 : r2_0 ≠ b12 := Nat.ne_of_lt (Nat.lt_of_lt_of_le G2_0.lt (Nat.le_of_eq g12.symm))
  have Zs12 : n0 ≤ b12 := Nat.le_trans Z2 (Nat.le_of_eq g12.symm)
  have Zh12 : h0.size ≤ b12 := Nat.le_trans K2.1 (Nat.le_of_eq g12.symm)
  have F13 := F3.ext E12
  have F14 := G2_0.ext E12
  have K12 := K2.ext E12
  have Z12 := Nat.le_trans Z2 E12.1
  have F15 : Fld Z h12 b12 "com/example/crisp_monitor/crispmonitor/io/AsciiView" "bytes" "[B" .null := D12 (Or.inl (hw _ (List.mem_of_getElem? (i := 15) rfl))) (ty := (.array .byte)) (by decide)
  have F16 : Fld Z h12 b12 "com/example/crisp_monitor/crispmonitor/io/AsciiView" "start" "I" (.int (0 : Int32)) := D12 (Or.inl (hw _ (List.mem_of_getElem? (i := 22) rfl))) (ty := .int) (by decide)
  have F17 : Fld Z h12 b12 "com/example/crisp_monitor/crispmonitor/io/AsciiView" "length" "I" (.int (0 : Int32)) := D12 (Or.inl (hw _ (List.mem_of_getElem? (i := 24) rfl))) (ty := .int) (by decide)
  refine Goes.step (fun t k => st12 t k) ?_
  show Goes _ _ _ _ _ _ _ (T12.setTop (mkF m 64 #[.val (.int p0), .val (.int p1), .val (.int p2), .val (.ref r1_0), .val (.ref r2_0), .val (.int y5), .val (.int y7), .val (.int y9), .val (.int y11), .unset, .unset, .unset, .unset] [(.ref b12)]))
  refine Goes.step (fun t k => XS.dup X12.here hx rfl (hb hby at_64) rfl rfl k) ?_
  show Goes _ _ _ _ _ _ _ (T12.setTop (mkF m 65 #[.val (.int p0), .val (.int p1), .val (.int p2), .val (.ref r1_0), .val (.ref r2_0), .val (.int y5), .val (.int y7), .val (.int y9), .val (.int y11), .unset, .unset, .unset, .unset] [(.ref b12), (.ref b12)]))
  obtain ⟨_, _, ⟨T18, L18, k18, n18⟩, -, X18, ⟨Lc18, hQ18, l18, y18, z18⟩, st18⟩ := X12.specialBack hx (y := (⟨"com/example/crisp_monitor/crispmonitor/io/AsciiView", "<init>", "()V"⟩ : MethodName)) rfl hown (mvT hZ (hw _ (List.mem_of_getElem? (i := 8) rfl))) (mvT hZ (hw _ (List.mem_of_getElem? (i := 9) rfl))) (mvT hZ (hw _ (List.mem_of_getElem? (i := 10) rfl))) (by decide) (backOf (W := 1) (rm2 l Z tA hw [] b12 h12 n0 Z12 A12 F15 F16 F17 Zs12) hZ (hw _ (List.mem_of_getElem? (i := 10) rfl)) (hw _ (List.mem_of_getElem? (i := 7) rfl)) (by decide) (by decide)) (g := (mkF m 65 #[.val (.int p0), .val (.int p1), .val (.int p2), .val (.ref r1_0), .val (.ref r2_0), .val (.int y5), .val (.int y7), .val (.int y9), .val (.int y11), .unset, .unset, .unset, .unset] [(.ref b12), (.ref b12)])) rfl (by rw [hml]; rfl) (Steps.refl _) (a := b12) (argsL := []) (rest := [(.ref b12)]) (lenOf own_pd2 rfl) rfl (by show 2 * 0 + _ ≤ _; exact Nat.le_of_eq rfl) (hb hby at_65) (fun _ _ => ⟨rfl, e12, (by decide : 3 + 1 ≤ _), (by decide : 11 + 0 ≤ _)⟩)
  dsimp only [Pt.U, Pt.locs, Pt.cells, Pt.slots] at X18 l18 y18 z18 st18 hQ18
  subst l18 y18 z18
  generalize e18 : T18.heap = h18 at hQ18
  obtain ⟨r18_0, rfl, Nq18, Kq18, Zf18_r18_0, G18_0, G18_1, G18_2, G18_3⟩ := hQ18
  have ne_r1_0_r18_0 : r1_0 ≠ r18_0 := Nat.ne_of_lt (Nat.lt_of_lt_of_le F13.lt Zf18_r18_0)
  have ne_r2_0_r18_0 : r2_0 ≠ r18_0 := Nat.ne_of_lt (Nat.lt_of_lt_of_le F14.lt Zf18_r18_0)
  have ne_b12_r18_0 : b12 ≠ r18_0 := Nat.ne_of_lt (Nat.lt_of_lt_of_le A12.lt Zf18_r18_0)
  have Zs18_r18_0 := Nat.le_trans Z12 Zf18_r18_0
  have Zh18_r18_0 := Nat.le_trans K12.1 Zf18_r18_0
  have F19 := F13.keep Kq18 (ninS ne_r1_0_b12 nin0)
  have F20 := F14.keep Kq18 (ninS ne_r2_0_b12 nin0)
  have N18 := Fr.app N2 Nq18
  have K18 := K12.trans Kq18 (allS (Or.inr Zh12) all0)
  have Z18 := Nat.le_trans Z12 Kq18.1
  change Stand _ _ _ _ _ _ _ _ _ _ _ _ 4 11 at X18
  refine Goes.step (fun t k => st18.trans k) ?_
  show Goes _ _ _ _ _ _ _ (T18.setTop (mkF m 68 #[.val (.int p0), .val (.int p1), .val (.int p2), .val (.ref r1_0), .val (.ref r2_0), .val (.int y5), .val (.int y7), .val (.int y9), .val (.int y11), .unset, .unset, .unset, .unset] [(.ref b12)]))
  refine Goes.step (fun t k => XS.astore X18.here hx rfl (hb hby at_68) rfl rfl (l' := #[.val (.int p0), .val (.int p1), .val (.int p2), .val (.ref r1_0), .val (.ref r2_0), .val (.int y5), .val (.int y7), .val (.int y9), .val (.int y11), .val (.ref b12), .unset, .unset, .unset]) rfl k) ?_
  show Goes _ _ _ _ _ _ _ (T18.setTop (mkF m 70 #[.val (.int p0), .val (.int p1), .val (.int p2), .val (.ref r1_0), .val (.ref r2_0), .val (.int y5), .val (.int y7), .val (.int y9), .val (.int y11), .val (.ref b12), .unset, .unset, .unset] []))
  refine Goes.step (fun t k => XS.aload X18.here hx rfl (hb hby at_70) rfl rfl k) ?_
  show Goes _ _ _ _ _ _ _ (T18.setTop (mkF m 72 #[.val (.int p0), .val (.int p1), .val (.int p2), .val (.ref r1_0), .val (.ref r2_0), .val (.int y5), .val (.int y7), .val (.int y9), .val (.int y11), .val (.ref b12), .unset, .unset, .unset] [(.ref b12)]))
  refine Goes.step (fun t k => XS.aloadN X18.here hx rfl (hb hby at_72) rfl rfl k) ?_
  show Goes _ _ _ _ _ _ _ (T18.setTop (mkF m 73 #[.val (.int p0), .val (.int p1), .val (.int p2), .val (.ref r1_0), .val (.ref r2_0), .val (.int y5), .val (.int y7), .val (.int y9), .val (.int y11), .val (.ref b12), .unset, .unset, .unset] [(.ref r1_0), (.ref b12)]))
  refine Goes.step (fun t k => XS.iload X18.here hx rfl (hb hby at_73) rfl k) ?_
  show Goes _ _ _ _ _ _ _ (T18.setTop (mkF m 75 #[.val (.int p0), .val (.int p1), .val (.int p2), .val (.ref r1_0), .val (.ref r2_0), .val (.int y5), .val (.int y7), .val (.int y9), .val (.int y11), .val (.ref b12), .unset, .unset, .unset] [(.int y5), (.ref r1_0), (.ref b12)]))
  refine Goes.step (fun t k => XS.iload X18.here hx rfl (hb hby at_75) rfl k) ?_
  show Goes _ _ _ _ _ _ _ (T18.setTop (mkF m 77 #[.val (.int p0), .val (.int p1), .val (.int p2), .val (.ref r1_0), .val (.ref r2_0), .val (.int y5), .val (.int y7), .val (.int y9), .val (.int y11), .val (.ref b12), .unset, .unset, .unset] [(.int y7), (.int y5), (.ref r1_0), (.ref b12)]))
  obtain ⟨cq21, kq21, q21a, q21b, q21c⟩ := isOf hZ e18 G18_0
  obtain ⟨_, _, ⟨T21, L21, k21, n21⟩, -, X21, ⟨Lc21, hQ21, l21, y21, z21⟩, st21⟩ := X18.virtualBack hx (y := (⟨"com/example/crisp_monitor/crispmonitor/io/AsciiView", "of", "([BII)Lcom/example/crisp_monitor/crispmonitor/io/AsciiView;"⟩ : MethodName)) (z := (⟨"com/example/crisp_monitor/crispmonitor/io/AsciiView", "of", "([BII)Lcom/example/crisp_monitor/crispmonitor/io/AsciiView;"⟩ : MethodName)) hown (mvT hZ (hw _ (List.mem_of_getElem? (i := 16) rfl))) (mvT hZ (hw _ (List.mem_of_getElem? (i := 17) rfl))) (notFace_of_selects (args := #[]) (mvT hZ (hw _ (List.mem_of_getElem? (i := 19) rfl)))) (mvT hZ (hw _ (List.mem_of_getElem? (i := 19) rfl))) (mvT hZ (hw _ (List.mem_of_getElem? (i := 18) rfl))) (by decide) (backOf (W := 0) (rm4 l Z tA hw [] b12 r1_0 y5 y7 r18_0 (0 : Int32) (0 : Int32) h18 n0 Z18 G18_0 G18_1 G18_2 G18_3 Zs12) hZ (hw _ (List.mem_of_getElem? (i := 20) rfl)) (hw _ (List.mem_of_getElem? (i := 7) rfl)) (by decide) (by decide)) q21a q21c (g := (mkF m 77 #[.val (.int p0), .val (.int p1), .val (.int p2), .val (.ref r1_0), .val (.ref r2_0), .val (.int y5), .val (.int y7), .val (.int y9), .val (.int y11), .val (.ref b12), .unset, .unset, .unset] [(.int y7), (.int y5), (.ref r1_0), (.ref b12)])) rfl (by rw [hml]; rfl) (Steps.refl _) (argsL := [(.ref r1_0), (.int y5), (.int y7)]) (rest := []) (lenOf own_pd3 rfl) rfl (by show 2 * 0 + _ ≤ _; exact Nat.le_of_eq rfl) (hb hby at_77) (fun _ _ => ⟨rfl, e18, (by decide : 4 + 0 ≤ _), (by decide : 11 + 0 ≤ _)⟩)
  dsimp only [Pt.U, Pt.locs, Pt.cells, Pt.slots] at X21 l21 y21 z21 st21 hQ21
  subst l21 y21 z21
  generalize e21 : T21.heap = h21 at hQ21
  obtain ⟨rfl, Nq21, Kq21, G21_0, G21_1, G21_2, G21_3⟩ := hQ21
  have F22 := F19.keep Kq21 (ninS ne_r1_0_b12 nin0)
  have F23 := F20.keep Kq21 (ninS ne_r2_0_b12 nin0)
  have N21 := Fr.app N18 Nq21
  have K21 := K18.trans Kq21 (allS (Or.inr Zh12) all0)
  have Z21 := Nat.le_trans Z18 Kq21.1
  change Stand _ _ _ _ _ _ _ _ _ _ _ _ 4 11 at X21
  refine Goes.step (fun t k => st21.trans k) ?_
  show Goes _ _ _ _ _ _ _ (T21.setTop (mkF m 80 #[.val (.int p0), .val (.int p1), .val (.int p2), .val (.ref r1_0), .val (.ref r2_0), .val (.int y5), .val (.int y7), .val (.int y9), .val (.int y11), .val (.ref b12), .unset, .unset, .unset] [(.ref b12)]))
  refine Goes.step (fun t k => XS.astore X21.here hx rfl (hb hby at_80) rfl rfl (l' := #[.val (.int p0), .val (.int p1), .val (.int p2), .val (.ref r1_0), .val (.ref r2_0), .val (.int y5), .val (.int y7), .val (.int y9), .val (.int y11), .val (.ref b12), .val (.ref b12), .unset, .unset]) rfl k) ?_
  show Goes _ _ _ _ _ _ _ (T21.setTop (mkF m 82 #[.val (.int p0), .val (.int p1), .val (.int p2), .val (.ref r1_0), .val (.ref r2_0), .val (.int y5), .val (.int y7), .val (.int y9), .val (.int y11), .val (.ref b12), .val (.ref b12), .unset, .unset] []))
  refine Goes.step (fun t k => XS.aload X21.here hx rfl (hb hby at_82) rfl rfl k) ?_
  show Goes _ _ _ _ _ _ _ (T21.setTop (mkF m 84 #[.val (.int p0), .val (.int p1), .val (.int p2), .val (.ref r1_0), .val (.ref r2_0), .val (.int y5), .val (.int y7), .val (.int y9), .val (.int y11), .val (.ref b12), .val (.ref b12), .unset, .unset] [(.ref b12)]))
  refine Goes.step (fun t k => XS.aload X21.here hx rfl (hb hby at_84) rfl rfl k) ?_
  show Goes _ _ _ _ _ _ _ (T21.setTop (mkF m 86 #[.val (.int p0), .val (.int p1), .val (.int p2), .val (.ref r1_0), .val (.ref r2_0), .val (.int y5), .val (.int y7), .val (.int y9), .val (.int y11), .val (.ref b12), .val (.ref b12), .unset, .unset] [(.ref b12), (.ref b12)]))
  refine Goes.step (fun t k => Jvm.RoadKit.acmp (g := (mkF m 86 #[.val (.int p0), .val (.int p1), .val (.int p2), .val (.ref r1_0), .val (.ref r2_0), .val (.int y5), .val (.int y7), .val (.int y9), .val (.int y11), .val (.ref b12), .val (.ref b12), .unset, .unset] [(.ref b12), (.ref b12)])) X21 hx rfl rfl rfl (pc0 := 86) (pc' := 89) (same := true) rfl (hb hby at_86) rfl (decide_eq_true (congrArg Value.ref rfl)) (by decide) (by decide) k) ?_
  show Goes _ _ _ _ _ _ _ (T21.setTop (mkF m 89 #[.val (.int p0), .val (.int p1), .val (.int p2), .val (.ref r1_0), .val (.ref r2_0), .val (.int y5), .val (.int y7), .val (.int y9), .val (.int y11), .val (.ref b12), .val (.ref b12), .unset, .unset] []))
  refine Goes.step (fun t k => XS.aload X21.here hx rfl (hb hby at_89) rfl rfl k) ?_
  show Goes _ _ _ _ _ _ _ (T21.setTop (mkF m 91 #[.val (.int p0), .val (.int p1), .val (.int p2), .val (.ref r1_0), .val (.ref r2_0), .val (.int y5), .val (.int y7), .val (.int y9), .val (.int y11), .val (.ref b12), .val (.ref b12), .unset, .unset] [(.ref b12)]))
  obtain ⟨cq25, kq25, q25a, q25b, q25c⟩ := isOf hZ e21 G21_0
  obtain ⟨_, _, ⟨T25, L25, k25, n25⟩, -, X25, ⟨Lc25, hQ25, l25, y25, z25⟩, st25⟩ := X21.virtualBack hx (y := (⟨"com/example/crisp_monitor/crispmonitor/io/AsciiView", "length", "()I"⟩ : MethodName)) (z := (⟨"com/example/crisp_monitor/crispmonitor/io/AsciiView", "length", "()I"⟩ : MethodName)) hown (mvT hZ (hw _ (List.mem_of_getElem? (i := 25) rfl))) (mvT hZ (hw _ (List.mem_of_getElem? (i := 26) rfl))) (notFace_of_selects (args := #[]) (mvT hZ (hw _ (List.mem_of_getElem? (i := 28) rfl)))) (mvT hZ (hw _ (List.mem_of_getElem? (i := 28) rfl))) (mvT hZ (hw _ (List.mem_of_getElem? (i := 27) rfl))) (by decide) (backOf (W := 0) (rm5 l Z tA hw [] b12 y7 h21 G21_3) hZ (hw _ (List.mem_of_getElem? (i := 29) rfl)) (hw _ (List.mem_of_getElem? (i := 7) rfl)) (by decide) (by decide)) q25a q25c (g := (mkF m 91 #[.val (.int p0), .val (.int p1), .val (.int p2), .val (.ref r1_0), .val (.ref r2_0), .val (.int y5), .val (.int y7), .val (.int y9), .val (.int y11), .val (.ref b12), .val (.ref b12), .unset, .unset] [(.ref b12)])) rfl (by rw [hml]; rfl) (Steps.refl _) (argsL := []) (rest := []) (lenOf own_pd4 rfl) rfl (by show 2 * 0 + _ ≤ _; exact Nat.le_of_eq rfl) (hb hby at_91) (fun _ _ => ⟨rfl, e21, (by decide : 4 + 0 ≤ _), (by decide : 11 + 0 ≤ _)⟩)
  dsimp only [Pt.U, Pt.locs, Pt.cells, Pt.slots] at X25 l25 y25 z25 st25 hQ25
  subst l25 y25 z25
  obtain ⟨rfl, rfl, e25⟩ := hQ25
  try rw [List.append_nil] at X25
  change Stand _ _ _ _ _ _ _ _ _ _ _ _ 4 11 at X25
  refine Goes.step (fun t k => st25.trans k) ?_
  show Goes _ _ _ _ _ _ _ (T25.setTop (mkF m 94 #[.val (.int p0), .val (.int p1), .val (.int p2), .val (.ref r1_0), .val (.ref r2_0), .val (.int y5), .val (.int y7), .val (.int y9), .val (.int y11), .val (.ref b12), .val (.ref b12), .unset, .unset] [(.int (f5 y7))]))
  refine Goes.step (fun t k => XS.iload X25.here hx rfl (hb hby at_94) rfl k) ?_
  show Goes _ _ _ _ _ _ _ (T25.setTop (mkF m 96 #[.val (.int p0), .val (.int p1), .val (.int p2), .val (.ref r1_0), .val (.ref r2_0), .val (.int y5), .val (.int y7), .val (.int y9), .val (.int y11), .val (.ref b12), .val (.ref b12), .unset, .unset] [(.int y7), (.int (f5 y7))]))
  suffices k30 : ∀ (T30 : State) (L30 : List Loc) (x30_0 : Int32), Stand p l e room_1 s m #[(.int p0), (.int p1), (.int p2)] below meth c T30 L30 4 11 → T30.heap = h21 → Fr n0 L30 → x30_0 = (if (f5 y7) = y7 then (if (f6 p0 y5 y7 (0 : Int32) (((p0 &&& (127 : Int32)).toInt8.toInt32).toInt8.toInt32) (((((p0.toUInt32 >>> ((8 : Int32) &&& 31).toUInt32).toInt32) &&& (127 : Int32)).toInt8.toInt32).toInt8.toInt32) (((((p0.toUInt32 >>> ((16 : Int32) &&& 31).toUInt32).toInt32) &&& (127 : Int32)).toInt8.toInt32).toInt8.toInt32) (((((p0.toUInt32 >>> ((24 : Int32) &&& 31).toUInt32).toInt32) &&& (127 : Int32)).toInt8.toInt32).toInt8.toInt32)) = (0 : Int32) then (0 : Int32) else (1 : Int32)) else (0 : Int32)) → Goes p e below s (Q0 Z p0 p1 p2 h0 n0) kC0 kS0 (T30.setTop (mkF m 118 #[.val (.int p0), .val (.int p1), .val (.int p2), .val (.ref r1_0), .val (.ref r2_0), .val (.int y5), .val (.int y7), .val (.int y9), .val (.int y11), .val (.ref b12), .val (.ref b12), .unset, .unset] [(.int x30_0)])) by
    by_cases hc96_26 : (f5 y7) = y7
    · refine Goes.step (fun t k => XS.icmpNo X25.here hx rfl (hb hby at_96) rfl (teq hc96_26).2 k) ?_
      show Goes _ _ _ _ _ _ _ (T25.setTop (mkF m 99 #[.val (.int p0), .val (.int p1), .val (.int p2), .val (.ref r1_0), .val (.ref r2_0), .val (.int y5), .val (.int y7), .val (.int y9), .val (.int y11), .val (.ref b12), .val (.ref b12), .unset, .unset] []))
      refine Goes.step (fun t k => XS.aload X25.here hx rfl (hb hby at_99) rfl rfl k) ?_
      show Goes _ _ _ _ _ _ _ (T25.setTop (mkF m 101 #[.val (.int p0), .val (.int p1), .val (.int p2), .val (.ref r1_0), .val (.ref r2_0), .val (.int y5), .val (.int y7), .val (.int y9), .val (.int y11), .val (.ref b12), .val (.ref b12), .unset, .unset] [(.ref b12)]))
      refine Goes.step (fun t k => XS.iloadN X25.here hx rfl (hb hby at_101) rfl k) ?_
      show Goes _ _ _ _ _ _ _ (T25.setTop (mkF m 102 #[.val (.int p0), .val (.int p1), .val (.int p2), .val (.ref r1_0), .val (.ref r2_0), .val (.int y5), .val (.int y7), .val (.int y9), .val (.int y11), .val (.ref b12), .val (.ref b12), .unset, .unset] [(.int p0), (.ref b12)]))
      refine Goes.step (fun t k => XS.iload X25.here hx rfl (hb hby at_102) rfl k) ?_
      show Goes _ _ _ _ _ _ _ (T25.setTop (mkF m 104 #[.val (.int p0), .val (.int p1), .val (.int p2), .val (.ref r1_0), .val (.ref r2_0), .val (.int y5), .val (.int y7), .val (.int y9), .val (.int y11), .val (.ref b12), .val (.ref b12), .unset, .unset] [(.int y5), (.int p0), (.ref b12)]))
      refine Goes.step (fun t k => XS.iload X25.here hx rfl (hb hby at_104) rfl k) ?_
      show Goes _ _ _ _ _ _ _ (T25.setTop (mkF m 106 #[.val (.int p0), .val (.int p1), .val (.int p2), .val (.ref r1_0), .val (.ref r2_0), .val (.int y5), .val (.int y7), .val (.int y9), .val (.int y11), .val (.ref b12), .val (.ref b12), .unset, .unset] [(.int y7), (.int y5), (.int p0), (.ref b12)]))
      refine Goes.step (fun t k => XS.iconst X25.here hx rfl (hb hby at_106) k) ?_
      show Goes _ _ _ _ _ _ _ (T25.setTop (mkF m 107 #[.val (.int p0), .val (.int p1), .val (.int p2), .val (.ref r1_0), .val (.ref r2_0), .val (.int y5), .val (.int y7), .val (.int y9), .val (.int y11), .val (.ref b12), .val (.ref b12), .unset, .unset] [(.int (0 : Int32)), (.int y7), (.int y5), (.int p0), (.ref b12)]))
      obtain ⟨_, _, ⟨T27, L27, k27, n27⟩, -, X27, ⟨Lc27, hQ27, l27, y27, z27⟩, st27⟩ := Jvm.LawKit.callS X25 hx (y := (⟨"com/example/crisp_monitor/crispmonitor/io/AsciiViewOfPinLaw", "at", "(Lcom/example/crisp_monitor/crispmonitor/io/AsciiView;IIII)Z"⟩ : MethodName)) hown (mvT hZ (hw _ (List.mem_of_getElem? (i := 30) rfl))) (mvT hZ (hw _ (List.mem_of_getElem? (i := 31) rfl))) (mvT hZ (hw _ (List.mem_of_getElem? (i := 2) rfl))) (mvT hZ (hw _ (List.mem_of_getElem? (i := 32) rfl))) (by decide) (backOf (W := 0) (rm6 l Z tA hw [] b12 p0 y5 y7 (0 : Int32) r1_0 (((p0 &&& (127 : Int32)).toInt8.toInt32).toInt8.toInt32) (((((p0.toUInt32 >>> ((8 : Int32) &&& 31).toUInt32).toInt32) &&& (127 : Int32)).toInt8.toInt32).toInt8.toInt32) (((((p0.toUInt32 >>> ((16 : Int32) &&& 31).toUInt32).toInt32) &&& (127 : Int32)).toInt8.toInt32).toInt8.toInt32) (((((p0.toUInt32 >>> ((24 : Int32) &&& 31).toUInt32).toInt32) &&& (127 : Int32)).toInt8.toInt32).toInt8.toInt32) h21 G21_0 G21_1 G21_2 G21_3 F22 (by decide) (own_rng27 p2 y5 y7 hy5 hy7).1 (own_rng27 p2 y5 y7 hy5 hy7).2) hZ (hw _ (List.mem_of_getElem? (i := 32) rfl)) (hw _ (List.mem_of_getElem? (i := 2) rfl)) (by decide) (by decide)) (g := (mkF m 107 #[.val (.int p0), .val (.int p1), .val (.int p2), .val (.ref r1_0), .val (.ref r2_0), .val (.int y5), .val (.int y7), .val (.int y9), .val (.int y11), .val (.ref b12), .val (.ref b12), .unset, .unset] [(.int (0 : Int32)), (.int y7), (.int y5), (.int p0), (.ref b12)])) rfl (by rw [hml]; rfl) (argsL := [(.ref b12), (.int p0), (.int y5), (.int y7), (.int (0 : Int32))]) (rest := []) (lenOf own_pd5 rfl) rfl (by show 2 * 0 + _ ≤ _; exact Nat.le_of_eq rfl) (hb hby at_107) (fun _ _ => ⟨rfl, e25, (by decide : 4 + 0 ≤ _), (by decide : 11 + 0 ≤ _)⟩)
      dsimp only [Pt.U, Pt.locs, Pt.cells, Pt.slots] at X27 l27 y27 z27 st27 hQ27
      subst l27 y27 z27
      obtain ⟨rfl, rfl, e27⟩ := hQ27
      try rw [List.append_nil] at X27
      change Stand _ _ _ _ _ _ _ _ _ _ _ _ 4 11 at X27
      refine Goes.step (fun t k => st27 t k) ?_
      show Goes _ _ _ _ _ _ _ (T27.setTop (mkF m 110 #[.val (.int p0), .val (.int p1), .val (.int p2), .val (.ref r1_0), .val (.ref r2_0), .val (.int y5), .val (.int y7), .val (.int y9), .val (.int y11), .val (.ref b12), .val (.ref b12), .unset, .unset] [(.int (f6 p0 y5 y7 (0 : Int32) (((p0 &&& (127 : Int32)).toInt8.toInt32).toInt8.toInt32) (((((p0.toUInt32 >>> ((8 : Int32) &&& 31).toUInt32).toInt32) &&& (127 : Int32)).toInt8.toInt32).toInt8.toInt32) (((((p0.toUInt32 >>> ((16 : Int32) &&& 31).toUInt32).toInt32) &&& (127 : Int32)).toInt8.toInt32).toInt8.toInt32) (((((p0.toUInt32 >>> ((24 : Int32) &&& 31).toUInt32).toInt32) &&& (127 : Int32)).toInt8.toInt32).toInt8.toInt32)))]))
      generalize hy28 : (f6 p0 y5 y7 (0 : Int32) (((p0 &&& (127 : Int32)).toInt8.toInt32).toInt8.toInt32) (((((p0.toUInt32 >>> ((8 : Int32) &&& 31).toUInt32).toInt32) &&& (127 : Int32)).toInt8.toInt32).toInt8.toInt32) (((((p0.toUInt32 >>> ((16 : Int32) &&& 31).toUInt32).toInt32) &&& (127 : Int32)).toInt8.toInt32).toInt8.toInt32) (((((p0.toUInt32 >>> ((24 : Int32) &&& 31).toUInt32).toInt32) &&& (127 : Int32)).toInt8.toInt32).toInt8.toInt32)) = y28
      by_cases hc110_29 : y28 = (0 : Int32)
      · refine Goes.step (fun t k => XS.ifYes X27.here hx rfl (pc0 := 110) (pc' := 117) rfl (hb hby at_110) rfl ((if0 _ _).trans (teq hc110_29).1) (by decide) (by decide) k) ?_
        show Goes _ _ _ _ _ _ _ (T27.setTop (mkF m 117 #[.val (.int p0), .val (.int p1), .val (.int p2), .val (.ref r1_0), .val (.ref r2_0), .val (.int y5), .val (.int y7), .val (.int y9), .val (.int y11), .val (.ref b12), .val (.ref b12), .unset, .unset] []))
        refine Goes.step (fun t k => XS.iconst X27.here hx rfl (hb hby at_117) k) ?_
        show Goes _ _ _ _ _ _ _ (T27.setTop (mkF m 118 #[.val (.int p0), .val (.int p1), .val (.int p2), .val (.ref r1_0), .val (.ref r2_0), .val (.int y5), .val (.int y7), .val (.int y9), .val (.int y11), .val (.ref b12), .val (.ref b12), .unset, .unset] [(.int (0 : Int32))]))
        subst hy28
        exact k30 _ _ _ X27 e27 N21 ((if_pos hc96_26).trans (if_pos hc110_29)).symm
      · refine Goes.step (fun t k => XS.ifNo X27.here hx rfl (hb hby at_110) rfl ((if0 _ _).trans (feq hc110_29).1) k) ?_
        show Goes _ _ _ _ _ _ _ (T27.setTop (mkF m 113 #[.val (.int p0), .val (.int p1), .val (.int p2), .val (.ref r1_0), .val (.ref r2_0), .val (.int y5), .val (.int y7), .val (.int y9), .val (.int y11), .val (.ref b12), .val (.ref b12), .unset, .unset] []))
        refine Goes.step (fun t k => XS.iconst X27.here hx rfl (hb hby at_113) k) ?_
        show Goes _ _ _ _ _ _ _ (T27.setTop (mkF m 114 #[.val (.int p0), .val (.int p1), .val (.int p2), .val (.ref r1_0), .val (.ref r2_0), .val (.int y5), .val (.int y7), .val (.int y9), .val (.int y11), .val (.ref b12), .val (.ref b12), .unset, .unset] [(.int (1 : Int32))]))
        refine Goes.step (fun t k => XS.goto X27.here hx rfl (pc0 := 114) (pc' := 118) rfl (hb hby at_114) (by decide) (by decide) k) ?_
        show Goes _ _ _ _ _ _ _ (T27.setTop (mkF m 118 #[.val (.int p0), .val (.int p1), .val (.int p2), .val (.ref r1_0), .val (.ref r2_0), .val (.int y5), .val (.int y7), .val (.int y9), .val (.int y11), .val (.ref b12), .val (.ref b12), .unset, .unset] [(.int (1 : Int32))]))
        subst hy28
        exact k30 _ _ _ X27 e27 N21 ((if_pos hc96_26).trans (if_neg hc110_29)).symm
    · refine Goes.step (fun t k => XS.icmpYes X25.here hx rfl (pc0 := 96) (pc' := 117) rfl (hb hby at_96) rfl (feq hc96_26).2 (by decide) (by decide) k) ?_
      show Goes _ _ _ _ _ _ _ (T25.setTop (mkF m 117 #[.val (.int p0), .val (.int p1), .val (.int p2), .val (.ref r1_0), .val (.ref r2_0), .val (.int y5), .val (.int y7), .val (.int y9), .val (.int y11), .val (.ref b12), .val (.ref b12), .unset, .unset] []))
      refine Goes.step (fun t k => XS.iconst X25.here hx rfl (hb hby at_117) k) ?_
      show Goes _ _ _ _ _ _ _ (T25.setTop (mkF m 118 #[.val (.int p0), .val (.int p1), .val (.int p2), .val (.ref r1_0), .val (.ref r2_0), .val (.int y5), .val (.int y7), .val (.int y9), .val (.int y11), .val (.ref b12), .val (.ref b12), .unset, .unset] [(.int (0 : Int32))]))
      exact k30 _ _ _ X25 e25 N21 (if_neg hc96_26).symm
  intro T30 L30 x30_0 X30 e30 N30 hx30_0
  refine Goes.step (fun t k => XS.istore X30.here hx rfl (hb hby at_118) rfl (l' := #[.val (.int p0), .val (.int p1), .val (.int p2), .val (.ref r1_0), .val (.ref r2_0), .val (.int y5), .val (.int y7), .val (.int y9), .val (.int y11), .val (.ref b12), .val (.ref b12), .val (.int x30_0), .unset]) rfl k) ?_
  show Goes _ _ _ _ _ _ _ (T30.setTop (mkF m 120 #[.val (.int p0), .val (.int p1), .val (.int p2), .val (.ref r1_0), .val (.ref r2_0), .val (.int y5), .val (.int y7), .val (.int y9), .val (.int y11), .val (.ref b12), .val (.ref b12), .val (.int x30_0), .unset] []))
  refine Goes.step (fun t k => XS.aload X30.here hx rfl (hb hby at_120) rfl rfl k) ?_
  show Goes _ _ _ _ _ _ _ (T30.setTop (mkF m 122 #[.val (.int p0), .val (.int p1), .val (.int p2), .val (.ref r1_0), .val (.ref r2_0), .val (.int y5), .val (.int y7), .val (.int y9), .val (.int y11), .val (.ref b12), .val (.ref b12), .val (.int x30_0), .unset] [(.ref b12)]))
  refine Goes.step (fun t k => XS.aload X30.here hx rfl (hb hby at_122) rfl rfl k) ?_
  show Goes _ _ _ _ _ _ _ (T30.setTop (mkF m 124 #[.val (.int p0), .val (.int p1), .val (.int p2), .val (.ref r1_0), .val (.ref r2_0), .val (.int y5), .val (.int y7), .val (.int y9), .val (.int y11), .val (.ref b12), .val (.ref b12), .val (.int x30_0), .unset] [(.ref r2_0), (.ref b12)]))
  refine Goes.step (fun t k => XS.iload X30.here hx rfl (hb hby at_124) rfl k) ?_
  show Goes _ _ _ _ _ _ _ (T30.setTop (mkF m 126 #[.val (.int p0), .val (.int p1), .val (.int p2), .val (.ref r1_0), .val (.ref r2_0), .val (.int y5), .val (.int y7), .val (.int y9), .val (.int y11), .val (.ref b12), .val (.ref b12), .val (.int x30_0), .unset] [(.int y9), (.ref r2_0), (.ref b12)]))
  refine Goes.step (fun t k => XS.iload X30.here hx rfl (hb hby at_126) rfl k) ?_
  show Goes _ _ _ _ _ _ _ (T30.setTop (mkF m 128 #[.val (.int p0), .val (.int p1), .val (.int p2), .val (.ref r1_0), .val (.ref r2_0), .val (.int y5), .val (.int y7), .val (.int y9), .val (.int y11), .val (.ref b12), .val (.ref b12), .val (.int x30_0), .unset] [(.int y11), (.int y9), (.ref r2_0), (.ref b12)]))
  obtain ⟨cq31, kq31, q31a, q31b, q31c⟩ := isOf hZ e30 G21_0
  obtain ⟨_, _, ⟨T31, L31, k31, n31⟩, -, X31, ⟨Lc31, hQ31, l31, y31, z31⟩, st31⟩ := X30.virtualBack hx (y := (⟨"com/example/crisp_monitor/crispmonitor/io/AsciiView", "of", "([BII)Lcom/example/crisp_monitor/crispmonitor/io/AsciiView;"⟩ : MethodName)) (z := (⟨"com/example/crisp_monitor/crispmonitor/io/AsciiView", "of", "([BII)Lcom/example/crisp_monitor/crispmonitor/io/AsciiView;"⟩ : MethodName)) hown (mvT hZ (hw _ (List.mem_of_getElem? (i := 16) rfl))) (mvT hZ (hw _ (List.mem_of_getElem? (i := 17) rfl))) (notFace_of_selects (args := #[]) (mvT hZ (hw _ (List.mem_of_getElem? (i := 19) rfl)))) (mvT hZ (hw _ (List.mem_of_getElem? (i := 19) rfl))) (mvT hZ (hw _ (List.mem_of_getElem? (i := 18) rfl))) (by decide) (backOf (W := 0) (rm4 l Z tA hw [] b12 r2_0 y9 y11 r1_0 y5 y7 h21 n0 Z21 G21_0 G21_1 G21_2 G21_3 Zs12) hZ (hw _ (List.mem_of_getElem? (i := 20) rfl)) (hw _ (List.mem_of_getElem? (i := 7) rfl)) (by decide) (by decide)) q31a q31c (g := (mkF m 128 #[.val (.int p0), .val (.int p1), .val (.int p2), .val (.ref r1_0), .val (.ref r2_0), .val (.int y5), .val (.int y7), .val (.int y9), .val (.int y11), .val (.ref b12), .val (.ref b12), .val (.int x30_0), .unset] [(.int y11), (.int y9), (.ref r2_0), (.ref b12)])) rfl (by rw [hml]; rfl) (Steps.refl _) (argsL := [(.ref r2_0), (.int y9), (.int y11)]) (rest := []) (lenOf own_pd3 rfl) rfl (by show 2 * 0 + _ ≤ _; exact Nat.le_of_eq rfl) (hb hby at_128) (fun _ _ => ⟨rfl, e30, (by decide : 4 + 0 ≤ _), (by decide : 11 + 0 ≤ _)⟩)
  dsimp only [Pt.U, Pt.locs, Pt.cells, Pt.slots] at X31 l31 y31 z31 st31 hQ31
  subst l31 y31 z31
  generalize e31 : T31.heap = h31 at hQ31
  obtain ⟨rfl, Nq31, Kq31, G31_0, G31_1, G31_2, G31_3⟩ := hQ31
  have F32 := F22.keep Kq31 (ninS ne_r1_0_b12 nin0)
  have F33 := F23.keep Kq31 (ninS ne_r2_0_b12 nin0)
  have N31 := Fr.app N30 Nq31
  have K31 := K21.trans Kq31 (allS (Or.inr Zh12) all0)
  have Z31 := Nat.le_trans Z21 Kq31.1
  change Stand _ _ _ _ _ _ _ _ _ _ _ _ 4 11 at X31
  refine Goes.step (fun t k => st31.trans k) ?_
  show Goes _ _ _ _ _ _ _ (T31.setTop (mkF m 131 #[.val (.int p0), .val (.int p1), .val (.int p2), .val (.ref r1_0), .val (.ref r2_0), .val (.int y5), .val (.int y7), .val (.int y9), .val (.int y11), .val (.ref b12), .val (.ref b12), .val (.int x30_0), .unset] [(.ref b12)]))
  refine Goes.step (fun t k => XS.astore X31.here hx rfl (hb hby at_131) rfl rfl (l' := #[.val (.int p0), .val (.int p1), .val (.int p2), .val (.ref r1_0), .val (.ref r2_0), .val (.int y5), .val (.int y7), .val (.int y9), .val (.int y11), .val (.ref b12), .val (.ref b12), .val (.int x30_0), .val (.ref b12)]) rfl k) ?_
  show Goes _ _ _ _ _ _ _ (T31.setTop (mkF m 133 #[.val (.int p0), .val (.int p1), .val (.int p2), .val (.ref r1_0), .val (.ref r2_0), .val (.int y5), .val (.int y7), .val (.int y9), .val (.int y11), .val (.ref b12), .val (.ref b12), .val (.int x30_0), .val (.ref b12)] []))
  refine Goes.step (fun t k => XS.iload X31.here hx rfl (hb hby at_133) rfl k) ?_
  show Goes _ _ _ _ _ _ _ (T31.setTop (mkF m 135 #[.val (.int p0), .val (.int p1), .val (.int p2), .val (.ref r1_0), .val (.ref r2_0), .val (.int y5), .val (.int y7), .val (.int y9), .val (.int y11), .val (.ref b12), .val (.ref b12), .val (.int x30_0), .val (.ref b12)] [(.int x30_0)]))
  suffices k38 : ∀ (T38 : State) (L38 : List Loc) (x38_0 : Int32), Stand p l e room_1 s m #[(.int p0), (.int p1), (.int p2)] below meth c T38 L38 4 11 → T38.heap = h31 → Fr n0 L38 → x38_0 = (if x30_0 = (0 : Int32) then (0 : Int32) else (if (f5 y11) = y11 then (1 : Int32) else (0 : Int32))) → Goes p e below s (Q0 Z p0 p1 p2 h0 n0) kC0 kS0 (T38.setTop (mkF m 160 #[.val (.int p0), .val (.int p1), .val (.int p2), .val (.ref r1_0), .val (.ref r2_0), .val (.int y5), .val (.int y7), .val (.int y9), .val (.int y11), .val (.ref b12), .val (.ref b12), .val (.int x30_0), .val (.ref b12)] [(.int x38_0)])) by
    by_cases hc135_34 : x30_0 = (0 : Int32)
    · refine Goes.step (fun t k => XS.ifYes X31.here hx rfl (pc0 := 135) (pc' := 159) rfl (hb hby at_135) rfl ((if0 _ _).trans (teq hc135_34).1) (by decide) (by decide) k) ?_
      show Goes _ _ _ _ _ _ _ (T31.setTop (mkF m 159 #[.val (.int p0), .val (.int p1), .val (.int p2), .val (.ref r1_0), .val (.ref r2_0), .val (.int y5), .val (.int y7), .val (.int y9), .val (.int y11), .val (.ref b12), .val (.ref b12), .val (.int x30_0), .val (.ref b12)] []))
      refine Goes.step (fun t k => XS.iconst X31.here hx rfl (hb hby at_159) k) ?_
      show Goes _ _ _ _ _ _ _ (T31.setTop (mkF m 160 #[.val (.int p0), .val (.int p1), .val (.int p2), .val (.ref r1_0), .val (.ref r2_0), .val (.int y5), .val (.int y7), .val (.int y9), .val (.int y11), .val (.ref b12), .val (.ref b12), .val (.int x30_0), .val (.ref b12)] [(.int (0 : Int32))]))
      exact k38 _ _ _ X31 e31 N31 (if_pos hc135_34).symm
    · refine Goes.step (fun t k => XS.ifNo X31.here hx rfl (hb hby at_135) rfl ((if0 _ _).trans (feq hc135_34).1) k) ?_
      show Goes _ _ _ _ _ _ _ (T31.setTop (mkF m 138 #[.val (.int p0), .val (.int p1), .val (.int p2), .val (.ref r1_0), .val (.ref r2_0), .val (.int y5), .val (.int y7), .val (.int y9), .val (.int y11), .val (.ref b12), .val (.ref b12), .val (.int x30_0), .val (.ref b12)] []))
      refine Goes.step (fun t k => XS.aload X31.here hx rfl (hb hby at_138) rfl rfl k) ?_
      show Goes _ _ _ _ _ _ _ (T31.setTop (mkF m 140 #[.val (.int p0), .val (.int p1), .val (.int p2), .val (.ref r1_0), .val (.ref r2_0), .val (.int y5), .val (.int y7), .val (.int y9), .val (.int y11), .val (.ref b12), .val (.ref b12), .val (.int x30_0), .val (.ref b12)] [(.ref b12)]))
      refine Goes.step (fun t k => XS.aload X31.here hx rfl (hb hby at_140) rfl rfl k) ?_
      show Goes _ _ _ _ _ _ _ (T31.setTop (mkF m 142 #[.val (.int p0), .val (.int p1), .val (.int p2), .val (.ref r1_0), .val (.ref r2_0), .val (.int y5), .val (.int y7), .val (.int y9), .val (.int y11), .val (.ref b12), .val (.ref b12), .val (.int x30_0), .val (.ref b12)] [(.ref b12), (.ref b12)]))
      refine Goes.step (fun t k => Jvm.RoadKit.acmp (g := (mkF m 142 #[.val (.int p0), .val (.int p1), .val (.int p2), .val (.ref r1_0), .val (.ref r2_0), .val (.int y5), .val (.int y7), .val (.int y9), .val (.int y11), .val (.ref b12), .val (.ref b12), .val (.int x30_0), .val (.ref b12)] [(.ref b12), (.ref b12)])) X31 hx rfl rfl rfl (pc0 := 142) (pc' := 145) (same := true) rfl (hb hby at_142) rfl (decide_eq_true (congrArg Value.ref rfl)) (by decide) (by decide) k) ?_
      show Goes _ _ _ _ _ _ _ (T31.setTop (mkF m 145 #[.val (.int p0), .val (.int p1), .val (.int p2), .val (.ref r1_0), .val (.ref r2_0), .val (.int y5), .val (.int y7), .val (.int y9), .val (.int y11), .val (.ref b12), .val (.ref b12), .val (.int x30_0), .val (.ref b12)] []))
      refine Goes.step (fun t k => XS.aload X31.here hx rfl (hb hby at_145) rfl rfl k) ?_
      show Goes _ _ _ _ _ _ _ (T31.setTop (mkF m 147 #[.val (.int p0), .val (.int p1), .val (.int p2), .val (.ref r1_0), .val (.ref r2_0), .val (.int y5), .val (.int y7), .val (.int y9), .val (.int y11), .val (.ref b12), .val (.ref b12), .val (.int x30_0), .val (.ref b12)] [(.ref b12)]))
      obtain ⟨cq36, kq36, q36a, q36b, q36c⟩ := isOf hZ e31 G31_0
      obtain ⟨_, _, ⟨T36, L36, k36, n36⟩, -, X36, ⟨Lc36, hQ36, l36, y36, z36⟩, st36⟩ := X31.virtualBack hx (y := (⟨"com/example/crisp_monitor/crispmonitor/io/AsciiView", "length", "()I"⟩ : MethodName)) (z := (⟨"com/example/crisp_monitor/crispmonitor/io/AsciiView", "length", "()I"⟩ : MethodName)) hown (mvT hZ (hw _ (List.mem_of_getElem? (i := 25) rfl))) (mvT hZ (hw _ (List.mem_of_getElem? (i := 26) rfl))) (notFace_of_selects (args := #[]) (mvT hZ (hw _ (List.mem_of_getElem? (i := 28) rfl)))) (mvT hZ (hw _ (List.mem_of_getElem? (i := 28) rfl))) (mvT hZ (hw _ (List.mem_of_getElem? (i := 27) rfl))) (by decide) (backOf (W := 0) (rm5 l Z tA hw [] b12 y11 h31 G31_3) hZ (hw _ (List.mem_of_getElem? (i := 29) rfl)) (hw _ (List.mem_of_getElem? (i := 7) rfl)) (by decide) (by decide)) q36a q36c (g := (mkF m 147 #[.val (.int p0), .val (.int p1), .val (.int p2), .val (.ref r1_0), .val (.ref r2_0), .val (.int y5), .val (.int y7), .val (.int y9), .val (.int y11), .val (.ref b12), .val (.ref b12), .val (.int x30_0), .val (.ref b12)] [(.ref b12)])) rfl (by rw [hml]; rfl) (Steps.refl _) (argsL := []) (rest := []) (lenOf own_pd4 rfl) rfl (by show 2 * 0 + _ ≤ _; exact Nat.le_of_eq rfl) (hb hby at_147) (fun _ _ => ⟨rfl, e31, (by decide : 4 + 0 ≤ _), (by decide : 11 + 0 ≤ _)⟩)
      dsimp only [Pt.U, Pt.locs, Pt.cells, Pt.slots] at X36 l36 y36 z36 st36 hQ36
      subst l36 y36 z36
      obtain ⟨rfl, rfl, e36⟩ := hQ36
      try rw [List.append_nil] at X36
      change Stand _ _ _ _ _ _ _ _ _ _ _ _ 4 11 at X36
      refine Goes.step (fun t k => st36.trans k) ?_
      show Goes _ _ _ _ _ _ _ (T36.setTop (mkF m 150 #[.val (.int p0), .val (.int p1), .val (.int p2), .val (.ref r1_0), .val (.ref r2_0), .val (.int y5), .val (.int y7), .val (.int y9), .val (.int y11), .val (.ref b12), .val (.ref b12), .val (.int x30_0), .val (.ref b12)] [(.int (f5 y11))]))
      refine Goes.step (fun t k => XS.iload X36.here hx rfl (hb hby at_150) rfl k) ?_
      show Goes _ _ _ _ _ _ _ (T36.setTop (mkF m 152 #[.val (.int p0), .val (.int p1), .val (.int p2), .val (.ref r1_0), .val (.ref r2_0), .val (.int y5), .val (.int y7), .val (.int y9), .val (.int y11), .val (.ref b12), .val (.ref b12), .val (.int x30_0), .val (.ref b12)] [(.int y11), (.int (f5 y11))]))
      by_cases hc152_37 : (f5 y11) = y11
      · refine Goes.step (fun t k => XS.icmpNo X36.here hx rfl (hb hby at_152) rfl (teq hc152_37).2 k) ?_
        show Goes _ _ _ _ _ _ _ (T36.setTop (mkF m 155 #[.val (.int p0), .val (.int p1), .val (.int p2), .val (.ref r1_0), .val (.ref r2_0), .val (.int y5), .val (.int y7), .val (.int y9), .val (.int y11), .val (.ref b12), .val (.ref b12), .val (.int x30_0), .val (.ref b12)] []))
        refine Goes.step (fun t k => XS.iconst X36.here hx rfl (hb hby at_155) k) ?_
        show Goes _ _ _ _ _ _ _ (T36.setTop (mkF m 156 #[.val (.int p0), .val (.int p1), .val (.int p2), .val (.ref r1_0), .val (.ref r2_0), .val (.int y5), .val (.int y7), .val (.int y9), .val (.int y11), .val (.ref b12), .val (.ref b12), .val (.int x30_0), .val (.ref b12)] [(.int (1 : Int32))]))
        refine Goes.step (fun t k => XS.goto X36.here hx rfl (pc0 := 156) (pc' := 160) rfl (hb hby at_156) (by decide) (by decide) k) ?_
        show Goes _ _ _ _ _ _ _ (T36.setTop (mkF m 160 #[.val (.int p0), .val (.int p1), .val (.int p2), .val (.ref r1_0), .val (.ref r2_0), .val (.int y5), .val (.int y7), .val (.int y9), .val (.int y11), .val (.ref b12), .val (.ref b12), .val (.int x30_0), .val (.ref b12)] [(.int (1 : Int32))]))
        exact k38 _ _ _ X36 e36 N31 ((if_neg hc135_34).trans (if_pos hc152_37)).symm
      · refine Goes.step (fun t k => XS.icmpYes X36.here hx rfl (pc0 := 152) (pc' := 159) rfl (hb hby at_152) rfl (feq hc152_37).2 (by decide) (by decide) k) ?_
        show Goes _ _ _ _ _ _ _ (T36.setTop (mkF m 159 #[.val (.int p0), .val (.int p1), .val (.int p2), .val (.ref r1_0), .val (.ref r2_0), .val (.int y5), .val (.int y7), .val (.int y9), .val (.int y11), .val (.ref b12), .val (.ref b12), .val (.int x30_0), .val (.ref b12)] []))
        refine Goes.step (fun t k => XS.iconst X36.here hx rfl (hb hby at_159) k) ?_
        show Goes _ _ _ _ _ _ _ (T36.setTop (mkF m 160 #[.val (.int p0), .val (.int p1), .val (.int p2), .val (.ref r1_0), .val (.ref r2_0), .val (.int y5), .val (.int y7), .val (.int y9), .val (.int y11), .val (.ref b12), .val (.ref b12), .val (.int x30_0), .val (.ref b12)] [(.int (0 : Int32))]))
        exact k38 _ _ _ X36 e36 N31 ((if_neg hc135_34).trans (if_neg hc152_37)).symm
  intro T38 L38 x38_0 X38 e38 N38 hx38_0
  refine Goes.step (fun t k => XS.istore X38.here hx rfl (hb hby at_160) rfl (l' := #[.val (.int p0), .val (.int p1), .val (.int p2), .val (.ref r1_0), .val (.ref r2_0), .val (.int y5), .val (.int y7), .val (.int y9), .val (.int y11), .val (.ref b12), .val (.ref b12), .val (.int x38_0), .val (.ref b12)]) rfl k) ?_
  show Goes _ _ _ _ _ _ _ (T38.setTop (mkF m 162 #[.val (.int p0), .val (.int p1), .val (.int p2), .val (.ref r1_0), .val (.ref r2_0), .val (.int y5), .val (.int y7), .val (.int y9), .val (.int y11), .val (.ref b12), .val (.ref b12), .val (.int x38_0), .val (.ref b12)] []))
  refine Goes.step (fun t k => XS.iload X38.here hx rfl (hb hby at_162) rfl k) ?_
  show Goes _ _ _ _ _ _ _ (T38.setTop (mkF m 164 #[.val (.int p0), .val (.int p1), .val (.int p2), .val (.ref r1_0), .val (.ref r2_0), .val (.int y5), .val (.int y7), .val (.int y9), .val (.int y11), .val (.ref b12), .val (.ref b12), .val (.int x38_0), .val (.ref b12)] [(.int x38_0)]))
  suffices k43 : ∀ (T43 : State) (L43 : List Loc) (x43_0 : Int32), Stand p l e room_1 s m #[(.int p0), (.int p1), (.int p2)] below meth c T43 L43 4 11 → T43.heap = h31 → Fr n0 L43 → x43_0 = (if x38_0 = (0 : Int32) then (0 : Int32) else (if (f6 p1 y9 y11 (0 : Int32) (((p1 &&& (127 : Int32)).toInt8.toInt32).toInt8.toInt32) (((((p1.toUInt32 >>> ((8 : Int32) &&& 31).toUInt32).toInt32) &&& (127 : Int32)).toInt8.toInt32).toInt8.toInt32) (((((p1.toUInt32 >>> ((16 : Int32) &&& 31).toUInt32).toInt32) &&& (127 : Int32)).toInt8.toInt32).toInt8.toInt32) (((((p1.toUInt32 >>> ((24 : Int32) &&& 31).toUInt32).toInt32) &&& (127 : Int32)).toInt8.toInt32).toInt8.toInt32)) = (0 : Int32) then (0 : Int32) else (1 : Int32))) → Goes p e below s (Q0 Z p0 p1 p2 h0 n0) kC0 kS0 (T43.setTop (mkF m 186 #[.val (.int p0), .val (.int p1), .val (.int p2), .val (.ref r1_0), .val (.ref r2_0), .val (.int y5), .val (.int y7), .val (.int y9), .val (.int y11), .val (.ref b12), .val (.ref b12), .val (.int x38_0), .val (.ref b12)] [(.int x43_0)])) by
    by_cases hc164_39 : x38_0 = (0 : Int32)
    · refine Goes.step (fun t k => XS.ifYes X38.here hx rfl (pc0 := 164) (pc' := 185) rfl (hb hby at_164) rfl ((if0 _ _).trans (teq hc164_39).1) (by decide) (by decide) k) ?_
      show Goes _ _ _ _ _ _ _ (T38.setTop (mkF m 185 #[.val (.int p0), .val (.int p1), .val (.int p2), .val (.ref r1_0), .val (.ref r2_0), .val (.int y5), .val (.int y7), .val (.int y9), .val (.int y11), .val (.ref b12), .val (.ref b12), .val (.int x38_0), .val (.ref b12)] []))
      refine Goes.step (fun t k => XS.iconst X38.here hx rfl (hb hby at_185) k) ?_
      show Goes _ _ _ _ _ _ _ (T38.setTop (mkF m 186 #[.val (.int p0), .val (.int p1), .val (.int p2), .val (.ref r1_0), .val (.ref r2_0), .val (.int y5), .val (.int y7), .val (.int y9), .val (.int y11), .val (.ref b12), .val (.ref b12), .val (.int x38_0), .val (.ref b12)] [(.int (0 : Int32))]))
      exact k43 _ _ _ X38 e38 N38 (if_pos hc164_39).symm
    · refine Goes.step (fun t k => XS.ifNo X38.here hx rfl (hb hby at_164) rfl ((if0 _ _).trans (feq hc164_39).1) k) ?_
      show Goes _ _ _ _ _ _ _ (T38.setTop (mkF m 167 #[.val (.int p0), .val (.int p1), .val (.int p2), .val (.ref r1_0), .val (.ref r2_0), .val (.int y5), .val (.int y7), .val (.int y9), .val (.int y11), .val (.ref b12), .val (.ref b12), .val (.int x38_0), .val (.ref b12)] []))
      refine Goes.step (fun t k => XS.aload X38.here hx rfl (hb hby at_167) rfl rfl k) ?_
      show Goes _ _ _ _ _ _ _ (T38.setTop (mkF m 169 #[.val (.int p0), .val (.int p1), .val (.int p2), .val (.ref r1_0), .val (.ref r2_0), .val (.int y5), .val (.int y7), .val (.int y9), .val (.int y11), .val (.ref b12), .val (.ref b12), .val (.int x38_0), .val (.ref b12)] [(.ref b12)]))
      refine Goes.step (fun t k => XS.iloadN X38.here hx rfl (hb hby at_169) rfl k) ?_
      show Goes _ _ _ _ _ _ _ (T38.setTop (mkF m 170 #[.val (.int p0), .val (.int p1), .val (.int p2), .val (.ref r1_0), .val (.ref r2_0), .val (.int y5), .val (.int y7), .val (.int y9), .val (.int y11), .val (.ref b12), .val (.ref b12), .val (.int x38_0), .val (.ref b12)] [(.int p1), (.ref b12)]))
      refine Goes.step (fun t k => XS.iload X38.here hx rfl (hb hby at_170) rfl k) ?_
      show Goes _ _ _ _ _ _ _ (T38.setTop (mkF m 172 #[.val (.int p0), .val (.int p1), .val (.int p2), .val (.ref r1_0), .val (.ref r2_0), .val (.int y5), .val (.int y7), .val (.int y9), .val (.int y11), .val (.ref b12), .val (.ref b12), .val (.int x38_0), .val (.ref b12)] [(.int y9), (.int p1), (.ref b12)]))
      refine Goes.step (fun t k => XS.iload X38.here hx rfl (hb hby at_172) rfl k) ?_
      show Goes _ _ _ _ _ _ _ (T38.setTop (mkF m 174 #[.val (.int p0), .val (.int p1), .val (.int p2), .val (.ref r1_0), .val (.ref r2_0), .val (.int y5), .val (.int y7), .val (.int y9), .val (.int y11), .val (.ref b12), .val (.ref b12), .val (.int x38_0), .val (.ref b12)] [(.int y11), (.int y9), (.int p1), (.ref b12)]))
      refine Goes.step (fun t k => XS.iconst X38.here hx rfl (hb hby at_174) k) ?_
      show Goes _ _ _ _ _ _ _ (T38.setTop (mkF m 175 #[.val (.int p0), .val (.int p1), .val (.int p2), .val (.ref r1_0), .val (.ref r2_0), .val (.int y5), .val (.int y7), .val (.int y9), .val (.int y11), .val (.ref b12), .val (.ref b12), .val (.int x38_0), .val (.ref b12)] [(.int (0 : Int32)), (.int y11), (.int y9), (.int p1), (.ref b12)]))
      obtain ⟨_, _, ⟨T40, L40, k40, n40⟩, -, X40, ⟨Lc40, hQ40, l40, y40, z40⟩, st40⟩ := Jvm.LawKit.callS X38 hx (y := (⟨"com/example/crisp_monitor/crispmonitor/io/AsciiViewOfPinLaw", "at", "(Lcom/example/crisp_monitor/crispmonitor/io/AsciiView;IIII)Z"⟩ : MethodName)) hown (mvT hZ (hw _ (List.mem_of_getElem? (i := 30) rfl))) (mvT hZ (hw _ (List.mem_of_getElem? (i := 31) rfl))) (mvT hZ (hw _ (List.mem_of_getElem? (i := 2) rfl))) (mvT hZ (hw _ (List.mem_of_getElem? (i := 32) rfl))) (by decide) (backOf (W := 0) (rm6 l Z tA hw [] b12 p1 y9 y11 (0 : Int32) r2_0 (((p1 &&& (127 : Int32)).toInt8.toInt32).toInt8.toInt32) (((((p1.toUInt32 >>> ((8 : Int32) &&& 31).toUInt32).toInt32) &&& (127 : Int32)).toInt8.toInt32).toInt8.toInt32) (((((p1.toUInt32 >>> ((16 : Int32) &&& 31).toUInt32).toInt32) &&& (127 : Int32)).toInt8.toInt32).toInt8.toInt32) (((((p1.toUInt32 >>> ((24 : Int32) &&& 31).toUInt32).toInt32) &&& (127 : Int32)).toInt8.toInt32).toInt8.toInt32) h31 G31_0 G31_1 G31_2 G31_3 F33 (by decide) (own_rng40 p2 y9 y11 hy9 hy11).1 (own_rng40 p2 y9 y11 hy9 hy11).2) hZ (hw _ (List.mem_of_getElem? (i := 32) rfl)) (hw _ (List.mem_of_getElem? (i := 2) rfl)) (by decide) (by decide)) (g := (mkF m 175 #[.val (.int p0), .val (.int p1), .val (.int p2), .val (.ref r1_0), .val (.ref r2_0), .val (.int y5), .val (.int y7), .val (.int y9), .val (.int y11), .val (.ref b12), .val (.ref b12), .val (.int x38_0), .val (.ref b12)] [(.int (0 : Int32)), (.int y11), (.int y9), (.int p1), (.ref b12)])) rfl (by rw [hml]; rfl) (argsL := [(.ref b12), (.int p1), (.int y9), (.int y11), (.int (0 : Int32))]) (rest := []) (lenOf own_pd5 rfl) rfl (by show 2 * 0 + _ ≤ _; exact Nat.le_of_eq rfl) (hb hby at_175) (fun _ _ => ⟨rfl, e38, (by decide : 4 + 0 ≤ _), (by decide : 11 + 0 ≤ _)⟩)
      dsimp only [Pt.U, Pt.locs, Pt.cells, Pt.slots] at X40 l40 y40 z40 st40 hQ40
      subst l40 y40 z40
      obtain ⟨rfl, rfl, e40⟩ := hQ40
      try rw [List.append_nil] at X40
      change Stand _ _ _ _ _ _ _ _ _ _ _ _ 4 11 at X40
      refine Goes.step (fun t k => st40 t k) ?_
      show Goes _ _ _ _ _ _ _ (T40.setTop (mkF m 178 #[.val (.int p0), .val (.int p1), .val (.int p2), .val (.ref r1_0), .val (.ref r2_0), .val (.int y5), .val (.int y7), .val (.int y9), .val (.int y11), .val (.ref b12), .val (.ref b12), .val (.int x38_0), .val (.ref b12)] [(.int (f6 p1 y9 y11 (0 : Int32) (((p1 &&& (127 : Int32)).toInt8.toInt32).toInt8.toInt32) (((((p1.toUInt32 >>> ((8 : Int32) &&& 31).toUInt32).toInt32) &&& (127 : Int32)).toInt8.toInt32).toInt8.toInt32) (((((p1.toUInt32 >>> ((16 : Int32) &&& 31).toUInt32).toInt32) &&& (127 : Int32)).toInt8.toInt32).toInt8.toInt32) (((((p1.toUInt32 >>> ((24 : Int32) &&& 31).toUInt32).toInt32) &&& (127 : Int32)).toInt8.toInt32).toInt8.toInt32)))]))
      generalize hy41 : (f6 p1 y9 y11 (0 : Int32) (((p1 &&& (127 : Int32)).toInt8.toInt32).toInt8.toInt32) (((((p1.toUInt32 >>> ((8 : Int32) &&& 31).toUInt32).toInt32) &&& (127 : Int32)).toInt8.toInt32).toInt8.toInt32) (((((p1.toUInt32 >>> ((16 : Int32) &&& 31).toUInt32).toInt32) &&& (127 : Int32)).toInt8.toInt32).toInt8.toInt32) (((((p1.toUInt32 >>> ((24 : Int32) &&& 31).toUInt32).toInt32) &&& (127 : Int32)).toInt8.toInt32).toInt8.toInt32)) = y41
      by_cases hc178_42 : y41 = (0 : Int32)
      · refine Goes.step (fun t k => XS.ifYes X40.here hx rfl (pc0 := 178) (pc' := 185) rfl (hb hby at_178) rfl ((if0 _ _).trans (teq hc178_42).1) (by decide) (by decide) k) ?_
        show Goes _ _ _ _ _ _ _ (T40.setTop (mkF m 185 #[.val (.int p0), .val (.int p1), .val (.int p2), .val (.ref r1_0), .val (.ref r2_0), .val (.int y5), .val (.int y7), .val (.int y9), .val (.int y11), .val (.ref b12), .val (.ref b12), .val (.int x38_0), .val (.ref b12)] []))
        refine Goes.step (fun t k => XS.iconst X40.here hx rfl (hb hby at_185) k) ?_
        show Goes _ _ _ _ _ _ _ (T40.setTop (mkF m 186 #[.val (.int p0), .val (.int p1), .val (.int p2), .val (.ref r1_0), .val (.ref r2_0), .val (.int y5), .val (.int y7), .val (.int y9), .val (.int y11), .val (.ref b12), .val (.ref b12), .val (.int x38_0), .val (.ref b12)] [(.int (0 : Int32))]))
        subst hy41
        exact k43 _ _ _ X40 e40 N38 ((if_neg hc164_39).trans (if_pos hc178_42)).symm
      · refine Goes.step (fun t k => XS.ifNo X40.here hx rfl (hb hby at_178) rfl ((if0 _ _).trans (feq hc178_42).1) k) ?_
        show Goes _ _ _ _ _ _ _ (T40.setTop (mkF m 181 #[.val (.int p0), .val (.int p1), .val (.int p2), .val (.ref r1_0), .val (.ref r2_0), .val (.int y5), .val (.int y7), .val (.int y9), .val (.int y11), .val (.ref b12), .val (.ref b12), .val (.int x38_0), .val (.ref b12)] []))
        refine Goes.step (fun t k => XS.iconst X40.here hx rfl (hb hby at_181) k) ?_
        show Goes _ _ _ _ _ _ _ (T40.setTop (mkF m 182 #[.val (.int p0), .val (.int p1), .val (.int p2), .val (.ref r1_0), .val (.ref r2_0), .val (.int y5), .val (.int y7), .val (.int y9), .val (.int y11), .val (.ref b12), .val (.ref b12), .val (.int x38_0), .val (.ref b12)] [(.int (1 : Int32))]))
        refine Goes.step (fun t k => XS.goto X40.here hx rfl (pc0 := 182) (pc' := 186) rfl (hb hby at_182) (by decide) (by decide) k) ?_
        show Goes _ _ _ _ _ _ _ (T40.setTop (mkF m 186 #[.val (.int p0), .val (.int p1), .val (.int p2), .val (.ref r1_0), .val (.ref r2_0), .val (.int y5), .val (.int y7), .val (.int y9), .val (.int y11), .val (.ref b12), .val (.ref b12), .val (.int x38_0), .val (.ref b12)] [(.int (1 : Int32))]))
        subst hy41
        exact k43 _ _ _ X40 e40 N38 ((if_neg hc164_39).trans (if_neg hc178_42)).symm
  intro T43 L43 x43_0 X43 e43 N43 hx43_0
  refine Goes.step (fun t k => XS.istore X43.here hx rfl (hb hby at_186) rfl (l' := #[.val (.int p0), .val (.int p1), .val (.int p2), .val (.ref r1_0), .val (.ref r2_0), .val (.int y5), .val (.int y7), .val (.int y9), .val (.int y11), .val (.ref b12), .val (.ref b12), .val (.int x43_0), .val (.ref b12)]) rfl k) ?_
  show Goes _ _ _ _ _ _ _ (T43.setTop (mkF m 188 #[.val (.int p0), .val (.int p1), .val (.int p2), .val (.ref r1_0), .val (.ref r2_0), .val (.int y5), .val (.int y7), .val (.int y9), .val (.int y11), .val (.ref b12), .val (.ref b12), .val (.int x43_0), .val (.ref b12)] []))
  refine Goes.step (fun t k => XS.iload X43.here hx rfl (hb hby at_188) rfl k) ?_
  show Goes _ _ _ _ _ _ _ (T43.setTop (mkF m 190 #[.val (.int p0), .val (.int p1), .val (.int p2), .val (.ref r1_0), .val (.ref r2_0), .val (.int y5), .val (.int y7), .val (.int y9), .val (.int y11), .val (.ref b12), .val (.ref b12), .val (.int x43_0), .val (.ref b12)] [(.int x43_0)]))
  suffices k48 : ∀ (T48 : State) (L48 : List Loc) (x48_0 : Int32), Stand p l e room_1 s m #[(.int p0), (.int p1), (.int p2)] below meth c T48 L48 4 11 → T48.heap = h31 → Fr n0 L48 → x48_0 = (if x43_0 = (0 : Int32) then (0 : Int32) else (if (f6 p1 y9 y11 (1 : Int32) (((p1 &&& (127 : Int32)).toInt8.toInt32).toInt8.toInt32) (((((p1.toUInt32 >>> ((8 : Int32) &&& 31).toUInt32).toInt32) &&& (127 : Int32)).toInt8.toInt32).toInt8.toInt32) (((((p1.toUInt32 >>> ((16 : Int32) &&& 31).toUInt32).toInt32) &&& (127 : Int32)).toInt8.toInt32).toInt8.toInt32) (((((p1.toUInt32 >>> ((24 : Int32) &&& 31).toUInt32).toInt32) &&& (127 : Int32)).toInt8.toInt32).toInt8.toInt32)) = (0 : Int32) then (0 : Int32) else (1 : Int32))) → Goes p e below s (Q0 Z p0 p1 p2 h0 n0) kC0 kS0 (T48.setTop (mkF m 212 #[.val (.int p0), .val (.int p1), .val (.int p2), .val (.ref r1_0), .val (.ref r2_0), .val (.int y5), .val (.int y7), .val (.int y9), .val (.int y11), .val (.ref b12), .val (.ref b12), .val (.int x43_0), .val (.ref b12)] [(.int x48_0)])) by
    by_cases hc190_44 : x43_0 = (0 : Int32)
    · refine Goes.step (fun t k => XS.ifYes X43.here hx rfl (pc0 := 190) (pc' := 211) rfl (hb hby at_190) rfl ((if0 _ _).trans (teq hc190_44).1) (by decide) (by decide) k) ?_
      show Goes _ _ _ _ _ _ _ (T43.setTop (mkF m 211 #[.val (.int p0), .val (.int p1), .val (.int p2), .val (.ref r1_0), .val (.ref r2_0), .val (.int y5), .val (.int y7), .val (.int y9), .val (.int y11), .val (.ref b12), .val (.ref b12), .val (.int x43_0), .val (.ref b12)] []))
      refine Goes.step (fun t k => XS.iconst X43.here hx rfl (hb hby at_211) k) ?_
      show Goes _ _ _ _ _ _ _ (T43.setTop (mkF m 212 #[.val (.int p0), .val (.int p1), .val (.int p2), .val (.ref r1_0), .val (.ref r2_0), .val (.int y5), .val (.int y7), .val (.int y9), .val (.int y11), .val (.ref b12), .val (.ref b12), .val (.int x43_0), .val (.ref b12)] [(.int (0 : Int32))]))
      exact k48 _ _ _ X43 e43 N43 (if_pos hc190_44).symm
    · refine Goes.step (fun t k => XS.ifNo X43.here hx rfl (hb hby at_190) rfl ((if0 _ _).trans (feq hc190_44).1) k) ?_
      show Goes _ _ _ _ _ _ _ (T43.setTop (mkF m 193 #[.val (.int p0), .val (.int p1), .val (.int p2), .val (.ref r1_0), .val (.ref r2_0), .val (.int y5), .val (.int y7), .val (.int y9), .val (.int y11), .val (.ref b12), .val (.ref b12), .val (.int x43_0), .val (.ref b12)] []))
      refine Goes.step (fun t k => XS.aload X43.here hx rfl (hb hby at_193) rfl rfl k) ?_
      show Goes _ _ _ _ _ _ _ (T43.setTop (mkF m 195 #[.val (.int p0), .val (.int p1), .val (.int p2), .val (.ref r1_0), .val (.ref r2_0), .val (.int y5), .val (.int y7), .val (.int y9), .val (.int y11), .val (.ref b12), .val (.ref b12), .val (.int x43_0), .val (.ref b12)] [(.ref b12)]))
      refine Goes.step (fun t k => XS.iloadN X43.here hx rfl (hb hby at_195) rfl k) ?_
      show Goes _ _ _ _ _ _ _ (T43.setTop (mkF m 196 #[.val (.int p0), .val (.int p1), .val (.int p2), .val (.ref r1_0), .val (.ref r2_0), .val (.int y5), .val (.int y7), .val (.int y9), .val (.int y11), .val (.ref b12), .val (.ref b12), .val (.int x43_0), .val (.ref b12)] [(.int p1), (.ref b12)]))
      refine Goes.step (fun t k => XS.iload X43.here hx rfl (hb hby at_196) rfl k) ?_
      show Goes _ _ _ _ _ _ _ (T43.setTop (mkF m 198 #[.val (.int p0), .val (.int p1), .val (.int p2), .val (.ref r1_0), .val (.ref r2_0), .val (.int y5), .val (.int y7), .val (.int y9), .val (.int y11), .val (.ref b12), .val (.ref b12), .val (.int x43_0), .val (.ref b12)] [(.int y9), (.int p1), (.ref b12)]))
      refine Goes.step (fun t k => XS.iload X43.here hx rfl (hb hby at_198) rfl k) ?_
      show Goes _ _ _ _ _ _ _ (T43.setTop (mkF m 200 #[.val (.int p0), .val (.int p1), .val (.int p2), .val (.ref r1_0), .val (.ref r2_0), .val (.int y5), .val (.int y7), .val (.int y9), .val (.int y11), .val (.ref b12), .val (.ref b12), .val (.int x43_0), .val (.ref b12)] [(.int y11), (.int y9), (.int p1), (.ref b12)]))
      refine Goes.step (fun t k => XS.iconst X43.here hx rfl (hb hby at_200) k) ?_
      show Goes _ _ _ _ _ _ _ (T43.setTop (mkF m 201 #[.val (.int p0), .val (.int p1), .val (.int p2), .val (.ref r1_0), .val (.ref r2_0), .val (.int y5), .val (.int y7), .val (.int y9), .val (.int y11), .val (.ref b12), .val (.ref b12), .val (.int x43_0), .val (.ref b12)] [(.int (1 : Int32)), (.int y11), (.int y9), (.int p1), (.ref b12)]))
      obtain ⟨_, _, ⟨T45, L45, k45, n45⟩, -, X45, ⟨Lc45, hQ45, l45, y45, z45⟩, st45⟩ := Jvm.LawKit.callS X43 hx (y := (⟨"com/example/crisp_monitor/crispmonitor/io/AsciiViewOfPinLaw", "at", "(Lcom/example/crisp_monitor/crispmonitor/io/AsciiView;IIII)Z"⟩ : MethodName)) hown (mvT hZ (hw _ (List.mem_of_getElem? (i := 30) rfl))) (mvT hZ (hw _ (List.mem_of_getElem? (i := 31) rfl))) (mvT hZ (hw _ (List.mem_of_getElem? (i := 2) rfl))) (mvT hZ (hw _ (List.mem_of_getElem? (i := 32) rfl))) (by decide) (backOf (W := 0) (rm6 l Z tA hw [] b12 p1 y9 y11 (1 : Int32) r2_0 (((p1 &&& (127 : Int32)).toInt8.toInt32).toInt8.toInt32) (((((p1.toUInt32 >>> ((8 : Int32) &&& 31).toUInt32).toInt32) &&& (127 : Int32)).toInt8.toInt32).toInt8.toInt32) (((((p1.toUInt32 >>> ((16 : Int32) &&& 31).toUInt32).toInt32) &&& (127 : Int32)).toInt8.toInt32).toInt8.toInt32) (((((p1.toUInt32 >>> ((24 : Int32) &&& 31).toUInt32).toInt32) &&& (127 : Int32)).toInt8.toInt32).toInt8.toInt32) h31 G31_0 G31_1 G31_2 G31_3 F33 (by decide) (own_rng45 p2 y9 y11 hy9 hy11).1 (own_rng45 p2 y9 y11 hy9 hy11).2) hZ (hw _ (List.mem_of_getElem? (i := 32) rfl)) (hw _ (List.mem_of_getElem? (i := 2) rfl)) (by decide) (by decide)) (g := (mkF m 201 #[.val (.int p0), .val (.int p1), .val (.int p2), .val (.ref r1_0), .val (.ref r2_0), .val (.int y5), .val (.int y7), .val (.int y9), .val (.int y11), .val (.ref b12), .val (.ref b12), .val (.int x43_0), .val (.ref b12)] [(.int (1 : Int32)), (.int y11), (.int y9), (.int p1), (.ref b12)])) rfl (by rw [hml]; rfl) (argsL := [(.ref b12), (.int p1), (.int y9), (.int y11), (.int (1 : Int32))]) (rest := []) (lenOf own_pd5 rfl) rfl (by show 2 * 0 + _ ≤ _; exact Nat.le_of_eq rfl) (hb hby at_201) (fun _ _ => ⟨rfl, e43, (by decide : 4 + 0 ≤ _), (by decide : 11 + 0 ≤ _)⟩)
      dsimp only [Pt.U, Pt.locs, Pt.cells, Pt.slots] at X45 l45 y45 z45 st45 hQ45
      subst l45 y45 z45
      obtain ⟨rfl, rfl, e45⟩ := hQ45
      try rw [List.append_nil] at X45
      change Stand _ _ _ _ _ _ _ _ _ _ _ _ 4 11 at X45
      refine Goes.step (fun t k => st45 t k) ?_
      show Goes _ _ _ _ _ _ _ (T45.setTop (mkF m 204 #[.val (.int p0), .val (.int p1), .val (.int p2), .val (.ref r1_0), .val (.ref r2_0), .val (.int y5), .val (.int y7), .val (.int y9), .val (.int y11), .val (.ref b12), .val (.ref b12), .val (.int x43_0), .val (.ref b12)] [(.int (f6 p1 y9 y11 (1 : Int32) (((p1 &&& (127 : Int32)).toInt8.toInt32).toInt8.toInt32) (((((p1.toUInt32 >>> ((8 : Int32) &&& 31).toUInt32).toInt32) &&& (127 : Int32)).toInt8.toInt32).toInt8.toInt32) (((((p1.toUInt32 >>> ((16 : Int32) &&& 31).toUInt32).toInt32) &&& (127 : Int32)).toInt8.toInt32).toInt8.toInt32) (((((p1.toUInt32 >>> ((24 : Int32) &&& 31).toUInt32).toInt32) &&& (127 : Int32)).toInt8.toInt32).toInt8.toInt32)))]))
      generalize hy46 : (f6 p1 y9 y11 (1 : Int32) (((p1 &&& (127 : Int32)).toInt8.toInt32).toInt8.toInt32) (((((p1.toUInt32 >>> ((8 : Int32) &&& 31).toUInt32).toInt32) &&& (127 : Int32)).toInt8.toInt32).toInt8.toInt32) (((((p1.toUInt32 >>> ((16 : Int32) &&& 31).toUInt32).toInt32) &&& (127 : Int32)).toInt8.toInt32).toInt8.toInt32) (((((p1.toUInt32 >>> ((24 : Int32) &&& 31).toUInt32).toInt32) &&& (127 : Int32)).toInt8.toInt32).toInt8.toInt32)) = y46
      by_cases hc204_47 : y46 = (0 : Int32)
      · refine Goes.step (fun t k => XS.ifYes X45.here hx rfl (pc0 := 204) (pc' := 211) rfl (hb hby at_204) rfl ((if0 _ _).trans (teq hc204_47).1) (by decide) (by decide) k) ?_
        show Goes _ _ _ _ _ _ _ (T45.setTop (mkF m 211 #[.val (.int p0), .val (.int p1), .val (.int p2), .val (.ref r1_0), .val (.ref r2_0), .val (.int y5), .val (.int y7), .val (.int y9), .val (.int y11), .val (.ref b12), .val (.ref b12), .val (.int x43_0), .val (.ref b12)] []))
        refine Goes.step (fun t k => XS.iconst X45.here hx rfl (hb hby at_211) k) ?_
        show Goes _ _ _ _ _ _ _ (T45.setTop (mkF m 212 #[.val (.int p0), .val (.int p1), .val (.int p2), .val (.ref r1_0), .val (.ref r2_0), .val (.int y5), .val (.int y7), .val (.int y9), .val (.int y11), .val (.ref b12), .val (.ref b12), .val (.int x43_0), .val (.ref b12)] [(.int (0 : Int32))]))
        subst hy46
        exact k48 _ _ _ X45 e45 N43 ((if_neg hc190_44).trans (if_pos hc204_47)).symm
      · refine Goes.step (fun t k => XS.ifNo X45.here hx rfl (hb hby at_204) rfl ((if0 _ _).trans (feq hc204_47).1) k) ?_
        show Goes _ _ _ _ _ _ _ (T45.setTop (mkF m 207 #[.val (.int p0), .val (.int p1), .val (.int p2), .val (.ref r1_0), .val (.ref r2_0), .val (.int y5), .val (.int y7), .val (.int y9), .val (.int y11), .val (.ref b12), .val (.ref b12), .val (.int x43_0), .val (.ref b12)] []))
        refine Goes.step (fun t k => XS.iconst X45.here hx rfl (hb hby at_207) k) ?_
        show Goes _ _ _ _ _ _ _ (T45.setTop (mkF m 208 #[.val (.int p0), .val (.int p1), .val (.int p2), .val (.ref r1_0), .val (.ref r2_0), .val (.int y5), .val (.int y7), .val (.int y9), .val (.int y11), .val (.ref b12), .val (.ref b12), .val (.int x43_0), .val (.ref b12)] [(.int (1 : Int32))]))
        refine Goes.step (fun t k => XS.goto X45.here hx rfl (pc0 := 208) (pc' := 212) rfl (hb hby at_208) (by decide) (by decide) k) ?_
        show Goes _ _ _ _ _ _ _ (T45.setTop (mkF m 212 #[.val (.int p0), .val (.int p1), .val (.int p2), .val (.ref r1_0), .val (.ref r2_0), .val (.int y5), .val (.int y7), .val (.int y9), .val (.int y11), .val (.ref b12), .val (.ref b12), .val (.int x43_0), .val (.ref b12)] [(.int (1 : Int32))]))
        subst hy46
        exact k48 _ _ _ X45 e45 N43 ((if_neg hc190_44).trans (if_neg hc204_47)).symm
  intro T48 L48 x48_0 X48 e48 N48 hx48_0
  refine Goes.step (fun t k => XS.istore X48.here hx rfl (hb hby at_212) rfl (l' := #[.val (.int p0), .val (.int p1), .val (.int p2), .val (.ref r1_0), .val (.ref r2_0), .val (.int y5), .val (.int y7), .val (.int y9), .val (.int y11), .val (.ref b12), .val (.ref b12), .val (.int x48_0), .val (.ref b12)]) rfl k) ?_
  show Goes _ _ _ _ _ _ _ (T48.setTop (mkF m 214 #[.val (.int p0), .val (.int p1), .val (.int p2), .val (.ref r1_0), .val (.ref r2_0), .val (.int y5), .val (.int y7), .val (.int y9), .val (.int y11), .val (.ref b12), .val (.ref b12), .val (.int x48_0), .val (.ref b12)] []))
  refine Goes.step (fun t k => XS.iload X48.here hx rfl (hb hby at_214) rfl k) ?_
  show Goes _ _ _ _ _ _ _ (T48.setTop (mkF m 216 #[.val (.int p0), .val (.int p1), .val (.int p2), .val (.ref r1_0), .val (.ref r2_0), .val (.int y5), .val (.int y7), .val (.int y9), .val (.int y11), .val (.ref b12), .val (.ref b12), .val (.int x48_0), .val (.ref b12)] [(.int x48_0)]))
  suffices k53 : ∀ (T53 : State) (L53 : List Loc) (x53_0 : Int32), Stand p l e room_1 s m #[(.int p0), (.int p1), (.int p2)] below meth c T53 L53 4 11 → T53.heap = h31 → Fr n0 L53 → x53_0 = (if x48_0 = (0 : Int32) then (0 : Int32) else (if (f6 p1 y9 y11 (2 : Int32) (((p1 &&& (127 : Int32)).toInt8.toInt32).toInt8.toInt32) (((((p1.toUInt32 >>> ((8 : Int32) &&& 31).toUInt32).toInt32) &&& (127 : Int32)).toInt8.toInt32).toInt8.toInt32) (((((p1.toUInt32 >>> ((16 : Int32) &&& 31).toUInt32).toInt32) &&& (127 : Int32)).toInt8.toInt32).toInt8.toInt32) (((((p1.toUInt32 >>> ((24 : Int32) &&& 31).toUInt32).toInt32) &&& (127 : Int32)).toInt8.toInt32).toInt8.toInt32)) = (0 : Int32) then (0 : Int32) else (1 : Int32))) → Goes p e below s (Q0 Z p0 p1 p2 h0 n0) kC0 kS0 (T53.setTop (mkF m 238 #[.val (.int p0), .val (.int p1), .val (.int p2), .val (.ref r1_0), .val (.ref r2_0), .val (.int y5), .val (.int y7), .val (.int y9), .val (.int y11), .val (.ref b12), .val (.ref b12), .val (.int x48_0), .val (.ref b12)] [(.int x53_0)])) by
    by_cases hc216_49 : x48_0 = (0 : Int32)
    · refine Goes.step (fun t k => XS.ifYes X48.here hx rfl (pc0 := 216) (pc' := 237) rfl (hb hby at_216) rfl ((if0 _ _).trans (teq hc216_49).1) (by decide) (by decide) k) ?_
      show Goes _ _ _ _ _ _ _ (T48.setTop (mkF m 237 #[.val (.int p0), .val (.int p1), .val (.int p2), .val (.ref r1_0), .val (.ref r2_0), .val (.int y5), .val (.int y7), .val (.int y9), .val (.int y11), .val (.ref b12), .val (.ref b12), .val (.int x48_0), .val (.ref b12)] []))
      refine Goes.step (fun t k => XS.iconst X48.here hx rfl (hb hby at_237) k) ?_
      show Goes _ _ _ _ _ _ _ (T48.setTop (mkF m 238 #[.val (.int p0), .val (.int p1), .val (.int p2), .val (.ref r1_0), .val (.ref r2_0), .val (.int y5), .val (.int y7), .val (.int y9), .val (.int y11), .val (.ref b12), .val (.ref b12), .val (.int x48_0), .val (.ref b12)] [(.int (0 : Int32))]))
      exact k53 _ _ _ X48 e48 N48 (if_pos hc216_49).symm
    · refine Goes.step (fun t k => XS.ifNo X48.here hx rfl (hb hby at_216) rfl ((if0 _ _).trans (feq hc216_49).1) k) ?_
      show Goes _ _ _ _ _ _ _ (T48.setTop (mkF m 219 #[.val (.int p0), .val (.int p1), .val (.int p2), .val (.ref r1_0), .val (.ref r2_0), .val (.int y5), .val (.int y7), .val (.int y9), .val (.int y11), .val (.ref b12), .val (.ref b12), .val (.int x48_0), .val (.ref b12)] []))
      refine Goes.step (fun t k => XS.aload X48.here hx rfl (hb hby at_219) rfl rfl k) ?_
      show Goes _ _ _ _ _ _ _ (T48.setTop (mkF m 221 #[.val (.int p0), .val (.int p1), .val (.int p2), .val (.ref r1_0), .val (.ref r2_0), .val (.int y5), .val (.int y7), .val (.int y9), .val (.int y11), .val (.ref b12), .val (.ref b12), .val (.int x48_0), .val (.ref b12)] [(.ref b12)]))
      refine Goes.step (fun t k => XS.iloadN X48.here hx rfl (hb hby at_221) rfl k) ?_
      show Goes _ _ _ _ _ _ _ (T48.setTop (mkF m 222 #[.val (.int p0), .val (.int p1), .val (.int p2), .val (.ref r1_0), .val (.ref r2_0), .val (.int y5), .val (.int y7), .val (.int y9), .val (.int y11), .val (.ref b12), .val (.ref b12), .val (.int x48_0), .val (.ref b12)] [(.int p1), (.ref b12)]))
      refine Goes.step (fun t k => XS.iload X48.here hx rfl (hb hby at_222) rfl k) ?_
      show Goes _ _ _ _ _ _ _ (T48.setTop (mkF m 224 #[.val (.int p0), .val (.int p1), .val (.int p2), .val (.ref r1_0), .val (.ref r2_0), .val (.int y5), .val (.int y7), .val (.int y9), .val (.int y11), .val (.ref b12), .val (.ref b12), .val (.int x48_0), .val (.ref b12)] [(.int y9), (.int p1), (.ref b12)]))
      refine Goes.step (fun t k => XS.iload X48.here hx rfl (hb hby at_224) rfl k) ?_
      show Goes _ _ _ _ _ _ _ (T48.setTop (mkF m 226 #[.val (.int p0), .val (.int p1), .val (.int p2), .val (.ref r1_0), .val (.ref r2_0), .val (.int y5), .val (.int y7), .val (.int y9), .val (.int y11), .val (.ref b12), .val (.ref b12), .val (.int x48_0), .val (.ref b12)] [(.int y11), (.int y9), (.int p1), (.ref b12)]))
      refine Goes.step (fun t k => XS.iconst X48.here hx rfl (hb hby at_226) k) ?_
      show Goes _ _ _ _ _ _ _ (T48.setTop (mkF m 227 #[.val (.int p0), .val (.int p1), .val (.int p2), .val (.ref r1_0), .val (.ref r2_0), .val (.int y5), .val (.int y7), .val (.int y9), .val (.int y11), .val (.ref b12), .val (.ref b12), .val (.int x48_0), .val (.ref b12)] [(.int (2 : Int32)), (.int y11), (.int y9), (.int p1), (.ref b12)]))
      obtain ⟨_, _, ⟨T50, L50, k50, n50⟩, -, X50, ⟨Lc50, hQ50, l50, y50, z50⟩, st50⟩ := Jvm.LawKit.callS X48 hx (y := (⟨"com/example/crisp_monitor/crispmonitor/io/AsciiViewOfPinLaw", "at", "(Lcom/example/crisp_monitor/crispmonitor/io/AsciiView;IIII)Z"⟩ : MethodName)) hown (mvT hZ (hw _ (List.mem_of_getElem? (i := 30) rfl))) (mvT hZ (hw _ (List.mem_of_getElem? (i := 31) rfl))) (mvT hZ (hw _ (List.mem_of_getElem? (i := 2) rfl))) (mvT hZ (hw _ (List.mem_of_getElem? (i := 32) rfl))) (by decide) (backOf (W := 0) (rm6 l Z tA hw [] b12 p1 y9 y11 (2 : Int32) r2_0 (((p1 &&& (127 : Int32)).toInt8.toInt32).toInt8.toInt32) (((((p1.toUInt32 >>> ((8 : Int32) &&& 31).toUInt32).toInt32) &&& (127 : Int32)).toInt8.toInt32).toInt8.toInt32) (((((p1.toUInt32 >>> ((16 : Int32) &&& 31).toUInt32).toInt32) &&& (127 : Int32)).toInt8.toInt32).toInt8.toInt32) (((((p1.toUInt32 >>> ((24 : Int32) &&& 31).toUInt32).toInt32) &&& (127 : Int32)).toInt8.toInt32).toInt8.toInt32) h31 G31_0 G31_1 G31_2 G31_3 F33 (by decide) (own_rng50 p2 y9 y11 hy9 hy11).1 (own_rng50 p2 y9 y11 hy9 hy11).2) hZ (hw _ (List.mem_of_getElem? (i := 32) rfl)) (hw _ (List.mem_of_getElem? (i := 2) rfl)) (by decide) (by decide)) (g := (mkF m 227 #[.val (.int p0), .val (.int p1), .val (.int p2), .val (.ref r1_0), .val (.ref r2_0), .val (.int y5), .val (.int y7), .val (.int y9), .val (.int y11), .val (.ref b12), .val (.ref b12), .val (.int x48_0), .val (.ref b12)] [(.int (2 : Int32)), (.int y11), (.int y9), (.int p1), (.ref b12)])) rfl (by rw [hml]; rfl) (argsL := [(.ref b12), (.int p1), (.int y9), (.int y11), (.int (2 : Int32))]) (rest := []) (lenOf own_pd5 rfl) rfl (by show 2 * 0 + _ ≤ _; exact Nat.le_of_eq rfl) (hb hby at_227) (fun _ _ => ⟨rfl, e48, (by decide : 4 + 0 ≤ _), (by decide : 11 + 0 ≤ _)⟩)
      dsimp only [Pt.U, Pt.locs, Pt.cells, Pt.slots] at X50 l50 y50 z50 st50 hQ50
      subst l50 y50 z50
      obtain ⟨rfl, rfl, e50⟩ := hQ50
      try rw [List.append_nil] at X50
      change Stand _ _ _ _ _ _ _ _ _ _ _ _ 4 11 at X50
      refine Goes.step (fun t k => st50 t k) ?_
      show Goes _ _ _ _ _ _ _ (T50.setTop (mkF m 230 #[.val (.int p0), .val (.int p1), .val (.int p2), .val (.ref r1_0), .val (.ref r2_0), .val (.int y5), .val (.int y7), .val (.int y9), .val (.int y11), .val (.ref b12), .val (.ref b12), .val (.int x48_0), .val (.ref b12)] [(.int (f6 p1 y9 y11 (2 : Int32) (((p1 &&& (127 : Int32)).toInt8.toInt32).toInt8.toInt32) (((((p1.toUInt32 >>> ((8 : Int32) &&& 31).toUInt32).toInt32) &&& (127 : Int32)).toInt8.toInt32).toInt8.toInt32) (((((p1.toUInt32 >>> ((16 : Int32) &&& 31).toUInt32).toInt32) &&& (127 : Int32)).toInt8.toInt32).toInt8.toInt32) (((((p1.toUInt32 >>> ((24 : Int32) &&& 31).toUInt32).toInt32) &&& (127 : Int32)).toInt8.toInt32).toInt8.toInt32)))]))
      generalize hy51 : (f6 p1 y9 y11 (2 : Int32) (((p1 &&& (127 : Int32)).toInt8.toInt32).toInt8.toInt32) (((((p1.toUInt32 >>> ((8 : Int32) &&& 31).toUInt32).toInt32) &&& (127 : Int32)).toInt8.toInt32).toInt8.toInt32) (((((p1.toUInt32 >>> ((16 : Int32) &&& 31).toUInt32).toInt32) &&& (127 : Int32)).toInt8.toInt32).toInt8.toInt32) (((((p1.toUInt32 >>> ((24 : Int32) &&& 31).toUInt32).toInt32) &&& (127 : Int32)).toInt8.toInt32).toInt8.toInt32)) = y51
      by_cases hc230_52 : y51 = (0 : Int32)
      · refine Goes.step (fun t k => XS.ifYes X50.here hx rfl (pc0 := 230) (pc' := 237) rfl (hb hby at_230) rfl ((if0 _ _).trans (teq hc230_52).1) (by decide) (by decide) k) ?_
        show Goes _ _ _ _ _ _ _ (T50.setTop (mkF m 237 #[.val (.int p0), .val (.int p1), .val (.int p2), .val (.ref r1_0), .val (.ref r2_0), .val (.int y5), .val (.int y7), .val (.int y9), .val (.int y11), .val (.ref b12), .val (.ref b12), .val (.int x48_0), .val (.ref b12)] []))
        refine Goes.step (fun t k => XS.iconst X50.here hx rfl (hb hby at_237) k) ?_
        show Goes _ _ _ _ _ _ _ (T50.setTop (mkF m 238 #[.val (.int p0), .val (.int p1), .val (.int p2), .val (.ref r1_0), .val (.ref r2_0), .val (.int y5), .val (.int y7), .val (.int y9), .val (.int y11), .val (.ref b12), .val (.ref b12), .val (.int x48_0), .val (.ref b12)] [(.int (0 : Int32))]))
        subst hy51
        exact k53 _ _ _ X50 e50 N48 ((if_neg hc216_49).trans (if_pos hc230_52)).symm
      · refine Goes.step (fun t k => XS.ifNo X50.here hx rfl (hb hby at_230) rfl ((if0 _ _).trans (feq hc230_52).1) k) ?_
        show Goes _ _ _ _ _ _ _ (T50.setTop (mkF m 233 #[.val (.int p0), .val (.int p1), .val (.int p2), .val (.ref r1_0), .val (.ref r2_0), .val (.int y5), .val (.int y7), .val (.int y9), .val (.int y11), .val (.ref b12), .val (.ref b12), .val (.int x48_0), .val (.ref b12)] []))
        refine Goes.step (fun t k => XS.iconst X50.here hx rfl (hb hby at_233) k) ?_
        show Goes _ _ _ _ _ _ _ (T50.setTop (mkF m 234 #[.val (.int p0), .val (.int p1), .val (.int p2), .val (.ref r1_0), .val (.ref r2_0), .val (.int y5), .val (.int y7), .val (.int y9), .val (.int y11), .val (.ref b12), .val (.ref b12), .val (.int x48_0), .val (.ref b12)] [(.int (1 : Int32))]))
        refine Goes.step (fun t k => XS.goto X50.here hx rfl (pc0 := 234) (pc' := 238) rfl (hb hby at_234) (by decide) (by decide) k) ?_
        show Goes _ _ _ _ _ _ _ (T50.setTop (mkF m 238 #[.val (.int p0), .val (.int p1), .val (.int p2), .val (.ref r1_0), .val (.ref r2_0), .val (.int y5), .val (.int y7), .val (.int y9), .val (.int y11), .val (.ref b12), .val (.ref b12), .val (.int x48_0), .val (.ref b12)] [(.int (1 : Int32))]))
        subst hy51
        exact k53 _ _ _ X50 e50 N48 ((if_neg hc216_49).trans (if_neg hc230_52)).symm
  intro T53 L53 x53_0 X53 e53 N53 hx53_0
  refine Goes.step (fun t k => XS.istore X53.here hx rfl (hb hby at_238) rfl (l' := #[.val (.int p0), .val (.int p1), .val (.int p2), .val (.ref r1_0), .val (.ref r2_0), .val (.int y5), .val (.int y7), .val (.int y9), .val (.int y11), .val (.ref b12), .val (.ref b12), .val (.int x53_0), .val (.ref b12)]) rfl k) ?_
  show Goes _ _ _ _ _ _ _ (T53.setTop (mkF m 240 #[.val (.int p0), .val (.int p1), .val (.int p2), .val (.ref r1_0), .val (.ref r2_0), .val (.int y5), .val (.int y7), .val (.int y9), .val (.int y11), .val (.ref b12), .val (.ref b12), .val (.int x53_0), .val (.ref b12)] []))
  refine Goes.step (fun t k => XS.iload X53.here hx rfl (hb hby at_240) rfl k) ?_
  show Goes _ _ _ _ _ _ _ (T53.setTop (mkF m 242 #[.val (.int p0), .val (.int p1), .val (.int p2), .val (.ref r1_0), .val (.ref r2_0), .val (.int y5), .val (.int y7), .val (.int y9), .val (.int y11), .val (.ref b12), .val (.ref b12), .val (.int x53_0), .val (.ref b12)] [(.int x53_0)]))
  suffices k58 : ∀ (T58 : State) (L58 : List Loc) (x58_0 : Int32), Stand p l e room_1 s m #[(.int p0), (.int p1), (.int p2)] below meth c T58 L58 4 11 → T58.heap = h31 → Fr n0 L58 → x58_0 = (if x53_0 = (0 : Int32) then (0 : Int32) else (if (f6 p1 y9 y11 (3 : Int32) (((p1 &&& (127 : Int32)).toInt8.toInt32).toInt8.toInt32) (((((p1.toUInt32 >>> ((8 : Int32) &&& 31).toUInt32).toInt32) &&& (127 : Int32)).toInt8.toInt32).toInt8.toInt32) (((((p1.toUInt32 >>> ((16 : Int32) &&& 31).toUInt32).toInt32) &&& (127 : Int32)).toInt8.toInt32).toInt8.toInt32) (((((p1.toUInt32 >>> ((24 : Int32) &&& 31).toUInt32).toInt32) &&& (127 : Int32)).toInt8.toInt32).toInt8.toInt32)) = (0 : Int32) then (0 : Int32) else (1 : Int32))) → Goes p e below s (Q0 Z p0 p1 p2 h0 n0) kC0 kS0 (T58.setTop (mkF m 264 #[.val (.int p0), .val (.int p1), .val (.int p2), .val (.ref r1_0), .val (.ref r2_0), .val (.int y5), .val (.int y7), .val (.int y9), .val (.int y11), .val (.ref b12), .val (.ref b12), .val (.int x53_0), .val (.ref b12)] [(.int x58_0)])) by
    by_cases hc242_54 : x53_0 = (0 : Int32)
    · refine Goes.step (fun t k => XS.ifYes X53.here hx rfl (pc0 := 242) (pc' := 263) rfl (hb hby at_242) rfl ((if0 _ _).trans (teq hc242_54).1) (by decide) (by decide) k) ?_
      show Goes _ _ _ _ _ _ _ (T53.setTop (mkF m 263 #[.val (.int p0), .val (.int p1), .val (.int p2), .val (.ref r1_0), .val (.ref r2_0), .val (.int y5), .val (.int y7), .val (.int y9), .val (.int y11), .val (.ref b12), .val (.ref b12), .val (.int x53_0), .val (.ref b12)] []))
      refine Goes.step (fun t k => XS.iconst X53.here hx rfl (hb hby at_263) k) ?_
      show Goes _ _ _ _ _ _ _ (T53.setTop (mkF m 264 #[.val (.int p0), .val (.int p1), .val (.int p2), .val (.ref r1_0), .val (.ref r2_0), .val (.int y5), .val (.int y7), .val (.int y9), .val (.int y11), .val (.ref b12), .val (.ref b12), .val (.int x53_0), .val (.ref b12)] [(.int (0 : Int32))]))
      exact k58 _ _ _ X53 e53 N53 (if_pos hc242_54).symm
    · refine Goes.step (fun t k => XS.ifNo X53.here hx rfl (hb hby at_242) rfl ((if0 _ _).trans (feq hc242_54).1) k) ?_
      show Goes _ _ _ _ _ _ _ (T53.setTop (mkF m 245 #[.val (.int p0), .val (.int p1), .val (.int p2), .val (.ref r1_0), .val (.ref r2_0), .val (.int y5), .val (.int y7), .val (.int y9), .val (.int y11), .val (.ref b12), .val (.ref b12), .val (.int x53_0), .val (.ref b12)] []))
      refine Goes.step (fun t k => XS.aload X53.here hx rfl (hb hby at_245) rfl rfl k) ?_
      show Goes _ _ _ _ _ _ _ (T53.setTop (mkF m 247 #[.val (.int p0), .val (.int p1), .val (.int p2), .val (.ref r1_0), .val (.ref r2_0), .val (.int y5), .val (.int y7), .val (.int y9), .val (.int y11), .val (.ref b12), .val (.ref b12), .val (.int x53_0), .val (.ref b12)] [(.ref b12)]))
      refine Goes.step (fun t k => XS.iloadN X53.here hx rfl (hb hby at_247) rfl k) ?_
      show Goes _ _ _ _ _ _ _ (T53.setTop (mkF m 248 #[.val (.int p0), .val (.int p1), .val (.int p2), .val (.ref r1_0), .val (.ref r2_0), .val (.int y5), .val (.int y7), .val (.int y9), .val (.int y11), .val (.ref b12), .val (.ref b12), .val (.int x53_0), .val (.ref b12)] [(.int p1), (.ref b12)]))
      refine Goes.step (fun t k => XS.iload X53.here hx rfl (hb hby at_248) rfl k) ?_
      show Goes _ _ _ _ _ _ _ (T53.setTop (mkF m 250 #[.val (.int p0), .val (.int p1), .val (.int p2), .val (.ref r1_0), .val (.ref r2_0), .val (.int y5), .val (.int y7), .val (.int y9), .val (.int y11), .val (.ref b12), .val (.ref b12), .val (.int x53_0), .val (.ref b12)] [(.int y9), (.int p1), (.ref b12)]))
      refine Goes.step (fun t k => XS.iload X53.here hx rfl (hb hby at_250) rfl k) ?_
      show Goes _ _ _ _ _ _ _ (T53.setTop (mkF m 252 #[.val (.int p0), .val (.int p1), .val (.int p2), .val (.ref r1_0), .val (.ref r2_0), .val (.int y5), .val (.int y7), .val (.int y9), .val (.int y11), .val (.ref b12), .val (.ref b12), .val (.int x53_0), .val (.ref b12)] [(.int y11), (.int y9), (.int p1), (.ref b12)]))
      refine Goes.step (fun t k => XS.iconst X53.here hx rfl (hb hby at_252) k) ?_
      show Goes _ _ _ _ _ _ _ (T53.setTop (mkF m 253 #[.val (.int p0), .val (.int p1), .val (.int p2), .val (.ref r1_0), .val (.ref r2_0), .val (.int y5), .val (.int y7), .val (.int y9), .val (.int y11), .val (.ref b12), .val (.ref b12), .val (.int x53_0), .val (.ref b12)] [(.int (3 : Int32)), (.int y11), (.int y9), (.int p1), (.ref b12)]))
      obtain ⟨_, _, ⟨T55, L55, k55, n55⟩, -, X55, ⟨Lc55, hQ55, l55, y55, z55⟩, st55⟩ := Jvm.LawKit.callS X53 hx (y := (⟨"com/example/crisp_monitor/crispmonitor/io/AsciiViewOfPinLaw", "at", "(Lcom/example/crisp_monitor/crispmonitor/io/AsciiView;IIII)Z"⟩ : MethodName)) hown (mvT hZ (hw _ (List.mem_of_getElem? (i := 30) rfl))) (mvT hZ (hw _ (List.mem_of_getElem? (i := 31) rfl))) (mvT hZ (hw _ (List.mem_of_getElem? (i := 2) rfl))) (mvT hZ (hw _ (List.mem_of_getElem? (i := 32) rfl))) (by decide) (backOf (W := 0) (rm6 l Z tA hw [] b12 p1 y9 y11 (3 : Int32) r2_0 (((p1 &&& (127 : Int32)).toInt8.toInt32).toInt8.toInt32) (((((p1.toUInt32 >>> ((8 : Int32) &&& 31).toUInt32).toInt32) &&& (127 : Int32)).toInt8.toInt32).toInt8.toInt32) (((((p1.toUInt32 >>> ((16 : Int32) &&& 31).toUInt32).toInt32) &&& (127 : Int32)).toInt8.toInt32).toInt8.toInt32) (((((p1.toUInt32 >>> ((24 : Int32) &&& 31).toUInt32).toInt32) &&& (127 : Int32)).toInt8.toInt32).toInt8.toInt32) h31 G31_0 G31_1 G31_2 G31_3 F33 (by decide) (own_rng55 p2 y9 y11 hy9 hy11).1 (own_rng55 p2 y9 y11 hy9 hy11).2) hZ (hw _ (List.mem_of_getElem? (i := 32) rfl)) (hw _ (List.mem_of_getElem? (i := 2) rfl)) (by decide) (by decide)) (g := (mkF m 253 #[.val (.int p0), .val (.int p1), .val (.int p2), .val (.ref r1_0), .val (.ref r2_0), .val (.int y5), .val (.int y7), .val (.int y9), .val (.int y11), .val (.ref b12), .val (.ref b12), .val (.int x53_0), .val (.ref b12)] [(.int (3 : Int32)), (.int y11), (.int y9), (.int p1), (.ref b12)])) rfl (by rw [hml]; rfl) (argsL := [(.ref b12), (.int p1), (.int y9), (.int y11), (.int (3 : Int32))]) (rest := []) (lenOf own_pd5 rfl) rfl (by show 2 * 0 + _ ≤ _; exact Nat.le_of_eq rfl) (hb hby at_253) (fun _ _ => ⟨rfl, e53, (by decide : 4 + 0 ≤ _), (by decide : 11 + 0 ≤ _)⟩)
      dsimp only [Pt.U, Pt.locs, Pt.cells, Pt.slots] at X55 l55 y55 z55 st55 hQ55
      subst l55 y55 z55
      obtain ⟨rfl, rfl, e55⟩ := hQ55
      try rw [List.append_nil] at X55
      change Stand _ _ _ _ _ _ _ _ _ _ _ _ 4 11 at X55
      refine Goes.step (fun t k => st55 t k) ?_
      show Goes _ _ _ _ _ _ _ (T55.setTop (mkF m 256 #[.val (.int p0), .val (.int p1), .val (.int p2), .val (.ref r1_0), .val (.ref r2_0), .val (.int y5), .val (.int y7), .val (.int y9), .val (.int y11), .val (.ref b12), .val (.ref b12), .val (.int x53_0), .val (.ref b12)] [(.int (f6 p1 y9 y11 (3 : Int32) (((p1 &&& (127 : Int32)).toInt8.toInt32).toInt8.toInt32) (((((p1.toUInt32 >>> ((8 : Int32) &&& 31).toUInt32).toInt32) &&& (127 : Int32)).toInt8.toInt32).toInt8.toInt32) (((((p1.toUInt32 >>> ((16 : Int32) &&& 31).toUInt32).toInt32) &&& (127 : Int32)).toInt8.toInt32).toInt8.toInt32) (((((p1.toUInt32 >>> ((24 : Int32) &&& 31).toUInt32).toInt32) &&& (127 : Int32)).toInt8.toInt32).toInt8.toInt32)))]))
      generalize hy56 : (f6 p1 y9 y11 (3 : Int32) (((p1 &&& (127 : Int32)).toInt8.toInt32).toInt8.toInt32) (((((p1.toUInt32 >>> ((8 : Int32) &&& 31).toUInt32).toInt32) &&& (127 : Int32)).toInt8.toInt32).toInt8.toInt32) (((((p1.toUInt32 >>> ((16 : Int32) &&& 31).toUInt32).toInt32) &&& (127 : Int32)).toInt8.toInt32).toInt8.toInt32) (((((p1.toUInt32 >>> ((24 : Int32) &&& 31).toUInt32).toInt32) &&& (127 : Int32)).toInt8.toInt32).toInt8.toInt32)) = y56
      by_cases hc256_57 : y56 = (0 : Int32)
      · refine Goes.step (fun t k => XS.ifYes X55.here hx rfl (pc0 := 256) (pc' := 263) rfl (hb hby at_256) rfl ((if0 _ _).trans (teq hc256_57).1) (by decide) (by decide) k) ?_
        show Goes _ _ _ _ _ _ _ (T55.setTop (mkF m 263 #[.val (.int p0), .val (.int p1), .val (.int p2), .val (.ref r1_0), .val (.ref r2_0), .val (.int y5), .val (.int y7), .val (.int y9), .val (.int y11), .val (.ref b12), .val (.ref b12), .val (.int x53_0), .val (.ref b12)] []))
        refine Goes.step (fun t k => XS.iconst X55.here hx rfl (hb hby at_263) k) ?_
        show Goes _ _ _ _ _ _ _ (T55.setTop (mkF m 264 #[.val (.int p0), .val (.int p1), .val (.int p2), .val (.ref r1_0), .val (.ref r2_0), .val (.int y5), .val (.int y7), .val (.int y9), .val (.int y11), .val (.ref b12), .val (.ref b12), .val (.int x53_0), .val (.ref b12)] [(.int (0 : Int32))]))
        subst hy56
        exact k58 _ _ _ X55 e55 N53 ((if_neg hc242_54).trans (if_pos hc256_57)).symm
      · refine Goes.step (fun t k => XS.ifNo X55.here hx rfl (hb hby at_256) rfl ((if0 _ _).trans (feq hc256_57).1) k) ?_
        show Goes _ _ _ _ _ _ _ (T55.setTop (mkF m 259 #[.val (.int p0), .val (.int p1), .val (.int p2), .val (.ref r1_0), .val (.ref r2_0), .val (.int y5), .val (.int y7), .val (.int y9), .val (.int y11), .val (.ref b12), .val (.ref b12), .val (.int x53_0), .val (.ref b12)] []))
        refine Goes.step (fun t k => XS.iconst X55.here hx rfl (hb hby at_259) k) ?_
        show Goes _ _ _ _ _ _ _ (T55.setTop (mkF m 260 #[.val (.int p0), .val (.int p1), .val (.int p2), .val (.ref r1_0), .val (.ref r2_0), .val (.int y5), .val (.int y7), .val (.int y9), .val (.int y11), .val (.ref b12), .val (.ref b12), .val (.int x53_0), .val (.ref b12)] [(.int (1 : Int32))]))
        refine Goes.step (fun t k => XS.goto X55.here hx rfl (pc0 := 260) (pc' := 264) rfl (hb hby at_260) (by decide) (by decide) k) ?_
        show Goes _ _ _ _ _ _ _ (T55.setTop (mkF m 264 #[.val (.int p0), .val (.int p1), .val (.int p2), .val (.ref r1_0), .val (.ref r2_0), .val (.int y5), .val (.int y7), .val (.int y9), .val (.int y11), .val (.ref b12), .val (.ref b12), .val (.int x53_0), .val (.ref b12)] [(.int (1 : Int32))]))
        subst hy56
        exact k58 _ _ _ X55 e55 N53 ((if_neg hc242_54).trans (if_neg hc256_57)).symm
  intro T58 L58 x58_0 X58 e58 N58 hx58_0
  refine Goes.step (fun t k => XS.istore X58.here hx rfl (hb hby at_264) rfl (l' := #[.val (.int p0), .val (.int p1), .val (.int p2), .val (.ref r1_0), .val (.ref r2_0), .val (.int y5), .val (.int y7), .val (.int y9), .val (.int y11), .val (.ref b12), .val (.ref b12), .val (.int x58_0), .val (.ref b12)]) rfl k) ?_
  show Goes _ _ _ _ _ _ _ (T58.setTop (mkF m 266 #[.val (.int p0), .val (.int p1), .val (.int p2), .val (.ref r1_0), .val (.ref r2_0), .val (.int y5), .val (.int y7), .val (.int y9), .val (.int y11), .val (.ref b12), .val (.ref b12), .val (.int x58_0), .val (.ref b12)] []))
  refine Goes.step (fun t k => XS.iload X58.here hx rfl (hb hby at_266) rfl k) ?_
  show Goes _ _ _ _ _ _ _ (T58.setTop (mkF m 268 #[.val (.int p0), .val (.int p1), .val (.int p2), .val (.ref r1_0), .val (.ref r2_0), .val (.int y5), .val (.int y7), .val (.int y9), .val (.int y11), .val (.ref b12), .val (.ref b12), .val (.int x58_0), .val (.ref b12)] [(.int x58_0)]))
  exact Goes.retZ X58 hx Bd.notSynchronized (r := (1 : Int32)) Bd.returns (by simp) (hb hby at_268) (own_plain p0 p1 p2 y5 y7 y9 y11 x30_0 x38_0 x43_0 x48_0 x53_0 x58_0 hy5 hy7 hy9 hy11 hx30_0 hx38_0 hx43_0 hx48_0 hx53_0 hx58_0) ⟨rfl, N58⟩ (by decide) (by decide)
set_option maxRecDepth 65536 in
set_option maxHeartbeats 40000000 in
theorem comes_1 {Post : Tables → Env → Array Value → State → Outcome → State → Prop} (hpost : ∀ tb e args s v u, (limb_1_1.after args s (.returned v) u = true ∧ limb_1_2.after args s (.returned v) u = true ∧ True) → FrameEnd s (.returned v) u (Jvm.fieldLocs frame_1_writes args s ++ Jvm.arrayLocs frame_1_arrays args s ++ Jvm.staticLocs frame_1_statics s) 16 128 → Post tb e args s (.returned v) u) :
    ArmFor flags0 classFile x code maxLocals ret World_1 tables_1 room_1 Calls_1 rest_1 Pre_1 Post := by
  intro l hfl _ _ p e ha hc hk s m args below hf hA hF happ hP
  obtain ⟨hcalls, hrest, hpre⟩ := hP
  obtain ⟨-, -, -, hnamed, -, -, -, hat⟩ := (Spec.applies_iff hf).mp happ
  obtain ⟨hg, hn⟩ := and_e (Cond.before_iff.mp (show (Jvm.Cond.and given_1 narrow_1).before args s = true from hpre))
  obtain ⟨g0, gr0⟩ := and_e hg
  obtain ⟨ga0, gr1⟩ := and_e gr0
  obtain ⟨ga1, gr2⟩ := and_e gr1
  have ga2 := gr2
  obtain ⟨w0, w1, w2, rfl⟩ : ∃ w0 w1 w2 : Value, args = #[w0, w1, w2] := by
    have hs : args.size = 3 := by simpa [Cond.value, given_1] using g0
    obtain ⟨L⟩ := args
    match L, hs with
    | [w0, w1, w2], _ => exact ⟨w0, w1, w2, rfl⟩
  have hw := fun d (hd : d ∈ tables_1) => atoms_spec (ws := Jvm.Cond.code x code maxLocals ret :: tables_1) hat d (List.mem_cons_of_mem _ hd)
  have hfit : Fit s := fun {y c} hc i hi => by
    obtain ⟨ha, rfl⟩ := Array.getElem?_eq_some_iff.mp hc
    have q := List.all_eq_true.mp ((Array.all_eq_true_iff_forall_mem.mp hF) _ (Array.getElem_mem ha)) i (List.mem_range.mpr hi)
    simpa [Array.getElem?_eq_getElem hi] using q
  obtain ⟨i0, ei0⟩ := is_v ga0
  obtain rfl : w0 = (.int i0) := Option.some.inj ei0
  obtain ⟨i1, ei1⟩ := is_v ga1
  obtain rfl : w1 = (.int i1) := Option.some.inj ei1
  obtain ⟨i2, ei2⟩ := is_v ga2
  obtain rfl : w2 = (.int i2) := Option.some.inj ei2
  obtain ⟨n, o, h1, h2, h3, _, L, rfl, ⟨rfl, N⟩, hq⟩ := rm0 l s _ hw tables_1 i0 i1 i2  s.heap s.heap.size (Nat.le_refl _)  p e ha hc hk s m _ below hf ((Spec.applies_iff_loose hf).mp happ).1 ⟨rfl, State.Warmed39.refl s, rfl⟩ trivial
  refine ⟨n, _, h1, h2, h3, hpost _ _ _ _ _ _ ⟨Cond.after_iff.mpr rfl, Cond.after_iff.mpr (eq_i res_at (Term.int_eval (1)) rfl), trivial⟩ ⟨hq.1, hq.2.1, (hq.2.2.sift fun y hy => Or.inr (N y hy)).mono (by decide) (by decide)⟩⟩
theorem main_1_1 : Claimed_1_1 := comes_1 fun _ _ _ _ _ _ h hF => ⟨h.1, hF⟩
theorem main_1_2 : Claimed_1_2 := comes_1 fun _ _ _ _ _ _ h hF => ⟨h.2.1, hF⟩
end Jvm.Pilot.@@N@@
namespace Jvm.Pilot.@@N@@
open Jvm Jvm.ClassFile Sem Op Lib Jvm.Free Jvm.Stand Jvm.Pilot.@@N@@.Jvm.D
/-! MADE BY PROGRAM (witnessworld.py) out of the Statement's table words and the real class files: 10 classes; the members and pool entries that the words name. The judged class is class 1, her method 1. -/
namespace start1
open Jvm.ClassFile
def u (s : String) : CpInfo := .utf8 (stringToUtf16 s)
/-- a pool by its gaps: so many unusable entries, then the entry; so many at the end -/
def gap : Nat → List CpInfo → List CpInfo
  | 0, r => r
  | n + 1, r => .unusable :: gap n r
def poolList (es : List (Nat × CpInfo)) (last : Nat) : List CpInfo := es.foldr (fun e r => gap e.1 (e.2 :: r)) (gap last [])
def pool (es : List (Nat × CpInfo)) (last : Nat) : Array CpInfo := ⟨poolList es last⟩
def fileOf (pool : Array CpInfo) (this : Nat) (attrs : Array Attribute := #[]) (ms : Array MethodInfo := #[]) (fl : Nat := 33) (sup : Nat := 0) (ifs : Array Nat := #[]) (fds : Array FieldInfo := #[]) : ClassFile where
  minorVersion := 0
  majorVersion := 65
  constantPool := pool
  accessFlags := fl
  thisClass := this
  superClass := sup
  interfaces := ifs
  fields := fds
  methods := ms
  attributes := attrs
def plain (name : String) (sup : Option ClassId) : Class where
  name := name
  kind := .ordinary
  loader := none
  accessFlags := 33
  super := sup
  interfaces := #[]
  cf := none
  fields := #[]
  methods := #[]
  instanceTypes := #[]
  staticTypes := #[]
  resolved := #[]
  callSites := []
  init := .initialized
  statics := none
  mirror := none

def pool0 : Array CpInfo := pool [(5, u "<init>"), (0, u "()V"), (1, .class_ 10), (1, u "java/lang/Object")] 113

def k0c0 : Code := { maxStack := 0, maxLocals := 1, code := object_method_1_code, exceptionTable := #[], attributes := #[] }
def k0m0 : Method := { name := "<init>", desc := "()V", sig := { parameters := [], returnType := none }, accessFlags := 1, code := some k0c0 }
/-- java/lang/Object -/
def k0 : Class := { plain "java/lang/Object" none with
  accessFlags := 33
  interfaces := #[]
  cf := some (fileOf pool0 8 #[] #[{ accessFlags := 1, nameIndex := 5, descriptorIndex := 6, attributes := #[] }] 33 0 #[] #[])
  fields := #[]
  methods := #[k0m0]
  instanceTypes := #[]
  staticTypes := #[]
  resolved := Array.replicate 124 none
  statics := none }

def pool1 : Array CpInfo := pool [(2, .class_ 4), (0, .nameAndType 5 6), (0, u "java/lang/Object"), (0, u "<init>"), (0, u "()V"), (0, .methodref 8 9), (0, .class_ 10), (0, .nameAndType 11 12), (0, u "com/example/crisp_monitor/crispmonitor/io/AsciiViewOfPinLaw"), (0, u "bytes"), (0, u "(I)[B"), (0, .class_ 14), (0, u "com/example/crisp_monitor/crispmonitor/io/AsciiView"), (0, .methodref 13 3), (0, .methodref 13 17), (0, .nameAndType 18 19), (0, u "of"), (0, u "([BII)Lcom/example/crisp_monitor/crispmonitor/io/AsciiView;"), (0, .methodref 13 21), (0, .nameAndType 22 23), (0, u "length"), (0, u "()I"), (0, .methodref 8 25), (0, .nameAndType 26 27), (0, u "at"), (0, u "(Lcom/example/crisp_monitor/crispmonitor/io/AsciiView;IIII)Z"), (0, .methodref 13 29), (0, .nameAndType 30 31), (0, u "charAt"), (0, u "(I)C"), (2, u "law"), (0, u "(III)Z")] 5

def k1m0 : Method := { name := "<init>", desc := "()V", sig := { parameters := [], returnType := none }, accessFlags := 1, code := none }
def k1c1 : Code := { maxStack := 5, maxLocals := 13, code := code, exceptionTable := #[], attributes := #[] }
def k1m1 : Method := { name := "law", desc := "(III)Z", sig := { parameters := [.int, .int, .int], returnType := some .boolean }, accessFlags := 9, code := some k1c1 }
def k1c2 : Code := { maxStack := 4, maxLocals := 2, code := method_3_code, exceptionTable := #[], attributes := #[] }
def k1m2 : Method := { name := "bytes", desc := "(I)[B", sig := { parameters := [.int], returnType := some (.array .byte) }, accessFlags := 10, code := some k1c2 }
def k1c3 : Code := { maxStack := 4, maxLocals := 6, code := method_4_code, exceptionTable := #[], attributes := #[] }
def k1m3 : Method := { name := "at", desc := "(Lcom/example/crisp_monitor/crispmonitor/io/AsciiView;IIII)Z", sig := { parameters := [(.object "com/example/crisp_monitor/crispmonitor/io/AsciiView"), .int, .int, .int, .int], returnType := some .boolean }, accessFlags := 10, code := some k1c3 }
/-- com/example/crisp_monitor/crispmonitor/io/AsciiViewOfPinLaw -/
def k1 : Class := { plain "com/example/crisp_monitor/crispmonitor/io/AsciiViewOfPinLaw" (some 0) with
  accessFlags := 49
  interfaces := #[]
  cf := some (fileOf pool1 8 #[] #[{ accessFlags := 1, nameIndex := 5, descriptorIndex := 6, attributes := #[] }, { accessFlags := 9, nameIndex := 34, descriptorIndex := 35, attributes := #[] }, { accessFlags := 10, nameIndex := 11, descriptorIndex := 12, attributes := #[] }, { accessFlags := 10, nameIndex := 26, descriptorIndex := 27, attributes := #[] }] 49 2 #[] #[])
  fields := #[]
  methods := #[k1m0, k1m1, k1m2, k1m3]
  instanceTypes := #[]
  staticTypes := #[]
  resolved := Array.replicate 41 none
  statics := none }

def pool2 : Array CpInfo := pool [(2, .class_ 4), (1, u "java/lang/CharSequence"), (42, .class_ 48), (0, u "java/lang/CharSequence$1CodePointIterator"), (10, .class_ 60), (0, u "java/lang/CharSequence$1CharIterator"), (5, .class_ 67), (0, u "java/lang/Object")] 63

/-- java/lang/CharSequence -/
def k2 : Class := { plain "java/lang/CharSequence" (some 0) with
  accessFlags := 1537
  interfaces := #[]
  cf := some (fileOf pool2 2 #[.nestMembers #[47, 59]] #[] 1537 66 #[] #[])
  fields := #[]
  methods := #[]
  instanceTypes := #[]
  staticTypes := #[]
  resolved := Array.replicate 131 none
  statics := none }

def pool3 : Array CpInfo := pool [(1, .methodref 2 3), (0, .class_ 4), (0, .nameAndType 5 6), (0, u "java/lang/Object"), (0, u "<init>"), (0, u "()V"), (0, .fieldref 8 9), (0, .class_ 10), (0, .nameAndType 11 12), (0, u "com/example/crisp_monitor/crispmonitor/io/AsciiView"), (0, u "bytes"), (0, u "[B"), (0, .fieldref 8 14), (0, .nameAndType 15 16), (0, u "start"), (0, u "I"), (0, .fieldref 8 18), (0, .nameAndType 19 16), (0, u "length"), (24, .class_ 45), (0, u "java/lang/CharSequence"), (2, u "of"), (0, u "([BII)Lcom/example/crisp_monitor/crispmonitor/io/AsciiView;"), (0, u "()I"), (0, u "charAt"), (0, u "(I)C")] 3

def k3c0 : Code := { maxStack := 2, maxLocals := 1, code := prog_52_method_1_code, exceptionTable := #[], attributes := #[] }
def k3m0 : Method := { name := "<init>", desc := "()V", sig := { parameters := [], returnType := none }, accessFlags := 0, code := some k3c0 }
def k3c1 : Code := { maxStack := 2, maxLocals := 4, code := prog_52_method_2_code, exceptionTable := #[], attributes := #[] }
def k3m1 : Method := { name := "of", desc := "([BII)Lcom/example/crisp_monitor/crispmonitor/io/AsciiView;", sig := { parameters := [(.array .byte), .int, .int], returnType := some (.object "com/example/crisp_monitor/crispmonitor/io/AsciiView") }, accessFlags := 0, code := some k3c1 }
def k3c2 : Code := { maxStack := 1, maxLocals := 1, code := prog_52_method_3_code, exceptionTable := #[], attributes := #[] }
def k3m2 : Method := { name := "length", desc := "()I", sig := { parameters := [], returnType := some .int }, accessFlags := 1, code := some k3c2 }
def k3c3 : Code := { maxStack := 3, maxLocals := 2, code := prog_52_method_4_code, exceptionTable := #[], attributes := #[] }
def k3m3 : Method := { name := "charAt", desc := "(I)C", sig := { parameters := [.int], returnType := some .char }, accessFlags := 1, code := some k3c3 }
/-- com/example/crisp_monitor/crispmonitor/io/AsciiView -/
def k3 : Class := { plain "com/example/crisp_monitor/crispmonitor/io/AsciiView" (some 0) with
  accessFlags := 48
  interfaces := #[2]
  cf := some (fileOf pool3 8 #[] #[{ accessFlags := 0, nameIndex := 5, descriptorIndex := 6, attributes := #[] }, { accessFlags := 0, nameIndex := 48, descriptorIndex := 49, attributes := #[] }, { accessFlags := 1, nameIndex := 19, descriptorIndex := 50, attributes := #[] }, { accessFlags := 1, nameIndex := 51, descriptorIndex := 52, attributes := #[] }] 48 2 #[44] #[{ accessFlags := 2, nameIndex := 11, descriptorIndex := 12, attributes := #[] }, { accessFlags := 2, nameIndex := 15, descriptorIndex := 16, attributes := #[] }, { accessFlags := 2, nameIndex := 19, descriptorIndex := 16, attributes := #[] }])
  fields := #[{ name := "bytes", type := (.array .byte), accessFlags := 2, slot := 0, constantValue := 0 }, { name := "start", type := .int, accessFlags := 2, slot := 1, constantValue := 0 }, { name := "length", type := .int, accessFlags := 2, slot := 2, constantValue := 0 }]
  methods := #[k3m0, k3m1, k3m2, k3m3]
  instanceTypes := #[(.array .byte), .int, .int]
  staticTypes := #[]
  resolved := Array.replicate 56 none
  statics := none }

def pool4 : Array CpInfo := pool [(1, u "java/lang/Cloneable"), (0, .class_ 1), (0, u "java/lang/Object"), (0, .class_ 3)] 3

/-- java/lang/Cloneable -/
def k4 : Class := { plain "java/lang/Cloneable" (some 0) with
  accessFlags := 1537
  interfaces := #[]
  cf := some (fileOf pool4 2 #[] #[] 1537 4 #[] #[])
  fields := #[]
  methods := #[]
  instanceTypes := #[]
  staticTypes := #[]
  resolved := Array.replicate 8 none
  statics := none }

def pool5 : Array CpInfo := pool [(1, u "java/io/Serializable"), (0, .class_ 1), (0, u "java/lang/Object"), (0, .class_ 3)] 3

/-- java/io/Serializable -/
def k5 : Class := { plain "java/io/Serializable" (some 0) with
  accessFlags := 1537
  interfaces := #[]
  cf := some (fileOf pool5 2 #[] #[] 1537 4 #[] #[])
  fields := #[]
  methods := #[]
  instanceTypes := #[]
  staticTypes := #[]
  resolved := Array.replicate 8 none
  statics := none }

/-- the primitive byte -/
def k6 : Class := { plain "byte" none with kind := .primitive 'B', accessFlags := 0x411 }
/-- [B -/
def k7 : Class := { plain "[B" (some 0) with kind := .array 6 .byte, interfaces := #[4, 5], accessFlags := 1041 }

/-- the primitive int -/
def k8 : Class := { plain "int" none with kind := .primitive 'I', accessFlags := 0x411 }
/-- [I -/
def k9 : Class := { plain "[I" (some 0) with kind := .array 8 .int, interfaces := #[4, 5], accessFlags := 1041 }

def heap : Heap := #[]
def classes : Array Class := #[k0, k1, k2, k3, k4, k5, k6, k7, k8, k9]
def interned : List (Array UInt16 × Addr) := []
def slotsUsed : Nat := 0
def theMethod : MethodId := ⟨1, 1⟩
def args0 : Array Value := #[.int 5, .int 7, .int 99]
def aboutOver (below : List Frame) : State where
  vm := { classes := classes, interned := interned.toArray }
  heap := heap
  slotsUsed := slotsUsed
  threads := #[{ frames := .invoking theMethod args0 :: below }]
def below0 : List Frame := [.native { method := ⟨0, 0⟩, args := #[] }]
def about1 : State := aboutOver below0
def p0 : Program := .bare "" "" ""
def e0 : Env := launch0.env 0 0 0
theorem w_frames : about1.frames = Frame.invoking theMethod args0 :: below0 := rfl
set_option maxRecDepth 65536 in
theorem w_args : argsFit about1.vm theMethod args0 = true := by decide +kernel
set_option maxRecDepth 65536 in
theorem w_heap : heapFits about1 = true := by decide +kernel
set_option maxRecDepth 65536 in
theorem w_runnable : about1.curStatus? = some .runnable := by decide +kernel
set_option maxRecDepth 65536 in
theorem w_alone : about1.alone = true := by decide +kernel
set_option maxRecDepth 65536 in
theorem w_named : about1.methodNamed? x = some theMethod := by decide +kernel
set_option maxRecDepth 65536 in
theorem w_hears : about1.hears theMethod below0 = true := by decide +kernel
set_option maxRecDepth 65536 in
theorem w_ripe : about1.ripe theMethod args0 below0 = true := by decide +kernel
theorem w_running : about1.status = .running := rfl
set_option maxRecDepth 65536 in
theorem w_room : about1.hasRoom e0.platform room_1 = true :=
  launch0.hasRoom_least _ room_1 (by decide +kernel) (by decide +kernel) (by decide +kernel) (by decide +kernel) (by decide +kernel) (by decide +kernel)
theorem allAtoms_all (ts : List Jvm.Cond) (a : Array Jvm.Value) (st : Jvm.State) : (allAtoms ts).before a st = ts.all (fun c => c.before a st) := by
  induction ts with
  | nil => rfl
  | cons c t ih =>
    show (Jvm.Cond.and c (allAtoms t)).before a st = _
    rw [Jvm.Cond.before_and, ih, List.all_cons]
def words1 : List Jvm.Cond := Jvm.Cond.code x code maxLocals ret :: tables_1
/-- a 'code' word, met by the world's own term for the bytes: nothing is compared byte by byte -/
theorem code_word {y : MethodName} {bytes : ByteArray} {mx : Nat} {rt : Option FieldType} {a : Array Value} {s : State} {m : MethodId} {meth : Method} {c : Code} (h1 : s.methodNamed? y = some m) (h2 : s.vm.method? m = some meth) (h3 : meth.code = some c) (h4 : c.code = bytes)
    (h5 : (c.maxLocals == mx && c.exceptionTable.isEmpty && decide (c.maxStack ≤ mostOperands) && decide (meth.sig.returnType = rt) && !meth.locks && decide (parseMethodDescriptor y.desc = some meth.sig)) = true) : (Jvm.Cond.code y bytes mx rt).before a s = true := by
  simp only [Bool.and_eq_true, beq_iff_eq, Bool.not_eq_true', decide_eq_true_eq] at h5
  obtain ⟨⟨⟨⟨⟨g1, g2⟩, g3⟩, g4⟩, g5⟩, g6⟩ := h5
  simp [Cond.before, Cond.holds, Cond.value, h1, h2, h3, h4, g1, g2, g3, g4, g5, g6]
def isCode : Jvm.Cond → Bool
  | .code _ _ _ _ => true
  | _ => false
theorem all_split {L : List Jvm.Cond} {P : Jvm.Cond → Bool} (h1 : L.all (fun c => isCode c || P c) = true) (h2 : ∀ c ∈ L.filter isCode, P c = true) : L.all P = true := by
  refine List.all_eq_true.mpr fun c hc => ?_
  have h := List.all_eq_true.mp h1 c hc
  rcases Bool.eq_false_or_eq_true (isCode c) with hi | hi
  · exact h2 c (List.mem_filter.mpr ⟨hc, hi⟩)
  · simpa [hi] using h
set_option maxRecDepth 65536 in
theorem w_c0 : (Jvm.Cond.code x code maxLocals ret).before args0 about1 = true := code_word (m := ⟨1, 1⟩) (meth := k1m1) (c := k1c1) (by decide +kernel) rfl rfl rfl (by decide +kernel)
set_option maxRecDepth 65536 in
theorem w_c1 : (Jvm.Cond.code ({ cls := "com/example/crisp_monitor/crispmonitor/io/AsciiViewOfPinLaw", name := "bytes", desc := "(I)[B" } : Jvm.MethodName) method_3_code (2 : Nat) (Option.some (Jvm.ClassFile.FieldType.array Jvm.ClassFile.FieldType.byte))).before args0 about1 = true := code_word (m := ⟨1, 2⟩) (meth := k1m2) (c := k1c2) (by decide +kernel) rfl rfl rfl (by decide +kernel)
set_option maxRecDepth 65536 in
theorem w_c2 : (Jvm.Cond.code ({ cls := "com/example/crisp_monitor/crispmonitor/io/AsciiView", name := "<init>", desc := "()V" } : Jvm.MethodName) prog_52_method_1_code (1 : Nat) (Option.none : Option Jvm.ClassFile.FieldType)).before args0 about1 = true := code_word (m := ⟨3, 0⟩) (meth := k3m0) (c := k3c0) (by decide +kernel) rfl rfl rfl (by decide +kernel)
set_option maxRecDepth 65536 in
theorem w_c3 : (Jvm.Cond.code ({ cls := "java/lang/Object", name := "<init>", desc := "()V" } : Jvm.MethodName) object_method_1_code (1 : Nat) (Option.none : Option Jvm.ClassFile.FieldType)).before args0 about1 = true := code_word (m := ⟨0, 0⟩) (meth := k0m0) (c := k0c0) (by decide +kernel) rfl rfl rfl (by decide +kernel)
set_option maxRecDepth 65536 in
theorem w_c4 : (Jvm.Cond.code ({ cls := "com/example/crisp_monitor/crispmonitor/io/AsciiView", name := "of", desc := "([BII)Lcom/example/crisp_monitor/crispmonitor/io/AsciiView;" } : Jvm.MethodName) prog_52_method_2_code (4 : Nat) (Option.some (Jvm.ClassFile.FieldType.object "com/example/crisp_monitor/crispmonitor/io/AsciiView"))).before args0 about1 = true := code_word (m := ⟨3, 1⟩) (meth := k3m1) (c := k3c1) (by decide +kernel) rfl rfl rfl (by decide +kernel)
set_option maxRecDepth 65536 in
theorem w_c5 : (Jvm.Cond.code ({ cls := "com/example/crisp_monitor/crispmonitor/io/AsciiView", name := "length", desc := "()I" } : Jvm.MethodName) prog_52_method_3_code (1 : Nat) (Option.some Jvm.ClassFile.FieldType.int)).before args0 about1 = true := code_word (m := ⟨3, 2⟩) (meth := k3m2) (c := k3c2) (by decide +kernel) rfl rfl rfl (by decide +kernel)
set_option maxRecDepth 65536 in
theorem w_c6 : (Jvm.Cond.code ({ cls := "com/example/crisp_monitor/crispmonitor/io/AsciiViewOfPinLaw", name := "at", desc := "(Lcom/example/crisp_monitor/crispmonitor/io/AsciiView;IIII)Z" } : Jvm.MethodName) method_4_code (6 : Nat) (Option.some Jvm.ClassFile.FieldType.boolean)).before args0 about1 = true := code_word (m := ⟨1, 3⟩) (meth := k1m3) (c := k1c3) (by decide +kernel) rfl rfl rfl (by decide +kernel)
set_option maxRecDepth 65536 in
theorem w_c7 : (Jvm.Cond.code ({ cls := "com/example/crisp_monitor/crispmonitor/io/AsciiView", name := "charAt", desc := "(I)C" } : Jvm.MethodName) prog_52_method_4_code (2 : Nat) (Option.some Jvm.ClassFile.FieldType.char)).before args0 about1 = true := code_word (m := ⟨3, 3⟩) (meth := k3m3) (c := k3c3) (by decide +kernel) rfl rfl rfl (by decide +kernel)
def codes1 : List Jvm.Cond := [Jvm.Cond.code x code maxLocals ret, Jvm.Cond.code ({ cls := "com/example/crisp_monitor/crispmonitor/io/AsciiViewOfPinLaw", name := "bytes", desc := "(I)[B" } : Jvm.MethodName) method_3_code (2 : Nat) (Option.some (Jvm.ClassFile.FieldType.array Jvm.ClassFile.FieldType.byte)), Jvm.Cond.code ({ cls := "com/example/crisp_monitor/crispmonitor/io/AsciiView", name := "<init>", desc := "()V" } : Jvm.MethodName) prog_52_method_1_code (1 : Nat) (Option.none : Option Jvm.ClassFile.FieldType), Jvm.Cond.code ({ cls := "java/lang/Object", name := "<init>", desc := "()V" } : Jvm.MethodName) object_method_1_code (1 : Nat) (Option.none : Option Jvm.ClassFile.FieldType), Jvm.Cond.code ({ cls := "com/example/crisp_monitor/crispmonitor/io/AsciiView", name := "of", desc := "([BII)Lcom/example/crisp_monitor/crispmonitor/io/AsciiView;" } : Jvm.MethodName) prog_52_method_2_code (4 : Nat) (Option.some (Jvm.ClassFile.FieldType.object "com/example/crisp_monitor/crispmonitor/io/AsciiView")), Jvm.Cond.code ({ cls := "com/example/crisp_monitor/crispmonitor/io/AsciiView", name := "length", desc := "()I" } : Jvm.MethodName) prog_52_method_3_code (1 : Nat) (Option.some Jvm.ClassFile.FieldType.int), Jvm.Cond.code ({ cls := "com/example/crisp_monitor/crispmonitor/io/AsciiViewOfPinLaw", name := "at", desc := "(Lcom/example/crisp_monitor/crispmonitor/io/AsciiView;IIII)Z" } : Jvm.MethodName) method_4_code (6 : Nat) (Option.some Jvm.ClassFile.FieldType.boolean), Jvm.Cond.code ({ cls := "com/example/crisp_monitor/crispmonitor/io/AsciiView", name := "charAt", desc := "(I)C" } : Jvm.MethodName) prog_52_method_4_code (2 : Nat) (Option.some Jvm.ClassFile.FieldType.char)]
set_option maxRecDepth 65536 in
theorem codes_eq : words1.filter isCode = codes1 := rfl
theorem w_codes : ∀ c ∈ words1.filter isCode, c.before args0 about1 = true := by
  rw [codes_eq]
  intro c hc
  simp only [codes1, List.mem_cons, List.not_mem_nil, or_false] at hc
  rcases hc with rfl | rfl | rfl | rfl | rfl | rfl | rfl | rfl
  · exact w_c0
  · exact w_c1
  · exact w_c2
  · exact w_c3
  · exact w_c4
  · exact w_c5
  · exact w_c6
  · exact w_c7
set_option maxRecDepth 65536 in
theorem w_t1 : (words1.take 24).all (fun c => isCode c || c.before args0 about1) = true := by decide +kernel
set_option maxRecDepth 65536 in
theorem w_t2 : (words1.drop 24).all (fun c => isCode c || c.before args0 about1) = true := by decide +kernel
theorem w_tables : (allAtoms (Jvm.Cond.code x code maxLocals ret :: tables_1)).before args0 about1 = true := by
  rw [allAtoms_all]
  show words1.all (fun c => c.before args0 about1) = true
  refine all_split ?_ w_codes
  rw [← List.take_append_drop 24 words1, List.all_append, w_t1, w_t2]
  rfl
set_option maxRecDepth 65536 in
theorem w_case : (Jvm.Cond.and given_1 narrow_1).before args0 about1 = true := by decide +kernel
theorem w_applies : (headSpec (Jvm.Cond.code x code maxLocals ret :: tables_1) room_1).applies x e0.platform about1 = true :=
  (Spec.applies_iff w_frames).mpr ⟨w_running, w_runnable, w_alone, w_named, w_hears, w_ripe, w_room, w_tables⟩
theorem atStart : AtStart classFile x code maxLocals ret World_1 tables_1 room_1 Calls_1 rest_1 Pre_1 launch0 p0 e0 about1 theMethod args0 below0 :=
  ⟨lists_1, trivial, launch0.admits_env _ _ _, launch0.least_env, fairChoices_fair.cas, fairChoices_fair.clock, w_frames, w_args, w_heap, w_applies, trivial, trivial, w_case⟩
end start1
theorem witness_1 : WitnessClaimed_1 := ⟨start1.p0, start1.e0, start1.about1, start1.theMethod, start1.args0, start1.below0, start1.atStart⟩
end Jvm.Pilot.@@N@@
