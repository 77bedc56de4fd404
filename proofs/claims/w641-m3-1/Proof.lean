import JvmDerived
import JvmDerived.Pilot.@@N@@Statement
import JvmDerived.Pilot.@@N@@Code
set_option linter.unusedVariables false
set_option linter.unusedSimpArgs false
namespace Jvm.Pilot.@@N@@
open Jvm Jvm.ClassFile Sem Op Lib Jvm.Free Jvm.Stand Jvm.LawKit Jvm.RoadKit Bundle Jvm.Pilot.@@N@@.Jvm.D
section Own0
theorem own_fld_to {Z : State} {h : Heap} {a : Addr} {C n d : String} {v v' : Value} (F : Fld Z h a C n d v) (q : v = v') : Fld Z h a C n d v' := q ▸ F
theorem own_sta_keep {Z : State} {h h' : Heap} {C n d : String} {v : Value} {ws : List Addr} (F : Sta Z h C n d v) (K : Keep h h' ws) (q : ∀ x ∈ ws, ∀ c : Cell, h[x]? = some c → c.vm.isStatics = false) : Sta Z h' C n d v := by
  obtain ⟨cf, i, k, f, st, cell, h1, h2, h3, h4, h5, h6, h7⟩ := F
  exact ⟨cf, i, k, f, st, cell, h1, h2, h3, h4, K.2.1 st cell h5 (fun y => by rw [q st y cell h5] at h6; cases h6), h6, h7⟩
theorem own_ins_keep {Z : State} {h h' : Heap} {a : Addr} {C : String} {bo : Bool} {ws : List Addr} (F : Ins Z h a C bo) (K : Keep h h' ws) : Ins Z h' a C bo := by
  obtain ⟨cell, cT, h1, h2, h3⟩ := F
  obtain ⟨c', e1, e2, e3, -⟩ := K.2.2 a cell h1
  exact ⟨c', cT, e1, h2, by rw [e2, e3]; exact h3⟩
theorem notsta_exa {Z : State} {h : Heap} {a : Addr} {C : String} (F : Exa Z h a C) : ∀ c : Cell, h[a]? = some c → c.vm.isStatics = false := fun c hc => by
  obtain ⟨cell, _, h1, -, -, h4, -⟩ := F
  cases hc.symm.trans h1; exact h4
theorem eqi_v {args : Array Value} {first s : State} {o : Option Outcome} {idx : List Nat} {a : Term} {k : Int32} (h : (Cond.eq a (.int k)).value args first o s idx = some true) : a.eval args first o idx s = some (.int k) := by
  obtain ⟨x, y, e1, e2, k1, k2⟩ := cmp_v (Or.inl h)
  have e3 : (Term.int k).eval args first o idx s = some (.int k) := rfl
  cases e3.symm.trans e2
  cases x <;> simp [Cond.value, e1, e3] at h
  rw [e1, h]
end Own0
section Own
variable {p : Program} {l : Launch} {e : Env} {R : Room} {s : State} {m : MethodId} {args : Array Value} {below : List Frame} {meth : Method} {c : Code} {T T' : State} {locs : List Loc} {cells slots : Nat} {Z : State} {h h' : Heap} {Q : Option Value → Heap → List Loc → Prop} {kc ks : Nat} {a b : Addr}
/-- from T the method comes to its end, and Q holds of what it returns, of the heap and of the written places -/
def Goes (p : Program) (e : Env) (below : List Frame) (s : State) (Q : Option Value → Heap → List Loc → Prop) (kc ks : Nat) (T : State) : Prop :=
  ∃ s₂ o, Steps p.tables e below T s₂ ∧ s₂.status = .running ∧ Ended s₂ below o ∧ ∃ v L, o = .returned v ∧ Q v s₂.heap L ∧ FrameEnd s o s₂ L kc ks
theorem Goes.step (st : ∀ t, Steps p.tables e below T' t → Steps p.tables e below T t) (k : Goes p e below s Q kc ks T') : Goes p e below s Q kc ks T := by
  obtain ⟨s₂, o, h1, h2⟩ := k; exact ⟨s₂, o, st _ h1, h2⟩
theorem Goes.ret (X : Stand p l e R s m args below meth c T locs cells slots) {v : Option Value} (hv : meth.sig.returnType = none → v = none) (hlocks : meth.locks = false) {T₀ : State}
    (st : ∀ fs, (∀ (f : JFrame) (acts : List Action), f.method = m → f.locked = none → f.entered = [] → (doReturn e (T.setTop f) acts v).1 = T.setFrames fs) → Steps p.tables e below T₀ (T.setFrames fs))
    (hq : Q v T.heap locs) (hc : cells ≤ kc) (hs : slots ≤ ks) : Goes p e below s Q kc ks T₀ := by
  obtain ⟨fs, hr, hrun, hended, hW, hsame⟩ := X.leave (v := v) hv hlocks
  exact ⟨_, _, st fs hr, hrun, hended, _, _, rfl, hq, ⟨_, rfl⟩, hW, hsame.mono hc hs⟩
theorem Goes.retZ (X : Stand p l e R s m args below meth c T locs cells slots) (hx : p.tables.exec = Jvm.exec) (hlocks : meth.locks = false) {pc : Nat} {Ls : Array Slot} {z r : Int32} {t : FieldType} {rest : List Value} (hret : meth.sig.returnType = some t) (ht : t = .boolean ∨ t = .byte ∨ t = .char ∨ t = .short)
    (hd : decode c.code pc = .ok (.ireturn, 1)) (hz : nar t z = r) (hq : Q (some (.int r)) T.heap locs) (hc : cells ≤ kc) (hs : slots ≤ ks) : Goes p e below s Q kc ks (T.setTop (mkF m pc Ls (.int z :: rest))) := by
  subst hz
  exact Goes.ret X (fun h => by rw [hret] at h; cases h) hlocks (fun fs hr => retN X hx hret ht hd hr) hq hc hs
theorem Goes.retI (X : Stand p l e R s m args below meth c T locs cells slots) (hx : p.tables.exec = Jvm.exec) (hlocks : meth.locks = false) {pc : Nat} {Ls : Array Slot} {z r : Int32} {rest : List Value} (hret : meth.sig.returnType = some .int)
    (hd : decode c.code pc = .ok (.ireturn, 1)) (hz : z = r) (hq : Q (some (.int r)) T.heap locs) (hc : cells ≤ kc) (hs : slots ≤ ks) : Goes p e below s Q kc ks (T.setTop (mkF m pc Ls (.int z :: rest))) := by
  subst hz
  exact Goes.ret X (fun h => by rw [hret] at h; cases h) hlocks (fun fs hr => retOut X hx hret rfl (Or.inl ⟨rfl, Or.inl rfl, z, rfl⟩) hd hr) hq hc hs
theorem Goes.retJ (X : Stand p l e R s m args below meth c T locs cells slots) (hx : p.tables.exec = Jvm.exec) (hlocks : meth.locks = false) {pc : Nat} {Ls : Array Slot} {z r : Int64} {rest : List Value} (hret : meth.sig.returnType = some .long)
    (hd : decode c.code pc = .ok (.lreturn, 1)) (hz : z = r) (hq : Q (some (.long r)) T.heap locs) (hc : cells ≤ kc) (hs : slots ≤ ks) : Goes p e below s Q kc ks (T.setTop (mkF m pc Ls (.long z :: rest))) := by
  subst hz
  exact Goes.ret X (fun h => by rw [hret] at h; cases h) hlocks (fun fs hr => retOut X hx hret rfl (Or.inr (Or.inl ⟨rfl, rfl, z, rfl⟩)) hd hr) hq hc hs
theorem Goes.retR (X : Stand p l e R s m args below meth c T locs cells slots) (hx : p.tables.exec = Jvm.exec) (hlocks : meth.locks = false) {pc : Nat} {Ls : Array Slot} {z r : Value} {t : FieldType} {rest : List Value} (hret : meth.sig.returnType = some t) (ht : t.isReference = true) (hn : narrow t z = z) (hw : z.isRef = true)
    (hd : decode c.code pc = .ok (.areturn, 1)) (hz : z = r) (hq : Q (some r) T.heap locs) (hc : cells ≤ kc) (hs : slots ≤ ks) : Goes p e below s Q kc ks (T.setTop (mkF m pc Ls (z :: rest))) := by
  subst hz
  exact Goes.ret X (fun h => by rw [hret] at h; cases h) hlocks (fun fs hr => retOut X hx hret hn (Or.inr (Or.inr (Or.inr (Or.inr ⟨rfl, ht, hw⟩)))) hd hr) hq hc hs
theorem Goes.retV (X : Stand p l e R s m args below meth c T locs cells slots) (hx : p.tables.exec = Jvm.exec) (hlocks : meth.locks = false) {pc : Nat} {Ls : Array Slot} (hret : meth.sig.returnType = none)
    (hd : decode c.code pc = .ok (.return_, 1)) (hq : Q none T.heap locs) (hc : cells ≤ kc) (hs : slots ≤ ks) : Goes p e below s Q kc ks (T.setTop (mkF m pc Ls [])) :=
  Goes.ret X (fun _ => rfl) hlocks (fun fs hr => X.returnOut hx hret hd hr) hq hc hs
/-- the array at a holds vs -/
def Ara (Z : State) (h : Heap) (a : Addr) (ty : FieldType) (vs : List Value) : Prop := ∃ cl : Cell, Arr Z h a cl ty ∧ cl.slots.toList = vs ∧ vs.length < 2 ^ 31 ∧ (∀ v ∈ vs, fits ty v = true) ∧ ∀ C, ty = .object C → Ovr Z cl.cls C
variable {ty : FieldType} {vs : List Value} {sl : Nat} {v : Value} {ws : List Addr}
theorem Ara.lt (F : Ara Z h a ty vs) : a < h.size := by obtain ⟨c, A, -⟩ := F; exact A.lt
theorem Ara.ext (F : Ara Z h a ty vs) (E : Ext h h') : Ara Z h' a ty vs := by obtain ⟨c, A, r⟩ := F; exact ⟨c, A.ext E, r⟩
theorem Ara.other (F : Ara Z h b ty vs) (W : Wr h h' a sl v) (q : b ≠ a) : Ara Z h' b ty vs := by obtain ⟨c, A, r⟩ := F; exact ⟨c, A.other W q, r⟩
theorem Ara.keep (F : Ara Z h a ty vs) (K : Keep h h' ws) (q : a ∉ ws) : Ara Z h' a ty vs := by obtain ⟨c, A, r⟩ := F; exact ⟨c, ⟨K.2.1 a c A.1 q, A.2⟩, r⟩
theorem fits_dflt (ty : FieldType) : fits ty (defaultValue ty) = true := by cases ty <;> rfl
theorem Ara.new {k : ClassId} {z : Int32} (A : Arr Z h a (newA k ty z) ty) (q : ¬ z < 0) (e : List.replicate z.toNatClampNeg (defaultValue ty) = vs) (O : ∀ C, ty = .object C → Ovr Z k C) : Ara Z h a ty vs := by
  subst e
  refine ⟨_, A, by simp [newA], by simpa using (back32 q).2, fun v hv => ?_, O⟩
  rw [(List.mem_replicate.mp hv).2]; exact fits_dflt ty
theorem Ara.same {j : Int32} {cl : Cell} (A : Arr Z h a cl ty) (e : cl.slots.toList = vs) (hl : vs.length < 2 ^ 31) (hf : ∀ v ∈ vs, fits ty v = true) (O : ∀ C, ty = .object C → Ovr Z cl.cls C) (hv : fits ty v = true) (W : Wr h h' a j.toNatClampNeg v) : Ara Z h' a ty (vs.set j.toNatClampNeg v) := by
  refine ⟨_, A.same W, by simp [Cell.setSlot, ← e], by simpa using hl, fun u hu => ?_, O⟩
  rcases List.mem_or_eq_of_mem_set hu with q | q
  · exact hf u q
  · rw [q]; exact hv
theorem inb {j : Int32} {cl : Cell} (e : cl.slots.toList = vs) (h0 : ¬ j < 0) (hj : j.toNatClampNeg < vs.length) : ¬ (j < 0 ∨ cl.slots.size ≤ j.toNatClampNeg) := by
  rintro (q | q)
  · exact h0 q
  · rw [← e] at hj; simp at hj; omega
theorem getb {j : Int32} {cl : Cell} (e : cl.slots.toList = vs) (hv : vs[j.toNatClampNeg]? = some v) : cl.slots[j.toNatClampNeg]? = some v := by rw [← e] at hv; simpa using hv
theorem ltb {n : Nat} (hv : vs[n]? = some v) : n < vs.length := (List.getElem?_eq_some_iff.mp hv).1
theorem lenb {cl : Cell} (e : cl.slots.toList = vs) : cl.slots.size = vs.length := by rw [← e]; simp
theorem notsta_ara (F : Ara Z h a ty vs) : ∀ c : Cell, h[a]? = some c → c.vm.isStatics = false := fun c hc => by
  obtain ⟨cl, A, -⟩ := F
  cases hc.symm.trans A.1; exact A.plain
theorem Ara.to {vs' : List Value} (F : Ara Z h a ty vs) (q : vs = vs') : Ara Z h a ty vs' := q ▸ F
end Own

def sel3 (i : Int32) (a b c : Int64) : Int64 := if i = 0 then a else if i = 1 then b else c
theorem idx3 {i : Int32} (h0 : ¬ i < 0) (h3 : i.toNatClampNeg < 3) : i = 0 ∨ i = 1 ∨ i = 2 := by
  have q := nat_of h0
  have : i.toInt = 0 ∨ i.toInt = 1 ∨ i.toInt = 2 := by omega
  rcases this with h | h | h
  · exact Or.inl (Int32.toInt_inj.mp h)
  · exact Or.inr (Or.inl (Int32.toInt_inj.mp h))
  · exact Or.inr (Or.inr (Int32.toInt_inj.mp h))
theorem get3 {i : Int32} {a b c : Int64} (h0 : ¬ i < 0) (h3 : i.toNatClampNeg < 3) : [Value.long a, .long b, .long c][i.toNatClampNeg]? = some (.long (sel3 i a b c)) := by
  rcases idx3 h0 h3 with rfl | rfl | rfl <;> rfl
theorem set3 {i : Int32} {a b c w : Int64} (h0 : ¬ i < 0) (h3 : i.toNatClampNeg < 3) : [Value.long a, .long b, .long c].set i.toNatClampNeg (.long (sel3 i a b c ||| w)) = [.long (if i = 0 then a ||| w else a), .long (if i = 1 then b ||| w else b), .long (if i = 2 then c ||| w else c)] := by
  rcases idx3 h0 h3 with rfl | rfl | rfl <;> rfl
def fOff (p : Int32) : Int32 := (p &&& 2147483647) % 3
def fState (p q : Int32) : Int32 := (q &&& 2147483647) % ((3 - fOff p) * 64)
theorem off_rng (p : Int32) : 0 ≤ (fOff p).toInt ∧ (fOff p).toInt < 3 := by
  have h1 := c_mask p 2147483647 31 (by decide) (by decide)
  have h2 := (c_irem (p &&& 2147483647) 3 3 (by decide)).1 (by omega)
  unfold fOff; omega
theorem mul_rng (p : Int32) : ((3 - fOff p) * 64).toInt = (3 - (fOff p).toInt) * 64 := by
  have h1 := off_rng p
  have h2 := c_isub 3 (fOff p)
  have h3 := c_imul (3 - fOff p) 64
  have h4 : (3 : Int32).toInt = 3 := by decide
  have h5 : (64 : Int32).toInt = 64 := by decide
  have r1 := rng32 (3 - fOff p)
  have r2 := rng32 ((3 - fOff p) * 64)
  rw [h4] at h2; rw [h5] at h3
  have h6 : (3 - fOff p).toInt = 3 - (fOff p).toInt := by omega
  rw [h6] at h3
  omega
theorem own_nz (p : Int32) : ¬ ((3 - fOff p) * 64 = 0) := fun h => by
  have h1 := off_rng p
  have h2 := mul_rng p
  rw [h] at h2
  have : (0 : Int32).toInt = 0 := by decide
  omega
theorem state_rng (p q : Int32) : 0 ≤ (fState p q).toInt ∧ (fState p q).toInt < (3 - (fOff p).toInt) * 64 := by
  have h1 := off_rng p
  have h2 := mul_rng p
  have h3 := c_mask q 2147483647 31 (by decide) (by decide)
  have h4 := (c_iremV (q &&& 2147483647) ((3 - fOff p) * 64)).1 (by omega) (by omega)
  unfold fState; omega
theorem sh_rng (p q : Int32) : ((fState p q).toUInt32 >>> ((6 : Int32) &&& 31).toUInt32).toInt32.toInt = (fState p q).toInt / 64 := by
  have h1 := state_rng p q
  have h2 := off_rng p
  have h3 := c_iushr (fState p q) 6 6 (by decide) (by decide)
  rw [h3]; omega
theorem idx_rng (p q : Int32) : (fOff p + ((fState p q).toUInt32 >>> ((6 : Int32) &&& 31).toUInt32).toInt32).toInt = (fOff p).toInt + (fState p q).toInt / 64 := by
  have h1 := state_rng p q
  have h2 := off_rng p
  have h3 := c_iadd (fOff p) ((fState p q).toUInt32 >>> ((6 : Int32) &&& 31).toUInt32).toInt32
  have h4 := rng32 (fOff p + ((fState p q).toUInt32 >>> ((6 : Int32) &&& 31).toUInt32).toInt32)
  rw [sh_rng] at h3
  omega
theorem own_n0 (p q : Int32) : ¬ (fOff p + ((fState p q).toUInt32 >>> ((6 : Int32) &&& 31).toUInt32).toInt32) < 0 := by
  have h1 := state_rng p q
  have h2 := off_rng p
  rw [Int32.lt_iff_toInt_lt, idx_rng]
  have : (0 : Int32).toInt = 0 := by decide
  omega
theorem own_n3 (p q : Int32) : (fOff p + ((fState p q).toUInt32 >>> ((6 : Int32) &&& 31).toUInt32).toInt32).toNatClampNeg < 3 := by
  have h1 := state_rng p q
  have h2 := off_rng p
  have h3 := nat_of (own_n0 p q)
  rw [idx_rng] at h3
  omega
theorem own_pn0 : plainName "com/example/twag/twag/population/TransferGraphs" = true := by first | (simp [plainName, overriddenIn]; done) | decide +kernel
theorem own_pn1 : plainName "com/example/twag/twag/population/TransferGraphsAddPinLaw" = true := by first | (simp [plainName, overriddenIn]; done) | decide +kernel
theorem own_pd0 : parseMethodDescriptor "([JII)V" = some ⟨[(.array .long), .int, .int], none⟩ := by decide +kernel
theorem own_pd1 : parseMethodDescriptor "(IIJJ)J" = some ⟨[.int, .int, .long, .long], some .long⟩ := by decide +kernel
theorem own_d1_0 : decode prog_52_method_4_code 0 = .ok (.aload_n 0, 1) := by decide +kernel
theorem own_d1_1 : decode prog_52_method_4_code 1 = .ok (.iload_n 1, 1) := by decide +kernel
theorem own_d1_2 : decode prog_52_method_4_code 2 = .ok (.iload_n 2, 1) := by decide +kernel
theorem own_d1_3 : decode prog_52_method_4_code 3 = .ok (.bipush 6, 2) := by decide +kernel
theorem own_d1_5 : decode prog_52_method_4_code 5 = .ok (.iushr, 1) := by decide +kernel
theorem own_d1_6 : decode prog_52_method_4_code 6 = .ok (.iadd, 1) := by decide +kernel
theorem own_d1_7 : decode prog_52_method_4_code 7 = .ok (.dup2, 1) := by decide +kernel
theorem own_d1_8 : decode prog_52_method_4_code 8 = .ok (.laload, 1) := by decide +kernel
theorem own_d1_9 : decode prog_52_method_4_code 9 = .ok (.lconst 1, 1) := by decide +kernel
theorem own_d1_10 : decode prog_52_method_4_code 10 = .ok (.iload_n 2, 1) := by decide +kernel
theorem own_d1_11 : decode prog_52_method_4_code 11 = .ok (.lshl, 1) := by decide +kernel
theorem own_d1_12 : decode prog_52_method_4_code 12 = .ok (.lor, 1) := by decide +kernel
theorem own_d1_13 : decode prog_52_method_4_code 13 = .ok (.lastore, 1) := by decide +kernel
theorem own_d1_14 : decode prog_52_method_4_code 14 = .ok (.return_, 1) := by decide +kernel
theorem own_ef1 (m : MethodId) (a0 : Addr) (p1 : Int32) (p2 : Int32) : entryFrame m #[(.ref a0), (.int p1), (.int p2)] 3 = mkF m 0 #[.val (.ref a0), .val (.int p1), .val (.int p2)] [] := by first | (simp [entryFrame, mkF, argsToLocals, Value.category, maxLocals]; done) | rfl
abbrev RM1 : Room := ({ frames := 0, cells := 0, slots := 0, locals := 0 } : Room)
abbrev kC1 : Nat := 0
abbrev kS1 : Nat := 0
def Q1 (Z : State) (a0 : Addr) (p1 : Int32) (p2 : Int32) (u0 : Int64) (u1 : Int64) (u2 : Int64) (h0 : Heap) (n0 : Nat) (v : Option Value) (h : Heap) (L : List Loc) : Prop := v = none ∧ Fr n0 L ∧ Keep h0 h [a0] ∧ Ara Z h a0 .long [(.long (if (p1 + ((p2.toUInt32 >>> ((6 : Int32) &&& 31).toUInt32).toInt32)) = 0 then u0 ||| ((1 : Int64) <<< (p2 &&& 0x3f).toInt64) else u0)), (.long (if (p1 + ((p2.toUInt32 >>> ((6 : Int32) &&& 31).toUInt32).toInt32)) = 1 then u1 ||| ((1 : Int64) <<< (p2 &&& 0x3f).toInt64) else u1)), (.long (if (p1 + ((p2.toUInt32 >>> ((6 : Int32) &&& 31).toUInt32).toInt32)) = 2 then u2 ||| ((1 : Int64) <<< (p2 &&& 0x3f).toInt64) else u2))]
set_option maxRecDepth 65536 in
set_option maxHeartbeats 40000000 in
theorem rm1 (l : Launch) (Z : State) (tA : Array Value) (hw : ∀ d ∈ tables_1, d.before tA Z = true) (ws : List Jvm.Cond) (a0 : Addr) (p1 : Int32) (p2 : Int32) (u0 : Int64) (u1 : Int64) (u2 : Int64) (h0 : Heap) (n0 : Nat) (Z0 : n0 ≤ h0.size) (V_a0 : Ara Z h0 a0 .long [(.long u0), (.long u1), (.long u2)]) (hi : ¬ (p1 + ((p2.toUInt32 >>> ((6 : Int32) &&& 31).toUInt32).toInt32)) < 0) (h3 : ((p1 + ((p2.toUInt32 >>> ((6 : Int32) &&& 31).toUInt32).toInt32))).toNatClampNeg < 3) (g_a0 : n0 ≤ a0) :
    MetFree l (⟨"com/example/twag/twag/population/TransferGraphs", "add", "([JII)V"⟩ : MethodName) (head1 (Jvm.Cond.code (⟨"com/example/twag/twag/population/TransferGraphs", "add", "([JII)V"⟩ : MethodName) prog_52_method_4_code 3 none :: ws) RM1) (fun a U => a = #[(.ref a0), (.int p1), (.int p2)] ∧ Z.Warmed39 U.vm ∧ U.heap = h0) (fun _ _ _ _ _ => True) (fun _ U o U' => ∃ v L, o = .returned v ∧ Q1 Z a0 p1 p2 u0 u1 u2 h0 n0 v U'.heap L ∧ FrameEnd U o U' L RM1.cells RM1.slots) := by
  refine MetFree.of_bodySF (plainFor_of_name own_pn0) hisR ?_
  intro p e s m args below meth c s₁ Bd hml0 hP hK
  obtain ⟨rfl, hZ, hh⟩ := hP
  have hx := Bd.exec
  have hby := Bd.bytes
  have hml : c.maxLocals = 3 := hml0
  have hown : s.vm.findClass "com/example/twag/twag/population/TransferGraphs" = some m.cls := findClass_of_methodNamed Bd.named
  have hnm := (name_of_methodNamed Bd.named Bd.method).1
  have X0 : Stand p l e RM1 s m #[(.ref a0), (.int p1), (.int p2)] below meth c s₁ [] 0 0 := Stand.of_body Bd
  have e0 : s₁.heap = h0 := by rw [← hh, Bd.state]; rfl
  have N0 := Fr.nil n0
  show Goes p e below s (Q1 Z a0 p1 p2 u0 u1 u2 h0 n0) kC1 kS1 (s₁.setTop (entryFrame m #[(.ref a0), (.int p1), (.int p2)] 3))
  refine Goes.step (fun t k => castTop (own_ef1 m a0 p1 p2) k) ?_
  show Goes _ _ _ _ _ _ _ (s₁.setTop (mkF m 0 #[.val (.ref a0), .val (.int p1), .val (.int p2)] []))
  refine Goes.step (fun t k => XS.aloadN X0.here hx rfl (hb hby own_d1_0) rfl rfl k) ?_
  show Goes _ _ _ _ _ _ _ (s₁.setTop (mkF m 1 #[.val (.ref a0), .val (.int p1), .val (.int p2)] [(.ref a0)]))
  refine Goes.step (fun t k => XS.iloadN X0.here hx rfl (hb hby own_d1_1) rfl k) ?_
  show Goes _ _ _ _ _ _ _ (s₁.setTop (mkF m 2 #[.val (.ref a0), .val (.int p1), .val (.int p2)] [(.int p1), (.ref a0)]))
  refine Goes.step (fun t k => XS.iloadN X0.here hx rfl (hb hby own_d1_2) rfl k) ?_
  show Goes _ _ _ _ _ _ _ (s₁.setTop (mkF m 3 #[.val (.ref a0), .val (.int p1), .val (.int p2)] [(.int p2), (.int p1), (.ref a0)]))
  refine Goes.step (fun t k => XS.bipush X0.here hx rfl (hb hby own_d1_3) k) ?_
  show Goes _ _ _ _ _ _ _ (s₁.setTop (mkF m 5 #[.val (.ref a0), .val (.int p1), .val (.int p2)] [(.int (6 : Int32)), (.int p2), (.int p1), (.ref a0)]))
  refine Goes.step (fun t k => XS.iushr X0.here hx rfl (hb hby own_d1_5) rfl k) ?_
  show Goes _ _ _ _ _ _ _ (s₁.setTop (mkF m 6 #[.val (.ref a0), .val (.int p1), .val (.int p2)] [(.int ((p2.toUInt32 >>> ((6 : Int32) &&& 31).toUInt32).toInt32)), (.int p1), (.ref a0)]))
  refine Goes.step (fun t k => XS.iadd X0.here hx rfl (hb hby own_d1_6) rfl k) ?_
  show Goes _ _ _ _ _ _ _ (s₁.setTop (mkF m 7 #[.val (.ref a0), .val (.int p1), .val (.int p2)] [(.int (p1 + ((p2.toUInt32 >>> ((6 : Int32) &&& 31).toUInt32).toInt32))), (.ref a0)]))
  refine Goes.step (fun t k => XT.dup2 X0.here hx rfl (hb hby own_d1_7) rfl rfl rfl k) ?_
  show Goes _ _ _ _ _ _ _ (s₁.setTop (mkF m 8 #[.val (.ref a0), .val (.int p1), .val (.int p2)] [(.int (p1 + ((p2.toUInt32 >>> ((6 : Int32) &&& 31).toUInt32).toInt32))), (.ref a0), (.int (p1 + ((p2.toUInt32 >>> ((6 : Int32) &&& 31).toUInt32).toInt32))), (.ref a0)]))
  obtain ⟨cl1, Ar1, q1, ll1, ff1, oo1⟩ := id V_a0
  have hn1 : ¬ (p1 + ((p2.toUInt32 >>> ((6 : Int32) &&& 31).toUInt32).toInt32)) < 0 := by exact hi
  have hv1 : ([(.long u0), (.long u1), (.long u2)] : List Value)[((p1 + ((p2.toUInt32 >>> ((6 : Int32) &&& 31).toUInt32).toInt32))).toNatClampNeg]? = some (.long (sel3 (p1 + ((p2.toUInt32 >>> ((6 : Int32) &&& 31).toUInt32).toInt32)) u0 u1 u2)) := by exact get3 hi h3
  refine Goes.step (fun t k => X0.laload hx (j := (p1 + ((p2.toUInt32 >>> ((6 : Int32) &&& 31).toUInt32).toInt32))) (v := (.long (sel3 (p1 + ((p2.toUInt32 >>> ((6 : Int32) &&& 31).toUInt32).toInt32)) u0 u1 u2))) (by rw [e0]; exact Ar1.1) (State.isArrayOf_alike hZ.alike Ar1.2.1) Ar1.2.2 (inb q1 hn1 (ltb hv1)) (getb q1 hv1) (g := (mkF m 8 #[.val (.ref a0), .val (.int p1), .val (.int p2)] [(.int (p1 + ((p2.toUInt32 >>> ((6 : Int32) &&& 31).toUInt32).toInt32))), (.ref a0), (.int (p1 + ((p2.toUInt32 >>> ((6 : Int32) &&& 31).toUInt32).toInt32))), (.ref a0)])) rfl rfl (hb hby own_d1_8) t k) ?_
  show Goes _ _ _ _ _ _ _ (s₁.setTop (mkF m 9 #[.val (.ref a0), .val (.int p1), .val (.int p2)] [(.long (sel3 (p1 + ((p2.toUInt32 >>> ((6 : Int32) &&& 31).toUInt32).toInt32)) u0 u1 u2)), (.int (p1 + ((p2.toUInt32 >>> ((6 : Int32) &&& 31).toUInt32).toInt32))), (.ref a0)]))
  refine Goes.step (fun t k => XS.lconst X0.here hx rfl (hb hby own_d1_9) k) ?_
  show Goes _ _ _ _ _ _ _ (s₁.setTop (mkF m 10 #[.val (.ref a0), .val (.int p1), .val (.int p2)] [(.long (1 : Int64)), (.long (sel3 (p1 + ((p2.toUInt32 >>> ((6 : Int32) &&& 31).toUInt32).toInt32)) u0 u1 u2)), (.int (p1 + ((p2.toUInt32 >>> ((6 : Int32) &&& 31).toUInt32).toInt32))), (.ref a0)]))
  refine Goes.step (fun t k => XS.iloadN X0.here hx rfl (hb hby own_d1_10) rfl k) ?_
  show Goes _ _ _ _ _ _ _ (s₁.setTop (mkF m 11 #[.val (.ref a0), .val (.int p1), .val (.int p2)] [(.int p2), (.long (1 : Int64)), (.long (sel3 (p1 + ((p2.toUInt32 >>> ((6 : Int32) &&& 31).toUInt32).toInt32)) u0 u1 u2)), (.int (p1 + ((p2.toUInt32 >>> ((6 : Int32) &&& 31).toUInt32).toInt32))), (.ref a0)]))
  refine Goes.step (fun t k => XS.lshl X0.here hx rfl (hb hby own_d1_11) rfl k) ?_
  show Goes _ _ _ _ _ _ _ (s₁.setTop (mkF m 12 #[.val (.ref a0), .val (.int p1), .val (.int p2)] [(.long ((1 : Int64) <<< (p2 &&& 0x3f).toInt64)), (.long (sel3 (p1 + ((p2.toUInt32 >>> ((6 : Int32) &&& 31).toUInt32).toInt32)) u0 u1 u2)), (.int (p1 + ((p2.toUInt32 >>> ((6 : Int32) &&& 31).toUInt32).toInt32))), (.ref a0)]))
  refine Goes.step (fun t k => XS.lor X0.here hx rfl (hb hby own_d1_12) rfl k) ?_
  show Goes _ _ _ _ _ _ _ (s₁.setTop (mkF m 13 #[.val (.ref a0), .val (.int p1), .val (.int p2)] [(.long ((sel3 (p1 + ((p2.toUInt32 >>> ((6 : Int32) &&& 31).toUInt32).toInt32)) u0 u1 u2) ||| ((1 : Int64) <<< (p2 &&& 0x3f).toInt64))), (.int (p1 + ((p2.toUInt32 >>> ((6 : Int32) &&& 31).toUInt32).toInt32))), (.ref a0)]))
  obtain ⟨cl2, Ar2, q2, ll2, ff2, oo2⟩ := id V_a0
  have hn2 : ¬ (p1 + ((p2.toUInt32 >>> ((6 : Int32) &&& 31).toUInt32).toInt32)) < 0 := by exact hi
  have hl2 : ((p1 + ((p2.toUInt32 >>> ((6 : Int32) &&& 31).toUInt32).toInt32))).toNatClampNeg < ([(.long u0), (.long u1), (.long u2)] : List Value).length := by exact h3
  obtain ⟨T2, h2, X2, e2, W2, st2⟩ := stJ X0 hx hZ e0 Ar2 (j := (p1 + ((p2.toUInt32 >>> ((6 : Int32) &&& 31).toUInt32).toInt32))) (inb q2 hn2 hl2) (g := (mkF m 13 #[.val (.ref a0), .val (.int p1), .val (.int p2)] [(.long ((sel3 (p1 + ((p2.toUInt32 >>> ((6 : Int32) &&& 31).toUInt32).toInt32)) u0 u1 u2) ||| ((1 : Int64) <<< (p2 &&& 0x3f).toInt64))), (.int (p1 + ((p2.toUInt32 >>> ((6 : Int32) &&& 31).toUInt32).toInt32))), (.ref a0)])) rfl rfl (hb hby own_d1_13)
  have V2 : Ara Z h2 a0 .long ([(.long u0), (.long u1), (.long u2)].set ((p1 + ((p2.toUInt32 >>> ((6 : Int32) &&& 31).toUInt32).toInt32))).toNatClampNeg (.long ((sel3 (p1 + ((p2.toUInt32 >>> ((6 : Int32) &&& 31).toUInt32).toInt32)) u0 u1 u2) ||| ((1 : Int64) <<< (p2 &&& 0x3f).toInt64)))) := Ara.same (j := (p1 + ((p2.toUInt32 >>> ((6 : Int32) &&& 31).toUInt32).toInt32))) Ar2 q2 ll2 ff2 oo2 rfl W2
  have K2 := (Keep.refl h0 [a0]).wr W2 (Or.inl (List.mem_of_getElem? (i := 0) rfl))
  have N2 := Fr.snoc X2 N0 g_a0
  have Z2 := Nat.le_trans Z0 (Nat.le_of_eq W2.size.symm)
  refine Goes.step (fun t k => st2 t k) ?_
  show Goes _ _ _ _ _ _ _ (T2.setTop (mkF m 14 #[.val (.ref a0), .val (.int p1), .val (.int p2)] []))
  have V' := V2
  rw [set3 hi h3] at V'
  exact Goes.retV X2 hx Bd.notSynchronized Bd.returns (hb hby own_d1_14) (by rw [e2]; exact ⟨rfl, N2, K2, V'⟩) (by decide) (by decide)
def f2 (p0 : Int32) (p1 : Int32) (q2 : Int64) (q3 : Int64) : Int64 := (if p0 = p1 then (q3 ||| q2) else q3)
theorem own_d2_0 : decode method_3_code 0 = .ok (.iload_n 0, 1) := by decide +kernel
theorem own_d2_1 : decode method_3_code 1 = .ok (.iload_n 1, 1) := by decide +kernel
theorem own_d2_2 : decode method_3_code 2 = .ok (.if_icmp .ne 8, 3) := by decide +kernel
theorem own_d2_5 : decode method_3_code 5 = .ok (.lload 4, 2) := by decide +kernel
theorem own_d2_7 : decode method_3_code 7 = .ok (.lload_n 2, 1) := by decide +kernel
theorem own_d2_8 : decode method_3_code 8 = .ok (.lor, 1) := by decide +kernel
theorem own_d2_9 : decode method_3_code 9 = .ok (.lreturn, 1) := by decide +kernel
theorem own_d2_10 : decode method_3_code 10 = .ok (.lload 4, 2) := by decide +kernel
theorem own_d2_12 : decode method_3_code 12 = .ok (.lreturn, 1) := by decide +kernel
theorem own_ef2 (m : MethodId) (p0 : Int32) (p1 : Int32) (q2 : Int64) (q3 : Int64) : entryFrame m #[(.int p0), (.int p1), (.long q2), (.long q3)] 6 = mkF m 0 #[.val (.int p0), .val (.int p1), .val (.long q2), .second, .val (.long q3), .second] [] := by first | (simp [entryFrame, mkF, argsToLocals, Value.category, maxLocals]; done) | rfl
abbrev RM2 : Room := ({ frames := 0, cells := 0, slots := 0, locals := 0 } : Room)
abbrev kC2 : Nat := 0
abbrev kS2 : Nat := 0
def Q2 (Z : State) (p0 : Int32) (p1 : Int32) (q2 : Int64) (q3 : Int64) (h0 : Heap) (v : Option Value) (h : Heap) (L : List Loc) : Prop := v = some (.long (f2 p0 p1 q2 q3)) ∧ L = [] ∧ h = h0
set_option maxRecDepth 65536 in
set_option maxHeartbeats 40000000 in
theorem rm2 (l : Launch) (Z : State) (tA : Array Value) (hw : ∀ d ∈ tables_1, d.before tA Z = true) (ws : List Jvm.Cond) (p0 : Int32) (p1 : Int32) (q2 : Int64) (q3 : Int64) (h0 : Heap)  :
    MetFree l (⟨"com/example/twag/twag/population/TransferGraphsAddPinLaw", "expected", "(IIJJ)J"⟩ : MethodName) (head1 (Jvm.Cond.code (⟨"com/example/twag/twag/population/TransferGraphsAddPinLaw", "expected", "(IIJJ)J"⟩ : MethodName) method_3_code 6 (some .long) :: ws) RM2) (fun a U => a = #[(.int p0), (.int p1), (.long q2), (.long q3)] ∧ Z.Warmed39 U.vm ∧ U.heap = h0) (fun _ _ _ _ _ => True) (fun _ U o U' => ∃ v L, o = .returned v ∧ Q2 Z p0 p1 q2 q3 h0 v U'.heap L ∧ FrameEnd U o U' L RM2.cells RM2.slots) := by
  refine MetFree.of_bodySF (plainFor_of_name own_pn1) hisR ?_
  intro p e s m args below meth c s₁ Bd hml0 hP hK
  obtain ⟨rfl, hZ, hh⟩ := hP
  have hx := Bd.exec
  have hby := Bd.bytes
  have hml : c.maxLocals = 6 := hml0
  have hown : s.vm.findClass "com/example/twag/twag/population/TransferGraphsAddPinLaw" = some m.cls := findClass_of_methodNamed Bd.named
  have hnm := (name_of_methodNamed Bd.named Bd.method).1
  have X0 : Stand p l e RM2 s m #[(.int p0), (.int p1), (.long q2), (.long q3)] below meth c s₁ [] 0 0 := Stand.of_body Bd
  have e0 : s₁.heap = h0 := by rw [← hh, Bd.state]; rfl
  show Goes p e below s (Q2 Z p0 p1 q2 q3 h0) kC2 kS2 (s₁.setTop (entryFrame m #[(.int p0), (.int p1), (.long q2), (.long q3)] 6))
  refine Goes.step (fun t k => castTop (own_ef2 m p0 p1 q2 q3) k) ?_
  show Goes _ _ _ _ _ _ _ (s₁.setTop (mkF m 0 #[.val (.int p0), .val (.int p1), .val (.long q2), .second, .val (.long q3), .second] []))
  refine Goes.step (fun t k => XS.iloadN X0.here hx rfl (hb hby own_d2_0) rfl k) ?_
  show Goes _ _ _ _ _ _ _ (s₁.setTop (mkF m 1 #[.val (.int p0), .val (.int p1), .val (.long q2), .second, .val (.long q3), .second] [(.int p0)]))
  refine Goes.step (fun t k => XS.iloadN X0.here hx rfl (hb hby own_d2_1) rfl k) ?_
  show Goes _ _ _ _ _ _ _ (s₁.setTop (mkF m 2 #[.val (.int p0), .val (.int p1), .val (.long q2), .second, .val (.long q3), .second] [(.int p1), (.int p0)]))
  by_cases hc2_1 : p0 = p1
  · refine Goes.step (fun t k => XS.icmpNo X0.here hx rfl (hb hby own_d2_2) rfl (teq hc2_1).2 k) ?_
    show Goes _ _ _ _ _ _ _ (s₁.setTop (mkF m 5 #[.val (.int p0), .val (.int p1), .val (.long q2), .second, .val (.long q3), .second] []))
    refine Goes.step (fun t k => XS.lload X0.here hx rfl (hb hby own_d2_5) rfl k) ?_
    show Goes _ _ _ _ _ _ _ (s₁.setTop (mkF m 7 #[.val (.int p0), .val (.int p1), .val (.long q2), .second, .val (.long q3), .second] [(.long q3)]))
    refine Goes.step (fun t k => XS.lloadN X0.here hx rfl (hb hby own_d2_7) rfl k) ?_
    show Goes _ _ _ _ _ _ _ (s₁.setTop (mkF m 8 #[.val (.int p0), .val (.int p1), .val (.long q2), .second, .val (.long q3), .second] [(.long q2), (.long q3)]))
    refine Goes.step (fun t k => XS.lor X0.here hx rfl (hb hby own_d2_8) rfl k) ?_
    show Goes _ _ _ _ _ _ _ (s₁.setTop (mkF m 9 #[.val (.int p0), .val (.int p1), .val (.long q2), .second, .val (.long q3), .second] [(.long (q3 ||| q2))]))
    exact Goes.retJ X0 hx Bd.notSynchronized (r := (f2 p0 p1 q2 q3)) Bd.returns (hb hby own_d2_9) ((if_pos hc2_1).symm) ⟨rfl, rfl, e0⟩ (by decide) (by decide)
  · refine Goes.step (fun t k => XS.icmpYes X0.here hx rfl (pc0 := 2) (pc' := 10) rfl (hb hby own_d2_2) rfl (feq hc2_1).2 (by decide) (by decide) k) ?_
    show Goes _ _ _ _ _ _ _ (s₁.setTop (mkF m 10 #[.val (.int p0), .val (.int p1), .val (.long q2), .second, .val (.long q3), .second] []))
    refine Goes.step (fun t k => XS.lload X0.here hx rfl (hb hby own_d2_10) rfl k) ?_
    show Goes _ _ _ _ _ _ _ (s₁.setTop (mkF m 12 #[.val (.int p0), .val (.int p1), .val (.long q2), .second, .val (.long q3), .second] [(.long q3)]))
    exact Goes.retJ X0 hx Bd.notSynchronized (r := (f2 p0 p1 q2 q3)) Bd.returns (hb hby own_d2_12) ((if_neg hc2_1).symm) ⟨rfl, rfl, e0⟩ (by decide) (by decide)
def f0 (q0 : Int64) (q1 : Int64) (q2 : Int64) (p3 : Int32) (p4 : Int32) : Int32 := (nar .boolean (if (if (((p3 &&& (2147483647 : Int32)) % (3 : Int32)) + ((((p4 &&& (2147483647 : Int32)) % (((3 : Int32) - ((p3 &&& (2147483647 : Int32)) % (3 : Int32))) * (64 : Int32))).toUInt32 >>> ((6 : Int32) &&& 31).toUInt32).toInt32)) = 0 then q0 ||| ((1 : Int64) <<< (((p4 &&& (2147483647 : Int32)) % (((3 : Int32) - ((p3 &&& (2147483647 : Int32)) % (3 : Int32))) * (64 : Int32))) &&& 0x3f).toInt64) else q0) = (f2 (0 : Int32) (((p3 &&& (2147483647 : Int32)) % (3 : Int32)) + (((p4 &&& (2147483647 : Int32)) % (((3 : Int32) - ((p3 &&& (2147483647 : Int32)) % (3 : Int32))) * (64 : Int32))) / (64 : Int32))) ((1 : Int64) <<< ((((p4 &&& (2147483647 : Int32)) % (((3 : Int32) - ((p3 &&& (2147483647 : Int32)) % (3 : Int32))) * (64 : Int32))) % (64 : Int32)) &&& 0x3f).toInt64) q0) then (if (if (((p3 &&& (2147483647 : Int32)) % (3 : Int32)) + ((((p4 &&& (2147483647 : Int32)) % (((3 : Int32) - ((p3 &&& (2147483647 : Int32)) % (3 : Int32))) * (64 : Int32))).toUInt32 >>> ((6 : Int32) &&& 31).toUInt32).toInt32)) = 1 then q1 ||| ((1 : Int64) <<< (((p4 &&& (2147483647 : Int32)) % (((3 : Int32) - ((p3 &&& (2147483647 : Int32)) % (3 : Int32))) * (64 : Int32))) &&& 0x3f).toInt64) else q1) = (f2 (1 : Int32) (((p3 &&& (2147483647 : Int32)) % (3 : Int32)) + (((p4 &&& (2147483647 : Int32)) % (((3 : Int32) - ((p3 &&& (2147483647 : Int32)) % (3 : Int32))) * (64 : Int32))) / (64 : Int32))) ((1 : Int64) <<< ((((p4 &&& (2147483647 : Int32)) % (((3 : Int32) - ((p3 &&& (2147483647 : Int32)) % (3 : Int32))) * (64 : Int32))) % (64 : Int32)) &&& 0x3f).toInt64) q1) then (if (if (((p3 &&& (2147483647 : Int32)) % (3 : Int32)) + ((((p4 &&& (2147483647 : Int32)) % (((3 : Int32) - ((p3 &&& (2147483647 : Int32)) % (3 : Int32))) * (64 : Int32))).toUInt32 >>> ((6 : Int32) &&& 31).toUInt32).toInt32)) = 2 then q2 ||| ((1 : Int64) <<< (((p4 &&& (2147483647 : Int32)) % (((3 : Int32) - ((p3 &&& (2147483647 : Int32)) % (3 : Int32))) * (64 : Int32))) &&& 0x3f).toInt64) else q2) = (f2 (2 : Int32) (((p3 &&& (2147483647 : Int32)) % (3 : Int32)) + (((p4 &&& (2147483647 : Int32)) % (((3 : Int32) - ((p3 &&& (2147483647 : Int32)) % (3 : Int32))) * (64 : Int32))) / (64 : Int32))) ((1 : Int64) <<< ((((p4 &&& (2147483647 : Int32)) % (((3 : Int32) - ((p3 &&& (2147483647 : Int32)) % (3 : Int32))) * (64 : Int32))) % (64 : Int32)) &&& 0x3f).toInt64) q2) then (1 : Int32) else (0 : Int32)) else (0 : Int32)) else (0 : Int32)))
theorem own_ef0 (m : MethodId) (q0 : Int64) (q1 : Int64) (q2 : Int64) (p3 : Int32) (p4 : Int32) : entryFrame m #[(.long q0), (.long q1), (.long q2), (.int p3), (.int p4)] maxLocals = mkF m 0 #[.val (.long q0), .second, .val (.long q1), .second, .val (.long q2), .second, .val (.int p3), .val (.int p4), .unset, .unset, .unset, .unset, .unset, .unset] [] := by first | (simp [entryFrame, mkF, argsToLocals, Value.category, maxLocals]; done) | rfl
abbrev kC0 : Nat := 1
abbrev kS0 : Nat := 3
def Q0 (Z : State) (q0 : Int64) (q1 : Int64) (q2 : Int64) (p3 : Int32) (p4 : Int32) (h0 : Heap) (n0 : Nat) (v : Option Value) (h : Heap) (L : List Loc) : Prop := v = some (.int (f0 q0 q1 q2 p3 p4)) ∧ Fr n0 L
set_option maxRecDepth 65536 in
set_option maxHeartbeats 40000000 in
theorem rm0 (l : Launch) (Z : State) (tA : Array Value) (hw : ∀ d ∈ tables_1, d.before tA Z = true) (ws : List Jvm.Cond) (q0 : Int64) (q1 : Int64) (q2 : Int64) (p3 : Int32) (p4 : Int32) (h0 : Heap) (n0 : Nat) (Z0 : n0 ≤ h0.size)  :
    MetFree l x (head1 (Jvm.Cond.code x code maxLocals ret :: ws) room_1) (fun a U => a = #[(.long q0), (.long q1), (.long q2), (.int p3), (.int p4)] ∧ Z.Warmed39 U.vm ∧ U.heap = h0) (fun _ _ _ _ _ => True) (fun _ U o U' => ∃ v L, o = .returned v ∧ Q0 Z q0 q1 q2 p3 p4 h0 n0 v U'.heap L ∧ FrameEnd U o U' L kC0 kS0) := by
  refine MetFree.of_bodySF (plainFor_of_name own_pn1) hisR ?_
  intro p e s m args below meth c s₁ Bd hml0 hP hK
  obtain ⟨rfl, hZ, hh⟩ := hP
  have hx := Bd.exec
  have hby := Bd.bytes
  have hml : c.maxLocals = 14 := hml0
  have hown : s.vm.findClass "com/example/twag/twag/population/TransferGraphsAddPinLaw" = some m.cls := findClass_of_methodNamed Bd.named
  have hnm := (name_of_methodNamed Bd.named Bd.method).1
  have X0 : Stand p l e room_1 s m #[(.long q0), (.long q1), (.long q2), (.int p3), (.int p4)] below meth c s₁ [] 0 0 := Stand.of_body Bd
  have e0 : s₁.heap = h0 := by rw [← hh, Bd.state]; rfl
  have N0 := Fr.nil n0
  show Goes p e below s (Q0 Z q0 q1 q2 p3 p4 h0 n0) kC0 kS0 (s₁.setTop (entryFrame m #[(.long q0), (.long q1), (.long q2), (.int p3), (.int p4)] maxLocals))
  refine Goes.step (fun t k => castTop (own_ef0 m q0 q1 q2 p3 p4) k) ?_
  show Goes _ _ _ _ _ _ _ (s₁.setTop (mkF m 0 #[.val (.long q0), .second, .val (.long q1), .second, .val (.long q2), .second, .val (.int p3), .val (.int p4), .unset, .unset, .unset, .unset, .unset, .unset] []))
  refine Goes.step (fun t k => XS.iload X0.here hx rfl (hb hby at_0) rfl k) ?_
  show Goes _ _ _ _ _ _ _ (s₁.setTop (mkF m 2 #[.val (.long q0), .second, .val (.long q1), .second, .val (.long q2), .second, .val (.int p3), .val (.int p4), .unset, .unset, .unset, .unset, .unset, .unset] [(.int p3)]))
  refine Goes.step (fun t k => X0.ldcInt hx hown (mvT hZ (hw _ (List.mem_of_getElem? (i := 0) rfl))) (g := (mkF m 2 #[.val (.long q0), .second, .val (.long q1), .second, .val (.long q2), .second, .val (.int p3), .val (.int p4), .unset, .unset, .unset, .unset, .unset, .unset] [(.int p3)])) rfl (hb hby at_2) _ k) ?_
  show Goes _ _ _ _ _ _ _ (s₁.setTop (mkF m 4 #[.val (.long q0), .second, .val (.long q1), .second, .val (.long q2), .second, .val (.int p3), .val (.int p4), .unset, .unset, .unset, .unset, .unset, .unset] [(.int (2147483647 : Int32)), (.int p3)]))
  refine Goes.step (fun t k => XS.iand X0.here hx rfl (hb hby at_4) rfl k) ?_
  show Goes _ _ _ _ _ _ _ (s₁.setTop (mkF m 5 #[.val (.long q0), .second, .val (.long q1), .second, .val (.long q2), .second, .val (.int p3), .val (.int p4), .unset, .unset, .unset, .unset, .unset, .unset] [(.int (p3 &&& (2147483647 : Int32)))]))
  refine Goes.step (fun t k => XS.iconst X0.here hx rfl (hb hby at_5) k) ?_
  show Goes _ _ _ _ _ _ _ (s₁.setTop (mkF m 6 #[.val (.long q0), .second, .val (.long q1), .second, .val (.long q2), .second, .val (.int p3), .val (.int p4), .unset, .unset, .unset, .unset, .unset, .unset] [(.int (3 : Int32)), (.int (p3 &&& (2147483647 : Int32)))]))
  have hnz1 : ¬ ((3 : Int32) = (0 : Int32)) := by decide
  refine Goes.step (fun t k => iremM X0 hx rfl (hb hby at_6) rfl hnz1 k) ?_
  show Goes _ _ _ _ _ _ _ (s₁.setTop (mkF m 7 #[.val (.long q0), .second, .val (.long q1), .second, .val (.long q2), .second, .val (.int p3), .val (.int p4), .unset, .unset, .unset, .unset, .unset, .unset] [(.int ((p3 &&& (2147483647 : Int32)) % (3 : Int32)))]))
  refine Goes.step (fun t k => XS.istore X0.here hx rfl (hb hby at_7) rfl (l' := #[.val (.long q0), .second, .val (.long q1), .second, .val (.long q2), .second, .val (.int p3), .val (.int p4), .val (.int ((p3 &&& (2147483647 : Int32)) % (3 : Int32))), .unset, .unset, .unset, .unset, .unset]) rfl k) ?_
  show Goes _ _ _ _ _ _ _ (s₁.setTop (mkF m 9 #[.val (.long q0), .second, .val (.long q1), .second, .val (.long q2), .second, .val (.int p3), .val (.int p4), .val (.int ((p3 &&& (2147483647 : Int32)) % (3 : Int32))), .unset, .unset, .unset, .unset, .unset] []))
  generalize hy2 : ((p3 &&& (2147483647 : Int32)) % (3 : Int32)) = y2
  refine Goes.step (fun t k => XS.iload X0.here hx rfl (hb hby at_9) rfl k) ?_
  show Goes _ _ _ _ _ _ _ (s₁.setTop (mkF m 11 #[.val (.long q0), .second, .val (.long q1), .second, .val (.long q2), .second, .val (.int p3), .val (.int p4), .val (.int y2), .unset, .unset, .unset, .unset, .unset] [(.int p4)]))
  refine Goes.step (fun t k => X0.ldcInt hx hown (mvT hZ (hw _ (List.mem_of_getElem? (i := 0) rfl))) (g := (mkF m 11 #[.val (.long q0), .second, .val (.long q1), .second, .val (.long q2), .second, .val (.int p3), .val (.int p4), .val (.int y2), .unset, .unset, .unset, .unset, .unset] [(.int p4)])) rfl (hb hby at_11) _ k) ?_
  show Goes _ _ _ _ _ _ _ (s₁.setTop (mkF m 13 #[.val (.long q0), .second, .val (.long q1), .second, .val (.long q2), .second, .val (.int p3), .val (.int p4), .val (.int y2), .unset, .unset, .unset, .unset, .unset] [(.int (2147483647 : Int32)), (.int p4)]))
  refine Goes.step (fun t k => XS.iand X0.here hx rfl (hb hby at_13) rfl k) ?_
  show Goes _ _ _ _ _ _ _ (s₁.setTop (mkF m 14 #[.val (.long q0), .second, .val (.long q1), .second, .val (.long q2), .second, .val (.int p3), .val (.int p4), .val (.int y2), .unset, .unset, .unset, .unset, .unset] [(.int (p4 &&& (2147483647 : Int32)))]))
  refine Goes.step (fun t k => XS.iconst X0.here hx rfl (hb hby at_14) k) ?_
  show Goes _ _ _ _ _ _ _ (s₁.setTop (mkF m 15 #[.val (.long q0), .second, .val (.long q1), .second, .val (.long q2), .second, .val (.int p3), .val (.int p4), .val (.int y2), .unset, .unset, .unset, .unset, .unset] [(.int (3 : Int32)), (.int (p4 &&& (2147483647 : Int32)))]))
  refine Goes.step (fun t k => XS.iload X0.here hx rfl (hb hby at_15) rfl k) ?_
  show Goes _ _ _ _ _ _ _ (s₁.setTop (mkF m 17 #[.val (.long q0), .second, .val (.long q1), .second, .val (.long q2), .second, .val (.int p3), .val (.int p4), .val (.int y2), .unset, .unset, .unset, .unset, .unset] [(.int y2), (.int (3 : Int32)), (.int (p4 &&& (2147483647 : Int32)))]))
  refine Goes.step (fun t k => XS.isub X0.here hx rfl (hb hby at_17) rfl k) ?_
  show Goes _ _ _ _ _ _ _ (s₁.setTop (mkF m 18 #[.val (.long q0), .second, .val (.long q1), .second, .val (.long q2), .second, .val (.int p3), .val (.int p4), .val (.int y2), .unset, .unset, .unset, .unset, .unset] [(.int ((3 : Int32) - y2)), (.int (p4 &&& (2147483647 : Int32)))]))
  refine Goes.step (fun t k => XS.bipush X0.here hx rfl (hb hby at_18) k) ?_
  show Goes _ _ _ _ _ _ _ (s₁.setTop (mkF m 20 #[.val (.long q0), .second, .val (.long q1), .second, .val (.long q2), .second, .val (.int p3), .val (.int p4), .val (.int y2), .unset, .unset, .unset, .unset, .unset] [(.int (64 : Int32)), (.int ((3 : Int32) - y2)), (.int (p4 &&& (2147483647 : Int32)))]))
  refine Goes.step (fun t k => XS.imul X0.here hx rfl (hb hby at_20) rfl k) ?_
  show Goes _ _ _ _ _ _ _ (s₁.setTop (mkF m 21 #[.val (.long q0), .second, .val (.long q1), .second, .val (.long q2), .second, .val (.int p3), .val (.int p4), .val (.int y2), .unset, .unset, .unset, .unset, .unset] [(.int (((3 : Int32) - y2) * (64 : Int32))), (.int (p4 &&& (2147483647 : Int32)))]))
  have hnz3 : ¬ ((((3 : Int32) - y2) * (64 : Int32)) = (0 : Int32)) := by subst hy2; exact own_nz _
  refine Goes.step (fun t k => iremM X0 hx rfl (hb hby at_21) rfl hnz3 k) ?_
  show Goes _ _ _ _ _ _ _ (s₁.setTop (mkF m 22 #[.val (.long q0), .second, .val (.long q1), .second, .val (.long q2), .second, .val (.int p3), .val (.int p4), .val (.int y2), .unset, .unset, .unset, .unset, .unset] [(.int ((p4 &&& (2147483647 : Int32)) % (((3 : Int32) - y2) * (64 : Int32))))]))
  refine Goes.step (fun t k => XS.istore X0.here hx rfl (hb hby at_22) rfl (l' := #[.val (.long q0), .second, .val (.long q1), .second, .val (.long q2), .second, .val (.int p3), .val (.int p4), .val (.int y2), .val (.int ((p4 &&& (2147483647 : Int32)) % (((3 : Int32) - y2) * (64 : Int32)))), .unset, .unset, .unset, .unset]) rfl k) ?_
  show Goes _ _ _ _ _ _ _ (s₁.setTop (mkF m 24 #[.val (.long q0), .second, .val (.long q1), .second, .val (.long q2), .second, .val (.int p3), .val (.int p4), .val (.int y2), .val (.int ((p4 &&& (2147483647 : Int32)) % (((3 : Int32) - y2) * (64 : Int32)))), .unset, .unset, .unset, .unset] []))
  generalize hy4 : ((p4 &&& (2147483647 : Int32)) % (((3 : Int32) - y2) * (64 : Int32))) = y4
  refine Goes.step (fun t k => XS.iconst X0.here hx rfl (hb hby at_24) k) ?_
  show Goes _ _ _ _ _ _ _ (s₁.setTop (mkF m 25 #[.val (.long q0), .second, .val (.long q1), .second, .val (.long q2), .second, .val (.int p3), .val (.int p4), .val (.int y2), .val (.int y4), .unset, .unset, .unset, .unset] [(.int (3 : Int32))]))
  obtain ⟨T5, h5, k5, X5, e5, E5, A5, st5⟩ := newP X0 hx hZ (hw _ (List.mem_of_getElem? (i := 1) rfl)) e0 (g := (mkF m 25 #[.val (.long q0), .second, .val (.long q1), .second, .val (.long q2), .second, .val (.int p3), .val (.int p4), .val (.int y2), .val (.int y4), .unset, .unset, .unset, .unset] [(.int (3 : Int32))])) rfl (hb hby at_25) rfl (by decide) (cap := 3) (by decide) (by decide) (by decide) (by decide)
  obtain ⟨b5, g5⟩ : ∃ z, z = h0.size := ⟨_, rfl⟩
  rw [← g5] at A5 st5
  have Zs5 : n0 ≤ b5 := Nat.le_trans Z0 (Nat.le_of_eq g5.symm)
  have Zh5 : h0.size ≤ b5 := Nat.le_trans (Keep.refl h0 []).1 (Nat.le_of_eq g5.symm)
  have K5 := (Keep.refl h0 []).ext E5
  have Z5 := Nat.le_trans Z0 E5.1
  have V5 : Ara Z h5 b5 .long [(.long (0 : Int64)), (.long (0 : Int64)), (.long (0 : Int64))] := Ara.new A5 (by decide) rfl (fun _ q => nomatch q)
  refine Goes.step (fun t k => st5 t k) ?_
  show Goes _ _ _ _ _ _ _ (T5.setTop (mkF m 27 #[.val (.long q0), .second, .val (.long q1), .second, .val (.long q2), .second, .val (.int p3), .val (.int p4), .val (.int y2), .val (.int y4), .unset, .unset, .unset, .unset] [(.ref b5)]))
  refine Goes.step (fun t k => XS.dup X5.here hx rfl (hb hby at_27) rfl rfl k) ?_
  show Goes _ _ _ _ _ _ _ (T5.setTop (mkF m 28 #[.val (.long q0), .second, .val (.long q1), .second, .val (.long q2), .second, .val (.int p3), .val (.int p4), .val (.int y2), .val (.int y4), .unset, .unset, .unset, .unset] [(.ref b5), (.ref b5)]))
  refine Goes.step (fun t k => XS.iconst X5.here hx rfl (hb hby at_28) k) ?_
  show Goes _ _ _ _ _ _ _ (T5.setTop (mkF m 29 #[.val (.long q0), .second, .val (.long q1), .second, .val (.long q2), .second, .val (.int p3), .val (.int p4), .val (.int y2), .val (.int y4), .unset, .unset, .unset, .unset] [(.int (0 : Int32)), (.ref b5), (.ref b5)]))
  refine Goes.step (fun t k => XS.lloadN X5.here hx rfl (hb hby at_29) rfl k) ?_
  show Goes _ _ _ _ _ _ _ (T5.setTop (mkF m 30 #[.val (.long q0), .second, .val (.long q1), .second, .val (.long q2), .second, .val (.int p3), .val (.int p4), .val (.int y2), .val (.int y4), .unset, .unset, .unset, .unset] [(.long q0), (.int (0 : Int32)), (.ref b5), (.ref b5)]))
  obtain ⟨cl6, Ar6, q6, ll6, ff6, oo6⟩ := id V5
  have hn6 : ¬ (0 : Int32) < 0 := by decide
  have hl6 : ((0 : Int32)).toNatClampNeg < ([(.long (0 : Int64)), (.long (0 : Int64)), (.long (0 : Int64))] : List Value).length := by exact Nat.le_of_ble_eq_true rfl
  obtain ⟨T6, h6, X6, e6, W6, st6⟩ := stJ X5 hx hZ e5 Ar6 (j := (0 : Int32)) (inb q6 hn6 hl6) (g := (mkF m 30 #[.val (.long q0), .second, .val (.long q1), .second, .val (.long q2), .second, .val (.int p3), .val (.int p4), .val (.int y2), .val (.int y4), .unset, .unset, .unset, .unset] [(.long q0), (.int (0 : Int32)), (.ref b5), (.ref b5)])) rfl rfl (hb hby at_30)
  have V6 : Ara Z h6 b5 .long [(.long q0), (.long (0 : Int64)), (.long (0 : Int64))] := Ara.same (j := (0 : Int32)) Ar6 q6 ll6 ff6 oo6 rfl W6
  have K6 := K5.wr W6 (Or.inr Zh5)
  have N6 := Fr.snoc X6 N0 Zs5
  have Z6 := Nat.le_trans Z5 (Nat.le_of_eq W6.size.symm)
  refine Goes.step (fun t k => st6 t k) ?_
  show Goes _ _ _ _ _ _ _ (T6.setTop (mkF m 31 #[.val (.long q0), .second, .val (.long q1), .second, .val (.long q2), .second, .val (.int p3), .val (.int p4), .val (.int y2), .val (.int y4), .unset, .unset, .unset, .unset] [(.ref b5)]))
  refine Goes.step (fun t k => XS.dup X6.here hx rfl (hb hby at_31) rfl rfl k) ?_
  show Goes _ _ _ _ _ _ _ (T6.setTop (mkF m 32 #[.val (.long q0), .second, .val (.long q1), .second, .val (.long q2), .second, .val (.int p3), .val (.int p4), .val (.int y2), .val (.int y4), .unset, .unset, .unset, .unset] [(.ref b5), (.ref b5)]))
  refine Goes.step (fun t k => XS.iconst X6.here hx rfl (hb hby at_32) k) ?_
  show Goes _ _ _ _ _ _ _ (T6.setTop (mkF m 33 #[.val (.long q0), .second, .val (.long q1), .second, .val (.long q2), .second, .val (.int p3), .val (.int p4), .val (.int y2), .val (.int y4), .unset, .unset, .unset, .unset] [(.int (1 : Int32)), (.ref b5), (.ref b5)]))
  refine Goes.step (fun t k => XS.lloadN X6.here hx rfl (hb hby at_33) rfl k) ?_
  show Goes _ _ _ _ _ _ _ (T6.setTop (mkF m 34 #[.val (.long q0), .second, .val (.long q1), .second, .val (.long q2), .second, .val (.int p3), .val (.int p4), .val (.int y2), .val (.int y4), .unset, .unset, .unset, .unset] [(.long q1), (.int (1 : Int32)), (.ref b5), (.ref b5)]))
  obtain ⟨cl7, Ar7, q7, ll7, ff7, oo7⟩ := id V6
  have hn7 : ¬ (1 : Int32) < 0 := by decide
  have hl7 : ((1 : Int32)).toNatClampNeg < ([(.long q0), (.long (0 : Int64)), (.long (0 : Int64))] : List Value).length := by exact Nat.le_of_ble_eq_true rfl
  obtain ⟨T7, h7, X7, e7, W7, st7⟩ := stJ X6 hx hZ e6 Ar7 (j := (1 : Int32)) (inb q7 hn7 hl7) (g := (mkF m 34 #[.val (.long q0), .second, .val (.long q1), .second, .val (.long q2), .second, .val (.int p3), .val (.int p4), .val (.int y2), .val (.int y4), .unset, .unset, .unset, .unset] [(.long q1), (.int (1 : Int32)), (.ref b5), (.ref b5)])) rfl rfl (hb hby at_34)
  have V7 : Ara Z h7 b5 .long [(.long q0), (.long q1), (.long (0 : Int64))] := Ara.same (j := (1 : Int32)) Ar7 q7 ll7 ff7 oo7 rfl W7
  have K7 := K6.wr W7 (Or.inr Zh5)
  have N7 := Fr.snoc X7 N6 Zs5
  have Z7 := Nat.le_trans Z6 (Nat.le_of_eq W7.size.symm)
  refine Goes.step (fun t k => st7 t k) ?_
  show Goes _ _ _ _ _ _ _ (T7.setTop (mkF m 35 #[.val (.long q0), .second, .val (.long q1), .second, .val (.long q2), .second, .val (.int p3), .val (.int p4), .val (.int y2), .val (.int y4), .unset, .unset, .unset, .unset] [(.ref b5)]))
  refine Goes.step (fun t k => XS.dup X7.here hx rfl (hb hby at_35) rfl rfl k) ?_
  show Goes _ _ _ _ _ _ _ (T7.setTop (mkF m 36 #[.val (.long q0), .second, .val (.long q1), .second, .val (.long q2), .second, .val (.int p3), .val (.int p4), .val (.int y2), .val (.int y4), .unset, .unset, .unset, .unset] [(.ref b5), (.ref b5)]))
  refine Goes.step (fun t k => XS.iconst X7.here hx rfl (hb hby at_36) k) ?_
  show Goes _ _ _ _ _ _ _ (T7.setTop (mkF m 37 #[.val (.long q0), .second, .val (.long q1), .second, .val (.long q2), .second, .val (.int p3), .val (.int p4), .val (.int y2), .val (.int y4), .unset, .unset, .unset, .unset] [(.int (2 : Int32)), (.ref b5), (.ref b5)]))
  refine Goes.step (fun t k => XS.lload X7.here hx rfl (hb hby at_37) rfl k) ?_
  show Goes _ _ _ _ _ _ _ (T7.setTop (mkF m 39 #[.val (.long q0), .second, .val (.long q1), .second, .val (.long q2), .second, .val (.int p3), .val (.int p4), .val (.int y2), .val (.int y4), .unset, .unset, .unset, .unset] [(.long q2), (.int (2 : Int32)), (.ref b5), (.ref b5)]))
  obtain ⟨cl8, Ar8, q8, ll8, ff8, oo8⟩ := id V7
  have hn8 : ¬ (2 : Int32) < 0 := by decide
  have hl8 : ((2 : Int32)).toNatClampNeg < ([(.long q0), (.long q1), (.long (0 : Int64))] : List Value).length := by exact Nat.le_of_ble_eq_true rfl
  obtain ⟨T8, h8, X8, e8, W8, st8⟩ := stJ X7 hx hZ e7 Ar8 (j := (2 : Int32)) (inb q8 hn8 hl8) (g := (mkF m 39 #[.val (.long q0), .second, .val (.long q1), .second, .val (.long q2), .second, .val (.int p3), .val (.int p4), .val (.int y2), .val (.int y4), .unset, .unset, .unset, .unset] [(.long q2), (.int (2 : Int32)), (.ref b5), (.ref b5)])) rfl rfl (hb hby at_39)
  have V8 : Ara Z h8 b5 .long [(.long q0), (.long q1), (.long q2)] := Ara.same (j := (2 : Int32)) Ar8 q8 ll8 ff8 oo8 rfl W8
  have K8 := K7.wr W8 (Or.inr Zh5)
  have N8 := Fr.snoc X8 N7 Zs5
  have Z8 := Nat.le_trans Z7 (Nat.le_of_eq W8.size.symm)
  refine Goes.step (fun t k => st8 t k) ?_
  show Goes _ _ _ _ _ _ _ (T8.setTop (mkF m 40 #[.val (.long q0), .second, .val (.long q1), .second, .val (.long q2), .second, .val (.int p3), .val (.int p4), .val (.int y2), .val (.int y4), .unset, .unset, .unset, .unset] [(.ref b5)]))
  refine Goes.step (fun t k => XS.astore X8.here hx rfl (hb hby at_40) rfl rfl (l' := #[.val (.long q0), .second, .val (.long q1), .second, .val (.long q2), .second, .val (.int p3), .val (.int p4), .val (.int y2), .val (.int y4), .val (.ref b5), .unset, .unset, .unset]) rfl k) ?_
  show Goes _ _ _ _ _ _ _ (T8.setTop (mkF m 42 #[.val (.long q0), .second, .val (.long q1), .second, .val (.long q2), .second, .val (.int p3), .val (.int p4), .val (.int y2), .val (.int y4), .val (.ref b5), .unset, .unset, .unset] []))
  refine Goes.step (fun t k => XS.aload X8.here hx rfl (hb hby at_42) rfl rfl k) ?_
  show Goes _ _ _ _ _ _ _ (T8.setTop (mkF m 44 #[.val (.long q0), .second, .val (.long q1), .second, .val (.long q2), .second, .val (.int p3), .val (.int p4), .val (.int y2), .val (.int y4), .val (.ref b5), .unset, .unset, .unset] [(.ref b5)]))
  refine Goes.step (fun t k => XS.iload X8.here hx rfl (hb hby at_44) rfl k) ?_
  show Goes _ _ _ _ _ _ _ (T8.setTop (mkF m 46 #[.val (.long q0), .second, .val (.long q1), .second, .val (.long q2), .second, .val (.int p3), .val (.int p4), .val (.int y2), .val (.int y4), .val (.ref b5), .unset, .unset, .unset] [(.int y2), (.ref b5)]))
  refine Goes.step (fun t k => XS.iload X8.here hx rfl (hb hby at_46) rfl k) ?_
  show Goes _ _ _ _ _ _ _ (T8.setTop (mkF m 48 #[.val (.long q0), .second, .val (.long q1), .second, .val (.long q2), .second, .val (.int p3), .val (.int p4), .val (.int y2), .val (.int y4), .val (.ref b5), .unset, .unset, .unset] [(.int y4), (.int y2), (.ref b5)]))
  have hi9 : ¬ (y2 + ((y4.toUInt32 >>> ((6 : Int32) &&& 31).toUInt32).toInt32)) < 0 := by subst hy4; subst hy2; exact own_n0 _ _
  have hj9 : ((y2 + ((y4.toUInt32 >>> ((6 : Int32) &&& 31).toUInt32).toInt32))).toNatClampNeg < 3 := by subst hy4; subst hy2; exact own_n3 _ _
  obtain ⟨_, _, ⟨T9, L9, k9, n9⟩, -, X9, ⟨Lc9, hQ9, l9, y9, z9⟩, st9⟩ := Jvm.LawKit.callS X8 hx (y := (⟨"com/example/twag/twag/population/TransferGraphs", "add", "([JII)V"⟩ : MethodName)) hown (mvT hZ (hw _ (List.mem_of_getElem? (i := 2) rfl))) (mvT hZ (hw _ (List.mem_of_getElem? (i := 3) rfl))) (mvT hZ (hw _ (List.mem_of_getElem? (i := 4) rfl))) (mvT hZ (hw _ (List.mem_of_getElem? (i := 5) rfl))) (by decide) (backOf (W := 0) (rm1 l Z tA hw [] b5 y2 y4 q0 q1 q2 h8 n0 Z8 V8 hi9 hj9 Zs5) hZ (hw _ (List.mem_of_getElem? (i := 5) rfl)) (hw _ (List.mem_of_getElem? (i := 4) rfl)) (by decide) (by decide)) (g := (mkF m 48 #[.val (.long q0), .second, .val (.long q1), .second, .val (.long q2), .second, .val (.int p3), .val (.int p4), .val (.int y2), .val (.int y4), .val (.ref b5), .unset, .unset, .unset] [(.int y4), (.int y2), (.ref b5)])) rfl (by rw [hml]; rfl) (argsL := [(.ref b5), (.int y2), (.int y4)]) (rest := []) (lenOf own_pd0 rfl) rfl (by show 2 * 0 + _ ≤ _; exact Nat.le_of_eq rfl) (hb hby at_48) (fun _ _ => ⟨rfl, e8, (by decide : 1 + 0 ≤ _), (by decide : 3 + 0 ≤ _)⟩)
  dsimp only [Pt.U, Pt.locs, Pt.cells, Pt.slots] at X9 l9 y9 z9 st9 hQ9
  subst l9 y9 z9
  generalize e9 : T9.heap = h9 at hQ9
  obtain ⟨rfl, Nq9, Kq9, G9_0⟩ := hQ9
  have N9 := Fr.app N8 Nq9
  have K9 := K8.trans Kq9 (allS (Or.inr Zh5) all0)
  have Z9 := Nat.le_trans Z8 Kq9.1
  change Stand _ _ _ _ _ _ _ _ _ _ _ _ 1 3 at X9
  refine Goes.step (fun t k => st9 t k) ?_
  show Goes _ _ _ _ _ _ _ (T9.setTop (mkF m 51 #[.val (.long q0), .second, .val (.long q1), .second, .val (.long q2), .second, .val (.int p3), .val (.int p4), .val (.int y2), .val (.int y4), .val (.ref b5), .unset, .unset, .unset] []))
  refine Goes.step (fun t k => XS.iload X9.here hx rfl (hb hby at_51) rfl k) ?_
  show Goes _ _ _ _ _ _ _ (T9.setTop (mkF m 53 #[.val (.long q0), .second, .val (.long q1), .second, .val (.long q2), .second, .val (.int p3), .val (.int p4), .val (.int y2), .val (.int y4), .val (.ref b5), .unset, .unset, .unset] [(.int y2)]))
  refine Goes.step (fun t k => XS.iload X9.here hx rfl (hb hby at_53) rfl k) ?_
  show Goes _ _ _ _ _ _ _ (T9.setTop (mkF m 55 #[.val (.long q0), .second, .val (.long q1), .second, .val (.long q2), .second, .val (.int p3), .val (.int p4), .val (.int y2), .val (.int y4), .val (.ref b5), .unset, .unset, .unset] [(.int y4), (.int y2)]))
  refine Goes.step (fun t k => XS.bipush X9.here hx rfl (hb hby at_55) k) ?_
  show Goes _ _ _ _ _ _ _ (T9.setTop (mkF m 57 #[.val (.long q0), .second, .val (.long q1), .second, .val (.long q2), .second, .val (.int p3), .val (.int p4), .val (.int y2), .val (.int y4), .val (.ref b5), .unset, .unset, .unset] [(.int (64 : Int32)), (.int y4), (.int y2)]))
  have hnz10 : ¬ ((64 : Int32) = (0 : Int32)) := by decide
  refine Goes.step (fun t k => XS.idiv X9.here hx rfl (hb hby at_57) rfl hnz10 k) ?_
  show Goes _ _ _ _ _ _ _ (T9.setTop (mkF m 58 #[.val (.long q0), .second, .val (.long q1), .second, .val (.long q2), .second, .val (.int p3), .val (.int p4), .val (.int y2), .val (.int y4), .val (.ref b5), .unset, .unset, .unset] [(.int (y4 / (64 : Int32))), (.int y2)]))
  refine Goes.step (fun t k => XS.iadd X9.here hx rfl (hb hby at_58) rfl k) ?_
  show Goes _ _ _ _ _ _ _ (T9.setTop (mkF m 59 #[.val (.long q0), .second, .val (.long q1), .second, .val (.long q2), .second, .val (.int p3), .val (.int p4), .val (.int y2), .val (.int y4), .val (.ref b5), .unset, .unset, .unset] [(.int (y2 + (y4 / (64 : Int32))))]))
  refine Goes.step (fun t k => XS.istore X9.here hx rfl (hb hby at_59) rfl (l' := #[.val (.long q0), .second, .val (.long q1), .second, .val (.long q2), .second, .val (.int p3), .val (.int p4), .val (.int y2), .val (.int y4), .val (.ref b5), .val (.int (y2 + (y4 / (64 : Int32)))), .unset, .unset]) rfl k) ?_
  show Goes _ _ _ _ _ _ _ (T9.setTop (mkF m 61 #[.val (.long q0), .second, .val (.long q1), .second, .val (.long q2), .second, .val (.int p3), .val (.int p4), .val (.int y2), .val (.int y4), .val (.ref b5), .val (.int (y2 + (y4 / (64 : Int32)))), .unset, .unset] []))
  refine Goes.step (fun t k => XS.lconst X9.here hx rfl (hb hby at_61) k) ?_
  show Goes _ _ _ _ _ _ _ (T9.setTop (mkF m 62 #[.val (.long q0), .second, .val (.long q1), .second, .val (.long q2), .second, .val (.int p3), .val (.int p4), .val (.int y2), .val (.int y4), .val (.ref b5), .val (.int (y2 + (y4 / (64 : Int32)))), .unset, .unset] [(.long (1 : Int64))]))
  refine Goes.step (fun t k => XS.iload X9.here hx rfl (hb hby at_62) rfl k) ?_
  show Goes _ _ _ _ _ _ _ (T9.setTop (mkF m 64 #[.val (.long q0), .second, .val (.long q1), .second, .val (.long q2), .second, .val (.int p3), .val (.int p4), .val (.int y2), .val (.int y4), .val (.ref b5), .val (.int (y2 + (y4 / (64 : Int32)))), .unset, .unset] [(.int y4), (.long (1 : Int64))]))
  refine Goes.step (fun t k => XS.bipush X9.here hx rfl (hb hby at_64) k) ?_
  show Goes _ _ _ _ _ _ _ (T9.setTop (mkF m 66 #[.val (.long q0), .second, .val (.long q1), .second, .val (.long q2), .second, .val (.int p3), .val (.int p4), .val (.int y2), .val (.int y4), .val (.ref b5), .val (.int (y2 + (y4 / (64 : Int32)))), .unset, .unset] [(.int (64 : Int32)), (.int y4), (.long (1 : Int64))]))
  have hnz11 : ¬ ((64 : Int32) = (0 : Int32)) := by decide
  refine Goes.step (fun t k => iremM X9 hx rfl (hb hby at_66) rfl hnz11 k) ?_
  show Goes _ _ _ _ _ _ _ (T9.setTop (mkF m 67 #[.val (.long q0), .second, .val (.long q1), .second, .val (.long q2), .second, .val (.int p3), .val (.int p4), .val (.int y2), .val (.int y4), .val (.ref b5), .val (.int (y2 + (y4 / (64 : Int32)))), .unset, .unset] [(.int (y4 % (64 : Int32))), (.long (1 : Int64))]))
  refine Goes.step (fun t k => XS.lshl X9.here hx rfl (hb hby at_67) rfl k) ?_
  show Goes _ _ _ _ _ _ _ (T9.setTop (mkF m 68 #[.val (.long q0), .second, .val (.long q1), .second, .val (.long q2), .second, .val (.int p3), .val (.int p4), .val (.int y2), .val (.int y4), .val (.ref b5), .val (.int (y2 + (y4 / (64 : Int32)))), .unset, .unset] [(.long ((1 : Int64) <<< ((y4 % (64 : Int32)) &&& 0x3f).toInt64))]))
  refine Goes.step (fun t k => XS.lstore X9.here hx rfl (hb hby at_68) rfl (l' := #[.val (.long q0), .second, .val (.long q1), .second, .val (.long q2), .second, .val (.int p3), .val (.int p4), .val (.int y2), .val (.int y4), .val (.ref b5), .val (.int (y2 + (y4 / (64 : Int32)))), .val (.long ((1 : Int64) <<< ((y4 % (64 : Int32)) &&& 0x3f).toInt64)), .second]) rfl k) ?_
  show Goes _ _ _ _ _ _ _ (T9.setTop (mkF m 70 #[.val (.long q0), .second, .val (.long q1), .second, .val (.long q2), .second, .val (.int p3), .val (.int p4), .val (.int y2), .val (.int y4), .val (.ref b5), .val (.int (y2 + (y4 / (64 : Int32)))), .val (.long ((1 : Int64) <<< ((y4 % (64 : Int32)) &&& 0x3f).toInt64)), .second] []))
  generalize hy12 : ((1 : Int64) <<< ((y4 % (64 : Int32)) &&& 0x3f).toInt64) = y12
  refine Goes.step (fun t k => XS.aload X9.here hx rfl (hb hby at_70) rfl rfl k) ?_
  show Goes _ _ _ _ _ _ _ (T9.setTop (mkF m 72 #[.val (.long q0), .second, .val (.long q1), .second, .val (.long q2), .second, .val (.int p3), .val (.int p4), .val (.int y2), .val (.int y4), .val (.ref b5), .val (.int (y2 + (y4 / (64 : Int32)))), .val (.long y12), .second] [(.ref b5)]))
  obtain ⟨cl13, Ar13, q13, ll13, ff13, oo13⟩ := id G9_0
  have hz13 : cl13.slots.size.toInt32 = (3 : Int32) := by rw [lenb q13]; rfl
  refine Goes.step (fun t k => X9.arraylength hx (by rw [e9]; exact Ar13.1) (State.isArrayOf_alike hZ.alike Ar13.2.1) (g := (mkF m 72 #[.val (.long q0), .second, .val (.long q1), .second, .val (.long q2), .second, .val (.int p3), .val (.int p4), .val (.int y2), .val (.int y4), .val (.ref b5), .val (.int (y2 + (y4 / (64 : Int32)))), .val (.long y12), .second] [(.ref b5)])) rfl rfl (hb hby at_72) t k) ?_
  show Goes _ _ _ _ _ _ _ (T9.setTop (mkF m 73 #[.val (.long q0), .second, .val (.long q1), .second, .val (.long q2), .second, .val (.int p3), .val (.int p4), .val (.int y2), .val (.int y4), .val (.ref b5), .val (.int (y2 + (y4 / (64 : Int32)))), .val (.long y12), .second] [(.int cl13.slots.size.toInt32)]))
  rw [hz13]
  show Goes _ _ _ _ _ _ _ (T9.setTop (mkF m 73 #[.val (.long q0), .second, .val (.long q1), .second, .val (.long q2), .second, .val (.int p3), .val (.int p4), .val (.int y2), .val (.int y4), .val (.ref b5), .val (.int (y2 + (y4 / (64 : Int32)))), .val (.long y12), .second] [(.int (3 : Int32))]))
  refine Goes.step (fun t k => XS.iconst X9.here hx rfl (hb hby at_73) k) ?_
  show Goes _ _ _ _ _ _ _ (T9.setTop (mkF m 74 #[.val (.long q0), .second, .val (.long q1), .second, .val (.long q2), .second, .val (.int p3), .val (.int p4), .val (.int y2), .val (.int y4), .val (.ref b5), .val (.int (y2 + (y4 / (64 : Int32)))), .val (.long y12), .second] [(.int (3 : Int32)), (.int (3 : Int32))]))
  refine Goes.step (fun t k => XS.icmpNo X9.here hx rfl (hb hby at_74) rfl (teq (by decide)).2 k) ?_
  show Goes _ _ _ _ _ _ _ (T9.setTop (mkF m 77 #[.val (.long q0), .second, .val (.long q1), .second, .val (.long q2), .second, .val (.int p3), .val (.int p4), .val (.int y2), .val (.int y4), .val (.ref b5), .val (.int (y2 + (y4 / (64 : Int32)))), .val (.long y12), .second] []))
  refine Goes.step (fun t k => XS.aload X9.here hx rfl (hb hby at_77) rfl rfl k) ?_
  show Goes _ _ _ _ _ _ _ (T9.setTop (mkF m 79 #[.val (.long q0), .second, .val (.long q1), .second, .val (.long q2), .second, .val (.int p3), .val (.int p4), .val (.int y2), .val (.int y4), .val (.ref b5), .val (.int (y2 + (y4 / (64 : Int32)))), .val (.long y12), .second] [(.ref b5)]))
  refine Goes.step (fun t k => XS.iconst X9.here hx rfl (hb hby at_79) k) ?_
  show Goes _ _ _ _ _ _ _ (T9.setTop (mkF m 80 #[.val (.long q0), .second, .val (.long q1), .second, .val (.long q2), .second, .val (.int p3), .val (.int p4), .val (.int y2), .val (.int y4), .val (.ref b5), .val (.int (y2 + (y4 / (64 : Int32)))), .val (.long y12), .second] [(.int (0 : Int32)), (.ref b5)]))
  obtain ⟨cl15, Ar15, q15, ll15, ff15, oo15⟩ := id G9_0
  have hn15 : ¬ (0 : Int32) < 0 := by decide
  have hv15 : ([(.long (if (y2 + ((y4.toUInt32 >>> ((6 : Int32) &&& 31).toUInt32).toInt32)) = 0 then q0 ||| ((1 : Int64) <<< (y4 &&& 0x3f).toInt64) else q0)), (.long (if (y2 + ((y4.toUInt32 >>> ((6 : Int32) &&& 31).toUInt32).toInt32)) = 1 then q1 ||| ((1 : Int64) <<< (y4 &&& 0x3f).toInt64) else q1)), (.long (if (y2 + ((y4.toUInt32 >>> ((6 : Int32) &&& 31).toUInt32).toInt32)) = 2 then q2 ||| ((1 : Int64) <<< (y4 &&& 0x3f).toInt64) else q2))] : List Value)[((0 : Int32)).toNatClampNeg]? = some (.long (if (y2 + ((y4.toUInt32 >>> ((6 : Int32) &&& 31).toUInt32).toInt32)) = 0 then q0 ||| ((1 : Int64) <<< (y4 &&& 0x3f).toInt64) else q0)) := by rfl
  refine Goes.step (fun t k => X9.laload hx (j := (0 : Int32)) (v := (.long (if (y2 + ((y4.toUInt32 >>> ((6 : Int32) &&& 31).toUInt32).toInt32)) = 0 then q0 ||| ((1 : Int64) <<< (y4 &&& 0x3f).toInt64) else q0))) (by rw [e9]; exact Ar15.1) (State.isArrayOf_alike hZ.alike Ar15.2.1) Ar15.2.2 (inb q15 hn15 (ltb hv15)) (getb q15 hv15) (g := (mkF m 80 #[.val (.long q0), .second, .val (.long q1), .second, .val (.long q2), .second, .val (.int p3), .val (.int p4), .val (.int y2), .val (.int y4), .val (.ref b5), .val (.int (y2 + (y4 / (64 : Int32)))), .val (.long y12), .second] [(.int (0 : Int32)), (.ref b5)])) rfl rfl (hb hby at_80) t k) ?_
  show Goes _ _ _ _ _ _ _ (T9.setTop (mkF m 81 #[.val (.long q0), .second, .val (.long q1), .second, .val (.long q2), .second, .val (.int p3), .val (.int p4), .val (.int y2), .val (.int y4), .val (.ref b5), .val (.int (y2 + (y4 / (64 : Int32)))), .val (.long y12), .second] [(.long (if (y2 + ((y4.toUInt32 >>> ((6 : Int32) &&& 31).toUInt32).toInt32)) = 0 then q0 ||| ((1 : Int64) <<< (y4 &&& 0x3f).toInt64) else q0))]))
  refine Goes.step (fun t k => XS.iconst X9.here hx rfl (hb hby at_81) k) ?_
  show Goes _ _ _ _ _ _ _ (T9.setTop (mkF m 82 #[.val (.long q0), .second, .val (.long q1), .second, .val (.long q2), .second, .val (.int p3), .val (.int p4), .val (.int y2), .val (.int y4), .val (.ref b5), .val (.int (y2 + (y4 / (64 : Int32)))), .val (.long y12), .second] [(.int (0 : Int32)), (.long (if (y2 + ((y4.toUInt32 >>> ((6 : Int32) &&& 31).toUInt32).toInt32)) = 0 then q0 ||| ((1 : Int64) <<< (y4 &&& 0x3f).toInt64) else q0))]))
  refine Goes.step (fun t k => XS.iload X9.here hx rfl (hb hby at_82) rfl k) ?_
  show Goes _ _ _ _ _ _ _ (T9.setTop (mkF m 84 #[.val (.long q0), .second, .val (.long q1), .second, .val (.long q2), .second, .val (.int p3), .val (.int p4), .val (.int y2), .val (.int y4), .val (.ref b5), .val (.int (y2 + (y4 / (64 : Int32)))), .val (.long y12), .second] [(.int (y2 + (y4 / (64 : Int32)))), (.int (0 : Int32)), (.long (if (y2 + ((y4.toUInt32 >>> ((6 : Int32) &&& 31).toUInt32).toInt32)) = 0 then q0 ||| ((1 : Int64) <<< (y4 &&& 0x3f).toInt64) else q0))]))
  refine Goes.step (fun t k => XS.lload X9.here hx rfl (hb hby at_84) rfl k) ?_
  show Goes _ _ _ _ _ _ _ (T9.setTop (mkF m 86 #[.val (.long q0), .second, .val (.long q1), .second, .val (.long q2), .second, .val (.int p3), .val (.int p4), .val (.int y2), .val (.int y4), .val (.ref b5), .val (.int (y2 + (y4 / (64 : Int32)))), .val (.long y12), .second] [(.long y12), (.int (y2 + (y4 / (64 : Int32)))), (.int (0 : Int32)), (.long (if (y2 + ((y4.toUInt32 >>> ((6 : Int32) &&& 31).toUInt32).toInt32)) = 0 then q0 ||| ((1 : Int64) <<< (y4 &&& 0x3f).toInt64) else q0))]))
  refine Goes.step (fun t k => XS.lloadN X9.here hx rfl (hb hby at_86) rfl k) ?_
  show Goes _ _ _ _ _ _ _ (T9.setTop (mkF m 87 #[.val (.long q0), .second, .val (.long q1), .second, .val (.long q2), .second, .val (.int p3), .val (.int p4), .val (.int y2), .val (.int y4), .val (.ref b5), .val (.int (y2 + (y4 / (64 : Int32)))), .val (.long y12), .second] [(.long q0), (.long y12), (.int (y2 + (y4 / (64 : Int32)))), (.int (0 : Int32)), (.long (if (y2 + ((y4.toUInt32 >>> ((6 : Int32) &&& 31).toUInt32).toInt32)) = 0 then q0 ||| ((1 : Int64) <<< (y4 &&& 0x3f).toInt64) else q0))]))
  obtain ⟨_, _, ⟨T16, L16, k16, n16⟩, -, X16, ⟨Lc16, hQ16, l16, y16, z16⟩, st16⟩ := Jvm.LawKit.callS X9 hx (y := (⟨"com/example/twag/twag/population/TransferGraphsAddPinLaw", "expected", "(IIJJ)J"⟩ : MethodName)) hown (mvT hZ (hw _ (List.mem_of_getElem? (i := 6) rfl))) (mvT hZ (hw _ (List.mem_of_getElem? (i := 7) rfl))) (mvT hZ (hw _ (List.mem_of_getElem? (i := 8) rfl))) (mvT hZ (hw _ (List.mem_of_getElem? (i := 9) rfl))) (by decide) (backOf (W := 2) (rm2 l Z tA hw [] (0 : Int32) (y2 + (y4 / (64 : Int32))) y12 q0 h9) hZ (hw _ (List.mem_of_getElem? (i := 9) rfl)) (hw _ (List.mem_of_getElem? (i := 8) rfl)) (by decide) (by decide)) (g := (mkF m 87 #[.val (.long q0), .second, .val (.long q1), .second, .val (.long q2), .second, .val (.int p3), .val (.int p4), .val (.int y2), .val (.int y4), .val (.ref b5), .val (.int (y2 + (y4 / (64 : Int32)))), .val (.long y12), .second] [(.long q0), (.long y12), (.int (y2 + (y4 / (64 : Int32)))), (.int (0 : Int32)), (.long (if (y2 + ((y4.toUInt32 >>> ((6 : Int32) &&& 31).toUInt32).toInt32)) = 0 then q0 ||| ((1 : Int64) <<< (y4 &&& 0x3f).toInt64) else q0))])) rfl (by rw [hml]; rfl) (argsL := [(.int (0 : Int32)), (.int (y2 + (y4 / (64 : Int32)))), (.long y12), (.long q0)]) (rest := [(.long (if (y2 + ((y4.toUInt32 >>> ((6 : Int32) &&& 31).toUInt32).toInt32)) = 0 then q0 ||| ((1 : Int64) <<< (y4 &&& 0x3f).toInt64) else q0))]) (lenOf own_pd1 rfl) rfl (by show 2 * 0 + _ ≤ _; exact Nat.le_of_eq rfl) (hb hby at_87) (fun _ _ => ⟨rfl, e9, (by decide : 1 + 0 ≤ _), (by decide : 3 + 0 ≤ _)⟩)
  dsimp only [Pt.U, Pt.locs, Pt.cells, Pt.slots] at X16 l16 y16 z16 st16 hQ16
  subst l16 y16 z16
  obtain ⟨rfl, rfl, e16⟩ := hQ16
  try rw [List.append_nil] at X16
  change Stand _ _ _ _ _ _ _ _ _ _ _ _ 1 3 at X16
  refine Goes.step (fun t k => st16 t k) ?_
  show Goes _ _ _ _ _ _ _ (T16.setTop (mkF m 90 #[.val (.long q0), .second, .val (.long q1), .second, .val (.long q2), .second, .val (.int p3), .val (.int p4), .val (.int y2), .val (.int y4), .val (.ref b5), .val (.int (y2 + (y4 / (64 : Int32)))), .val (.long y12), .second] [(.long (f2 (0 : Int32) (y2 + (y4 / (64 : Int32))) y12 q0)), (.long (if (y2 + ((y4.toUInt32 >>> ((6 : Int32) &&& 31).toUInt32).toInt32)) = 0 then q0 ||| ((1 : Int64) <<< (y4 &&& 0x3f).toInt64) else q0))]))
  generalize hy17 : (f2 (0 : Int32) (y2 + (y4 / (64 : Int32))) y12 q0) = y17
  refine Goes.step (fun t k => XS.lcmp X16.here hx rfl (hb hby at_90) rfl k) ?_
  show Goes _ _ _ _ _ _ _ (T16.setTop (mkF m 91 #[.val (.long q0), .second, .val (.long q1), .second, .val (.long q2), .second, .val (.int p3), .val (.int p4), .val (.int y2), .val (.int y4), .val (.ref b5), .val (.int (y2 + (y4 / (64 : Int32)))), .val (.long y12), .second] [(.int (lcmpW (if (y2 + ((y4.toUInt32 >>> ((6 : Int32) &&& 31).toUInt32).toInt32)) = 0 then q0 ||| ((1 : Int64) <<< (y4 &&& 0x3f).toInt64) else q0) y17))]))
  suffices k27 : ∀ (T27 : State) (L27 : List Loc) (x27_0 : Int32), Stand p l e room_1 s m #[(.long q0), (.long q1), (.long q2), (.int p3), (.int p4)] below meth c T27 L27 1 3 → T27.heap = h9 → Fr n0 L27 → x27_0 = (if (if (y2 + ((y4.toUInt32 >>> ((6 : Int32) &&& 31).toUInt32).toInt32)) = 0 then q0 ||| ((1 : Int64) <<< (y4 &&& 0x3f).toInt64) else q0) = y17 then (if (if (y2 + ((y4.toUInt32 >>> ((6 : Int32) &&& 31).toUInt32).toInt32)) = 1 then q1 ||| ((1 : Int64) <<< (y4 &&& 0x3f).toInt64) else q1) = (f2 (1 : Int32) (y2 + (y4 / (64 : Int32))) y12 q1) then (if (if (y2 + ((y4.toUInt32 >>> ((6 : Int32) &&& 31).toUInt32).toInt32)) = 2 then q2 ||| ((1 : Int64) <<< (y4 &&& 0x3f).toInt64) else q2) = (f2 (2 : Int32) (y2 + (y4 / (64 : Int32))) y12 q2) then (1 : Int32) else (0 : Int32)) else (0 : Int32)) else (0 : Int32)) → Goes p e below s (Q0 Z q0 q1 q2 p3 p4 h0 n0) kC0 kS0 (T27.setTop (mkF m 134 #[.val (.long q0), .second, .val (.long q1), .second, .val (.long q2), .second, .val (.int p3), .val (.int p4), .val (.int y2), .val (.int y4), .val (.ref b5), .val (.int (y2 + (y4 / (64 : Int32)))), .val (.long y12), .second] [(.int x27_0)])) by
    by_cases hc91_18 : (if (y2 + ((y4.toUInt32 >>> ((6 : Int32) &&& 31).toUInt32).toInt32)) = 0 then q0 ||| ((1 : Int64) <<< (y4 &&& 0x3f).toInt64) else q0) = y17
    · refine Goes.step (fun t k => XS.ifNo X16.here hx rfl (hb hby at_91) rfl ((if0 _ _).trans (teq ((lw_eq _ _).mpr hc91_18)).2) k) ?_
      show Goes _ _ _ _ _ _ _ (T16.setTop (mkF m 94 #[.val (.long q0), .second, .val (.long q1), .second, .val (.long q2), .second, .val (.int p3), .val (.int p4), .val (.int y2), .val (.int y4), .val (.ref b5), .val (.int (y2 + (y4 / (64 : Int32)))), .val (.long y12), .second] []))
      refine Goes.step (fun t k => XS.aload X16.here hx rfl (hb hby at_94) rfl rfl k) ?_
      show Goes _ _ _ _ _ _ _ (T16.setTop (mkF m 96 #[.val (.long q0), .second, .val (.long q1), .second, .val (.long q2), .second, .val (.int p3), .val (.int p4), .val (.int y2), .val (.int y4), .val (.ref b5), .val (.int (y2 + (y4 / (64 : Int32)))), .val (.long y12), .second] [(.ref b5)]))
      refine Goes.step (fun t k => XS.iconst X16.here hx rfl (hb hby at_96) k) ?_
      show Goes _ _ _ _ _ _ _ (T16.setTop (mkF m 97 #[.val (.long q0), .second, .val (.long q1), .second, .val (.long q2), .second, .val (.int p3), .val (.int p4), .val (.int y2), .val (.int y4), .val (.ref b5), .val (.int (y2 + (y4 / (64 : Int32)))), .val (.long y12), .second] [(.int (1 : Int32)), (.ref b5)]))
      obtain ⟨cl19, Ar19, q19, ll19, ff19, oo19⟩ := id G9_0
      have hn19 : ¬ (1 : Int32) < 0 := by decide
      have hv19 : ([(.long (if (y2 + ((y4.toUInt32 >>> ((6 : Int32) &&& 31).toUInt32).toInt32)) = 0 then q0 ||| ((1 : Int64) <<< (y4 &&& 0x3f).toInt64) else q0)), (.long (if (y2 + ((y4.toUInt32 >>> ((6 : Int32) &&& 31).toUInt32).toInt32)) = 1 then q1 ||| ((1 : Int64) <<< (y4 &&& 0x3f).toInt64) else q1)), (.long (if (y2 + ((y4.toUInt32 >>> ((6 : Int32) &&& 31).toUInt32).toInt32)) = 2 then q2 ||| ((1 : Int64) <<< (y4 &&& 0x3f).toInt64) else q2))] : List Value)[((1 : Int32)).toNatClampNeg]? = some (.long (if (y2 + ((y4.toUInt32 >>> ((6 : Int32) &&& 31).toUInt32).toInt32)) = 1 then q1 ||| ((1 : Int64) <<< (y4 &&& 0x3f).toInt64) else q1)) := by rfl
      refine Goes.step (fun t k => X16.laload hx (j := (1 : Int32)) (v := (.long (if (y2 + ((y4.toUInt32 >>> ((6 : Int32) &&& 31).toUInt32).toInt32)) = 1 then q1 ||| ((1 : Int64) <<< (y4 &&& 0x3f).toInt64) else q1))) (by rw [e16]; exact Ar19.1) (State.isArrayOf_alike hZ.alike Ar19.2.1) Ar19.2.2 (inb q19 hn19 (ltb hv19)) (getb q19 hv19) (g := (mkF m 97 #[.val (.long q0), .second, .val (.long q1), .second, .val (.long q2), .second, .val (.int p3), .val (.int p4), .val (.int y2), .val (.int y4), .val (.ref b5), .val (.int (y2 + (y4 / (64 : Int32)))), .val (.long y12), .second] [(.int (1 : Int32)), (.ref b5)])) rfl rfl (hb hby at_97) t k) ?_
      show Goes _ _ _ _ _ _ _ (T16.setTop (mkF m 98 #[.val (.long q0), .second, .val (.long q1), .second, .val (.long q2), .second, .val (.int p3), .val (.int p4), .val (.int y2), .val (.int y4), .val (.ref b5), .val (.int (y2 + (y4 / (64 : Int32)))), .val (.long y12), .second] [(.long (if (y2 + ((y4.toUInt32 >>> ((6 : Int32) &&& 31).toUInt32).toInt32)) = 1 then q1 ||| ((1 : Int64) <<< (y4 &&& 0x3f).toInt64) else q1))]))
      refine Goes.step (fun t k => XS.iconst X16.here hx rfl (hb hby at_98) k) ?_
      show Goes _ _ _ _ _ _ _ (T16.setTop (mkF m 99 #[.val (.long q0), .second, .val (.long q1), .second, .val (.long q2), .second, .val (.int p3), .val (.int p4), .val (.int y2), .val (.int y4), .val (.ref b5), .val (.int (y2 + (y4 / (64 : Int32)))), .val (.long y12), .second] [(.int (1 : Int32)), (.long (if (y2 + ((y4.toUInt32 >>> ((6 : Int32) &&& 31).toUInt32).toInt32)) = 1 then q1 ||| ((1 : Int64) <<< (y4 &&& 0x3f).toInt64) else q1))]))
      refine Goes.step (fun t k => XS.iload X16.here hx rfl (hb hby at_99) rfl k) ?_
      show Goes _ _ _ _ _ _ _ (T16.setTop (mkF m 101 #[.val (.long q0), .second, .val (.long q1), .second, .val (.long q2), .second, .val (.int p3), .val (.int p4), .val (.int y2), .val (.int y4), .val (.ref b5), .val (.int (y2 + (y4 / (64 : Int32)))), .val (.long y12), .second] [(.int (y2 + (y4 / (64 : Int32)))), (.int (1 : Int32)), (.long (if (y2 + ((y4.toUInt32 >>> ((6 : Int32) &&& 31).toUInt32).toInt32)) = 1 then q1 ||| ((1 : Int64) <<< (y4 &&& 0x3f).toInt64) else q1))]))
      refine Goes.step (fun t k => XS.lload X16.here hx rfl (hb hby at_101) rfl k) ?_
      show Goes _ _ _ _ _ _ _ (T16.setTop (mkF m 103 #[.val (.long q0), .second, .val (.long q1), .second, .val (.long q2), .second, .val (.int p3), .val (.int p4), .val (.int y2), .val (.int y4), .val (.ref b5), .val (.int (y2 + (y4 / (64 : Int32)))), .val (.long y12), .second] [(.long y12), (.int (y2 + (y4 / (64 : Int32)))), (.int (1 : Int32)), (.long (if (y2 + ((y4.toUInt32 >>> ((6 : Int32) &&& 31).toUInt32).toInt32)) = 1 then q1 ||| ((1 : Int64) <<< (y4 &&& 0x3f).toInt64) else q1))]))
      refine Goes.step (fun t k => XS.lloadN X16.here hx rfl (hb hby at_103) rfl k) ?_
      show Goes _ _ _ _ _ _ _ (T16.setTop (mkF m 104 #[.val (.long q0), .second, .val (.long q1), .second, .val (.long q2), .second, .val (.int p3), .val (.int p4), .val (.int y2), .val (.int y4), .val (.ref b5), .val (.int (y2 + (y4 / (64 : Int32)))), .val (.long y12), .second] [(.long q1), (.long y12), (.int (y2 + (y4 / (64 : Int32)))), (.int (1 : Int32)), (.long (if (y2 + ((y4.toUInt32 >>> ((6 : Int32) &&& 31).toUInt32).toInt32)) = 1 then q1 ||| ((1 : Int64) <<< (y4 &&& 0x3f).toInt64) else q1))]))
      obtain ⟨_, _, ⟨T20, L20, k20, n20⟩, -, X20, ⟨Lc20, hQ20, l20, y20, z20⟩, st20⟩ := Jvm.LawKit.callS X16 hx (y := (⟨"com/example/twag/twag/population/TransferGraphsAddPinLaw", "expected", "(IIJJ)J"⟩ : MethodName)) hown (mvT hZ (hw _ (List.mem_of_getElem? (i := 6) rfl))) (mvT hZ (hw _ (List.mem_of_getElem? (i := 7) rfl))) (mvT hZ (hw _ (List.mem_of_getElem? (i := 8) rfl))) (mvT hZ (hw _ (List.mem_of_getElem? (i := 9) rfl))) (by decide) (backOf (W := 2) (rm2 l Z tA hw [] (1 : Int32) (y2 + (y4 / (64 : Int32))) y12 q1 h9) hZ (hw _ (List.mem_of_getElem? (i := 9) rfl)) (hw _ (List.mem_of_getElem? (i := 8) rfl)) (by decide) (by decide)) (g := (mkF m 104 #[.val (.long q0), .second, .val (.long q1), .second, .val (.long q2), .second, .val (.int p3), .val (.int p4), .val (.int y2), .val (.int y4), .val (.ref b5), .val (.int (y2 + (y4 / (64 : Int32)))), .val (.long y12), .second] [(.long q1), (.long y12), (.int (y2 + (y4 / (64 : Int32)))), (.int (1 : Int32)), (.long (if (y2 + ((y4.toUInt32 >>> ((6 : Int32) &&& 31).toUInt32).toInt32)) = 1 then q1 ||| ((1 : Int64) <<< (y4 &&& 0x3f).toInt64) else q1))])) rfl (by rw [hml]; rfl) (argsL := [(.int (1 : Int32)), (.int (y2 + (y4 / (64 : Int32)))), (.long y12), (.long q1)]) (rest := [(.long (if (y2 + ((y4.toUInt32 >>> ((6 : Int32) &&& 31).toUInt32).toInt32)) = 1 then q1 ||| ((1 : Int64) <<< (y4 &&& 0x3f).toInt64) else q1))]) (lenOf own_pd1 rfl) rfl (by show 2 * 0 + _ ≤ _; exact Nat.le_of_eq rfl) (hb hby at_104) (fun _ _ => ⟨rfl, e16, (by decide : 1 + 0 ≤ _), (by decide : 3 + 0 ≤ _)⟩)
      dsimp only [Pt.U, Pt.locs, Pt.cells, Pt.slots] at X20 l20 y20 z20 st20 hQ20
      subst l20 y20 z20
      obtain ⟨rfl, rfl, e20⟩ := hQ20
      try rw [List.append_nil] at X20
      change Stand _ _ _ _ _ _ _ _ _ _ _ _ 1 3 at X20
      refine Goes.step (fun t k => st20 t k) ?_
      show Goes _ _ _ _ _ _ _ (T20.setTop (mkF m 107 #[.val (.long q0), .second, .val (.long q1), .second, .val (.long q2), .second, .val (.int p3), .val (.int p4), .val (.int y2), .val (.int y4), .val (.ref b5), .val (.int (y2 + (y4 / (64 : Int32)))), .val (.long y12), .second] [(.long (f2 (1 : Int32) (y2 + (y4 / (64 : Int32))) y12 q1)), (.long (if (y2 + ((y4.toUInt32 >>> ((6 : Int32) &&& 31).toUInt32).toInt32)) = 1 then q1 ||| ((1 : Int64) <<< (y4 &&& 0x3f).toInt64) else q1))]))
      generalize hy21 : (f2 (1 : Int32) (y2 + (y4 / (64 : Int32))) y12 q1) = y21
      refine Goes.step (fun t k => XS.lcmp X20.here hx rfl (hb hby at_107) rfl k) ?_
      show Goes _ _ _ _ _ _ _ (T20.setTop (mkF m 108 #[.val (.long q0), .second, .val (.long q1), .second, .val (.long q2), .second, .val (.int p3), .val (.int p4), .val (.int y2), .val (.int y4), .val (.ref b5), .val (.int (y2 + (y4 / (64 : Int32)))), .val (.long y12), .second] [(.int (lcmpW (if (y2 + ((y4.toUInt32 >>> ((6 : Int32) &&& 31).toUInt32).toInt32)) = 1 then q1 ||| ((1 : Int64) <<< (y4 &&& 0x3f).toInt64) else q1) y21))]))
      by_cases hc108_22 : (if (y2 + ((y4.toUInt32 >>> ((6 : Int32) &&& 31).toUInt32).toInt32)) = 1 then q1 ||| ((1 : Int64) <<< (y4 &&& 0x3f).toInt64) else q1) = y21
      · refine Goes.step (fun t k => XS.ifNo X20.here hx rfl (hb hby at_108) rfl ((if0 _ _).trans (teq ((lw_eq _ _).mpr hc108_22)).2) k) ?_
        show Goes _ _ _ _ _ _ _ (T20.setTop (mkF m 111 #[.val (.long q0), .second, .val (.long q1), .second, .val (.long q2), .second, .val (.int p3), .val (.int p4), .val (.int y2), .val (.int y4), .val (.ref b5), .val (.int (y2 + (y4 / (64 : Int32)))), .val (.long y12), .second] []))
        refine Goes.step (fun t k => XS.aload X20.here hx rfl (hb hby at_111) rfl rfl k) ?_
        show Goes _ _ _ _ _ _ _ (T20.setTop (mkF m 113 #[.val (.long q0), .second, .val (.long q1), .second, .val (.long q2), .second, .val (.int p3), .val (.int p4), .val (.int y2), .val (.int y4), .val (.ref b5), .val (.int (y2 + (y4 / (64 : Int32)))), .val (.long y12), .second] [(.ref b5)]))
        refine Goes.step (fun t k => XS.iconst X20.here hx rfl (hb hby at_113) k) ?_
        show Goes _ _ _ _ _ _ _ (T20.setTop (mkF m 114 #[.val (.long q0), .second, .val (.long q1), .second, .val (.long q2), .second, .val (.int p3), .val (.int p4), .val (.int y2), .val (.int y4), .val (.ref b5), .val (.int (y2 + (y4 / (64 : Int32)))), .val (.long y12), .second] [(.int (2 : Int32)), (.ref b5)]))
        obtain ⟨cl23, Ar23, q23, ll23, ff23, oo23⟩ := id G9_0
        have hn23 : ¬ (2 : Int32) < 0 := by decide
        have hv23 : ([(.long (if (y2 + ((y4.toUInt32 >>> ((6 : Int32) &&& 31).toUInt32).toInt32)) = 0 then q0 ||| ((1 : Int64) <<< (y4 &&& 0x3f).toInt64) else q0)), (.long (if (y2 + ((y4.toUInt32 >>> ((6 : Int32) &&& 31).toUInt32).toInt32)) = 1 then q1 ||| ((1 : Int64) <<< (y4 &&& 0x3f).toInt64) else q1)), (.long (if (y2 + ((y4.toUInt32 >>> ((6 : Int32) &&& 31).toUInt32).toInt32)) = 2 then q2 ||| ((1 : Int64) <<< (y4 &&& 0x3f).toInt64) else q2))] : List Value)[((2 : Int32)).toNatClampNeg]? = some (.long (if (y2 + ((y4.toUInt32 >>> ((6 : Int32) &&& 31).toUInt32).toInt32)) = 2 then q2 ||| ((1 : Int64) <<< (y4 &&& 0x3f).toInt64) else q2)) := by rfl
        refine Goes.step (fun t k => X20.laload hx (j := (2 : Int32)) (v := (.long (if (y2 + ((y4.toUInt32 >>> ((6 : Int32) &&& 31).toUInt32).toInt32)) = 2 then q2 ||| ((1 : Int64) <<< (y4 &&& 0x3f).toInt64) else q2))) (by rw [e20]; exact Ar23.1) (State.isArrayOf_alike hZ.alike Ar23.2.1) Ar23.2.2 (inb q23 hn23 (ltb hv23)) (getb q23 hv23) (g := (mkF m 114 #[.val (.long q0), .second, .val (.long q1), .second, .val (.long q2), .second, .val (.int p3), .val (.int p4), .val (.int y2), .val (.int y4), .val (.ref b5), .val (.int (y2 + (y4 / (64 : Int32)))), .val (.long y12), .second] [(.int (2 : Int32)), (.ref b5)])) rfl rfl (hb hby at_114) t k) ?_
        show Goes _ _ _ _ _ _ _ (T20.setTop (mkF m 115 #[.val (.long q0), .second, .val (.long q1), .second, .val (.long q2), .second, .val (.int p3), .val (.int p4), .val (.int y2), .val (.int y4), .val (.ref b5), .val (.int (y2 + (y4 / (64 : Int32)))), .val (.long y12), .second] [(.long (if (y2 + ((y4.toUInt32 >>> ((6 : Int32) &&& 31).toUInt32).toInt32)) = 2 then q2 ||| ((1 : Int64) <<< (y4 &&& 0x3f).toInt64) else q2))]))
        refine Goes.step (fun t k => XS.iconst X20.here hx rfl (hb hby at_115) k) ?_
        show Goes _ _ _ _ _ _ _ (T20.setTop (mkF m 116 #[.val (.long q0), .second, .val (.long q1), .second, .val (.long q2), .second, .val (.int p3), .val (.int p4), .val (.int y2), .val (.int y4), .val (.ref b5), .val (.int (y2 + (y4 / (64 : Int32)))), .val (.long y12), .second] [(.int (2 : Int32)), (.long (if (y2 + ((y4.toUInt32 >>> ((6 : Int32) &&& 31).toUInt32).toInt32)) = 2 then q2 ||| ((1 : Int64) <<< (y4 &&& 0x3f).toInt64) else q2))]))
        refine Goes.step (fun t k => XS.iload X20.here hx rfl (hb hby at_116) rfl k) ?_
        show Goes _ _ _ _ _ _ _ (T20.setTop (mkF m 118 #[.val (.long q0), .second, .val (.long q1), .second, .val (.long q2), .second, .val (.int p3), .val (.int p4), .val (.int y2), .val (.int y4), .val (.ref b5), .val (.int (y2 + (y4 / (64 : Int32)))), .val (.long y12), .second] [(.int (y2 + (y4 / (64 : Int32)))), (.int (2 : Int32)), (.long (if (y2 + ((y4.toUInt32 >>> ((6 : Int32) &&& 31).toUInt32).toInt32)) = 2 then q2 ||| ((1 : Int64) <<< (y4 &&& 0x3f).toInt64) else q2))]))
        refine Goes.step (fun t k => XS.lload X20.here hx rfl (hb hby at_118) rfl k) ?_
        show Goes _ _ _ _ _ _ _ (T20.setTop (mkF m 120 #[.val (.long q0), .second, .val (.long q1), .second, .val (.long q2), .second, .val (.int p3), .val (.int p4), .val (.int y2), .val (.int y4), .val (.ref b5), .val (.int (y2 + (y4 / (64 : Int32)))), .val (.long y12), .second] [(.long y12), (.int (y2 + (y4 / (64 : Int32)))), (.int (2 : Int32)), (.long (if (y2 + ((y4.toUInt32 >>> ((6 : Int32) &&& 31).toUInt32).toInt32)) = 2 then q2 ||| ((1 : Int64) <<< (y4 &&& 0x3f).toInt64) else q2))]))
        refine Goes.step (fun t k => XS.lload X20.here hx rfl (hb hby at_120) rfl k) ?_
        show Goes _ _ _ _ _ _ _ (T20.setTop (mkF m 122 #[.val (.long q0), .second, .val (.long q1), .second, .val (.long q2), .second, .val (.int p3), .val (.int p4), .val (.int y2), .val (.int y4), .val (.ref b5), .val (.int (y2 + (y4 / (64 : Int32)))), .val (.long y12), .second] [(.long q2), (.long y12), (.int (y2 + (y4 / (64 : Int32)))), (.int (2 : Int32)), (.long (if (y2 + ((y4.toUInt32 >>> ((6 : Int32) &&& 31).toUInt32).toInt32)) = 2 then q2 ||| ((1 : Int64) <<< (y4 &&& 0x3f).toInt64) else q2))]))
        obtain ⟨_, _, ⟨T24, L24, k24, n24⟩, -, X24, ⟨Lc24, hQ24, l24, y24, z24⟩, st24⟩ := Jvm.LawKit.callS X20 hx (y := (⟨"com/example/twag/twag/population/TransferGraphsAddPinLaw", "expected", "(IIJJ)J"⟩ : MethodName)) hown (mvT hZ (hw _ (List.mem_of_getElem? (i := 6) rfl))) (mvT hZ (hw _ (List.mem_of_getElem? (i := 7) rfl))) (mvT hZ (hw _ (List.mem_of_getElem? (i := 8) rfl))) (mvT hZ (hw _ (List.mem_of_getElem? (i := 9) rfl))) (by decide) (backOf (W := 2) (rm2 l Z tA hw [] (2 : Int32) (y2 + (y4 / (64 : Int32))) y12 q2 h9) hZ (hw _ (List.mem_of_getElem? (i := 9) rfl)) (hw _ (List.mem_of_getElem? (i := 8) rfl)) (by decide) (by decide)) (g := (mkF m 122 #[.val (.long q0), .second, .val (.long q1), .second, .val (.long q2), .second, .val (.int p3), .val (.int p4), .val (.int y2), .val (.int y4), .val (.ref b5), .val (.int (y2 + (y4 / (64 : Int32)))), .val (.long y12), .second] [(.long q2), (.long y12), (.int (y2 + (y4 / (64 : Int32)))), (.int (2 : Int32)), (.long (if (y2 + ((y4.toUInt32 >>> ((6 : Int32) &&& 31).toUInt32).toInt32)) = 2 then q2 ||| ((1 : Int64) <<< (y4 &&& 0x3f).toInt64) else q2))])) rfl (by rw [hml]; rfl) (argsL := [(.int (2 : Int32)), (.int (y2 + (y4 / (64 : Int32)))), (.long y12), (.long q2)]) (rest := [(.long (if (y2 + ((y4.toUInt32 >>> ((6 : Int32) &&& 31).toUInt32).toInt32)) = 2 then q2 ||| ((1 : Int64) <<< (y4 &&& 0x3f).toInt64) else q2))]) (lenOf own_pd1 rfl) rfl (by show 2 * 0 + _ ≤ _; exact Nat.le_of_eq rfl) (hb hby at_122) (fun _ _ => ⟨rfl, e20, (by decide : 1 + 0 ≤ _), (by decide : 3 + 0 ≤ _)⟩)
        dsimp only [Pt.U, Pt.locs, Pt.cells, Pt.slots] at X24 l24 y24 z24 st24 hQ24
        subst l24 y24 z24
        obtain ⟨rfl, rfl, e24⟩ := hQ24
        try rw [List.append_nil] at X24
        change Stand _ _ _ _ _ _ _ _ _ _ _ _ 1 3 at X24
        refine Goes.step (fun t k => st24 t k) ?_
        show Goes _ _ _ _ _ _ _ (T24.setTop (mkF m 125 #[.val (.long q0), .second, .val (.long q1), .second, .val (.long q2), .second, .val (.int p3), .val (.int p4), .val (.int y2), .val (.int y4), .val (.ref b5), .val (.int (y2 + (y4 / (64 : Int32)))), .val (.long y12), .second] [(.long (f2 (2 : Int32) (y2 + (y4 / (64 : Int32))) y12 q2)), (.long (if (y2 + ((y4.toUInt32 >>> ((6 : Int32) &&& 31).toUInt32).toInt32)) = 2 then q2 ||| ((1 : Int64) <<< (y4 &&& 0x3f).toInt64) else q2))]))
        generalize hy25 : (f2 (2 : Int32) (y2 + (y4 / (64 : Int32))) y12 q2) = y25
        refine Goes.step (fun t k => XS.lcmp X24.here hx rfl (hb hby at_125) rfl k) ?_
        show Goes _ _ _ _ _ _ _ (T24.setTop (mkF m 126 #[.val (.long q0), .second, .val (.long q1), .second, .val (.long q2), .second, .val (.int p3), .val (.int p4), .val (.int y2), .val (.int y4), .val (.ref b5), .val (.int (y2 + (y4 / (64 : Int32)))), .val (.long y12), .second] [(.int (lcmpW (if (y2 + ((y4.toUInt32 >>> ((6 : Int32) &&& 31).toUInt32).toInt32)) = 2 then q2 ||| ((1 : Int64) <<< (y4 &&& 0x3f).toInt64) else q2) y25))]))
        by_cases hc126_26 : (if (y2 + ((y4.toUInt32 >>> ((6 : Int32) &&& 31).toUInt32).toInt32)) = 2 then q2 ||| ((1 : Int64) <<< (y4 &&& 0x3f).toInt64) else q2) = y25
        · refine Goes.step (fun t k => XS.ifNo X24.here hx rfl (hb hby at_126) rfl ((if0 _ _).trans (teq ((lw_eq _ _).mpr hc126_26)).2) k) ?_
          show Goes _ _ _ _ _ _ _ (T24.setTop (mkF m 129 #[.val (.long q0), .second, .val (.long q1), .second, .val (.long q2), .second, .val (.int p3), .val (.int p4), .val (.int y2), .val (.int y4), .val (.ref b5), .val (.int (y2 + (y4 / (64 : Int32)))), .val (.long y12), .second] []))
          refine Goes.step (fun t k => XS.iconst X24.here hx rfl (hb hby at_129) k) ?_
          show Goes _ _ _ _ _ _ _ (T24.setTop (mkF m 130 #[.val (.long q0), .second, .val (.long q1), .second, .val (.long q2), .second, .val (.int p3), .val (.int p4), .val (.int y2), .val (.int y4), .val (.ref b5), .val (.int (y2 + (y4 / (64 : Int32)))), .val (.long y12), .second] [(.int (1 : Int32))]))
          refine Goes.step (fun t k => XS.goto X24.here hx rfl (pc0 := 130) (pc' := 134) rfl (hb hby at_130) (by decide) (by decide) k) ?_
          show Goes _ _ _ _ _ _ _ (T24.setTop (mkF m 134 #[.val (.long q0), .second, .val (.long q1), .second, .val (.long q2), .second, .val (.int p3), .val (.int p4), .val (.int y2), .val (.int y4), .val (.ref b5), .val (.int (y2 + (y4 / (64 : Int32)))), .val (.long y12), .second] [(.int (1 : Int32))]))
          subst hy25
          subst hy21
          exact k27 _ _ _ X24 e24 N9 ((if_pos hc91_18).trans ((if_pos hc108_22).trans (if_pos hc126_26))).symm
        · refine Goes.step (fun t k => XS.ifYes X24.here hx rfl (pc0 := 126) (pc' := 133) rfl (hb hby at_126) rfl ((if0 _ _).trans (feq (fun q => hc126_26 ((lw_eq _ _).mp q))).2) (by decide) (by decide) k) ?_
          show Goes _ _ _ _ _ _ _ (T24.setTop (mkF m 133 #[.val (.long q0), .second, .val (.long q1), .second, .val (.long q2), .second, .val (.int p3), .val (.int p4), .val (.int y2), .val (.int y4), .val (.ref b5), .val (.int (y2 + (y4 / (64 : Int32)))), .val (.long y12), .second] []))
          refine Goes.step (fun t k => XS.iconst X24.here hx rfl (hb hby at_133) k) ?_
          show Goes _ _ _ _ _ _ _ (T24.setTop (mkF m 134 #[.val (.long q0), .second, .val (.long q1), .second, .val (.long q2), .second, .val (.int p3), .val (.int p4), .val (.int y2), .val (.int y4), .val (.ref b5), .val (.int (y2 + (y4 / (64 : Int32)))), .val (.long y12), .second] [(.int (0 : Int32))]))
          subst hy25
          subst hy21
          exact k27 _ _ _ X24 e24 N9 ((if_pos hc91_18).trans ((if_pos hc108_22).trans (if_neg hc126_26))).symm
      · refine Goes.step (fun t k => XS.ifYes X20.here hx rfl (pc0 := 108) (pc' := 133) rfl (hb hby at_108) rfl ((if0 _ _).trans (feq (fun q => hc108_22 ((lw_eq _ _).mp q))).2) (by decide) (by decide) k) ?_
        show Goes _ _ _ _ _ _ _ (T20.setTop (mkF m 133 #[.val (.long q0), .second, .val (.long q1), .second, .val (.long q2), .second, .val (.int p3), .val (.int p4), .val (.int y2), .val (.int y4), .val (.ref b5), .val (.int (y2 + (y4 / (64 : Int32)))), .val (.long y12), .second] []))
        refine Goes.step (fun t k => XS.iconst X20.here hx rfl (hb hby at_133) k) ?_
        show Goes _ _ _ _ _ _ _ (T20.setTop (mkF m 134 #[.val (.long q0), .second, .val (.long q1), .second, .val (.long q2), .second, .val (.int p3), .val (.int p4), .val (.int y2), .val (.int y4), .val (.ref b5), .val (.int (y2 + (y4 / (64 : Int32)))), .val (.long y12), .second] [(.int (0 : Int32))]))
        subst hy21
        exact k27 _ _ _ X20 e20 N9 ((if_pos hc91_18).trans (if_neg hc108_22)).symm
    · refine Goes.step (fun t k => XS.ifYes X16.here hx rfl (pc0 := 91) (pc' := 133) rfl (hb hby at_91) rfl ((if0 _ _).trans (feq (fun q => hc91_18 ((lw_eq _ _).mp q))).2) (by decide) (by decide) k) ?_
      show Goes _ _ _ _ _ _ _ (T16.setTop (mkF m 133 #[.val (.long q0), .second, .val (.long q1), .second, .val (.long q2), .second, .val (.int p3), .val (.int p4), .val (.int y2), .val (.int y4), .val (.ref b5), .val (.int (y2 + (y4 / (64 : Int32)))), .val (.long y12), .second] []))
      refine Goes.step (fun t k => XS.iconst X16.here hx rfl (hb hby at_133) k) ?_
      show Goes _ _ _ _ _ _ _ (T16.setTop (mkF m 134 #[.val (.long q0), .second, .val (.long q1), .second, .val (.long q2), .second, .val (.int p3), .val (.int p4), .val (.int y2), .val (.int y4), .val (.ref b5), .val (.int (y2 + (y4 / (64 : Int32)))), .val (.long y12), .second] [(.int (0 : Int32))]))
      exact k27 _ _ _ X16 e16 N9 (if_neg hc91_18).symm
  intro T27 L27 x27_0 X27 e27 N27 hx27_0
  subst hx27_0
  subst hy17
  subst hy12
  subst hy4
  subst hy2
  exact Goes.retZ X27 hx Bd.notSynchronized (r := (f0 q0 q1 q2 p3 p4)) Bd.returns (by simp) (hb hby at_134) rfl ⟨rfl, N27⟩ (by decide) (by decide)
theorem own_word (p q : Int32) : (fOff p + ((fState p q).toUInt32 >>> ((6 : Int32) &&& 31).toUInt32).toInt32) = fOff p + fState p q / 64 := by
  rw [← Int32.toInt_inj, idx_rng]
  have h1 := state_rng p q
  have h2 := off_rng p
  have h3 := (c_idiv (fState p q) 64 64 (by decide) (by decide)).1 h1.1
  have h4 := c_iadd (fOff p) (fState p q / 64)
  have h5 := rng32 (fOff p + fState p q / 64)
  rw [h3] at h4
  omega
theorem own_bit (p q : Int32) : (fState p q % 64) &&& 0x3f = fState p q &&& 0x3f := by
  have h1 := state_rng p q
  have h2 := (c_irem (fState p q) 64 64 (by decide)).1 h1.1
  have h3 := c_mask (fState p q % 64) 0x3f 6 (by decide) (by decide)
  have h4 := c_mask (fState p q) 0x3f 6 (by decide) (by decide)
  rw [← Int32.toInt_inj, h3, h4, h2]; omega
theorem own_plain (q0 q1 q2 : Int64) (p3 p4 : Int32) : f0 q0 q1 q2 p3 p4 = 1 := by
  have e1 : (((p3 &&& (2147483647 : Int32)) % (3 : Int32)) + ((((p4 &&& (2147483647 : Int32)) % (((3 : Int32) - ((p3 &&& (2147483647 : Int32)) % (3 : Int32))) * (64 : Int32))).toUInt32 >>> ((6 : Int32) &&& 31).toUInt32).toInt32)) = ((p3 &&& (2147483647 : Int32)) % (3 : Int32)) + ((p4 &&& (2147483647 : Int32)) % (((3 : Int32) - ((p3 &&& (2147483647 : Int32)) % (3 : Int32))) * (64 : Int32))) / 64 := own_word p3 p4
  have e2 : (((p4 &&& (2147483647 : Int32)) % (((3 : Int32) - ((p3 &&& (2147483647 : Int32)) % (3 : Int32))) * (64 : Int32))) % (64 : Int32)) &&& 0x3f = ((p4 &&& (2147483647 : Int32)) % (((3 : Int32) - ((p3 &&& (2147483647 : Int32)) % (3 : Int32))) * (64 : Int32))) &&& 0x3f := own_bit p3 p4
  unfold f0 f2
  rw [e1, e2]
  generalize ((p3 &&& (2147483647 : Int32)) % (3 : Int32)) + ((p4 &&& (2147483647 : Int32)) % (((3 : Int32) - ((p3 &&& (2147483647 : Int32)) % (3 : Int32))) * (64 : Int32))) / 64 = w
  generalize (1 : Int64) <<< (((p4 &&& (2147483647 : Int32)) % (((3 : Int32) - ((p3 &&& (2147483647 : Int32)) % (3 : Int32))) * (64 : Int32))) &&& 0x3f).toInt64 = b
  by_cases h0 : w = 0
  · subst h0; simp; rfl
  · by_cases h1 : w = 1
    · subst h1; simp; rfl
    · by_cases h2 : w = 2
      · subst h2; simp; rfl
      · simp only [h0, h1, h2, Ne.symm h0, Ne.symm h1, Ne.symm h2, if_true, if_false]; rfl
set_option maxRecDepth 65536 in
set_option maxHeartbeats 40000000 in
theorem comes_1 {Post : Tables → Env → Array Value → State → Outcome → State → Prop} (hpost : ∀ tb e args s v u, (limb_1_1.after args s (.returned v) u = true ∧ limb_1_2.after args s (.returned v) u = true ∧ True) → FrameEnd s (.returned v) u (Jvm.fieldLocs frame_1_writes args s ++ Jvm.arrayLocs frame_1_arrays args s ++ Jvm.staticLocs frame_1_statics s) 16 128 → Post tb e args s (.returned v) u) :
    ArmFor flags0 classFile x code maxLocals ret World_1 tables_1 room_1 Calls_1 rest_1 Pre_1 Post := by
  intro l hfl _ _ p e ha hc hk s m args below hf hA hF happ hP
  obtain ⟨hcalls, hrest, hpre⟩ := hP
  obtain ⟨-, -, -, hnamed, -, -, -, hat⟩ := (Spec.applies_iff hf).mp happ
  obtain ⟨hg, hn⟩ := and_e (Cond.before_iff.mp (show (Jvm.Cond.and given_1 narrow_1).before args s = true from hpre))
  obtain ⟨g0, gr0⟩ := and_e hg
  obtain ⟨ga0, gr1⟩ := and_e gr0
  obtain ⟨ga1, gr2⟩ := and_e gr1
  obtain ⟨ga2, gr3⟩ := and_e gr2
  obtain ⟨ga3, gr4⟩ := and_e gr3
  have ga4 := gr4
  obtain ⟨w0, w1, w2, w3, w4, rfl⟩ : ∃ w0 w1 w2 w3 w4 : Value, args = #[w0, w1, w2, w3, w4] := by
    have hs : args.size = 5 := by simpa [Cond.value, given_1] using g0
    obtain ⟨L⟩ := args
    match L, hs with
    | [w0, w1, w2, w3, w4], _ => exact ⟨w0, w1, w2, w3, w4, rfl⟩
  have hw := fun d (hd : d ∈ tables_1) => atoms_spec (ws := Jvm.Cond.code x code maxLocals ret :: tables_1) hat d (List.mem_cons_of_mem _ hd)
  have hfit : Fit s := fun {y c} hc i hi => by
    obtain ⟨ha, rfl⟩ := Array.getElem?_eq_some_iff.mp hc
    have q := List.all_eq_true.mp ((Array.all_eq_true_iff_forall_mem.mp hF) _ (Array.getElem_mem ha)) i (List.mem_range.mpr hi)
    simpa [Array.getElem?_eq_getElem hi] using q
  obtain ⟨i0, ei0⟩ := isL_v ga0
  obtain rfl : w0 = (.long i0) := Option.some.inj ei0
  obtain ⟨i1, ei1⟩ := isL_v ga1
  obtain rfl : w1 = (.long i1) := Option.some.inj ei1
  obtain ⟨i2, ei2⟩ := isL_v ga2
  obtain rfl : w2 = (.long i2) := Option.some.inj ei2
  obtain ⟨i3, ei3⟩ := is_v ga3
  obtain rfl : w3 = (.int i3) := Option.some.inj ei3
  obtain ⟨i4, ei4⟩ := is_v ga4
  obtain rfl : w4 = (.int i4) := Option.some.inj ei4
  obtain ⟨n, o, h1, h2, h3, _, L, rfl, ⟨rfl, N⟩, hq⟩ := rm0 l s _ hw tables_1 i0 i1 i2 i3 i4  s.heap s.heap.size (Nat.le_refl _)  p e ha hc hk s m _ below hf ((Spec.applies_iff_loose hf).mp happ).1 ⟨rfl, State.Warmed39.refl s, rfl⟩ trivial
  rw [own_plain i0 i1 i2 i3 i4] at *
  refine ⟨n, _, h1, h2, h3, hpost _ _ _ _ _ _ ⟨Cond.after_iff.mpr rfl, Cond.after_iff.mpr (eq_i res_at (Term.int_eval (1)) rfl), trivial⟩ ⟨hq.1, hq.2.1, (hq.2.2.sift fun y hy => Or.inr (N y hy)).mono (by decide) (by decide)⟩⟩
theorem main_1_1 : Claimed_1_1 := comes_1 fun _ _ _ _ _ _ h hF => ⟨h.1, hF⟩
theorem main_1_2 : Claimed_1_2 := comes_1 fun _ _ _ _ _ _ h hF => ⟨h.2.1, hF⟩
end Jvm.Pilot.@@N@@
namespace Jvm.Pilot.@@N@@
open Jvm Jvm.ClassFile Sem Op Lib Jvm.Free Jvm.Stand Jvm.Pilot.@@N@@.Jvm.D
/-! MADE BY PROGRAM (witnessworld.py) out of the Statement's table words and the real class files: 11 classes; the members and pool entries that the words name. The judged class is class 1, her method 1. -/
namespace start1
open Jvm.ClassFile
def u (s : String) : CpInfo := .utf8 (stringToUtf16 s)
/-- a pool by its gaps: so many unusable entries, then the entry; so many at the end -/
def gap : Nat → List CpInfo → List CpInfo
  | 0, r => r
  | n + 1, r => .unusable :: gap n r
def poolList (es : List (Nat × CpInfo)) (last : Nat) : List CpInfo := es.foldr (fun e r => gap e.1 (e.2 :: r)) (gap last [])
def pool (es : List (Nat × CpInfo)) (last : Nat) : Array CpInfo := ⟨poolList es last⟩
def fileOf (pool : Array CpInfo) (this : Nat) (attrs : Array Attribute := #[]) (ms : Array MethodInfo := #[]) (fl : Nat := 33) (sup : Nat := 0) (ifs : Array Nat := #[]) (fds : Array FieldInfo := #[]) : ClassFile where
  minorVersion := 0
  majorVersion := 65
  constantPool := pool
  accessFlags := fl
  thisClass := this
  superClass := sup
  interfaces := ifs
  fields := fds
  methods := ms
  attributes := attrs
def plain (name : String) (sup : Option ClassId) : Class where
  name := name
  kind := .ordinary
  loader := none
  accessFlags := 33
  super := sup
  interfaces := #[]
  cf := none
  fields := #[]
  methods := #[]
  instanceTypes := #[]
  staticTypes := #[]
  resolved := #[]
  callSites := []
  init := .initialized
  statics := none
  mirror := none

def pool0 : Array CpInfo := pool [(5, u "<init>"), (0, u "()V"), (1, .class_ 10), (1, u "java/lang/Object")] 113

def k0m0 : Method := { name := "<init>", desc := "()V", sig := { parameters := [], returnType := none }, accessFlags := 1, code := none }
/-- java/lang/Object -/
def k0 : Class := { plain "java/lang/Object" none with
  accessFlags := 33
  interfaces := #[]
  cf := some (fileOf pool0 8 #[] #[{ accessFlags := 1, nameIndex := 5, descriptorIndex := 6, attributes := #[] }] 33 0 #[] #[])
  fields := #[]
  methods := #[k0m0]
  instanceTypes := #[]
  staticTypes := #[]
  resolved := Array.replicate 124 none
  statics := none }

def pool1 : Array CpInfo := pool [(2, .class_ 4), (1, u "java/lang/Object"), (0, u "<init>"), (0, u "()V"), (0, .integer 2147483647), (0, .methodref 9 10), (0, .class_ 11), (0, .nameAndType 12 13), (0, u "com/example/twag/twag/population/TransferGraphs"), (0, u "add"), (0, u "([JII)V"), (0, .methodref 15 16), (0, .class_ 17), (0, .nameAndType 18 19), (0, u "com/example/twag/twag/population/TransferGraphsAddPinLaw"), (0, u "expected"), (0, u "(IIJJ)J"), (2, u "law"), (0, u "(JJJII)Z")] 5

def k1m0 : Method := { name := "<init>", desc := "()V", sig := { parameters := [], returnType := none }, accessFlags := 1, code := none }
def k1c1 : Code := { maxStack := 8, maxLocals := 14, code := code, exceptionTable := #[], attributes := #[] }
def k1m1 : Method := { name := "law", desc := "(JJJII)Z", sig := { parameters := [.long, .long, .long, .int, .int], returnType := some .boolean }, accessFlags := 9, code := some k1c1 }
def k1c2 : Code := { maxStack := 4, maxLocals := 6, code := method_3_code, exceptionTable := #[], attributes := #[] }
def k1m2 : Method := { name := "expected", desc := "(IIJJ)J", sig := { parameters := [.int, .int, .long, .long], returnType := some .long }, accessFlags := 10, code := some k1c2 }
/-- com/example/twag/twag/population/TransferGraphsAddPinLaw -/
def k1 : Class := { plain "com/example/twag/twag/population/TransferGraphsAddPinLaw" (some 0) with
  accessFlags := 49
  interfaces := #[]
  cf := some (fileOf pool1 15 #[] #[{ accessFlags := 1, nameIndex := 5, descriptorIndex := 6, attributes := #[] }, { accessFlags := 9, nameIndex := 22, descriptorIndex := 23, attributes := #[] }, { accessFlags := 10, nameIndex := 18, descriptorIndex := 19, attributes := #[] }] 49 2 #[] #[])
  fields := #[]
  methods := #[k1m0, k1m1, k1m2]
  instanceTypes := #[]
  staticTypes := #[]
  resolved := Array.replicate 29 none
  statics := none }

def pool2 : Array CpInfo := pool [(2, .class_ 4), (1, u "java/lang/Object"), (3, .class_ 10), (1, u "com/example/twag/twag/population/TransferGraphs"), (0, u "stateCount"), (0, u "I"), (2, u "words"), (2, u "allStates"), (0, u "[J"), (59, u "add"), (0, u "([JII)V")] 16

def k2c0 : Code := { maxStack := 7, maxLocals := 3, code := prog_52_method_4_code, exceptionTable := #[], attributes := #[] }
def k2m0 : Method := { name := "add", desc := "([JII)V", sig := { parameters := [(.array .long), .int, .int], returnType := none }, accessFlags := 8, code := some k2c0 }
/-- com/example/twag/twag/population/TransferGraphs -/
def k2 : Class := { plain "com/example/twag/twag/population/TransferGraphs" (some 0) with
  accessFlags := 48
  interfaces := #[]
  cf := some (fileOf pool2 8 #[] #[{ accessFlags := 8, nameIndex := 79, descriptorIndex := 80, attributes := #[] }] 48 2 #[] #[{ accessFlags := 16, nameIndex := 11, descriptorIndex := 12, attributes := #[] }, { accessFlags := 16, nameIndex := 15, descriptorIndex := 12, attributes := #[] }, { accessFlags := 18, nameIndex := 18, descriptorIndex := 19, attributes := #[] }])
  fields := #[{ name := "stateCount", type := .int, accessFlags := 16, slot := 0, constantValue := 0 }, { name := "words", type := .int, accessFlags := 16, slot := 1, constantValue := 0 }, { name := "allStates", type := (.array .long), accessFlags := 18, slot := 2, constantValue := 0 }]
  methods := #[k2m0]
  instanceTypes := #[.int, .int, (.array .long)]
  staticTypes := #[]
  resolved := Array.replicate 97 none
  statics := none }

def pool3 : Array CpInfo := pool [(1, u "java/lang/Cloneable"), (0, .class_ 1), (0, u "java/lang/Object"), (0, .class_ 3)] 3

/-- java/lang/Cloneable -/
def k3 : Class := { plain "java/lang/Cloneable" (some 0) with
  accessFlags := 1537
  interfaces := #[]
  cf := some (fileOf pool3 2 #[] #[] 1537 4 #[] #[])
  fields := #[]
  methods := #[]
  instanceTypes := #[]
  staticTypes := #[]
  resolved := Array.replicate 8 none
  statics := none }

def pool4 : Array CpInfo := pool [(1, u "java/io/Serializable"), (0, .class_ 1), (0, u "java/lang/Object"), (0, .class_ 3)] 3

/-- java/io/Serializable -/
def k4 : Class := { plain "java/io/Serializable" (some 0) with
  accessFlags := 1537
  interfaces := #[]
  cf := some (fileOf pool4 2 #[] #[] 1537 4 #[] #[])
  fields := #[]
  methods := #[]
  instanceTypes := #[]
  staticTypes := #[]
  resolved := Array.replicate 8 none
  statics := none }

/-- the primitive byte -/
def k5 : Class := { plain "byte" none with kind := .primitive 'B', accessFlags := 0x411 }
/-- [B -/
def k6 : Class := { plain "[B" (some 0) with kind := .array 5 .byte, interfaces := #[3, 4], accessFlags := 1041 }

/-- the primitive int -/
def k7 : Class := { plain "int" none with kind := .primitive 'I', accessFlags := 0x411 }
/-- [I -/
def k8 : Class := { plain "[I" (some 0) with kind := .array 7 .int, interfaces := #[3, 4], accessFlags := 1041 }

/-- the primitive long -/
def k9 : Class := { plain "long" none with kind := .primitive 'J', accessFlags := 0x411 }
/-- [J -/
def k10 : Class := { plain "[J" (some 0) with kind := .array 9 .long, interfaces := #[3, 4], accessFlags := 1041 }

def heap : Heap := #[]
def classes : Array Class := #[k0, k1, k2, k3, k4, k5, k6, k7, k8, k9, k10]
def interned : List (Array UInt16 × Addr) := []
def slotsUsed : Nat := 0
def theMethod : MethodId := ⟨1, 1⟩
def args0 : Array Value := #[.long 5, .long 7, .long 3, .int 4, .int 100]
def aboutOver (below : List Frame) : State where
  vm := { classes := classes, interned := interned.toArray }
  heap := heap
  slotsUsed := slotsUsed
  threads := #[{ frames := .invoking theMethod args0 :: below }]
def below0 : List Frame := [.native { method := ⟨0, 0⟩, args := #[] }]
def about1 : State := aboutOver below0
def p0 : Program := .bare "" "" ""
def e0 : Env := launch0.env 0 0 0
theorem w_frames : about1.frames = Frame.invoking theMethod args0 :: below0 := rfl
set_option maxRecDepth 65536 in
theorem w_args : argsFit about1.vm theMethod args0 = true := by decide +kernel
set_option maxRecDepth 65536 in
theorem w_heap : heapFits about1 = true := by decide +kernel
set_option maxRecDepth 65536 in
theorem w_runnable : about1.curStatus? = some .runnable := by decide +kernel
set_option maxRecDepth 65536 in
theorem w_alone : about1.alone = true := by decide +kernel
set_option maxRecDepth 65536 in
theorem w_named : about1.methodNamed? x = some theMethod := by decide +kernel
set_option maxRecDepth 65536 in
theorem w_hears : about1.hears theMethod below0 = true := by decide +kernel
set_option maxRecDepth 65536 in
theorem w_ripe : about1.ripe theMethod args0 below0 = true := by decide +kernel
theorem w_running : about1.status = .running := rfl
set_option maxRecDepth 65536 in
theorem w_room : about1.hasRoom e0.platform room_1 = true :=
  launch0.hasRoom_least _ room_1 (by decide +kernel) (by decide +kernel) (by decide +kernel) (by decide +kernel) (by decide +kernel) (by decide +kernel)
theorem allAtoms_all (ts : List Jvm.Cond) (a : Array Jvm.Value) (st : Jvm.State) : (allAtoms ts).before a st = ts.all (fun c => c.before a st) := by
  induction ts with
  | nil => rfl
  | cons c t ih =>
    show (Jvm.Cond.and c (allAtoms t)).before a st = _
    rw [Jvm.Cond.before_and, ih, List.all_cons]
def words1 : List Jvm.Cond := Jvm.Cond.code x code maxLocals ret :: tables_1
/-- a 'code' word, met by the world's own term for the bytes: nothing is compared byte by byte -/
theorem code_word {y : MethodName} {bytes : ByteArray} {mx : Nat} {rt : Option FieldType} {a : Array Value} {s : State} {m : MethodId} {meth : Method} {c : Code} (h1 : s.methodNamed? y = some m) (h2 : s.vm.method? m = some meth) (h3 : meth.code = some c) (h4 : c.code = bytes)
    (h5 : (c.maxLocals == mx && c.exceptionTable.isEmpty && decide (c.maxStack ≤ mostOperands) && decide (meth.sig.returnType = rt) && !meth.locks && decide (parseMethodDescriptor y.desc = some meth.sig)) = true) : (Jvm.Cond.code y bytes mx rt).before a s = true := by
  simp only [Bool.and_eq_true, beq_iff_eq, Bool.not_eq_true', decide_eq_true_eq] at h5
  obtain ⟨⟨⟨⟨⟨g1, g2⟩, g3⟩, g4⟩, g5⟩, g6⟩ := h5
  simp [Cond.before, Cond.holds, Cond.value, h1, h2, h3, h4, g1, g2, g3, g4, g5, g6]
def isCode : Jvm.Cond → Bool
  | .code _ _ _ _ => true
  | _ => false
theorem all_split {L : List Jvm.Cond} {P : Jvm.Cond → Bool} (h1 : L.all (fun c => isCode c || P c) = true) (h2 : ∀ c ∈ L.filter isCode, P c = true) : L.all P = true := by
  refine List.all_eq_true.mpr fun c hc => ?_
  have h := List.all_eq_true.mp h1 c hc
  rcases Bool.eq_false_or_eq_true (isCode c) with hi | hi
  · exact h2 c (List.mem_filter.mpr ⟨hc, hi⟩)
  · simpa [hi] using h
set_option maxRecDepth 65536 in
theorem w_c0 : (Jvm.Cond.code x code maxLocals ret).before args0 about1 = true := code_word (m := ⟨1, 1⟩) (meth := k1m1) (c := k1c1) (by decide +kernel) rfl rfl rfl (by decide +kernel)
set_option maxRecDepth 65536 in
theorem w_c1 : (Jvm.Cond.code ({ cls := "com/example/twag/twag/population/TransferGraphs", name := "add", desc := "([JII)V" } : Jvm.MethodName) prog_52_method_4_code (3 : Nat) (Option.none : Option Jvm.ClassFile.FieldType)).before args0 about1 = true := code_word (m := ⟨2, 0⟩) (meth := k2m0) (c := k2c0) (by decide +kernel) rfl rfl rfl (by decide +kernel)
set_option maxRecDepth 65536 in
theorem w_c2 : (Jvm.Cond.code ({ cls := "com/example/twag/twag/population/TransferGraphsAddPinLaw", name := "expected", desc := "(IIJJ)J" } : Jvm.MethodName) method_3_code (6 : Nat) (Option.some Jvm.ClassFile.FieldType.long)).before args0 about1 = true := code_word (m := ⟨1, 2⟩) (meth := k1m2) (c := k1c2) (by decide +kernel) rfl rfl rfl (by decide +kernel)
def codes1 : List Jvm.Cond := [Jvm.Cond.code x code maxLocals ret, Jvm.Cond.code ({ cls := "com/example/twag/twag/population/TransferGraphs", name := "add", desc := "([JII)V" } : Jvm.MethodName) prog_52_method_4_code (3 : Nat) (Option.none : Option Jvm.ClassFile.FieldType), Jvm.Cond.code ({ cls := "com/example/twag/twag/population/TransferGraphsAddPinLaw", name := "expected", desc := "(IIJJ)J" } : Jvm.MethodName) method_3_code (6 : Nat) (Option.some Jvm.ClassFile.FieldType.long)]
set_option maxRecDepth 65536 in
theorem codes_eq : words1.filter isCode = codes1 := rfl
theorem w_codes : ∀ c ∈ words1.filter isCode, c.before args0 about1 = true := by
  rw [codes_eq]
  intro c hc
  simp only [codes1, List.mem_cons, List.not_mem_nil, or_false] at hc
  rcases hc with rfl | rfl | rfl
  · exact w_c0
  · exact w_c1
  · exact w_c2
set_option maxRecDepth 65536 in
theorem w_t1 : words1.all (fun c => isCode c || c.before args0 about1) = true := by decide +kernel
theorem w_tables : (allAtoms (Jvm.Cond.code x code maxLocals ret :: tables_1)).before args0 about1 = true := by
  rw [allAtoms_all]
  show words1.all (fun c => c.before args0 about1) = true
  refine all_split ?_ w_codes
  rw [w_t1]
set_option maxRecDepth 65536 in
theorem w_case : (Jvm.Cond.and given_1 narrow_1).before args0 about1 = true := by decide +kernel
theorem w_applies : (headSpec (Jvm.Cond.code x code maxLocals ret :: tables_1) room_1).applies x e0.platform about1 = true :=
  (Spec.applies_iff w_frames).mpr ⟨w_running, w_runnable, w_alone, w_named, w_hears, w_ripe, w_room, w_tables⟩
theorem atStart : AtStart classFile x code maxLocals ret World_1 tables_1 room_1 Calls_1 rest_1 Pre_1 launch0 p0 e0 about1 theMethod args0 below0 :=
  ⟨lists_1, trivial, launch0.admits_env _ _ _, launch0.least_env, fairChoices_fair.cas, fairChoices_fair.clock, w_frames, w_args, w_heap, w_applies, trivial, trivial, w_case⟩
end start1
theorem witness_1 : WitnessClaimed_1 := ⟨start1.p0, start1.e0, start1.about1, start1.theMethod, start1.args0, start1.below0, start1.atStart⟩
end Jvm.Pilot.@@N@@
