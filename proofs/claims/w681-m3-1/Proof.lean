import JvmDerived
import JvmDerived.Pilot.@@N@@Statement
import JvmDerived.Pilot.@@N@@Code
set_option linter.unusedVariables false
set_option linter.unusedSimpArgs false
namespace Jvm.Pilot.@@N@@
open Jvm Jvm.ClassFile Sem Op Lib Jvm.Free Jvm.Stand Jvm.LawKit Jvm.RoadKit Bundle Jvm.Pilot.@@N@@.Jvm.D
section Own0
theorem own_fld_to {Z : State} {h : Heap} {a : Addr} {C n d : String} {v v' : Value} (F : Fld Z h a C n d v) (q : v = v') : Fld Z h a C n d v' := q ▸ F
theorem own_sta_keep {Z : State} {h h' : Heap} {C n d : String} {v : Value} {ws : List Addr} (F : Sta Z h C n d v) (K : Keep h h' ws) (q : ∀ x ∈ ws, ∀ c : Cell, h[x]? = some c → c.vm.isStatics = false) : Sta Z h' C n d v := by
  obtain ⟨cf, i, k, f, st, cell, h1, h2, h3, h4, h5, h6, h7⟩ := F
  exact ⟨cf, i, k, f, st, cell, h1, h2, h3, h4, K.2.1 st cell h5 (fun y => by rw [q st y cell h5] at h6; cases h6), h6, h7⟩
theorem own_ins_keep {Z : State} {h h' : Heap} {a : Addr} {C : String} {bo : Bool} {ws : List Addr} (F : Ins Z h a C bo) (K : Keep h h' ws) : Ins Z h' a C bo := by
  obtain ⟨cell, cT, h1, h2, h3⟩ := F
  obtain ⟨c', e1, e2, e3, -⟩ := K.2.2 a cell h1
  exact ⟨c', cT, e1, h2, by rw [e2, e3]; exact h3⟩
theorem notsta_exa {Z : State} {h : Heap} {a : Addr} {C : String} (F : Exa Z h a C) : ∀ c : Cell, h[a]? = some c → c.vm.isStatics = false := fun c hc => by
  obtain ⟨cell, _, h1, -, -, h4, -⟩ := F
  cases hc.symm.trans h1; exact h4
theorem eqi_v {args : Array Value} {first s : State} {o : Option Outcome} {idx : List Nat} {a : Term} {k : Int32} (h : (Cond.eq a (.int k)).value args first o s idx = some true) : a.eval args first o idx s = some (.int k) := by
  obtain ⟨x, y, e1, e2, k1, k2⟩ := cmp_v (Or.inl h)
  have e3 : (Term.int k).eval args first o idx s = some (.int k) := rfl
  cases e3.symm.trans e2
  cases x <;> simp [Cond.value, e1, e3] at h
  rw [e1, h]
end Own0
section Own
variable {p : Program} {l : Launch} {e : Env} {R : Room} {s : State} {m : MethodId} {args : Array Value} {below : List Frame} {meth : Method} {c : Code} {T T' : State} {locs : List Loc} {cells slots : Nat} {Z : State} {h h' : Heap} {Q : Option Value → Heap → List Loc → Prop} {kc ks : Nat} {a b : Addr}
/-- from T the method comes to its end, and Q holds of what it returns, of the heap and of the written places -/
def Goes (p : Program) (e : Env) (below : List Frame) (s : State) (Q : Option Value → Heap → List Loc → Prop) (kc ks : Nat) (T : State) : Prop :=
  ∃ s₂ o, Steps p.tables e below T s₂ ∧ s₂.status = .running ∧ Ended s₂ below o ∧ ∃ v L, o = .returned v ∧ Q v s₂.heap L ∧ FrameEnd s o s₂ L kc ks
theorem Goes.step (st : ∀ t, Steps p.tables e below T' t → Steps p.tables e below T t) (k : Goes p e below s Q kc ks T') : Goes p e below s Q kc ks T := by
  obtain ⟨s₂, o, h1, h2⟩ := k; exact ⟨s₂, o, st _ h1, h2⟩
theorem Goes.ret (X : Stand p l e R s m args below meth c T locs cells slots) {v : Option Value} (hv : meth.sig.returnType = none → v = none) (hlocks : meth.locks = false) {T₀ : State}
    (st : ∀ fs, (∀ (f : JFrame) (acts : List Action), f.method = m → f.locked = none → f.entered = [] → (doReturn e (T.setTop f) acts v).1 = T.setFrames fs) → Steps p.tables e below T₀ (T.setFrames fs))
    (hq : Q v T.heap locs) (hc : cells ≤ kc) (hs : slots ≤ ks) : Goes p e below s Q kc ks T₀ := by
  obtain ⟨fs, hr, hrun, hended, hW, hsame⟩ := X.leave (v := v) hv hlocks
  exact ⟨_, _, st fs hr, hrun, hended, _, _, rfl, hq, ⟨_, rfl⟩, hW, hsame.mono hc hs⟩
theorem Goes.retZ (X : Stand p l e R s m args below meth c T locs cells slots) (hx : p.tables.exec = Jvm.exec) (hlocks : meth.locks = false) {pc : Nat} {Ls : Array Slot} {z r : Int32} {t : FieldType} {rest : List Value} (hret : meth.sig.returnType = some t) (ht : t = .boolean ∨ t = .byte ∨ t = .char ∨ t = .short)
    (hd : decode c.code pc = .ok (.ireturn, 1)) (hz : nar t z = r) (hq : Q (some (.int r)) T.heap locs) (hc : cells ≤ kc) (hs : slots ≤ ks) : Goes p e below s Q kc ks (T.setTop (mkF m pc Ls (.int z :: rest))) := by
  subst hz
  exact Goes.ret X (fun h => by rw [hret] at h; cases h) hlocks (fun fs hr => retN X hx hret ht hd hr) hq hc hs
theorem Goes.retI (X : Stand p l e R s m args below meth c T locs cells slots) (hx : p.tables.exec = Jvm.exec) (hlocks : meth.locks = false) {pc : Nat} {Ls : Array Slot} {z r : Int32} {rest : List Value} (hret : meth.sig.returnType = some .int)
    (hd : decode c.code pc = .ok (.ireturn, 1)) (hz : z = r) (hq : Q (some (.int r)) T.heap locs) (hc : cells ≤ kc) (hs : slots ≤ ks) : Goes p e below s Q kc ks (T.setTop (mkF m pc Ls (.int z :: rest))) := by
  subst hz
  exact Goes.ret X (fun h => by rw [hret] at h; cases h) hlocks (fun fs hr => retOut X hx hret rfl (Or.inl ⟨rfl, Or.inl rfl, z, rfl⟩) hd hr) hq hc hs
theorem Goes.retJ (X : Stand p l e R s m args below meth c T locs cells slots) (hx : p.tables.exec = Jvm.exec) (hlocks : meth.locks = false) {pc : Nat} {Ls : Array Slot} {z r : Int64} {rest : List Value} (hret : meth.sig.returnType = some .long)
    (hd : decode c.code pc = .ok (.lreturn, 1)) (hz : z = r) (hq : Q (some (.long r)) T.heap locs) (hc : cells ≤ kc) (hs : slots ≤ ks) : Goes p e below s Q kc ks (T.setTop (mkF m pc Ls (.long z :: rest))) := by
  subst hz
  exact Goes.ret X (fun h => by rw [hret] at h; cases h) hlocks (fun fs hr => retOut X hx hret rfl (Or.inr (Or.inl ⟨rfl, rfl, z, rfl⟩)) hd hr) hq hc hs
theorem Goes.retD (X : Stand p l e R s m args below meth c T locs cells slots) (hx : p.tables.exec = Jvm.exec) (hlocks : meth.locks = false) {pc : Nat} {Ls : Array Slot} {z r : UInt64} {rest : List Value} (hret : meth.sig.returnType = some .double)
    (hd : decode c.code pc = .ok (.dreturn, 1)) (hz : z = r) (hq : Q (some (.double r)) T.heap locs) (hc : cells ≤ kc) (hs : slots ≤ ks) : Goes p e below s Q kc ks (T.setTop (mkF m pc Ls (.double z :: rest))) := by
  subst hz
  exact Goes.ret X (fun h => by rw [hret] at h; cases h) hlocks (fun fs hr => retOut X hx hret rfl (Or.inr (Or.inr (Or.inl ⟨rfl, rfl, z, rfl⟩))) hd hr) hq hc hs
theorem Goes.retR (X : Stand p l e R s m args below meth c T locs cells slots) (hx : p.tables.exec = Jvm.exec) (hlocks : meth.locks = false) {pc : Nat} {Ls : Array Slot} {z r : Value} {t : FieldType} {rest : List Value} (hret : meth.sig.returnType = some t) (ht : t.isReference = true) (hn : narrow t z = z) (hw : z.isRef = true)
    (hd : decode c.code pc = .ok (.areturn, 1)) (hz : z = r) (hq : Q (some r) T.heap locs) (hc : cells ≤ kc) (hs : slots ≤ ks) : Goes p e below s Q kc ks (T.setTop (mkF m pc Ls (z :: rest))) := by
  subst hz
  exact Goes.ret X (fun h => by rw [hret] at h; cases h) hlocks (fun fs hr => retOut X hx hret hn (Or.inr (Or.inr (Or.inr (Or.inr ⟨rfl, ht, hw⟩)))) hd hr) hq hc hs
theorem Goes.retV (X : Stand p l e R s m args below meth c T locs cells slots) (hx : p.tables.exec = Jvm.exec) (hlocks : meth.locks = false) {pc : Nat} {Ls : Array Slot} (hret : meth.sig.returnType = none)
    (hd : decode c.code pc = .ok (.return_, 1)) (hq : Q none T.heap locs) (hc : cells ≤ kc) (hs : slots ≤ ks) : Goes p e below s Q kc ks (T.setTop (mkF m pc Ls [])) :=
  Goes.ret X (fun _ => rfl) hlocks (fun fs hr => X.returnOut hx hret hd hr) hq hc hs
/-- the array at a holds vs -/
def Ara (Z : State) (h : Heap) (a : Addr) (ty : FieldType) (vs : List Value) : Prop := ∃ cl : Cell, Arr Z h a cl ty ∧ cl.slots.toList = vs ∧ vs.length < 2 ^ 31 ∧ (∀ v ∈ vs, fits ty v = true) ∧ ∀ C, ty = .object C → Ovr Z cl.cls C
variable {ty : FieldType} {vs : List Value} {sl : Nat} {v : Value} {ws : List Addr}
theorem Ara.lt (F : Ara Z h a ty vs) : a < h.size := by obtain ⟨c, A, -⟩ := F; exact A.lt
theorem Ara.ext (F : Ara Z h a ty vs) (E : Ext h h') : Ara Z h' a ty vs := by obtain ⟨c, A, r⟩ := F; exact ⟨c, A.ext E, r⟩
theorem Ara.other (F : Ara Z h b ty vs) (W : Wr h h' a sl v) (q : b ≠ a) : Ara Z h' b ty vs := by obtain ⟨c, A, r⟩ := F; exact ⟨c, A.other W q, r⟩
theorem Ara.keep (F : Ara Z h a ty vs) (K : Keep h h' ws) (q : a ∉ ws) : Ara Z h' a ty vs := by obtain ⟨c, A, r⟩ := F; exact ⟨c, ⟨K.2.1 a c A.1 q, A.2⟩, r⟩
theorem fits_dflt (ty : FieldType) : fits ty (defaultValue ty) = true := by cases ty <;> rfl
theorem Ara.new {k : ClassId} {z : Int32} (A : Arr Z h a (newA k ty z) ty) (q : ¬ z < 0) (e : List.replicate z.toNatClampNeg (defaultValue ty) = vs) (O : ∀ C, ty = .object C → Ovr Z k C) : Ara Z h a ty vs := by
  subst e
  refine ⟨_, A, by simp [newA], by simpa using (back32 q).2, fun v hv => ?_, O⟩
  rw [(List.mem_replicate.mp hv).2]; exact fits_dflt ty
theorem Ara.same {j : Int32} {cl : Cell} (A : Arr Z h a cl ty) (e : cl.slots.toList = vs) (hl : vs.length < 2 ^ 31) (hf : ∀ v ∈ vs, fits ty v = true) (O : ∀ C, ty = .object C → Ovr Z cl.cls C) (hv : fits ty v = true) (W : Wr h h' a j.toNatClampNeg v) : Ara Z h' a ty (vs.set j.toNatClampNeg v) := by
  refine ⟨_, A.same W, by simp [Cell.setSlot, ← e], by simpa using hl, fun u hu => ?_, O⟩
  rcases List.mem_or_eq_of_mem_set hu with q | q
  · exact hf u q
  · rw [q]; exact hv
theorem inb {j : Int32} {cl : Cell} (e : cl.slots.toList = vs) (h0 : ¬ j < 0) (hj : j.toNatClampNeg < vs.length) : ¬ (j < 0 ∨ cl.slots.size ≤ j.toNatClampNeg) := by
  rintro (q | q)
  · exact h0 q
  · rw [← e] at hj; simp at hj; omega
theorem getb {j : Int32} {cl : Cell} (e : cl.slots.toList = vs) (hv : vs[j.toNatClampNeg]? = some v) : cl.slots[j.toNatClampNeg]? = some v := by rw [← e] at hv; simpa using hv
theorem ltb {n : Nat} (hv : vs[n]? = some v) : n < vs.length := (List.getElem?_eq_some_iff.mp hv).1
theorem lenb {cl : Cell} (e : cl.slots.toList = vs) : cl.slots.size = vs.length := by rw [← e]; simp
theorem notsta_ara (F : Ara Z h a ty vs) : ∀ c : Cell, h[a]? = some c → c.vm.isStatics = false := fun c hc => by
  obtain ⟨cl, A, -⟩ := F
  cases hc.symm.trans A.1; exact A.plain
theorem Ara.to {vs' : List Value} (F : Ara Z h a ty vs) (q : vs = vs') : Ara Z h a ty vs' := q ▸ F
end Own

open Jvm.Free.Fl in
theorem own_fin {K : Nat} {x : UInt64} (h : Mag64 K x) (hK : K ≤ 2047) : NoNaN64 x := (h.fin hK).noNaN
open Jvm.Free.Fl in
theorem own_md (a : Int64) (m : Int32) : Mag64 1122 (FP.dmul (FP.l2d a) (FP.i2d m)) := (dmul_mag (l2d_mag a) (i2d_mag m) (by decide) (by decide)).mono (by decide)
open Jvm.Free.Fl in
theorem own_dv (a b : Int64) (hb : b ≠ 0) : Mag64 1089 (FP.ddiv (FP.l2d a) (FP.l2d b)) := (ddiv_mag (l2d_mag a) (l2d_big hb) (by decide) (by decide)).mono (by decide)
open Jvm.Free.Fl in
theorem own_pk {K : Nat} {a b : UInt64} (ha : Mag64 K a) (hb : Mag64 K b) : Mag64 K (Native.java_lang_Math.nans.pick64 false a b) := by
  unfold Native.java_lang_Math.nans.pick64
  split
  · exact ha
  · exact hb
  · split
    · exact hb
    · exact ha
open Jvm.Free.Fl in
theorem own_mp {K : Nat} (a : Int64) {b : UInt64} (hb : Mag64 1089 b) : Mag64 1155 (FP.dmul (FP.l2d a) b) := (dmul_mag (l2d_mag a) hb (by decide) (by decide)).mono (by decide)
open Jvm.Free.Fl in
theorem own_if {K : Nat} {a b : UInt64} {c : Prop} [Decidable c] (ha : Mag64 K a) (hb : Mag64 K b) : Mag64 K (if c then a else b) := by split <;> assumption
theorem own_sign (m : Int32) (h : 0 ≤ m.toInt) : (FP.i2d m >>> 63 == 1) = false := by
  have q := abs_w (a := m.toInt64) (by rw [Int64.lt_iff_toInt_lt, c_i2l, (by decide : (0 : Int64).toInt = 0)]; omega)
  rw [← i2d_w] at q
  have q2 : (FP.i2d m).toNat % 2 ^ 63 = (FP.i2d m).toNat := by
    have := congrArg UInt64.toNat q
    rwa [UInt64.toNat_and, show (0x7fffffffffffffff : UInt64).toNat = 2 ^ 63 - 1 from rfl, Nat.and_two_pow_sub_one_eq_mod] at this
  have q3 : FP.i2d m >>> 63 = 0 := by
    apply UInt64.toNat_inj.mp
    rw [UInt64.toNat_shiftRight]
    have : (63 : UInt64).toNat % 64 = 63 := by decide
    rw [this, Nat.shiftRight_eq_div_pow]
    show _ = 0
    omega
  rw [q3]; decide
theorem own_pick (m : Int32) (h : 0 ≤ m.toInt) (g : UInt64) : Native.java_lang_Math.nans.pick64 false (FP.i2d m) g = if cmpValue (FP.dcmp (FP.i2d m) g) .g < (0 : Int32) then FP.i2d m else g := by
  have hs := own_sign m h
  unfold Native.java_lang_Math.nans.pick64
  rcases hd : FP.dcmp (FP.i2d m) g with _ | (_ | _ | _)
  · rw [if_neg (show ¬ cmpValue none .g < (0 : Int32) from by decide)]; simp [hs]
  · rw [if_pos (show cmpValue (some .lt) .g < (0 : Int32) from by decide)]; simp
  · rw [if_neg (show ¬ cmpValue (some .eq) .g < (0 : Int32) from by decide)]; simp [hs]
  · rw [if_neg (show ¬ cmpValue (some .gt) .g < (0 : Int32) from by decide)]; simp
theorem own_six (p y : Int32) (h : (p &&& 2147483647) % 6 = y) : y = 0 ∨ y = 1 ∨ y = 2 ∨ y = 3 ∨ y = 4 ∨ y = 5 := by
  have h1 := c_mask p 2147483647 31 (by decide) (by decide)
  have h2 := (c_irem (p &&& 2147483647) 6 6 (by decide)).1 (by omega)
  rw [h] at h2
  have h3 : y.toInt = 0 ∨ y.toInt = 1 ∨ y.toInt = 2 ∨ y.toInt = 3 ∨ y.toInt = 4 ∨ y.toInt = 5 := by omega
  rcases h3 with h | h | h | h | h | h <;> simp [← Int32.toInt_inj, h]
theorem own_m0 (p : Int32) : 0 ≤ (p &&& 2147483647).toInt := by
  have h1 := c_mask p 2147483647 31 (by decide) (by decide); omega
theorem own_pn0 : plainName "com/example/zugzwang/zugzwang/search/AlphaBetaEngine$Deepening" = true := by first | (simp [plainName, overriddenIn]; done) | decide +kernel
theorem own_pd0 : parseMethodDescriptor "(JJ)J" = some ⟨[.long, .long], some .long⟩ := by decide +kernel
theorem own_pd1 : parseMethodDescriptor "(DD)D" = some ⟨[.double, .double], some .double⟩ := by decide +kernel
theorem own_pn1 : plainName "com/example/zugzwang/zugzwang/search/DeepeningFinishedPinLaw" = true := by first | (simp [plainName, overriddenIn]; done) | decide +kernel
theorem own_pd2 : parseMethodDescriptor "(I)V" = some ⟨[.int], none⟩ := by decide +kernel
theorem own_pd3 : parseMethodDescriptor "()D" = some ⟨[], some .double⟩ := by decide +kernel
theorem own_pd4 : parseMethodDescriptor "(J)V" = some ⟨[.long], none⟩ := by decide +kernel
theorem own_pd5 : parseMethodDescriptor "(IJJJ)D" = some ⟨[.int, .long, .long, .long], some .double⟩ := by decide +kernel
def f5 (q0 : Int64) (q1 : Int64) : Int64 := (if q0 < q1 then q1 else q0)
theorem own_d5_0 : decode jdk_29_method_66_code 0 = .ok (.lload_n 0, 1) := by decide +kernel
theorem own_d5_1 : decode jdk_29_method_66_code 1 = .ok (.lload_n 2, 1) := by decide +kernel
theorem own_d5_2 : decode jdk_29_method_66_code 2 = .ok (.lcmp, 1) := by decide +kernel
theorem own_d5_3 : decode jdk_29_method_66_code 3 = .ok (.ifCond .lt 7, 3) := by decide +kernel
theorem own_d5_6 : decode jdk_29_method_66_code 6 = .ok (.lload_n 0, 1) := by decide +kernel
theorem own_d5_7 : decode jdk_29_method_66_code 7 = .ok (.goto 4, 3) := by decide +kernel
theorem own_d5_10 : decode jdk_29_method_66_code 10 = .ok (.lload_n 2, 1) := by decide +kernel
theorem own_d5_11 : decode jdk_29_method_66_code 11 = .ok (.lreturn, 1) := by decide +kernel
theorem own_ef5 (m : MethodId) (q0 : Int64) (q1 : Int64) : entryFrame m #[(.long q0), (.long q1)] 4 = mkF m 0 #[.val (.long q0), .second, .val (.long q1), .second] [] := by first | (simp [entryFrame, mkF, argsToLocals, Value.category, maxLocals]; done) | rfl
abbrev RM5 : Room := ({ frames := 0, cells := 0, slots := 0, locals := 0 } : Room)
abbrev kC5 : Nat := 0
abbrev kS5 : Nat := 0
def Q5 (Z : State) (q0 : Int64) (q1 : Int64) (h0 : Heap) (v : Option Value) (h : Heap) (L : List Loc) : Prop := v = some (.long (f5 q0 q1)) ∧ L = [] ∧ h = h0
set_option maxRecDepth 65536 in
set_option maxHeartbeats 40000000 in
theorem rm5 (l : Launch) (Z : State) (tA : Array Value) (hw : ∀ d ∈ tables_1, d.before tA Z = true) (ws : List Jvm.Cond) (q0 : Int64) (q1 : Int64) (h0 : Heap)  :
    MetFree l (⟨"java/lang/Math", "max", "(JJ)J"⟩ : MethodName) (head1 (Jvm.Cond.code (⟨"java/lang/Math", "max", "(JJ)J"⟩ : MethodName) jdk_29_method_66_code 4 (some .long) :: ws) RM5) (fun a U => a = #[(.long q0), (.long q1)] ∧ Z.Warmed39 U.vm ∧ U.heap = h0) (fun _ _ _ _ _ => True) (fun _ U o U' => ∃ v L, o = .returned v ∧ Q5 Z q0 q1 h0 v U'.heap L ∧ FrameEnd U o U' L RM5.cells RM5.slots) := by
  refine MetFree.of_bodySF (by decide +kernel) hisR ?_
  intro p e s m args below meth c s₁ Bd hml0 hP hK
  obtain ⟨rfl, hZ, hh⟩ := hP
  have hx := Bd.exec
  have hby := Bd.bytes
  have hml : c.maxLocals = 4 := hml0
  have hown : s.vm.findClass "java/lang/Math" = some m.cls := findClass_of_methodNamed Bd.named
  have hnm := (name_of_methodNamed Bd.named Bd.method).1
  have X0 : Stand p l e RM5 s m #[(.long q0), (.long q1)] below meth c s₁ [] 0 0 := Stand.of_body Bd
  have e0 : s₁.heap = h0 := by rw [← hh, Bd.state]; rfl
  show Goes p e below s (Q5 Z q0 q1 h0) kC5 kS5 (s₁.setTop (entryFrame m #[(.long q0), (.long q1)] 4))
  refine Goes.step (fun t k => castTop (own_ef5 m q0 q1) k) ?_
  show Goes _ _ _ _ _ _ _ (s₁.setTop (mkF m 0 #[.val (.long q0), .second, .val (.long q1), .second] []))
  refine Goes.step (fun t k => XS.lloadN X0.here hx rfl (hb hby own_d5_0) rfl k) ?_
  show Goes _ _ _ _ _ _ _ (s₁.setTop (mkF m 1 #[.val (.long q0), .second, .val (.long q1), .second] [(.long q0)]))
  refine Goes.step (fun t k => XS.lloadN X0.here hx rfl (hb hby own_d5_1) rfl k) ?_
  show Goes _ _ _ _ _ _ _ (s₁.setTop (mkF m 2 #[.val (.long q0), .second, .val (.long q1), .second] [(.long q1), (.long q0)]))
  refine Goes.step (fun t k => XS.lcmp X0.here hx rfl (hb hby own_d5_2) rfl k) ?_
  show Goes _ _ _ _ _ _ _ (s₁.setTop (mkF m 3 #[.val (.long q0), .second, .val (.long q1), .second] [(.int (lcmpW q0 q1))]))
  suffices k2 : ∀ (x2_0 : Int64), x2_0 = (if q0 < q1 then q1 else q0) → Goes p e below s (Q5 Z q0 q1 h0) kC5 kS5 (s₁.setTop (mkF m 11 #[.val (.long q0), .second, .val (.long q1), .second] [(.long x2_0)])) by
    by_cases hc3_1 : q0 < q1
    · refine Goes.step (fun t k => XS.ifYes X0.here hx rfl (pc0 := 3) (pc' := 10) rfl (hb hby own_d5_3) rfl ((if0 _ _).trans (tlt ((lw_lt _ _).mpr hc3_1)).1) (by decide) (by decide) k) ?_
      show Goes _ _ _ _ _ _ _ (s₁.setTop (mkF m 10 #[.val (.long q0), .second, .val (.long q1), .second] []))
      refine Goes.step (fun t k => XS.lloadN X0.here hx rfl (hb hby own_d5_10) rfl k) ?_
      show Goes _ _ _ _ _ _ _ (s₁.setTop (mkF m 11 #[.val (.long q0), .second, .val (.long q1), .second] [(.long q1)]))
      exact k2 _ (if_pos hc3_1).symm
    · refine Goes.step (fun t k => XS.ifNo X0.here hx rfl (hb hby own_d5_3) rfl ((if0 _ _).trans (flt (fun q => hc3_1 ((lw_lt _ _).mp q))).1) k) ?_
      show Goes _ _ _ _ _ _ _ (s₁.setTop (mkF m 6 #[.val (.long q0), .second, .val (.long q1), .second] []))
      refine Goes.step (fun t k => XS.lloadN X0.here hx rfl (hb hby own_d5_6) rfl k) ?_
      show Goes _ _ _ _ _ _ _ (s₁.setTop (mkF m 7 #[.val (.long q0), .second, .val (.long q1), .second] [(.long q0)]))
      refine Goes.step (fun t k => XS.goto X0.here hx rfl (pc0 := 7) (pc' := 11) rfl (hb hby own_d5_7) (by decide) (by decide) k) ?_
      show Goes _ _ _ _ _ _ _ (s₁.setTop (mkF m 11 #[.val (.long q0), .second, .val (.long q1), .second] [(.long q0)]))
      exact k2 _ (if_neg hc3_1).symm
  intro x2_0 hx2_0
  subst hx2_0
  exact Goes.retJ X0 hx Bd.notSynchronized (r := (f5 q0 q1)) Bd.returns (hb hby own_d5_11) rfl ⟨rfl, rfl, e0⟩ (by decide) (by decide)
theorem own_max (t : Int64) : f5 (1 : Int64) t ≠ 0 := by
  unfold f5
  split
  · rename_i h
    intro q; rw [q] at h; revert h; decide
  · decide
theorem own_d1_0 : decode prog_51_method_1_code 0 = .ok (.aload_n 0, 1) := by decide +kernel
theorem own_d1_1 : decode prog_51_method_1_code 1 = .ok (.invokespecial 1, 3) := by decide +kernel
theorem own_d1_4 : decode prog_51_method_1_code 4 = .ok (.aload_n 0, 1) := by decide +kernel
theorem own_d1_5 : decode prog_51_method_1_code 5 = .ok (.iload_n 1, 1) := by decide +kernel
theorem own_d1_6 : decode prog_51_method_1_code 6 = .ok (.putfield 7, 3) := by decide +kernel
theorem own_d1_9 : decode prog_51_method_1_code 9 = .ok (.return_, 1) := by decide +kernel
theorem own_ef1 (m : MethodId) (a0 : Addr) (p1 : Int32) : entryFrame m #[(.ref a0), (.int p1)] 2 = mkF m 0 #[.val (.ref a0), .val (.int p1)] [] := by first | (simp [entryFrame, mkF, argsToLocals, Value.category, maxLocals]; done) | rfl
abbrev RM1 : Room := ({ frames := 1, cells := 0, slots := 0, locals := 12 } : Room)
abbrev kC1 : Nat := 0
abbrev kS1 : Nat := 0
def Q1 (Z : State) (a0 : Addr) (p1 : Int32) (h0 : Heap) (n0 : Nat) (v : Option Value) (h : Heap) (L : List Loc) : Prop := v = none ∧ Fr n0 L ∧ Keep h0 h [a0] ∧ Exa Z h a0 "com/example/zugzwang/zugzwang/search/AlphaBetaEngine$Deepening" ∧ Fld Z h a0 "com/example/zugzwang/zugzwang/search/AlphaBetaEngine$Deepening" "last" "J" (.long (0 : Int64)) ∧ Fld Z h a0 "com/example/zugzwang/zugzwang/search/AlphaBetaEngine$Deepening" "moves" "I" (.int p1) ∧ Fld Z h a0 "com/example/zugzwang/zugzwang/search/AlphaBetaEngine$Deepening" "oneBefore" "J" (.long (0 : Int64)) ∧ Fld Z h a0 "com/example/zugzwang/zugzwang/search/AlphaBetaEngine$Deepening" "searches" "I" (.int (0 : Int32)) ∧ Fld Z h a0 "com/example/zugzwang/zugzwang/search/AlphaBetaEngine$Deepening" "twoBefore" "J" (.long (0 : Int64))
set_option maxRecDepth 65536 in
set_option maxHeartbeats 40000000 in
theorem rm1 (l : Launch) (Z : State) (tA : Array Value) (hw : ∀ d ∈ tables_1, d.before tA Z = true) (ws : List Jvm.Cond) (a0 : Addr) (p1 : Int32) (h0 : Heap) (n0 : Nat) (Z0 : n0 ≤ h0.size) (H0 : Exa Z h0 a0 "com/example/zugzwang/zugzwang/search/AlphaBetaEngine$Deepening") (H1 : Fld Z h0 a0 "com/example/zugzwang/zugzwang/search/AlphaBetaEngine$Deepening" "last" "J" (.long (0 : Int64))) (H2 : Fld Z h0 a0 "com/example/zugzwang/zugzwang/search/AlphaBetaEngine$Deepening" "moves" "I" (.int (0 : Int32))) (H3 : Fld Z h0 a0 "com/example/zugzwang/zugzwang/search/AlphaBetaEngine$Deepening" "oneBefore" "J" (.long (0 : Int64))) (H4 : Fld Z h0 a0 "com/example/zugzwang/zugzwang/search/AlphaBetaEngine$Deepening" "searches" "I" (.int (0 : Int32))) (H5 : Fld Z h0 a0 "com/example/zugzwang/zugzwang/search/AlphaBetaEngine$Deepening" "twoBefore" "J" (.long (0 : Int64))) (g_a0 : n0 ≤ a0) :
    MetFree l (⟨"com/example/zugzwang/zugzwang/search/AlphaBetaEngine$Deepening", "<init>", "(I)V"⟩ : MethodName) (head1 (Jvm.Cond.code (⟨"com/example/zugzwang/zugzwang/search/AlphaBetaEngine$Deepening", "<init>", "(I)V"⟩ : MethodName) prog_51_method_1_code 2 none :: ws) RM1) (fun a U => a = #[(.ref a0), (.int p1)] ∧ Z.Warmed39 U.vm ∧ U.heap = h0) (fun _ _ _ _ _ => True) (fun _ U o U' => ∃ v L, o = .returned v ∧ Q1 Z a0 p1 h0 n0 v U'.heap L ∧ FrameEnd U o U' L RM1.cells RM1.slots) := by
  refine MetFree.of_bodySF (plainFor_of_name own_pn0) hisR ?_
  intro p e s m args below meth c s₁ Bd hml0 hP hK
  obtain ⟨rfl, hZ, hh⟩ := hP
  have hx := Bd.exec
  have hby := Bd.bytes
  have hml : c.maxLocals = 2 := hml0
  have hown : s.vm.findClass "com/example/zugzwang/zugzwang/search/AlphaBetaEngine$Deepening" = some m.cls := findClass_of_methodNamed Bd.named
  have hnm := (name_of_methodNamed Bd.named Bd.method).1
  have X0 : Stand p l e RM1 s m #[(.ref a0), (.int p1)] below meth c s₁ [] 0 0 := Stand.of_body Bd
  have e0 : s₁.heap = h0 := by rw [← hh, Bd.state]; rfl
  have N0 := Fr.nil n0
  show Goes p e below s (Q1 Z a0 p1 h0 n0) kC1 kS1 (s₁.setTop (entryFrame m #[(.ref a0), (.int p1)] 2))
  refine Goes.step (fun t k => castTop (own_ef1 m a0 p1) k) ?_
  show Goes _ _ _ _ _ _ _ (s₁.setTop (mkF m 0 #[.val (.ref a0), .val (.int p1)] []))
  refine Goes.step (fun t k => XS.aloadN X0.here hx rfl (hb hby own_d1_0) rfl rfl k) ?_
  show Goes _ _ _ _ _ _ _ (s₁.setTop (mkF m 1 #[.val (.ref a0), .val (.int p1)] [(.ref a0)]))
  obtain ⟨T1, X1, e1, st1⟩ := initO X0 hx hZ hown (hw _ (List.mem_of_getElem? (i := 7) rfl)) (hw _ (List.mem_of_getElem? (i := 8) rfl)) (hw _ (List.mem_of_getElem? (i := 9) rfl)) e0 (g := (mkF m 1 #[.val (.ref a0), .val (.int p1)] [(.ref a0)])) rfl (by rw [hml]; rfl) rfl (hb hby own_d1_1) (by decide) (W := 0) (by show 2 * 0 + _ ≤ _; exact Nat.le_of_eq rfl) (by decide)
  refine Goes.step (fun t k => st1 t k) ?_
  show Goes _ _ _ _ _ _ _ (T1.setTop (mkF m 4 #[.val (.ref a0), .val (.int p1)] []))
  refine Goes.step (fun t k => XS.aloadN X1.here hx rfl (hb hby own_d1_4) rfl rfl k) ?_
  show Goes _ _ _ _ _ _ _ (T1.setTop (mkF m 5 #[.val (.ref a0), .val (.int p1)] [(.ref a0)]))
  refine Goes.step (fun t k => XS.iloadN X1.here hx rfl (hb hby own_d1_5) rfl k) ?_
  show Goes _ _ _ _ _ _ _ (T1.setTop (mkF m 6 #[.val (.ref a0), .val (.int p1)] [(.int p1), (.ref a0)]))
  obtain ⟨T2, h2, X2, e2, W2, st2⟩ := putF X1 hx hZ hown (host := "") (Or.inl (hw _ (List.mem_of_getElem? (i := 10) rfl))) Via.refl e1 H2 H0 (Or.inr ⟨(hw _ (List.mem_of_getElem? (i := 11) rfl)), rfl, hnm⟩) (hw _ (List.mem_of_getElem? (i := 2) rfl)) (ty := .int) (by decide) rfl rfl (g := (mkF m 6 #[.val (.ref a0), .val (.int p1)] [(.int p1), (.ref a0)])) rfl rfl (hb hby own_d1_6)
  have Fw2 := H2.same W2
  have F3 := H0.wr W2
  have F4 := H1.other W2 (Or.inr (slot_ne (Or.inl (hw _ (List.mem_of_getElem? (i := 22) rfl))) (Or.inr (hw _ (List.mem_of_getElem? (i := 11) rfl))) (by decide) (t := .long) (t' := .int) (by decide) (by decide)))
  have F5 := H3.other W2 (Or.inr (slot_ne (Or.inl (hw _ (List.mem_of_getElem? (i := 18) rfl))) (Or.inr (hw _ (List.mem_of_getElem? (i := 11) rfl))) (by decide) (t := .long) (t' := .int) (by decide) (by decide)))
  have F6 := H4.other W2 (Or.inr (slot_ne (Or.inl (hw _ (List.mem_of_getElem? (i := 24) rfl))) (Or.inr (hw _ (List.mem_of_getElem? (i := 11) rfl))) (by decide) (t := .int) (t' := .int) (by decide) (by decide)))
  have F7 := H5.other W2 (Or.inr (slot_ne (Or.inl (hw _ (List.mem_of_getElem? (i := 20) rfl))) (Or.inr (hw _ (List.mem_of_getElem? (i := 11) rfl))) (by decide) (t := .long) (t' := .int) (by decide) (by decide)))
  have K2 := (Keep.refl h0 [a0]).wr W2 (Or.inl (List.mem_of_getElem? (i := 0) rfl))
  have N2 := Fr.snoc X2 N0 g_a0
  have Z2 := Nat.le_trans Z0 (Nat.le_of_eq W2.size.symm)
  refine Goes.step (fun t k => st2 t k) ?_
  show Goes _ _ _ _ _ _ _ (T2.setTop (mkF m 9 #[.val (.ref a0), .val (.int p1)] []))
  exact Goes.retV X2 hx Bd.notSynchronized Bd.returns (hb hby own_d1_9) (by rw [e2]; exact ⟨rfl, N2, K2, F3, F4, Fw2, F5, F6, F7⟩) (by decide) (by decide)
theorem own_d3_0 : decode prog_51_method_2_code 0 = .ok (.aload_n 0, 1) := by decide +kernel
theorem own_d3_1 : decode prog_51_method_2_code 1 = .ok (.aload_n 0, 1) := by decide +kernel
theorem own_d3_2 : decode prog_51_method_2_code 2 = .ok (.getfield 13, 3) := by decide +kernel
theorem own_d3_5 : decode prog_51_method_2_code 5 = .ok (.putfield 17, 3) := by decide +kernel
theorem own_d3_8 : decode prog_51_method_2_code 8 = .ok (.aload_n 0, 1) := by decide +kernel
theorem own_d3_9 : decode prog_51_method_2_code 9 = .ok (.aload_n 0, 1) := by decide +kernel
theorem own_d3_10 : decode prog_51_method_2_code 10 = .ok (.getfield 20, 3) := by decide +kernel
theorem own_d3_13 : decode prog_51_method_2_code 13 = .ok (.putfield 13, 3) := by decide +kernel
theorem own_d3_16 : decode prog_51_method_2_code 16 = .ok (.aload_n 0, 1) := by decide +kernel
theorem own_d3_17 : decode prog_51_method_2_code 17 = .ok (.lload_n 1, 1) := by decide +kernel
theorem own_d3_18 : decode prog_51_method_2_code 18 = .ok (.putfield 20, 3) := by decide +kernel
theorem own_d3_21 : decode prog_51_method_2_code 21 = .ok (.aload_n 0, 1) := by decide +kernel
theorem own_d3_22 : decode prog_51_method_2_code 22 = .ok (.dup, 1) := by decide +kernel
theorem own_d3_23 : decode prog_51_method_2_code 23 = .ok (.getfield 23, 3) := by decide +kernel
theorem own_d3_26 : decode prog_51_method_2_code 26 = .ok (.iconst 1, 1) := by decide +kernel
theorem own_d3_27 : decode prog_51_method_2_code 27 = .ok (.iadd, 1) := by decide +kernel
theorem own_d3_28 : decode prog_51_method_2_code 28 = .ok (.putfield 23, 3) := by decide +kernel
theorem own_d3_31 : decode prog_51_method_2_code 31 = .ok (.return_, 1) := by decide +kernel
theorem own_ef3 (m : MethodId) (a0 : Addr) (q1 : Int64) : entryFrame m #[(.ref a0), (.long q1)] 3 = mkF m 0 #[.val (.ref a0), .val (.long q1), .second] [] := by first | (simp [entryFrame, mkF, argsToLocals, Value.category, maxLocals]; done) | rfl
abbrev RM3 : Room := ({ frames := 0, cells := 0, slots := 0, locals := 0 } : Room)
abbrev kC3 : Nat := 0
abbrev kS3 : Nat := 0
def Q3 (Z : State) (a0 : Addr) (q1 : Int64) (wL : Int64) (wM : Int32) (wO : Int64) (wS : Int32) (wT : Int64) (h0 : Heap) (n0 : Nat) (v : Option Value) (h : Heap) (L : List Loc) : Prop := v = none ∧ Fr n0 L ∧ Keep h0 h [a0] ∧ Exa Z h a0 "com/example/zugzwang/zugzwang/search/AlphaBetaEngine$Deepening" ∧ Fld Z h a0 "com/example/zugzwang/zugzwang/search/AlphaBetaEngine$Deepening" "last" "J" (.long q1) ∧ Fld Z h a0 "com/example/zugzwang/zugzwang/search/AlphaBetaEngine$Deepening" "moves" "I" (.int wM) ∧ Fld Z h a0 "com/example/zugzwang/zugzwang/search/AlphaBetaEngine$Deepening" "oneBefore" "J" (.long wL) ∧ Fld Z h a0 "com/example/zugzwang/zugzwang/search/AlphaBetaEngine$Deepening" "searches" "I" (.int (wS + (1 : Int32))) ∧ Fld Z h a0 "com/example/zugzwang/zugzwang/search/AlphaBetaEngine$Deepening" "twoBefore" "J" (.long wO)
set_option maxRecDepth 65536 in
set_option maxHeartbeats 40000000 in
theorem rm3 (l : Launch) (Z : State) (tA : Array Value) (hw : ∀ d ∈ tables_1, d.before tA Z = true) (ws : List Jvm.Cond) (a0 : Addr) (q1 : Int64) (wL : Int64) (wM : Int32) (wO : Int64) (wS : Int32) (wT : Int64) (h0 : Heap) (n0 : Nat) (Z0 : n0 ≤ h0.size) (H0 : Exa Z h0 a0 "com/example/zugzwang/zugzwang/search/AlphaBetaEngine$Deepening") (H1 : Fld Z h0 a0 "com/example/zugzwang/zugzwang/search/AlphaBetaEngine$Deepening" "last" "J" (.long wL)) (H2 : Fld Z h0 a0 "com/example/zugzwang/zugzwang/search/AlphaBetaEngine$Deepening" "moves" "I" (.int wM)) (H3 : Fld Z h0 a0 "com/example/zugzwang/zugzwang/search/AlphaBetaEngine$Deepening" "oneBefore" "J" (.long wO)) (H4 : Fld Z h0 a0 "com/example/zugzwang/zugzwang/search/AlphaBetaEngine$Deepening" "searches" "I" (.int wS)) (H5 : Fld Z h0 a0 "com/example/zugzwang/zugzwang/search/AlphaBetaEngine$Deepening" "twoBefore" "J" (.long wT)) (g_a0 : n0 ≤ a0) :
    MetFree l (⟨"com/example/zugzwang/zugzwang/search/AlphaBetaEngine$Deepening", "finished", "(J)V"⟩ : MethodName) (head1 (Jvm.Cond.code (⟨"com/example/zugzwang/zugzwang/search/AlphaBetaEngine$Deepening", "finished", "(J)V"⟩ : MethodName) prog_51_method_2_code 3 none :: ws) RM3) (fun a U => a = #[(.ref a0), (.long q1)] ∧ Z.Warmed39 U.vm ∧ U.heap = h0) (fun _ _ _ _ _ => True) (fun _ U o U' => ∃ v L, o = .returned v ∧ Q3 Z a0 q1 wL wM wO wS wT h0 n0 v U'.heap L ∧ FrameEnd U o U' L RM3.cells RM3.slots) := by
  refine MetFree.of_bodySF (plainFor_of_name own_pn0) hisR ?_
  intro p e s m args below meth c s₁ Bd hml0 hP hK
  obtain ⟨rfl, hZ, hh⟩ := hP
  have hx := Bd.exec
  have hby := Bd.bytes
  have hml : c.maxLocals = 3 := hml0
  have hown : s.vm.findClass "com/example/zugzwang/zugzwang/search/AlphaBetaEngine$Deepening" = some m.cls := findClass_of_methodNamed Bd.named
  have hnm := (name_of_methodNamed Bd.named Bd.method).1
  have X0 : Stand p l e RM3 s m #[(.ref a0), (.long q1)] below meth c s₁ [] 0 0 := Stand.of_body Bd
  have e0 : s₁.heap = h0 := by rw [← hh, Bd.state]; rfl
  have N0 := Fr.nil n0
  show Goes p e below s (Q3 Z a0 q1 wL wM wO wS wT h0 n0) kC3 kS3 (s₁.setTop (entryFrame m #[(.ref a0), (.long q1)] 3))
  refine Goes.step (fun t k => castTop (own_ef3 m a0 q1) k) ?_
  show Goes _ _ _ _ _ _ _ (s₁.setTop (mkF m 0 #[.val (.ref a0), .val (.long q1), .second] []))
  refine Goes.step (fun t k => XS.aloadN X0.here hx rfl (hb hby own_d3_0) rfl rfl k) ?_
  show Goes _ _ _ _ _ _ _ (s₁.setTop (mkF m 1 #[.val (.ref a0), .val (.long q1), .second] [(.ref a0)]))
  refine Goes.step (fun t k => XS.aloadN X0.here hx rfl (hb hby own_d3_1) rfl rfl k) ?_
  show Goes _ _ _ _ _ _ _ (s₁.setTop (mkF m 2 #[.val (.ref a0), .val (.long q1), .second] [(.ref a0), (.ref a0)]))
  obtain ⟨T1, X1, e1, st1⟩ := getF X0 hx hZ hown (host := "") (Or.inl (hw _ (List.mem_of_getElem? (i := 17) rfl))) Via.refl e0 H3 (g := (mkF m 2 #[.val (.ref a0), .val (.long q1), .second] [(.ref a0), (.ref a0)])) rfl rfl (hb hby own_d3_2)
  refine Goes.step (fun t k => st1 t k) ?_
  show Goes _ _ _ _ _ _ _ (T1.setTop (mkF m 5 #[.val (.ref a0), .val (.long q1), .second] [(.long wO), (.ref a0)]))
  obtain ⟨T2, h2, X2, e2, W2, st2⟩ := putF X1 hx hZ hown (host := "") (Or.inl (hw _ (List.mem_of_getElem? (i := 19) rfl))) Via.refl e1 H5 H0 (Or.inl (hw _ (List.mem_of_getElem? (i := 20) rfl))) (hw _ (List.mem_of_getElem? (i := 2) rfl)) (ty := .long) (by decide) rfl rfl (g := (mkF m 5 #[.val (.ref a0), .val (.long q1), .second] [(.long wO), (.ref a0)])) rfl rfl (hb hby own_d3_5)
  have Fw2 := H5.same W2
  have F3 := H0.wr W2
  have F4 := H1.other W2 (Or.inr (slot_ne (Or.inl (hw _ (List.mem_of_getElem? (i := 22) rfl))) (Or.inl (hw _ (List.mem_of_getElem? (i := 20) rfl))) (by decide) (t := .long) (t' := .long) (by decide) (by decide)))
  have F5 := H2.other W2 (Or.inr (slot_ne (Or.inr (hw _ (List.mem_of_getElem? (i := 11) rfl))) (Or.inl (hw _ (List.mem_of_getElem? (i := 20) rfl))) (by decide) (t := .int) (t' := .long) (by decide) (by decide)))
  have F6 := H3.other W2 (Or.inr (slot_ne (Or.inl (hw _ (List.mem_of_getElem? (i := 18) rfl))) (Or.inl (hw _ (List.mem_of_getElem? (i := 20) rfl))) (by decide) (t := .long) (t' := .long) (by decide) (by decide)))
  have F7 := H4.other W2 (Or.inr (slot_ne (Or.inl (hw _ (List.mem_of_getElem? (i := 24) rfl))) (Or.inl (hw _ (List.mem_of_getElem? (i := 20) rfl))) (by decide) (t := .int) (t' := .long) (by decide) (by decide)))
  have K2 := (Keep.refl h0 [a0]).wr W2 (Or.inl (List.mem_of_getElem? (i := 0) rfl))
  have N2 := Fr.snoc X2 N0 g_a0
  have Z2 := Nat.le_trans Z0 (Nat.le_of_eq W2.size.symm)
  refine Goes.step (fun t k => st2 t k) ?_
  show Goes _ _ _ _ _ _ _ (T2.setTop (mkF m 8 #[.val (.ref a0), .val (.long q1), .second] []))
  refine Goes.step (fun t k => XS.aloadN X2.here hx rfl (hb hby own_d3_8) rfl rfl k) ?_
  show Goes _ _ _ _ _ _ _ (T2.setTop (mkF m 9 #[.val (.ref a0), .val (.long q1), .second] [(.ref a0)]))
  refine Goes.step (fun t k => XS.aloadN X2.here hx rfl (hb hby own_d3_9) rfl rfl k) ?_
  show Goes _ _ _ _ _ _ _ (T2.setTop (mkF m 10 #[.val (.ref a0), .val (.long q1), .second] [(.ref a0), (.ref a0)]))
  obtain ⟨T8, X8, e8, st8⟩ := getF X2 hx hZ hown (host := "") (Or.inl (hw _ (List.mem_of_getElem? (i := 21) rfl))) Via.refl e2 F4 (g := (mkF m 10 #[.val (.ref a0), .val (.long q1), .second] [(.ref a0), (.ref a0)])) rfl rfl (hb hby own_d3_10)
  refine Goes.step (fun t k => st8 t k) ?_
  show Goes _ _ _ _ _ _ _ (T8.setTop (mkF m 13 #[.val (.ref a0), .val (.long q1), .second] [(.long wL), (.ref a0)]))
  obtain ⟨T9, h9, X9, e9, W9, st9⟩ := putF X8 hx hZ hown (host := "") (Or.inl (hw _ (List.mem_of_getElem? (i := 17) rfl))) Via.refl e8 F6 F3 (Or.inl (hw _ (List.mem_of_getElem? (i := 18) rfl))) (hw _ (List.mem_of_getElem? (i := 2) rfl)) (ty := .long) (by decide) rfl rfl (g := (mkF m 13 #[.val (.ref a0), .val (.long q1), .second] [(.long wL), (.ref a0)])) rfl rfl (hb hby own_d3_13)
  have Fw9 := F6.same W9
  have F10 := F3.wr W9
  have F11 := F4.other W9 (Or.inr (slot_ne (Or.inl (hw _ (List.mem_of_getElem? (i := 22) rfl))) (Or.inl (hw _ (List.mem_of_getElem? (i := 18) rfl))) (by decide) (t := .long) (t' := .long) (by decide) (by decide)))
  have F12 := F5.other W9 (Or.inr (slot_ne (Or.inr (hw _ (List.mem_of_getElem? (i := 11) rfl))) (Or.inl (hw _ (List.mem_of_getElem? (i := 18) rfl))) (by decide) (t := .int) (t' := .long) (by decide) (by decide)))
  have F13 := F7.other W9 (Or.inr (slot_ne (Or.inl (hw _ (List.mem_of_getElem? (i := 24) rfl))) (Or.inl (hw _ (List.mem_of_getElem? (i := 18) rfl))) (by decide) (t := .int) (t' := .long) (by decide) (by decide)))
  have F14 := Fw2.other W9 (Or.inr (slot_ne (Or.inl (hw _ (List.mem_of_getElem? (i := 20) rfl))) (Or.inl (hw _ (List.mem_of_getElem? (i := 18) rfl))) (by decide) (t := .long) (t' := .long) (by decide) (by decide)))
  have K9 := K2.wr W9 (Or.inl (List.mem_of_getElem? (i := 0) rfl))
  have N9 := Fr.snoc X9 N2 g_a0
  have Z9 := Nat.le_trans Z2 (Nat.le_of_eq W9.size.symm)
  refine Goes.step (fun t k => st9 t k) ?_
  show Goes _ _ _ _ _ _ _ (T9.setTop (mkF m 16 #[.val (.ref a0), .val (.long q1), .second] []))
  refine Goes.step (fun t k => XS.aloadN X9.here hx rfl (hb hby own_d3_16) rfl rfl k) ?_
  show Goes _ _ _ _ _ _ _ (T9.setTop (mkF m 17 #[.val (.ref a0), .val (.long q1), .second] [(.ref a0)]))
  refine Goes.step (fun t k => XS.lloadN X9.here hx rfl (hb hby own_d3_17) rfl k) ?_
  show Goes _ _ _ _ _ _ _ (T9.setTop (mkF m 18 #[.val (.ref a0), .val (.long q1), .second] [(.long q1), (.ref a0)]))
  obtain ⟨T15, h15, X15, e15, W15, st15⟩ := putF X9 hx hZ hown (host := "") (Or.inl (hw _ (List.mem_of_getElem? (i := 21) rfl))) Via.refl e9 F11 F10 (Or.inl (hw _ (List.mem_of_getElem? (i := 22) rfl))) (hw _ (List.mem_of_getElem? (i := 2) rfl)) (ty := .long) (by decide) rfl rfl (g := (mkF m 18 #[.val (.ref a0), .val (.long q1), .second] [(.long q1), (.ref a0)])) rfl rfl (hb hby own_d3_18)
  have Fw15 := F11.same W15
  have F16 := F10.wr W15
  have F17 := F12.other W15 (Or.inr (slot_ne (Or.inr (hw _ (List.mem_of_getElem? (i := 11) rfl))) (Or.inl (hw _ (List.mem_of_getElem? (i := 22) rfl))) (by decide) (t := .int) (t' := .long) (by decide) (by decide)))
  have F18 := F13.other W15 (Or.inr (slot_ne (Or.inl (hw _ (List.mem_of_getElem? (i := 24) rfl))) (Or.inl (hw _ (List.mem_of_getElem? (i := 22) rfl))) (by decide) (t := .int) (t' := .long) (by decide) (by decide)))
  have F19 := F14.other W15 (Or.inr (slot_ne (Or.inl (hw _ (List.mem_of_getElem? (i := 20) rfl))) (Or.inl (hw _ (List.mem_of_getElem? (i := 22) rfl))) (by decide) (t := .long) (t' := .long) (by decide) (by decide)))
  have F20 := Fw9.other W15 (Or.inr (slot_ne (Or.inl (hw _ (List.mem_of_getElem? (i := 18) rfl))) (Or.inl (hw _ (List.mem_of_getElem? (i := 22) rfl))) (by decide) (t := .long) (t' := .long) (by decide) (by decide)))
  have K15 := K9.wr W15 (Or.inl (List.mem_of_getElem? (i := 0) rfl))
  have N15 := Fr.snoc X15 N9 g_a0
  have Z15 := Nat.le_trans Z9 (Nat.le_of_eq W15.size.symm)
  refine Goes.step (fun t k => st15 t k) ?_
  show Goes _ _ _ _ _ _ _ (T15.setTop (mkF m 21 #[.val (.ref a0), .val (.long q1), .second] []))
  refine Goes.step (fun t k => XS.aloadN X15.here hx rfl (hb hby own_d3_21) rfl rfl k) ?_
  show Goes _ _ _ _ _ _ _ (T15.setTop (mkF m 22 #[.val (.ref a0), .val (.long q1), .second] [(.ref a0)]))
  refine Goes.step (fun t k => XS.dup X15.here hx rfl (hb hby own_d3_22) rfl rfl k) ?_
  show Goes _ _ _ _ _ _ _ (T15.setTop (mkF m 23 #[.val (.ref a0), .val (.long q1), .second] [(.ref a0), (.ref a0)]))
  obtain ⟨T21, X21, e21, st21⟩ := getF X15 hx hZ hown (host := "") (Or.inl (hw _ (List.mem_of_getElem? (i := 23) rfl))) Via.refl e15 F18 (g := (mkF m 23 #[.val (.ref a0), .val (.long q1), .second] [(.ref a0), (.ref a0)])) rfl rfl (hb hby own_d3_23)
  refine Goes.step (fun t k => st21 t k) ?_
  show Goes _ _ _ _ _ _ _ (T21.setTop (mkF m 26 #[.val (.ref a0), .val (.long q1), .second] [(.int wS), (.ref a0)]))
  refine Goes.step (fun t k => XS.iconst X21.here hx rfl (hb hby own_d3_26) k) ?_
  show Goes _ _ _ _ _ _ _ (T21.setTop (mkF m 27 #[.val (.ref a0), .val (.long q1), .second] [(.int (1 : Int32)), (.int wS), (.ref a0)]))
  refine Goes.step (fun t k => XS.iadd X21.here hx rfl (hb hby own_d3_27) rfl k) ?_
  show Goes _ _ _ _ _ _ _ (T21.setTop (mkF m 28 #[.val (.ref a0), .val (.long q1), .second] [(.int (wS + (1 : Int32))), (.ref a0)]))
  obtain ⟨T22, h22, X22, e22, W22, st22⟩ := putF X21 hx hZ hown (host := "") (Or.inl (hw _ (List.mem_of_getElem? (i := 23) rfl))) Via.refl e21 F18 F16 (Or.inl (hw _ (List.mem_of_getElem? (i := 24) rfl))) (hw _ (List.mem_of_getElem? (i := 2) rfl)) (ty := .int) (by decide) rfl rfl (g := (mkF m 28 #[.val (.ref a0), .val (.long q1), .second] [(.int (wS + (1 : Int32))), (.ref a0)])) rfl rfl (hb hby own_d3_28)
  have Fw22 := F18.same W22
  have F23 := F16.wr W22
  have F24 := F17.other W22 (Or.inr (slot_ne (Or.inr (hw _ (List.mem_of_getElem? (i := 11) rfl))) (Or.inl (hw _ (List.mem_of_getElem? (i := 24) rfl))) (by decide) (t := .int) (t' := .int) (by decide) (by decide)))
  have F25 := F19.other W22 (Or.inr (slot_ne (Or.inl (hw _ (List.mem_of_getElem? (i := 20) rfl))) (Or.inl (hw _ (List.mem_of_getElem? (i := 24) rfl))) (by decide) (t := .long) (t' := .int) (by decide) (by decide)))
  have F26 := F20.other W22 (Or.inr (slot_ne (Or.inl (hw _ (List.mem_of_getElem? (i := 18) rfl))) (Or.inl (hw _ (List.mem_of_getElem? (i := 24) rfl))) (by decide) (t := .long) (t' := .int) (by decide) (by decide)))
  have F27 := Fw15.other W22 (Or.inr (slot_ne (Or.inl (hw _ (List.mem_of_getElem? (i := 22) rfl))) (Or.inl (hw _ (List.mem_of_getElem? (i := 24) rfl))) (by decide) (t := .long) (t' := .int) (by decide) (by decide)))
  have K22 := K15.wr W22 (Or.inl (List.mem_of_getElem? (i := 0) rfl))
  have N22 := Fr.snoc X22 N15 g_a0
  have Z22 := Nat.le_trans Z15 (Nat.le_of_eq W22.size.symm)
  refine Goes.step (fun t k => st22 t k) ?_
  show Goes _ _ _ _ _ _ _ (T22.setTop (mkF m 31 #[.val (.ref a0), .val (.long q1), .second] []))
  exact Goes.retV X22 hx Bd.notSynchronized Bd.returns (hb hby own_d3_31) (by rw [e22]; exact ⟨rfl, N22, K22, F23, F27, F24, F26, Fw22, F25⟩) (by decide) (by decide)
def f4 (wL : Int64) (wM : Int32) (wO : Int64) (wS : Int32) (wT : Int64) : UInt64 := (if wS < (2 : Int32) then (0 : UInt64) else (if wS = (2 : Int32) then (FP.dmul (FP.l2d wO) (FP.i2d wM)) else (FP.dmul (FP.l2d wO) (Native.java_lang_Math.nans.pick64 false (FP.i2d wM) (FP.ddiv (FP.l2d wL) (FP.l2d (f5 (1 : Int64) wT)))))))
theorem own_d4_0 : decode prog_51_method_3_code 0 = .ok (.aload_n 0, 1) := by decide +kernel
theorem own_d4_1 : decode prog_51_method_3_code 1 = .ok (.getfield 23, 3) := by decide +kernel
theorem own_d4_4 : decode prog_51_method_3_code 4 = .ok (.iconst 2, 1) := by decide +kernel
theorem own_d4_5 : decode prog_51_method_3_code 5 = .ok (.if_icmp .ge 8, 3) := by decide +kernel
theorem own_d4_8 : decode prog_51_method_3_code 8 = .ok (.dconst 0, 1) := by decide +kernel
theorem own_d4_9 : decode prog_51_method_3_code 9 = .ok (.dstore_n 1, 1) := by decide +kernel
theorem own_d4_10 : decode prog_51_method_3_code 10 = .ok (.goto 58, 3) := by decide +kernel
theorem own_d4_13 : decode prog_51_method_3_code 13 = .ok (.aload_n 0, 1) := by decide +kernel
theorem own_d4_14 : decode prog_51_method_3_code 14 = .ok (.getfield 23, 3) := by decide +kernel
theorem own_d4_17 : decode prog_51_method_3_code 17 = .ok (.iconst 2, 1) := by decide +kernel
theorem own_d4_18 : decode prog_51_method_3_code 18 = .ok (.if_icmp .ne 18, 3) := by decide +kernel
theorem own_d4_21 : decode prog_51_method_3_code 21 = .ok (.aload_n 0, 1) := by decide +kernel
theorem own_d4_22 : decode prog_51_method_3_code 22 = .ok (.getfield 13, 3) := by decide +kernel
theorem own_d4_25 : decode prog_51_method_3_code 25 = .ok (.l2d, 1) := by decide +kernel
theorem own_d4_26 : decode prog_51_method_3_code 26 = .ok (.aload_n 0, 1) := by decide +kernel
theorem own_d4_27 : decode prog_51_method_3_code 27 = .ok (.getfield 7, 3) := by decide +kernel
theorem own_d4_30 : decode prog_51_method_3_code 30 = .ok (.i2d, 1) := by decide +kernel
theorem own_d4_31 : decode prog_51_method_3_code 31 = .ok (.dmul, 1) := by decide +kernel
theorem own_d4_32 : decode prog_51_method_3_code 32 = .ok (.dstore_n 1, 1) := by decide +kernel
theorem own_d4_33 : decode prog_51_method_3_code 33 = .ok (.goto 35, 3) := by decide +kernel
theorem own_d4_36 : decode prog_51_method_3_code 36 = .ok (.aload_n 0, 1) := by decide +kernel
theorem own_d4_37 : decode prog_51_method_3_code 37 = .ok (.getfield 20, 3) := by decide +kernel
theorem own_d4_40 : decode prog_51_method_3_code 40 = .ok (.l2d, 1) := by decide +kernel
theorem own_d4_41 : decode prog_51_method_3_code 41 = .ok (.lconst 1, 1) := by decide +kernel
theorem own_d4_42 : decode prog_51_method_3_code 42 = .ok (.aload_n 0, 1) := by decide +kernel
theorem own_d4_43 : decode prog_51_method_3_code 43 = .ok (.getfield 17, 3) := by decide +kernel
theorem own_d4_46 : decode prog_51_method_3_code 46 = .ok (.invokestatic 26, 3) := by decide +kernel
theorem own_d4_49 : decode prog_51_method_3_code 49 = .ok (.l2d, 1) := by decide +kernel
theorem own_d4_50 : decode prog_51_method_3_code 50 = .ok (.ddiv, 1) := by decide +kernel
theorem own_d4_51 : decode prog_51_method_3_code 51 = .ok (.dstore_n 3, 1) := by decide +kernel
theorem own_d4_52 : decode prog_51_method_3_code 52 = .ok (.aload_n 0, 1) := by decide +kernel
theorem own_d4_53 : decode prog_51_method_3_code 53 = .ok (.getfield 13, 3) := by decide +kernel
theorem own_d4_56 : decode prog_51_method_3_code 56 = .ok (.l2d, 1) := by decide +kernel
theorem own_d4_57 : decode prog_51_method_3_code 57 = .ok (.aload_n 0, 1) := by decide +kernel
theorem own_d4_58 : decode prog_51_method_3_code 58 = .ok (.getfield 7, 3) := by decide +kernel
theorem own_d4_61 : decode prog_51_method_3_code 61 = .ok (.i2d, 1) := by decide +kernel
theorem own_d4_62 : decode prog_51_method_3_code 62 = .ok (.dload_n 3, 1) := by decide +kernel
theorem own_d4_63 : decode prog_51_method_3_code 63 = .ok (.invokestatic 32, 3) := by decide +kernel
theorem own_d4_66 : decode prog_51_method_3_code 66 = .ok (.dmul, 1) := by decide +kernel
theorem own_d4_67 : decode prog_51_method_3_code 67 = .ok (.dstore_n 1, 1) := by decide +kernel
theorem own_d4_68 : decode prog_51_method_3_code 68 = .ok (.dload_n 1, 1) := by decide +kernel
theorem own_d4_69 : decode prog_51_method_3_code 69 = .ok (.dreturn, 1) := by decide +kernel
theorem own_ef4 (m : MethodId) (a0 : Addr) : entryFrame m #[(.ref a0)] 5 = mkF m 0 #[.val (.ref a0), .unset, .unset, .unset, .unset] [] := by first | (simp [entryFrame, mkF, argsToLocals, Value.category, maxLocals]; done) | rfl
abbrev RM4 : Room := ({ frames := 1, cells := 0, slots := 0, locals := 17 } : Room)
abbrev kC4 : Nat := 0
abbrev kS4 : Nat := 0
def Q4 (Z : State) (a0 : Addr) (wL : Int64) (wM : Int32) (wO : Int64) (wS : Int32) (wT : Int64) (h0 : Heap) (v : Option Value) (h : Heap) (L : List Loc) : Prop := v = some (.double (f4 wL wM wO wS wT)) ∧ L = [] ∧ h = h0
set_option maxRecDepth 65536 in
set_option maxHeartbeats 40000000 in
theorem rm4 (l : Launch) (Z : State) (tA : Array Value) (hw : ∀ d ∈ tables_1, d.before tA Z = true) (ws : List Jvm.Cond) (a0 : Addr) (wL : Int64) (wM : Int32) (wO : Int64) (wS : Int32) (wT : Int64) (h0 : Heap) (H0 : Fld Z h0 a0 "com/example/zugzwang/zugzwang/search/AlphaBetaEngine$Deepening" "last" "J" (.long wL)) (H1 : Fld Z h0 a0 "com/example/zugzwang/zugzwang/search/AlphaBetaEngine$Deepening" "moves" "I" (.int wM)) (H2 : Fld Z h0 a0 "com/example/zugzwang/zugzwang/search/AlphaBetaEngine$Deepening" "oneBefore" "J" (.long wO)) (H3 : Fld Z h0 a0 "com/example/zugzwang/zugzwang/search/AlphaBetaEngine$Deepening" "searches" "I" (.int wS)) (H4 : Fld Z h0 a0 "com/example/zugzwang/zugzwang/search/AlphaBetaEngine$Deepening" "twoBefore" "J" (.long wT)) :
    MetFree l (⟨"com/example/zugzwang/zugzwang/search/AlphaBetaEngine$Deepening", "nextNanos", "()D"⟩ : MethodName) (head1 (Jvm.Cond.code (⟨"com/example/zugzwang/zugzwang/search/AlphaBetaEngine$Deepening", "nextNanos", "()D"⟩ : MethodName) prog_51_method_3_code 5 (some .double) :: ws) RM4) (fun a U => a = #[(.ref a0)] ∧ Z.Warmed39 U.vm ∧ U.heap = h0) (fun _ _ _ _ _ => True) (fun _ U o U' => ∃ v L, o = .returned v ∧ Q4 Z a0 wL wM wO wS wT h0 v U'.heap L ∧ FrameEnd U o U' L RM4.cells RM4.slots) := by
  refine MetFree.of_bodySF (plainFor_of_name own_pn0) hisR ?_
  intro p e s m args below meth c s₁ Bd hml0 hP hK
  obtain ⟨rfl, hZ, hh⟩ := hP
  have hx := Bd.exec
  have hby := Bd.bytes
  have hml : c.maxLocals = 5 := hml0
  have hown : s.vm.findClass "com/example/zugzwang/zugzwang/search/AlphaBetaEngine$Deepening" = some m.cls := findClass_of_methodNamed Bd.named
  have hnm := (name_of_methodNamed Bd.named Bd.method).1
  have X0 : Stand p l e RM4 s m #[(.ref a0)] below meth c s₁ [] 0 0 := Stand.of_body Bd
  have e0 : s₁.heap = h0 := by rw [← hh, Bd.state]; rfl
  show Goes p e below s (Q4 Z a0 wL wM wO wS wT h0) kC4 kS4 (s₁.setTop (entryFrame m #[(.ref a0)] 5))
  refine Goes.step (fun t k => castTop (own_ef4 m a0) k) ?_
  show Goes _ _ _ _ _ _ _ (s₁.setTop (mkF m 0 #[.val (.ref a0), .unset, .unset, .unset, .unset] []))
  refine Goes.step (fun t k => XS.aloadN X0.here hx rfl (hb hby own_d4_0) rfl rfl k) ?_
  show Goes _ _ _ _ _ _ _ (s₁.setTop (mkF m 1 #[.val (.ref a0), .unset, .unset, .unset, .unset] [(.ref a0)]))
  obtain ⟨T1, X1, e1, st1⟩ := getF X0 hx hZ hown (host := "") (Or.inl (hw _ (List.mem_of_getElem? (i := 23) rfl))) Via.refl e0 H3 (g := (mkF m 1 #[.val (.ref a0), .unset, .unset, .unset, .unset] [(.ref a0)])) rfl rfl (hb hby own_d4_1)
  refine Goes.step (fun t k => st1 t k) ?_
  show Goes _ _ _ _ _ _ _ (T1.setTop (mkF m 4 #[.val (.ref a0), .unset, .unset, .unset, .unset] [(.int wS)]))
  refine Goes.step (fun t k => XS.iconst X1.here hx rfl (hb hby own_d4_4) k) ?_
  show Goes _ _ _ _ _ _ _ (T1.setTop (mkF m 5 #[.val (.ref a0), .unset, .unset, .unset, .unset] [(.int (2 : Int32)), (.int wS)]))
  by_cases hc5_2 : wS < (2 : Int32)
  · refine Goes.step (fun t k => XS.icmpNo X1.here hx rfl (hb hby own_d4_5) rfl (tlt hc5_2).2.1 k) ?_
    show Goes _ _ _ _ _ _ _ (T1.setTop (mkF m 8 #[.val (.ref a0), .unset, .unset, .unset, .unset] []))
    refine Goes.step (fun t k => XS.dconst0 X1.here hx rfl (hb hby own_d4_8) (v := (0 : UInt64)) (by decide) k) ?_
    show Goes _ _ _ _ _ _ _ (T1.setTop (mkF m 9 #[.val (.ref a0), .unset, .unset, .unset, .unset] [(.double (0 : UInt64))]))
    refine Goes.step (fun t k => XS.dstoreN X1.here hx rfl (hb hby own_d4_9) rfl (l' := #[.val (.ref a0), .val (.double (0 : UInt64)), .second, .unset, .unset]) rfl k) ?_
    show Goes _ _ _ _ _ _ _ (T1.setTop (mkF m 10 #[.val (.ref a0), .val (.double (0 : UInt64)), .second, .unset, .unset] []))
    refine Goes.step (fun t k => XS.goto X1.here hx rfl (pc0 := 10) (pc' := 68) rfl (hb hby own_d4_10) (by decide) (by decide) k) ?_
    show Goes _ _ _ _ _ _ _ (T1.setTop (mkF m 68 #[.val (.ref a0), .val (.double (0 : UInt64)), .second, .unset, .unset] []))
    refine Goes.step (fun t k => XS.dloadN X1.here hx rfl (hb hby own_d4_68) rfl k) ?_
    show Goes _ _ _ _ _ _ _ (T1.setTop (mkF m 69 #[.val (.ref a0), .val (.double (0 : UInt64)), .second, .unset, .unset] [(.double (0 : UInt64))]))
    exact Goes.retD X1 hx Bd.notSynchronized (r := (f4 wL wM wO wS wT)) Bd.returns (hb hby own_d4_69) ((if_pos hc5_2).symm) ⟨rfl, rfl, e1⟩ (by decide) (by decide)
  · refine Goes.step (fun t k => XS.icmpYes X1.here hx rfl (pc0 := 5) (pc' := 13) rfl (hb hby own_d4_5) rfl (flt hc5_2).2.1 (by decide) (by decide) k) ?_
    show Goes _ _ _ _ _ _ _ (T1.setTop (mkF m 13 #[.val (.ref a0), .unset, .unset, .unset, .unset] []))
    refine Goes.step (fun t k => XS.aloadN X1.here hx rfl (hb hby own_d4_13) rfl rfl k) ?_
    show Goes _ _ _ _ _ _ _ (T1.setTop (mkF m 14 #[.val (.ref a0), .unset, .unset, .unset, .unset] [(.ref a0)]))
    obtain ⟨T3, X3, e3, st3⟩ := getF X1 hx hZ hown (host := "") (Or.inl (hw _ (List.mem_of_getElem? (i := 23) rfl))) Via.refl e1 H3 (g := (mkF m 14 #[.val (.ref a0), .unset, .unset, .unset, .unset] [(.ref a0)])) rfl rfl (hb hby own_d4_14)
    refine Goes.step (fun t k => st3 t k) ?_
    show Goes _ _ _ _ _ _ _ (T3.setTop (mkF m 17 #[.val (.ref a0), .unset, .unset, .unset, .unset] [(.int wS)]))
    refine Goes.step (fun t k => XS.iconst X3.here hx rfl (hb hby own_d4_17) k) ?_
    show Goes _ _ _ _ _ _ _ (T3.setTop (mkF m 18 #[.val (.ref a0), .unset, .unset, .unset, .unset] [(.int (2 : Int32)), (.int wS)]))
    by_cases hc18_4 : wS = (2 : Int32)
    · refine Goes.step (fun t k => XS.icmpNo X3.here hx rfl (hb hby own_d4_18) rfl (teq hc18_4).2 k) ?_
      show Goes _ _ _ _ _ _ _ (T3.setTop (mkF m 21 #[.val (.ref a0), .unset, .unset, .unset, .unset] []))
      refine Goes.step (fun t k => XS.aloadN X3.here hx rfl (hb hby own_d4_21) rfl rfl k) ?_
      show Goes _ _ _ _ _ _ _ (T3.setTop (mkF m 22 #[.val (.ref a0), .unset, .unset, .unset, .unset] [(.ref a0)]))
      obtain ⟨T5, X5, e5, st5⟩ := getF X3 hx hZ hown (host := "") (Or.inl (hw _ (List.mem_of_getElem? (i := 17) rfl))) Via.refl e3 H2 (g := (mkF m 22 #[.val (.ref a0), .unset, .unset, .unset, .unset] [(.ref a0)])) rfl rfl (hb hby own_d4_22)
      refine Goes.step (fun t k => st5 t k) ?_
      show Goes _ _ _ _ _ _ _ (T5.setTop (mkF m 25 #[.val (.ref a0), .unset, .unset, .unset, .unset] [(.long wO)]))
      refine Goes.step (fun t k => XS.l2dS X5.here hx rfl (hb hby own_d4_25) rfl rfl k) ?_
      show Goes _ _ _ _ _ _ _ (T5.setTop (mkF m 26 #[.val (.ref a0), .unset, .unset, .unset, .unset] [(.double (FP.l2d wO))]))
      refine Goes.step (fun t k => XS.aloadN X5.here hx rfl (hb hby own_d4_26) rfl rfl k) ?_
      show Goes _ _ _ _ _ _ _ (T5.setTop (mkF m 27 #[.val (.ref a0), .unset, .unset, .unset, .unset] [(.ref a0), (.double (FP.l2d wO))]))
      obtain ⟨T6, X6, e6, st6⟩ := getF X5 hx hZ hown (host := "") (Or.inl (hw _ (List.mem_of_getElem? (i := 10) rfl))) Via.refl e5 H1 (g := (mkF m 27 #[.val (.ref a0), .unset, .unset, .unset, .unset] [(.ref a0), (.double (FP.l2d wO))])) rfl rfl (hb hby own_d4_27)
      refine Goes.step (fun t k => st6 t k) ?_
      show Goes _ _ _ _ _ _ _ (T6.setTop (mkF m 30 #[.val (.ref a0), .unset, .unset, .unset, .unset] [(.int wM), (.double (FP.l2d wO))]))
      refine Goes.step (fun t k => XS.i2dS X6.here hx rfl (hb hby own_d4_30) rfl rfl k) ?_
      show Goes _ _ _ _ _ _ _ (T6.setTop (mkF m 31 #[.val (.ref a0), .unset, .unset, .unset, .unset] [(.double (FP.i2d wM)), (.double (FP.l2d wO))]))
      have hnan7 : Jvm.Free.Fl.NoNaN64 (FP.dmul (FP.l2d wO) (FP.i2d wM)) := by exact own_fin (own_md _ _) (by decide)
      refine Goes.step (fun t k => XS.dmulS X6.here hx rfl (hb hby own_d4_31) rfl hnan7 rfl k) ?_
      show Goes _ _ _ _ _ _ _ (T6.setTop (mkF m 32 #[.val (.ref a0), .unset, .unset, .unset, .unset] [(.double (FP.dmul (FP.l2d wO) (FP.i2d wM)))]))
      refine Goes.step (fun t k => XS.dstoreN X6.here hx rfl (hb hby own_d4_32) rfl (l' := #[.val (.ref a0), .val (.double (FP.dmul (FP.l2d wO) (FP.i2d wM))), .second, .unset, .unset]) rfl k) ?_
      show Goes _ _ _ _ _ _ _ (T6.setTop (mkF m 33 #[.val (.ref a0), .val (.double (FP.dmul (FP.l2d wO) (FP.i2d wM))), .second, .unset, .unset] []))
      generalize hy8 : (FP.dmul (FP.l2d wO) (FP.i2d wM)) = y8
      refine Goes.step (fun t k => XS.goto X6.here hx rfl (pc0 := 33) (pc' := 68) rfl (hb hby own_d4_33) (by decide) (by decide) k) ?_
      show Goes _ _ _ _ _ _ _ (T6.setTop (mkF m 68 #[.val (.ref a0), .val (.double y8), .second, .unset, .unset] []))
      refine Goes.step (fun t k => XS.dloadN X6.here hx rfl (hb hby own_d4_68) rfl k) ?_
      show Goes _ _ _ _ _ _ _ (T6.setTop (mkF m 69 #[.val (.ref a0), .val (.double y8), .second, .unset, .unset] [(.double y8)]))
      subst hy8
      exact Goes.retD X6 hx Bd.notSynchronized (r := (f4 wL wM wO wS wT)) Bd.returns (hb hby own_d4_69) (((if_neg hc5_2).trans (if_pos hc18_4)).symm) ⟨rfl, rfl, e6⟩ (by decide) (by decide)
    · refine Goes.step (fun t k => XS.icmpYes X3.here hx rfl (pc0 := 18) (pc' := 36) rfl (hb hby own_d4_18) rfl (feq hc18_4).2 (by decide) (by decide) k) ?_
      show Goes _ _ _ _ _ _ _ (T3.setTop (mkF m 36 #[.val (.ref a0), .unset, .unset, .unset, .unset] []))
      refine Goes.step (fun t k => XS.aloadN X3.here hx rfl (hb hby own_d4_36) rfl rfl k) ?_
      show Goes _ _ _ _ _ _ _ (T3.setTop (mkF m 37 #[.val (.ref a0), .unset, .unset, .unset, .unset] [(.ref a0)]))
      obtain ⟨T9, X9, e9, st9⟩ := getF X3 hx hZ hown (host := "") (Or.inl (hw _ (List.mem_of_getElem? (i := 21) rfl))) Via.refl e3 H0 (g := (mkF m 37 #[.val (.ref a0), .unset, .unset, .unset, .unset] [(.ref a0)])) rfl rfl (hb hby own_d4_37)
      refine Goes.step (fun t k => st9 t k) ?_
      show Goes _ _ _ _ _ _ _ (T9.setTop (mkF m 40 #[.val (.ref a0), .unset, .unset, .unset, .unset] [(.long wL)]))
      refine Goes.step (fun t k => XS.l2dS X9.here hx rfl (hb hby own_d4_40) rfl rfl k) ?_
      show Goes _ _ _ _ _ _ _ (T9.setTop (mkF m 41 #[.val (.ref a0), .unset, .unset, .unset, .unset] [(.double (FP.l2d wL))]))
      refine Goes.step (fun t k => XS.lconst X9.here hx rfl (hb hby own_d4_41) k) ?_
      show Goes _ _ _ _ _ _ _ (T9.setTop (mkF m 42 #[.val (.ref a0), .unset, .unset, .unset, .unset] [(.long (1 : Int64)), (.double (FP.l2d wL))]))
      refine Goes.step (fun t k => XS.aloadN X9.here hx rfl (hb hby own_d4_42) rfl rfl k) ?_
      show Goes _ _ _ _ _ _ _ (T9.setTop (mkF m 43 #[.val (.ref a0), .unset, .unset, .unset, .unset] [(.ref a0), (.long (1 : Int64)), (.double (FP.l2d wL))]))
      obtain ⟨T10, X10, e10, st10⟩ := getF X9 hx hZ hown (host := "") (Or.inl (hw _ (List.mem_of_getElem? (i := 19) rfl))) Via.refl e9 H4 (g := (mkF m 43 #[.val (.ref a0), .unset, .unset, .unset, .unset] [(.ref a0), (.long (1 : Int64)), (.double (FP.l2d wL))])) rfl rfl (hb hby own_d4_43)
      refine Goes.step (fun t k => st10 t k) ?_
      show Goes _ _ _ _ _ _ _ (T10.setTop (mkF m 46 #[.val (.ref a0), .unset, .unset, .unset, .unset] [(.long wT), (.long (1 : Int64)), (.double (FP.l2d wL))]))
      obtain ⟨_, _, ⟨T11, L11, k11, n11⟩, -, X11, ⟨Lc11, hQ11, l11, y11, z11⟩, st11⟩ := Jvm.LawKit.callS X10 hx (y := (⟨"java/lang/Math", "max", "(JJ)J"⟩ : MethodName)) hown (mvT hZ (hw _ (List.mem_of_getElem? (i := 30) rfl))) (mvT hZ (hw _ (List.mem_of_getElem? (i := 31) rfl))) (mvT hZ (hw _ (List.mem_of_getElem? (i := 32) rfl))) (mvT hZ (hw _ (List.mem_of_getElem? (i := 33) rfl))) (by decide) (backOf (W := 2) (rm5 l Z tA hw [] (1 : Int64) wT h0) hZ (hw _ (List.mem_of_getElem? (i := 33) rfl)) (hw _ (List.mem_of_getElem? (i := 32) rfl)) (by decide) (by decide)) (g := (mkF m 46 #[.val (.ref a0), .unset, .unset, .unset, .unset] [(.long wT), (.long (1 : Int64)), (.double (FP.l2d wL))])) rfl (by rw [hml]; rfl) (argsL := [(.long (1 : Int64)), (.long wT)]) (rest := [(.double (FP.l2d wL))]) (lenOf own_pd0 rfl) rfl (by show 2 * 0 + _ ≤ _; exact Nat.le_of_eq rfl) (hb hby own_d4_46) (fun _ _ => ⟨rfl, e10, (by decide : 0 + 0 ≤ _), (by decide : 0 + 0 ≤ _)⟩)
      dsimp only [Pt.U, Pt.locs, Pt.cells, Pt.slots] at X11 l11 y11 z11 st11 hQ11
      rw [l11, y11, z11] at X11
      obtain ⟨rfl, rfl, e11⟩ := hQ11
      try rw [List.append_nil] at X11
      change Stand _ _ _ _ _ _ _ _ _ _ _ _ 0 0 at X11
      refine Goes.step (fun t k => st11 t k) ?_
      show Goes _ _ _ _ _ _ _ (T11.setTop (mkF m 49 #[.val (.ref a0), .unset, .unset, .unset, .unset] [(.long (f5 (1 : Int64) wT)), (.double (FP.l2d wL))]))
      refine Goes.step (fun t k => XS.l2dS X11.here hx rfl (hb hby own_d4_49) rfl rfl k) ?_
      show Goes _ _ _ _ _ _ _ (T11.setTop (mkF m 50 #[.val (.ref a0), .unset, .unset, .unset, .unset] [(.double (FP.l2d (f5 (1 : Int64) wT))), (.double (FP.l2d wL))]))
      have hnan12 : Jvm.Free.Fl.NoNaN64 (FP.ddiv (FP.l2d wL) (FP.l2d (f5 (1 : Int64) wT))) := by exact own_fin (own_dv _ _ (own_max _)) (by decide)
      refine Goes.step (fun t k => XS.ddivS X11.here hx rfl (hb hby own_d4_50) rfl hnan12 rfl k) ?_
      show Goes _ _ _ _ _ _ _ (T11.setTop (mkF m 51 #[.val (.ref a0), .unset, .unset, .unset, .unset] [(.double (FP.ddiv (FP.l2d wL) (FP.l2d (f5 (1 : Int64) wT))))]))
      refine Goes.step (fun t k => XS.dstoreN X11.here hx rfl (hb hby own_d4_51) rfl (l' := #[.val (.ref a0), .unset, .unset, .val (.double (FP.ddiv (FP.l2d wL) (FP.l2d (f5 (1 : Int64) wT)))), .second]) rfl k) ?_
      show Goes _ _ _ _ _ _ _ (T11.setTop (mkF m 52 #[.val (.ref a0), .unset, .unset, .val (.double (FP.ddiv (FP.l2d wL) (FP.l2d (f5 (1 : Int64) wT)))), .second] []))
      generalize hy13 : (FP.ddiv (FP.l2d wL) (FP.l2d (f5 (1 : Int64) wT))) = y13
      refine Goes.step (fun t k => XS.aloadN X11.here hx rfl (hb hby own_d4_52) rfl rfl k) ?_
      show Goes _ _ _ _ _ _ _ (T11.setTop (mkF m 53 #[.val (.ref a0), .unset, .unset, .val (.double y13), .second] [(.ref a0)]))
      obtain ⟨T14, X14, e14, st14⟩ := getF X11 hx hZ hown (host := "") (Or.inl (hw _ (List.mem_of_getElem? (i := 17) rfl))) Via.refl e11 H2 (g := (mkF m 53 #[.val (.ref a0), .unset, .unset, .val (.double y13), .second] [(.ref a0)])) rfl rfl (hb hby own_d4_53)
      refine Goes.step (fun t k => st14 t k) ?_
      show Goes _ _ _ _ _ _ _ (T14.setTop (mkF m 56 #[.val (.ref a0), .unset, .unset, .val (.double y13), .second] [(.long wO)]))
      refine Goes.step (fun t k => XS.l2dS X14.here hx rfl (hb hby own_d4_56) rfl rfl k) ?_
      show Goes _ _ _ _ _ _ _ (T14.setTop (mkF m 57 #[.val (.ref a0), .unset, .unset, .val (.double y13), .second] [(.double (FP.l2d wO))]))
      refine Goes.step (fun t k => XS.aloadN X14.here hx rfl (hb hby own_d4_57) rfl rfl k) ?_
      show Goes _ _ _ _ _ _ _ (T14.setTop (mkF m 58 #[.val (.ref a0), .unset, .unset, .val (.double y13), .second] [(.ref a0), (.double (FP.l2d wO))]))
      obtain ⟨T15, X15, e15, st15⟩ := getF X14 hx hZ hown (host := "") (Or.inl (hw _ (List.mem_of_getElem? (i := 10) rfl))) Via.refl e14 H1 (g := (mkF m 58 #[.val (.ref a0), .unset, .unset, .val (.double y13), .second] [(.ref a0), (.double (FP.l2d wO))])) rfl rfl (hb hby own_d4_58)
      refine Goes.step (fun t k => st15 t k) ?_
      show Goes _ _ _ _ _ _ _ (T15.setTop (mkF m 61 #[.val (.ref a0), .unset, .unset, .val (.double y13), .second] [(.int wM), (.double (FP.l2d wO))]))
      refine Goes.step (fun t k => XS.i2dS X15.here hx rfl (hb hby own_d4_61) rfl rfl k) ?_
      show Goes _ _ _ _ _ _ _ (T15.setTop (mkF m 62 #[.val (.ref a0), .unset, .unset, .val (.double y13), .second] [(.double (FP.i2d wM)), (.double (FP.l2d wO))]))
      refine Goes.step (fun t k => XS.dloadN X15.here hx rfl (hb hby own_d4_62) rfl k) ?_
      show Goes _ _ _ _ _ _ _ (T15.setTop (mkF m 63 #[.val (.ref a0), .unset, .unset, .val (.double y13), .second] [(.double y13), (.double (FP.i2d wM)), (.double (FP.l2d wO))]))
      obtain ⟨T16, X16, e16, st16⟩ := natS X15 hx hZ (y := (⟨"java/lang/Math", "min", "(DD)D"⟩ : MethodName)) hown (hw _ (List.mem_of_getElem? (i := 34) rfl)) (hw _ (List.mem_of_getElem? (i := 35) rfl)) (hw _ (List.mem_of_getElem? (i := 32) rfl)) (hw _ (List.mem_of_getElem? (i := 36) rfl)) (by decide) e15 (W := 2) (val := (.double (Native.java_lang_Math.nans.pick64 false (FP.i2d wM) y13))) (val' := (.double (Native.java_lang_Math.nans.pick64 false (FP.i2d wM) y13))) (fun c4 => Jvm.Free.Fl.Abs.minD_pays (FP.i2d wM) y13 c4 (by decide) (by decide)) (g := (mkF m 63 #[.val (.ref a0), .unset, .unset, .val (.double y13), .second] [(.double y13), (.double (FP.i2d wM)), (.double (FP.l2d wO))])) rfl (by rw [hml]; rfl) (argsL := [(.double (FP.i2d wM)), (.double y13)]) (rest := [(.double (FP.l2d wO))]) (lenOf own_pd1 rfl) rfl (by show 2 * 0 + _ ≤ _; exact Nat.le_of_eq rfl) (hb hby own_d4_63) (by decide) (by decide) ⟨rfl, own_fin (Jvm.Free.Fl.i2d_mag _) (by decide), (by subst hy13; exact own_fin (own_dv _ _ (own_max _)) (by decide))⟩ rfl
      refine Goes.step (fun t k => st16 t k) ?_
      show Goes _ _ _ _ _ _ _ (T16.setTop (mkF m 66 #[.val (.ref a0), .unset, .unset, .val (.double y13), .second] [(.double (Native.java_lang_Math.nans.pick64 false (FP.i2d wM) y13)), (.double (FP.l2d wO))]))
      have hnan17 : Jvm.Free.Fl.NoNaN64 (FP.dmul (FP.l2d wO) (Native.java_lang_Math.nans.pick64 false (FP.i2d wM) y13)) := by subst hy13; exact own_fin (own_mp (K := 0) _ (own_pk ((Jvm.Free.Fl.i2d_mag _).mono (by decide)) (own_dv _ _ (own_max _)))) (by decide)
      refine Goes.step (fun t k => XS.dmulS X16.here hx rfl (hb hby own_d4_66) rfl hnan17 rfl k) ?_
      show Goes _ _ _ _ _ _ _ (T16.setTop (mkF m 67 #[.val (.ref a0), .unset, .unset, .val (.double y13), .second] [(.double (FP.dmul (FP.l2d wO) (Native.java_lang_Math.nans.pick64 false (FP.i2d wM) y13)))]))
      refine Goes.step (fun t k => XS.dstoreN X16.here hx rfl (hb hby own_d4_67) rfl (l' := #[.val (.ref a0), .val (.double (FP.dmul (FP.l2d wO) (Native.java_lang_Math.nans.pick64 false (FP.i2d wM) y13))), .second, .val (.double y13), .second]) rfl k) ?_
      show Goes _ _ _ _ _ _ _ (T16.setTop (mkF m 68 #[.val (.ref a0), .val (.double (FP.dmul (FP.l2d wO) (Native.java_lang_Math.nans.pick64 false (FP.i2d wM) y13))), .second, .val (.double y13), .second] []))
      generalize hy18 : (FP.dmul (FP.l2d wO) (Native.java_lang_Math.nans.pick64 false (FP.i2d wM) y13)) = y18
      refine Goes.step (fun t k => XS.dloadN X16.here hx rfl (hb hby own_d4_68) rfl k) ?_
      show Goes _ _ _ _ _ _ _ (T16.setTop (mkF m 69 #[.val (.ref a0), .val (.double y18), .second, .val (.double y13), .second] [(.double y18)]))
      subst hy18
      subst hy13
      exact Goes.retD X16 hx Bd.notSynchronized (r := (f4 wL wM wO wS wT)) Bd.returns (hb hby own_d4_69) (((if_neg hc5_2).trans (if_neg hc18_4)).symm) ⟨rfl, rfl, e16⟩ (by decide) (by decide)
def f7 (p0 : Int32) (q1 : Int64) (q2 : Int64) (q3 : Int64) : UInt64 := (FP.dmul (FP.l2d q2) (if (cmpValue (FP.dcmp (FP.i2d p0) (FP.ddiv (FP.l2d q1) (FP.l2d (f5 (1 : Int64) q3)))) .g) < (0 : Int32) then (FP.i2d p0) else (FP.ddiv (FP.l2d q1) (FP.l2d (f5 (1 : Int64) q3)))))
theorem own_d7_0 : decode method_3_code 0 = .ok (.lload_n 1, 1) := by decide +kernel
theorem own_d7_1 : decode method_3_code 1 = .ok (.l2d, 1) := by decide +kernel
theorem own_d7_2 : decode method_3_code 2 = .ok (.lconst 1, 1) := by decide +kernel
theorem own_d7_3 : decode method_3_code 3 = .ok (.lload 5, 2) := by decide +kernel
theorem own_d7_5 : decode method_3_code 5 = .ok (.invokestatic 27, 3) := by decide +kernel
theorem own_d7_8 : decode method_3_code 8 = .ok (.l2d, 1) := by decide +kernel
theorem own_d7_9 : decode method_3_code 9 = .ok (.ddiv, 1) := by decide +kernel
theorem own_d7_10 : decode method_3_code 10 = .ok (.dstore 7, 2) := by decide +kernel
theorem own_d7_12 : decode method_3_code 12 = .ok (.iload_n 0, 1) := by decide +kernel
theorem own_d7_13 : decode method_3_code 13 = .ok (.i2d, 1) := by decide +kernel
theorem own_d7_14 : decode method_3_code 14 = .ok (.dstore 9, 2) := by decide +kernel
theorem own_d7_16 : decode method_3_code 16 = .ok (.dload 9, 2) := by decide +kernel
theorem own_d7_18 : decode method_3_code 18 = .ok (.dload 7, 2) := by decide +kernel
theorem own_d7_20 : decode method_3_code 20 = .ok (.dcmp .g, 1) := by decide +kernel
theorem own_d7_21 : decode method_3_code 21 = .ok (.ifCond .ge 8, 3) := by decide +kernel
theorem own_d7_24 : decode method_3_code 24 = .ok (.dload 9, 2) := by decide +kernel
theorem own_d7_26 : decode method_3_code 26 = .ok (.goto 5, 3) := by decide +kernel
theorem own_d7_29 : decode method_3_code 29 = .ok (.dload 7, 2) := by decide +kernel
theorem own_d7_31 : decode method_3_code 31 = .ok (.dstore 11, 2) := by decide +kernel
theorem own_d7_33 : decode method_3_code 33 = .ok (.lload_n 3, 1) := by decide +kernel
theorem own_d7_34 : decode method_3_code 34 = .ok (.l2d, 1) := by decide +kernel
theorem own_d7_35 : decode method_3_code 35 = .ok (.dload 11, 2) := by decide +kernel
theorem own_d7_37 : decode method_3_code 37 = .ok (.dmul, 1) := by decide +kernel
theorem own_d7_38 : decode method_3_code 38 = .ok (.dreturn, 1) := by decide +kernel
theorem own_ef7 (m : MethodId) (p0 : Int32) (q1 : Int64) (q2 : Int64) (q3 : Int64) : entryFrame m #[(.int p0), (.long q1), (.long q2), (.long q3)] 13 = mkF m 0 #[.val (.int p0), .val (.long q1), .second, .val (.long q2), .second, .val (.long q3), .second, .unset, .unset, .unset, .unset, .unset, .unset] [] := by first | (simp [entryFrame, mkF, argsToLocals, Value.category, maxLocals]; done) | rfl
abbrev RM7 : Room := ({ frames := 1, cells := 0, slots := 0, locals := 17 } : Room)
abbrev kC7 : Nat := 0
abbrev kS7 : Nat := 0
def Q7 (Z : State) (p0 : Int32) (q1 : Int64) (q2 : Int64) (q3 : Int64) (h0 : Heap) (v : Option Value) (h : Heap) (L : List Loc) : Prop := v = some (.double (f7 p0 q1 q2 q3)) ∧ L = [] ∧ h = h0
set_option maxRecDepth 65536 in
set_option maxHeartbeats 40000000 in
theorem rm7 (l : Launch) (Z : State) (tA : Array Value) (hw : ∀ d ∈ tables_1, d.before tA Z = true) (ws : List Jvm.Cond) (p0 : Int32) (q1 : Int64) (q2 : Int64) (q3 : Int64) (h0 : Heap)  :
    MetFree l (⟨"com/example/zugzwang/zugzwang/search/DeepeningFinishedPinLaw", "forecast", "(IJJJ)D"⟩ : MethodName) (head1 (Jvm.Cond.code (⟨"com/example/zugzwang/zugzwang/search/DeepeningFinishedPinLaw", "forecast", "(IJJJ)D"⟩ : MethodName) method_3_code 13 (some .double) :: ws) RM7) (fun a U => a = #[(.int p0), (.long q1), (.long q2), (.long q3)] ∧ Z.Warmed39 U.vm ∧ U.heap = h0) (fun _ _ _ _ _ => True) (fun _ U o U' => ∃ v L, o = .returned v ∧ Q7 Z p0 q1 q2 q3 h0 v U'.heap L ∧ FrameEnd U o U' L RM7.cells RM7.slots) := by
  refine MetFree.of_bodySF (plainFor_of_name own_pn1) hisR ?_
  intro p e s m args below meth c s₁ Bd hml0 hP hK
  obtain ⟨rfl, hZ, hh⟩ := hP
  have hx := Bd.exec
  have hby := Bd.bytes
  have hml : c.maxLocals = 13 := hml0
  have hown : s.vm.findClass "com/example/zugzwang/zugzwang/search/DeepeningFinishedPinLaw" = some m.cls := findClass_of_methodNamed Bd.named
  have hnm := (name_of_methodNamed Bd.named Bd.method).1
  have X0 : Stand p l e RM7 s m #[(.int p0), (.long q1), (.long q2), (.long q3)] below meth c s₁ [] 0 0 := Stand.of_body Bd
  have e0 : s₁.heap = h0 := by rw [← hh, Bd.state]; rfl
  show Goes p e below s (Q7 Z p0 q1 q2 q3 h0) kC7 kS7 (s₁.setTop (entryFrame m #[(.int p0), (.long q1), (.long q2), (.long q3)] 13))
  refine Goes.step (fun t k => castTop (own_ef7 m p0 q1 q2 q3) k) ?_
  show Goes _ _ _ _ _ _ _ (s₁.setTop (mkF m 0 #[.val (.int p0), .val (.long q1), .second, .val (.long q2), .second, .val (.long q3), .second, .unset, .unset, .unset, .unset, .unset, .unset] []))
  refine Goes.step (fun t k => XS.lloadN X0.here hx rfl (hb hby own_d7_0) rfl k) ?_
  show Goes _ _ _ _ _ _ _ (s₁.setTop (mkF m 1 #[.val (.int p0), .val (.long q1), .second, .val (.long q2), .second, .val (.long q3), .second, .unset, .unset, .unset, .unset, .unset, .unset] [(.long q1)]))
  refine Goes.step (fun t k => XS.l2dS X0.here hx rfl (hb hby own_d7_1) rfl rfl k) ?_
  show Goes _ _ _ _ _ _ _ (s₁.setTop (mkF m 2 #[.val (.int p0), .val (.long q1), .second, .val (.long q2), .second, .val (.long q3), .second, .unset, .unset, .unset, .unset, .unset, .unset] [(.double (FP.l2d q1))]))
  refine Goes.step (fun t k => XS.lconst X0.here hx rfl (hb hby own_d7_2) k) ?_
  show Goes _ _ _ _ _ _ _ (s₁.setTop (mkF m 3 #[.val (.int p0), .val (.long q1), .second, .val (.long q2), .second, .val (.long q3), .second, .unset, .unset, .unset, .unset, .unset, .unset] [(.long (1 : Int64)), (.double (FP.l2d q1))]))
  refine Goes.step (fun t k => XS.lload X0.here hx rfl (hb hby own_d7_3) rfl k) ?_
  show Goes _ _ _ _ _ _ _ (s₁.setTop (mkF m 5 #[.val (.int p0), .val (.long q1), .second, .val (.long q2), .second, .val (.long q3), .second, .unset, .unset, .unset, .unset, .unset, .unset] [(.long q3), (.long (1 : Int64)), (.double (FP.l2d q1))]))
  obtain ⟨_, _, ⟨T1, L1, k1, n1⟩, -, X1, ⟨Lc1, hQ1, l1, y1, z1⟩, st1⟩ := Jvm.LawKit.callS X0 hx (y := (⟨"java/lang/Math", "max", "(JJ)J"⟩ : MethodName)) hown (mvT hZ (hw _ (List.mem_of_getElem? (i := 41) rfl))) (mvT hZ (hw _ (List.mem_of_getElem? (i := 31) rfl))) (mvT hZ (hw _ (List.mem_of_getElem? (i := 32) rfl))) (mvT hZ (hw _ (List.mem_of_getElem? (i := 33) rfl))) (by decide) (backOf (W := 2) (rm5 l Z tA hw [] (1 : Int64) q3 h0) hZ (hw _ (List.mem_of_getElem? (i := 33) rfl)) (hw _ (List.mem_of_getElem? (i := 32) rfl)) (by decide) (by decide)) (g := (mkF m 5 #[.val (.int p0), .val (.long q1), .second, .val (.long q2), .second, .val (.long q3), .second, .unset, .unset, .unset, .unset, .unset, .unset] [(.long q3), (.long (1 : Int64)), (.double (FP.l2d q1))])) rfl (by rw [hml]; rfl) (argsL := [(.long (1 : Int64)), (.long q3)]) (rest := [(.double (FP.l2d q1))]) (lenOf own_pd0 rfl) rfl (by show 2 * 0 + _ ≤ _; exact Nat.le_of_eq rfl) (hb hby own_d7_5) (fun _ _ => ⟨rfl, e0, (by decide : 0 + 0 ≤ _), (by decide : 0 + 0 ≤ _)⟩)
  dsimp only [Pt.U, Pt.locs, Pt.cells, Pt.slots] at X1 l1 y1 z1 st1 hQ1
  rw [l1, y1, z1] at X1
  obtain ⟨rfl, rfl, e1⟩ := hQ1
  try rw [List.append_nil] at X1
  change Stand _ _ _ _ _ _ _ _ _ _ _ _ 0 0 at X1
  refine Goes.step (fun t k => st1 t k) ?_
  show Goes _ _ _ _ _ _ _ (T1.setTop (mkF m 8 #[.val (.int p0), .val (.long q1), .second, .val (.long q2), .second, .val (.long q3), .second, .unset, .unset, .unset, .unset, .unset, .unset] [(.long (f5 (1 : Int64) q3)), (.double (FP.l2d q1))]))
  refine Goes.step (fun t k => XS.l2dS X1.here hx rfl (hb hby own_d7_8) rfl rfl k) ?_
  show Goes _ _ _ _ _ _ _ (T1.setTop (mkF m 9 #[.val (.int p0), .val (.long q1), .second, .val (.long q2), .second, .val (.long q3), .second, .unset, .unset, .unset, .unset, .unset, .unset] [(.double (FP.l2d (f5 (1 : Int64) q3))), (.double (FP.l2d q1))]))
  have hnan2 : Jvm.Free.Fl.NoNaN64 (FP.ddiv (FP.l2d q1) (FP.l2d (f5 (1 : Int64) q3))) := by exact own_fin (own_dv _ _ (own_max _)) (by decide)
  refine Goes.step (fun t k => XS.ddivS X1.here hx rfl (hb hby own_d7_9) rfl hnan2 rfl k) ?_
  show Goes _ _ _ _ _ _ _ (T1.setTop (mkF m 10 #[.val (.int p0), .val (.long q1), .second, .val (.long q2), .second, .val (.long q3), .second, .unset, .unset, .unset, .unset, .unset, .unset] [(.double (FP.ddiv (FP.l2d q1) (FP.l2d (f5 (1 : Int64) q3))))]))
  refine Goes.step (fun t k => XS.dstore X1.here hx rfl (hb hby own_d7_10) rfl (l' := #[.val (.int p0), .val (.long q1), .second, .val (.long q2), .second, .val (.long q3), .second, .val (.double (FP.ddiv (FP.l2d q1) (FP.l2d (f5 (1 : Int64) q3)))), .second, .unset, .unset, .unset, .unset]) rfl k) ?_
  show Goes _ _ _ _ _ _ _ (T1.setTop (mkF m 12 #[.val (.int p0), .val (.long q1), .second, .val (.long q2), .second, .val (.long q3), .second, .val (.double (FP.ddiv (FP.l2d q1) (FP.l2d (f5 (1 : Int64) q3)))), .second, .unset, .unset, .unset, .unset] []))
  generalize hy3 : (FP.ddiv (FP.l2d q1) (FP.l2d (f5 (1 : Int64) q3))) = y3
  refine Goes.step (fun t k => XS.iloadN X1.here hx rfl (hb hby own_d7_12) rfl k) ?_
  show Goes _ _ _ _ _ _ _ (T1.setTop (mkF m 13 #[.val (.int p0), .val (.long q1), .second, .val (.long q2), .second, .val (.long q3), .second, .val (.double y3), .second, .unset, .unset, .unset, .unset] [(.int p0)]))
  refine Goes.step (fun t k => XS.i2dS X1.here hx rfl (hb hby own_d7_13) rfl rfl k) ?_
  show Goes _ _ _ _ _ _ _ (T1.setTop (mkF m 14 #[.val (.int p0), .val (.long q1), .second, .val (.long q2), .second, .val (.long q3), .second, .val (.double y3), .second, .unset, .unset, .unset, .unset] [(.double (FP.i2d p0))]))
  refine Goes.step (fun t k => XS.dstore X1.here hx rfl (hb hby own_d7_14) rfl (l' := #[.val (.int p0), .val (.long q1), .second, .val (.long q2), .second, .val (.long q3), .second, .val (.double y3), .second, .val (.double (FP.i2d p0)), .second, .unset, .unset]) rfl k) ?_
  show Goes _ _ _ _ _ _ _ (T1.setTop (mkF m 16 #[.val (.int p0), .val (.long q1), .second, .val (.long q2), .second, .val (.long q3), .second, .val (.double y3), .second, .val (.double (FP.i2d p0)), .second, .unset, .unset] []))
  refine Goes.step (fun t k => XS.dload X1.here hx rfl (hb hby own_d7_16) rfl k) ?_
  show Goes _ _ _ _ _ _ _ (T1.setTop (mkF m 18 #[.val (.int p0), .val (.long q1), .second, .val (.long q2), .second, .val (.long q3), .second, .val (.double y3), .second, .val (.double (FP.i2d p0)), .second, .unset, .unset] [(.double (FP.i2d p0))]))
  refine Goes.step (fun t k => XS.dload X1.here hx rfl (hb hby own_d7_18) rfl k) ?_
  show Goes _ _ _ _ _ _ _ (T1.setTop (mkF m 20 #[.val (.int p0), .val (.long q1), .second, .val (.long q2), .second, .val (.long q3), .second, .val (.double y3), .second, .val (.double (FP.i2d p0)), .second, .unset, .unset] [(.double y3), (.double (FP.i2d p0))]))
  refine Goes.step (fun t k => XS.dcmpS X1.here hx rfl (hb hby own_d7_20) rfl rfl k) ?_
  show Goes _ _ _ _ _ _ _ (T1.setTop (mkF m 21 #[.val (.int p0), .val (.long q1), .second, .val (.long q2), .second, .val (.long q3), .second, .val (.double y3), .second, .val (.double (FP.i2d p0)), .second, .unset, .unset] [(.int (cmpValue (FP.dcmp (FP.i2d p0) y3) .g))]))
  suffices k5 : ∀ (x5_0 : UInt64), x5_0 = (if (cmpValue (FP.dcmp (FP.i2d p0) y3) .g) < (0 : Int32) then (FP.i2d p0) else y3) → Goes p e below s (Q7 Z p0 q1 q2 q3 h0) kC7 kS7 (T1.setTop (mkF m 31 #[.val (.int p0), .val (.long q1), .second, .val (.long q2), .second, .val (.long q3), .second, .val (.double y3), .second, .val (.double (FP.i2d p0)), .second, .unset, .unset] [(.double x5_0)])) by
    by_cases hc21_4 : (cmpValue (FP.dcmp (FP.i2d p0) y3) .g) < (0 : Int32)
    · refine Goes.step (fun t k => XS.ifNo X1.here hx rfl (hb hby own_d7_21) rfl ((if0 _ _).trans (tlt hc21_4).2.1) k) ?_
      show Goes _ _ _ _ _ _ _ (T1.setTop (mkF m 24 #[.val (.int p0), .val (.long q1), .second, .val (.long q2), .second, .val (.long q3), .second, .val (.double y3), .second, .val (.double (FP.i2d p0)), .second, .unset, .unset] []))
      refine Goes.step (fun t k => XS.dload X1.here hx rfl (hb hby own_d7_24) rfl k) ?_
      show Goes _ _ _ _ _ _ _ (T1.setTop (mkF m 26 #[.val (.int p0), .val (.long q1), .second, .val (.long q2), .second, .val (.long q3), .second, .val (.double y3), .second, .val (.double (FP.i2d p0)), .second, .unset, .unset] [(.double (FP.i2d p0))]))
      refine Goes.step (fun t k => XS.goto X1.here hx rfl (pc0 := 26) (pc' := 31) rfl (hb hby own_d7_26) (by decide) (by decide) k) ?_
      show Goes _ _ _ _ _ _ _ (T1.setTop (mkF m 31 #[.val (.int p0), .val (.long q1), .second, .val (.long q2), .second, .val (.long q3), .second, .val (.double y3), .second, .val (.double (FP.i2d p0)), .second, .unset, .unset] [(.double (FP.i2d p0))]))
      exact k5 _ (if_pos hc21_4).symm
    · refine Goes.step (fun t k => XS.ifYes X1.here hx rfl (pc0 := 21) (pc' := 29) rfl (hb hby own_d7_21) rfl ((if0 _ _).trans (flt hc21_4).2.1) (by decide) (by decide) k) ?_
      show Goes _ _ _ _ _ _ _ (T1.setTop (mkF m 29 #[.val (.int p0), .val (.long q1), .second, .val (.long q2), .second, .val (.long q3), .second, .val (.double y3), .second, .val (.double (FP.i2d p0)), .second, .unset, .unset] []))
      refine Goes.step (fun t k => XS.dload X1.here hx rfl (hb hby own_d7_29) rfl k) ?_
      show Goes _ _ _ _ _ _ _ (T1.setTop (mkF m 31 #[.val (.int p0), .val (.long q1), .second, .val (.long q2), .second, .val (.long q3), .second, .val (.double y3), .second, .val (.double (FP.i2d p0)), .second, .unset, .unset] [(.double y3)]))
      exact k5 _ (if_neg hc21_4).symm
  intro x5_0 hx5_0
  refine Goes.step (fun t k => XS.dstore X1.here hx rfl (hb hby own_d7_31) rfl (l' := #[.val (.int p0), .val (.long q1), .second, .val (.long q2), .second, .val (.long q3), .second, .val (.double y3), .second, .val (.double (FP.i2d p0)), .second, .val (.double x5_0), .second]) rfl k) ?_
  show Goes _ _ _ _ _ _ _ (T1.setTop (mkF m 33 #[.val (.int p0), .val (.long q1), .second, .val (.long q2), .second, .val (.long q3), .second, .val (.double y3), .second, .val (.double (FP.i2d p0)), .second, .val (.double x5_0), .second] []))
  refine Goes.step (fun t k => XS.lloadN X1.here hx rfl (hb hby own_d7_33) rfl k) ?_
  show Goes _ _ _ _ _ _ _ (T1.setTop (mkF m 34 #[.val (.int p0), .val (.long q1), .second, .val (.long q2), .second, .val (.long q3), .second, .val (.double y3), .second, .val (.double (FP.i2d p0)), .second, .val (.double x5_0), .second] [(.long q2)]))
  refine Goes.step (fun t k => XS.l2dS X1.here hx rfl (hb hby own_d7_34) rfl rfl k) ?_
  show Goes _ _ _ _ _ _ _ (T1.setTop (mkF m 35 #[.val (.int p0), .val (.long q1), .second, .val (.long q2), .second, .val (.long q3), .second, .val (.double y3), .second, .val (.double (FP.i2d p0)), .second, .val (.double x5_0), .second] [(.double (FP.l2d q2))]))
  refine Goes.step (fun t k => XS.dload X1.here hx rfl (hb hby own_d7_35) rfl k) ?_
  show Goes _ _ _ _ _ _ _ (T1.setTop (mkF m 37 #[.val (.int p0), .val (.long q1), .second, .val (.long q2), .second, .val (.long q3), .second, .val (.double y3), .second, .val (.double (FP.i2d p0)), .second, .val (.double x5_0), .second] [(.double x5_0), (.double (FP.l2d q2))]))
  have hnan6 : Jvm.Free.Fl.NoNaN64 (FP.dmul (FP.l2d q2) x5_0) := by subst hx5_0; subst hy3; exact own_fin (own_mp (K := 0) _ (own_if ((Jvm.Free.Fl.i2d_mag _).mono (by decide)) (own_dv _ _ (own_max _)))) (by decide)
  refine Goes.step (fun t k => XS.dmulS X1.here hx rfl (hb hby own_d7_37) rfl hnan6 rfl k) ?_
  show Goes _ _ _ _ _ _ _ (T1.setTop (mkF m 38 #[.val (.int p0), .val (.long q1), .second, .val (.long q2), .second, .val (.long q3), .second, .val (.double y3), .second, .val (.double (FP.i2d p0)), .second, .val (.double x5_0), .second] [(.double (FP.dmul (FP.l2d q2) x5_0))]))
  subst hx5_0
  subst hy3
  exact Goes.retD X1 hx Bd.notSynchronized (r := (f7 p0 q1 q2 q3)) Bd.returns (hb hby own_d7_38) rfl ⟨rfl, rfl, e1⟩ (by decide) (by decide)
set_option maxRecDepth 65536 in
set_option maxHeartbeats 4000000 in
theorem own_plain (p0 : Int32) (y1 : Int32) (y17 : UInt64) (x20_0 : Int32) (hy1 : (p0 &&& (2147483647 : Int32)) = y1) (hy17 : (f4 (0 : Int64) y1 (0 : Int64) (0 : Int32) (0 : Int64)) = y17) (hx20_0 : x20_0 = (if (cmpValue (FP.dcmp y17 (0 : UInt64)) .l) = (0 : Int32) then (1 : Int32) else (0 : Int32))) : nar .boolean x20_0 = (1 : Int32) := by
  subst_vars
  rw [if_pos]
  · rfl
  · apply dcmpV_eq
    · first
      | (unfold f4; simp; done)
      | (unfold f4 f7; rw [if_neg (by decide), if_neg (by decide), own_pick _ (own_m0 _)])
    · first
      | (unfold f4; rw [if_pos (by decide)]; decide)
      | (unfold f4; rw [if_neg (by decide), if_pos (by decide)]; exact own_fin (own_md _ _) (by decide))
      | (unfold f4; rw [if_neg (by decide), if_neg (by decide)]; exact own_fin (own_mp (K := 0) _ (own_pk ((Jvm.Free.Fl.i2d_mag _).mono (by decide)) (own_dv _ _ (own_max _)))) (by decide))
set_option maxRecDepth 65536 in
set_option maxHeartbeats 4000000 in
theorem own_plain_2 (p0 : Int32) (q2 : Int64) (y1 : Int32) (y35 : UInt64) (x38_0 : Int32) (hy1 : (p0 &&& (2147483647 : Int32)) = y1) (hy35 : (f4 q2 y1 (0 : Int64) ((0 : Int32) + (1 : Int32)) (0 : Int64)) = y35) (hx38_0 : x38_0 = (if (cmpValue (FP.dcmp y35 (0 : UInt64)) .l) = (0 : Int32) then (1 : Int32) else (0 : Int32))) : nar .boolean x38_0 = (1 : Int32) := by
  subst_vars
  rw [if_pos]
  · rfl
  · apply dcmpV_eq
    · first
      | (unfold f4; simp; done)
      | (unfold f4 f7; rw [if_neg (by decide), if_neg (by decide), own_pick _ (own_m0 _)])
    · first
      | (unfold f4; rw [if_pos (by decide)]; decide)
      | (unfold f4; rw [if_neg (by decide), if_pos (by decide)]; exact own_fin (own_md _ _) (by decide))
      | (unfold f4; rw [if_neg (by decide), if_neg (by decide)]; exact own_fin (own_mp (K := 0) _ (own_pk ((Jvm.Free.Fl.i2d_mag _).mono (by decide)) (own_dv _ _ (own_max _)))) (by decide))
set_option maxRecDepth 65536 in
set_option maxHeartbeats 4000000 in
theorem own_plain_3 (p0 : Int32) (q2 : Int64) (q3 : Int64) (y1 : Int32) (y54 : UInt64) (y58 : UInt64) (x60_0 : Int32) (hy1 : (p0 &&& (2147483647 : Int32)) = y1) (hy54 : (f4 q3 y1 q2 (((0 : Int32) + (1 : Int32)) + (1 : Int32)) (0 : Int64)) = y54) (hy58 : (FP.dmul (FP.l2d q2) (FP.i2d y1)) = y58) (hx60_0 : x60_0 = (if (cmpValue (FP.dcmp y54 y58) .l) = (0 : Int32) then (1 : Int32) else (0 : Int32))) : nar .boolean x60_0 = (1 : Int32) := by
  subst_vars
  rw [if_pos]
  · rfl
  · apply dcmpV_eq
    · first
      | (unfold f4; simp; done)
      | (unfold f4 f7; rw [if_neg (by decide), if_neg (by decide), own_pick _ (own_m0 _)])
    · first
      | (unfold f4; rw [if_pos (by decide)]; decide)
      | (unfold f4; rw [if_neg (by decide), if_pos (by decide)]; exact own_fin (own_md _ _) (by decide))
      | (unfold f4; rw [if_neg (by decide), if_neg (by decide)]; exact own_fin (own_mp (K := 0) _ (own_pk ((Jvm.Free.Fl.i2d_mag _).mono (by decide)) (own_dv _ _ (own_max _)))) (by decide))
set_option maxRecDepth 65536 in
set_option maxHeartbeats 4000000 in
theorem own_plain_4 (p0 : Int32) (q2 : Int64) (q3 : Int64) (q4 : Int64) (y1 : Int32) (y77 : UInt64) (x83_0 : Int32) (hy1 : (p0 &&& (2147483647 : Int32)) = y1) (hy77 : (f4 q4 y1 q3 ((((0 : Int32) + (1 : Int32)) + (1 : Int32)) + (1 : Int32)) q2) = y77) (hx83_0 : x83_0 = (if (cmpValue (FP.dcmp y77 (f7 y1 q4 q3 q2)) .l) = (0 : Int32) then (1 : Int32) else (0 : Int32))) : nar .boolean x83_0 = (1 : Int32) := by
  subst_vars
  rw [if_pos]
  · rfl
  · apply dcmpV_eq
    · first
      | (unfold f4; simp; done)
      | (unfold f4 f7; rw [if_neg (by decide), if_neg (by decide), own_pick _ (own_m0 _)])
    · first
      | (unfold f4; rw [if_pos (by decide)]; decide)
      | (unfold f4; rw [if_neg (by decide), if_pos (by decide)]; exact own_fin (own_md _ _) (by decide))
      | (unfold f4; rw [if_neg (by decide), if_neg (by decide)]; exact own_fin (own_mp (K := 0) _ (own_pk ((Jvm.Free.Fl.i2d_mag _).mono (by decide)) (own_dv _ _ (own_max _)))) (by decide))
set_option maxRecDepth 65536 in
set_option maxHeartbeats 4000000 in
theorem own_plain_5 (p0 : Int32) (q3 : Int64) (q4 : Int64) (q5 : Int64) (y1 : Int32) (y101 : UInt64) (x108_0 : Int32) (hy1 : (p0 &&& (2147483647 : Int32)) = y1) (hy101 : (f4 q5 y1 q4 (((((0 : Int32) + (1 : Int32)) + (1 : Int32)) + (1 : Int32)) + (1 : Int32)) q3) = y101) (hx108_0 : x108_0 = (if (cmpValue (FP.dcmp y101 (f7 y1 q5 q4 q3)) .l) = (0 : Int32) then (1 : Int32) else (0 : Int32))) : nar .boolean x108_0 = (1 : Int32) := by
  subst_vars
  rw [if_pos]
  · rfl
  · apply dcmpV_eq
    · first
      | (unfold f4; simp; done)
      | (unfold f4 f7; rw [if_neg (by decide), if_neg (by decide), own_pick _ (own_m0 _)])
    · first
      | (unfold f4; rw [if_pos (by decide)]; decide)
      | (unfold f4; rw [if_neg (by decide), if_pos (by decide)]; exact own_fin (own_md _ _) (by decide))
      | (unfold f4; rw [if_neg (by decide), if_neg (by decide)]; exact own_fin (own_mp (K := 0) _ (own_pk ((Jvm.Free.Fl.i2d_mag _).mono (by decide)) (own_dv _ _ (own_max _)))) (by decide))
set_option maxRecDepth 65536 in
set_option maxHeartbeats 4000000 in
theorem own_plain_6 (p0 : Int32) (q2 : Int64) (q4 : Int64) (q5 : Int64) (y1 : Int32) (y127 : UInt64) (x134_0 : Int32) (hy1 : (p0 &&& (2147483647 : Int32)) = y1) (hy127 : (f4 q2 y1 q5 ((((((0 : Int32) + (1 : Int32)) + (1 : Int32)) + (1 : Int32)) + (1 : Int32)) + (1 : Int32)) q4) = y127) (hx134_0 : x134_0 = (if (cmpValue (FP.dcmp y127 (f7 y1 q2 q5 q4)) .l) = (0 : Int32) then (1 : Int32) else (0 : Int32))) : nar .boolean x134_0 = (1 : Int32) := by
  subst_vars
  rw [if_pos]
  · rfl
  · apply dcmpV_eq
    · first
      | (unfold f4; simp; done)
      | (unfold f4 f7; rw [if_neg (by decide), if_neg (by decide), own_pick _ (own_m0 _)])
    · first
      | (unfold f4; rw [if_pos (by decide)]; decide)
      | (unfold f4; rw [if_neg (by decide), if_pos (by decide)]; exact own_fin (own_md _ _) (by decide))
      | (unfold f4; rw [if_neg (by decide), if_neg (by decide)]; exact own_fin (own_mp (K := 0) _ (own_pk ((Jvm.Free.Fl.i2d_mag _).mono (by decide)) (own_dv _ _ (own_max _)))) (by decide))
theorem own_ef0 (m : MethodId) (p0 : Int32) (p1 : Int32) (q2 : Int64) (q3 : Int64) (q4 : Int64) (q5 : Int64) : entryFrame m #[(.int p0), (.int p1), (.long q2), (.long q3), (.long q4), (.long q5)] maxLocals = mkF m 0 #[.val (.int p0), .val (.int p1), .val (.long q2), .second, .val (.long q3), .second, .val (.long q4), .second, .val (.long q5), .second, .unset, .unset, .unset, .unset, .unset, .unset, .unset] [] := by first | (simp [entryFrame, mkF, argsToLocals, Value.category, maxLocals]; done) | rfl
abbrev kC0 : Nat := 1
abbrev kS0 : Nat := 5
def Q0 (Z : State) (p0 : Int32) (p1 : Int32) (q2 : Int64) (q3 : Int64) (q4 : Int64) (q5 : Int64) (h0 : Heap) (n0 : Nat) (v : Option Value) (h : Heap) (L : List Loc) : Prop := v = some (.int 1) ∧ Fr n0 L
set_option maxRecDepth 65536 in
set_option maxHeartbeats 40000000 in
theorem rm0 (l : Launch) (Z : State) (tA : Array Value) (hw : ∀ d ∈ tables_1, d.before tA Z = true) (ws : List Jvm.Cond) (p0 : Int32) (p1 : Int32) (q2 : Int64) (q3 : Int64) (q4 : Int64) (q5 : Int64) (h0 : Heap) (n0 : Nat) (Z0 : n0 ≤ h0.size)  :
    MetFree l x (head1 (Jvm.Cond.code x code maxLocals ret :: ws) room_1) (fun a U => a = #[(.int p0), (.int p1), (.long q2), (.long q3), (.long q4), (.long q5)] ∧ Z.Warmed39 U.vm ∧ U.heap = h0) (fun _ _ _ _ _ => True) (fun _ U o U' => ∃ v L, o = .returned v ∧ Q0 Z p0 p1 q2 q3 q4 q5 h0 n0 v U'.heap L ∧ FrameEnd U o U' L kC0 kS0) := by
  refine MetFree.of_bodySF (plainFor_of_name own_pn1) hisR ?_
  intro p e s m args below meth c s₁ Bd hml0 hP hK
  obtain ⟨rfl, hZ, hh⟩ := hP
  have hx := Bd.exec
  have hby := Bd.bytes
  have hml : c.maxLocals = 17 := hml0
  have hown : s.vm.findClass "com/example/zugzwang/zugzwang/search/DeepeningFinishedPinLaw" = some m.cls := findClass_of_methodNamed Bd.named
  have hnm := (name_of_methodNamed Bd.named Bd.method).1
  have X0 : Stand p l e room_1 s m #[(.int p0), (.int p1), (.long q2), (.long q3), (.long q4), (.long q5)] below meth c s₁ [] 0 0 := Stand.of_body Bd
  have e0 : s₁.heap = h0 := by rw [← hh, Bd.state]; rfl
  have N0 := Fr.nil n0
  show Goes p e below s (Q0 Z p0 p1 q2 q3 q4 q5 h0 n0) kC0 kS0 (s₁.setTop (entryFrame m #[(.int p0), (.int p1), (.long q2), (.long q3), (.long q4), (.long q5)] maxLocals))
  refine Goes.step (fun t k => castTop (own_ef0 m p0 p1 q2 q3 q4 q5) k) ?_
  show Goes _ _ _ _ _ _ _ (s₁.setTop (mkF m 0 #[.val (.int p0), .val (.int p1), .val (.long q2), .second, .val (.long q3), .second, .val (.long q4), .second, .val (.long q5), .second, .unset, .unset, .unset, .unset, .unset, .unset, .unset] []))
  refine Goes.step (fun t k => XS.iloadN X0.here hx rfl (hb hby at_0) rfl k) ?_
  show Goes _ _ _ _ _ _ _ (s₁.setTop (mkF m 1 #[.val (.int p0), .val (.int p1), .val (.long q2), .second, .val (.long q3), .second, .val (.long q4), .second, .val (.long q5), .second, .unset, .unset, .unset, .unset, .unset, .unset, .unset] [(.int p0)]))
  refine Goes.step (fun t k => X0.ldcInt hx hown (mvT hZ (hw _ (List.mem_of_getElem? (i := 0) rfl))) (g := (mkF m 1 #[.val (.int p0), .val (.int p1), .val (.long q2), .second, .val (.long q3), .second, .val (.long q4), .second, .val (.long q5), .second, .unset, .unset, .unset, .unset, .unset, .unset, .unset] [(.int p0)])) rfl (hb hby at_1) _ k) ?_
  show Goes _ _ _ _ _ _ _ (s₁.setTop (mkF m 3 #[.val (.int p0), .val (.int p1), .val (.long q2), .second, .val (.long q3), .second, .val (.long q4), .second, .val (.long q5), .second, .unset, .unset, .unset, .unset, .unset, .unset, .unset] [(.int (2147483647 : Int32)), (.int p0)]))
  refine Goes.step (fun t k => XS.iand X0.here hx rfl (hb hby at_3) rfl k) ?_
  show Goes _ _ _ _ _ _ _ (s₁.setTop (mkF m 4 #[.val (.int p0), .val (.int p1), .val (.long q2), .second, .val (.long q3), .second, .val (.long q4), .second, .val (.long q5), .second, .unset, .unset, .unset, .unset, .unset, .unset, .unset] [(.int (p0 &&& (2147483647 : Int32)))]))
  refine Goes.step (fun t k => XS.istore X0.here hx rfl (hb hby at_4) rfl (l' := #[.val (.int p0), .val (.int p1), .val (.long q2), .second, .val (.long q3), .second, .val (.long q4), .second, .val (.long q5), .second, .val (.int (p0 &&& (2147483647 : Int32))), .unset, .unset, .unset, .unset, .unset, .unset]) rfl k) ?_
  show Goes _ _ _ _ _ _ _ (s₁.setTop (mkF m 6 #[.val (.int p0), .val (.int p1), .val (.long q2), .second, .val (.long q3), .second, .val (.long q4), .second, .val (.long q5), .second, .val (.int (p0 &&& (2147483647 : Int32))), .unset, .unset, .unset, .unset, .unset, .unset] []))
  generalize hy1 : (p0 &&& (2147483647 : Int32)) = y1
  refine Goes.step (fun t k => XS.iloadN X0.here hx rfl (hb hby at_6) rfl k) ?_
  show Goes _ _ _ _ _ _ _ (s₁.setTop (mkF m 7 #[.val (.int p0), .val (.int p1), .val (.long q2), .second, .val (.long q3), .second, .val (.long q4), .second, .val (.long q5), .second, .val (.int y1), .unset, .unset, .unset, .unset, .unset, .unset] [(.int p1)]))
  refine Goes.step (fun t k => X0.ldcInt hx hown (mvT hZ (hw _ (List.mem_of_getElem? (i := 0) rfl))) (g := (mkF m 7 #[.val (.int p0), .val (.int p1), .val (.long q2), .second, .val (.long q3), .second, .val (.long q4), .second, .val (.long q5), .second, .val (.int y1), .unset, .unset, .unset, .unset, .unset, .unset] [(.int p1)])) rfl (hb hby at_7) _ k) ?_
  show Goes _ _ _ _ _ _ _ (s₁.setTop (mkF m 9 #[.val (.int p0), .val (.int p1), .val (.long q2), .second, .val (.long q3), .second, .val (.long q4), .second, .val (.long q5), .second, .val (.int y1), .unset, .unset, .unset, .unset, .unset, .unset] [(.int (2147483647 : Int32)), (.int p1)]))
  refine Goes.step (fun t k => XS.iand X0.here hx rfl (hb hby at_9) rfl k) ?_
  show Goes _ _ _ _ _ _ _ (s₁.setTop (mkF m 10 #[.val (.int p0), .val (.int p1), .val (.long q2), .second, .val (.long q3), .second, .val (.long q4), .second, .val (.long q5), .second, .val (.int y1), .unset, .unset, .unset, .unset, .unset, .unset] [(.int (p1 &&& (2147483647 : Int32)))]))
  refine Goes.step (fun t k => XS.bipush X0.here hx rfl (hb hby at_10) k) ?_
  show Goes _ _ _ _ _ _ _ (s₁.setTop (mkF m 12 #[.val (.int p0), .val (.int p1), .val (.long q2), .second, .val (.long q3), .second, .val (.long q4), .second, .val (.long q5), .second, .val (.int y1), .unset, .unset, .unset, .unset, .unset, .unset] [(.int (6 : Int32)), (.int (p1 &&& (2147483647 : Int32)))]))
  have hnz2 : ¬ ((6 : Int32) = (0 : Int32)) := by decide
  refine Goes.step (fun t k => iremM X0 hx rfl (hb hby at_12) rfl hnz2 k) ?_
  show Goes _ _ _ _ _ _ _ (s₁.setTop (mkF m 13 #[.val (.int p0), .val (.int p1), .val (.long q2), .second, .val (.long q3), .second, .val (.long q4), .second, .val (.long q5), .second, .val (.int y1), .unset, .unset, .unset, .unset, .unset, .unset] [(.int ((p1 &&& (2147483647 : Int32)) % (6 : Int32)))]))
  refine Goes.step (fun t k => XS.istore X0.here hx rfl (hb hby at_13) rfl (l' := #[.val (.int p0), .val (.int p1), .val (.long q2), .second, .val (.long q3), .second, .val (.long q4), .second, .val (.long q5), .second, .val (.int y1), .val (.int ((p1 &&& (2147483647 : Int32)) % (6 : Int32))), .unset, .unset, .unset, .unset, .unset]) rfl k) ?_
  show Goes _ _ _ _ _ _ _ (s₁.setTop (mkF m 15 #[.val (.int p0), .val (.int p1), .val (.long q2), .second, .val (.long q3), .second, .val (.long q4), .second, .val (.long q5), .second, .val (.int y1), .val (.int ((p1 &&& (2147483647 : Int32)) % (6 : Int32))), .unset, .unset, .unset, .unset, .unset] []))
  generalize hy3 : ((p1 &&& (2147483647 : Int32)) % (6 : Int32)) = y3
  have h6 := own_six _ _ hy3
  rcases h6 with rfl | rfl | rfl | rfl | rfl | rfl
  · show Goes _ _ _ _ _ _ _ (s₁.setTop (mkF m 15 #[.val (.int p0), .val (.int p1), .val (.long q2), .second, .val (.long q3), .second, .val (.long q4), .second, .val (.long q5), .second, .val (.int y1), .val (.int (0 : Int32)), .unset, .unset, .unset, .unset, .unset] []))
    obtain ⟨T4, h4, X4, e4, E4, A4, D4, -, st4⟩ := newO X0 hx hZ hown (hw _ (List.mem_of_getElem? (i := 1) rfl)) (hw _ (List.mem_of_getElem? (i := 2) rfl)) (hw _ (List.mem_of_getElem? (i := 3) rfl)) e0 (g := (mkF m 15 #[.val (.int p0), .val (.int p1), .val (.long q2), .second, .val (.long q3), .second, .val (.long q4), .second, .val (.long q5), .second, .val (.int y1), .val (.int (0 : Int32)), .unset, .unset, .unset, .unset, .unset] [])) rfl (hb hby at_15) (by decide) (by decide)
    obtain ⟨b4, g4⟩ : ∃ z, z = h0.size := ⟨_, rfl⟩
    rw [← g4] at A4 D4 st4
    have Zs4 : n0 ≤ b4 := Nat.le_trans Z0 (Nat.le_of_eq g4.symm)
    have Zh4 : h0.size ≤ b4 := Nat.le_trans (Keep.refl h0 []).1 (Nat.le_of_eq g4.symm)
    have K4 := (Keep.refl h0 []).ext E4
    have Z4 := Nat.le_trans Z0 E4.1
    have F5 : Fld Z h4 b4 "com/example/zugzwang/zugzwang/search/AlphaBetaEngine$Deepening" "moves" "I" (.int (0 : Int32)) := D4 (Or.inr (hw _ (List.mem_of_getElem? (i := 11) rfl))) (ty := .int) (by decide)
    have F6 : Fld Z h4 b4 "com/example/zugzwang/zugzwang/search/AlphaBetaEngine$Deepening" "oneBefore" "J" (.long (0 : Int64)) := D4 (Or.inl (hw _ (List.mem_of_getElem? (i := 18) rfl))) (ty := .long) (by decide)
    have F7 : Fld Z h4 b4 "com/example/zugzwang/zugzwang/search/AlphaBetaEngine$Deepening" "twoBefore" "J" (.long (0 : Int64)) := D4 (Or.inl (hw _ (List.mem_of_getElem? (i := 20) rfl))) (ty := .long) (by decide)
    have F8 : Fld Z h4 b4 "com/example/zugzwang/zugzwang/search/AlphaBetaEngine$Deepening" "last" "J" (.long (0 : Int64)) := D4 (Or.inl (hw _ (List.mem_of_getElem? (i := 22) rfl))) (ty := .long) (by decide)
    have F9 : Fld Z h4 b4 "com/example/zugzwang/zugzwang/search/AlphaBetaEngine$Deepening" "searches" "I" (.int (0 : Int32)) := D4 (Or.inl (hw _ (List.mem_of_getElem? (i := 24) rfl))) (ty := .int) (by decide)
    refine Goes.step (fun t k => st4 t k) ?_
    show Goes _ _ _ _ _ _ _ (T4.setTop (mkF m 18 #[.val (.int p0), .val (.int p1), .val (.long q2), .second, .val (.long q3), .second, .val (.long q4), .second, .val (.long q5), .second, .val (.int y1), .val (.int (0 : Int32)), .unset, .unset, .unset, .unset, .unset] [(.ref b4)]))
    refine Goes.step (fun t k => XS.dup X4.here hx rfl (hb hby at_18) rfl rfl k) ?_
    show Goes _ _ _ _ _ _ _ (T4.setTop (mkF m 19 #[.val (.int p0), .val (.int p1), .val (.long q2), .second, .val (.long q3), .second, .val (.long q4), .second, .val (.long q5), .second, .val (.int y1), .val (.int (0 : Int32)), .unset, .unset, .unset, .unset, .unset] [(.ref b4), (.ref b4)]))
    refine Goes.step (fun t k => XS.iload X4.here hx rfl (hb hby at_19) rfl k) ?_
    show Goes _ _ _ _ _ _ _ (T4.setTop (mkF m 21 #[.val (.int p0), .val (.int p1), .val (.long q2), .second, .val (.long q3), .second, .val (.long q4), .second, .val (.long q5), .second, .val (.int y1), .val (.int (0 : Int32)), .unset, .unset, .unset, .unset, .unset] [(.int y1), (.ref b4), (.ref b4)]))
    obtain ⟨_, _, ⟨T10, L10, k10, n10⟩, -, X10, ⟨Lc10, hQ10, l10, y10, z10⟩, st10⟩ := X4.specialBack hx (y := (⟨"com/example/zugzwang/zugzwang/search/AlphaBetaEngine$Deepening", "<init>", "(I)V"⟩ : MethodName)) rfl hown (mvT hZ (hw _ (List.mem_of_getElem? (i := 4) rfl))) (mvT hZ (hw _ (List.mem_of_getElem? (i := 5) rfl))) (mvT hZ (hw _ (List.mem_of_getElem? (i := 6) rfl))) (by decide) (backOf (W := 1) (rm1 l Z tA hw [] b4 y1 h4 n0 Z4 A4 F8 F5 F6 F9 F7 Zs4) hZ (hw _ (List.mem_of_getElem? (i := 6) rfl)) (hw _ (List.mem_of_getElem? (i := 3) rfl)) (by decide) (by decide)) (g := (mkF m 21 #[.val (.int p0), .val (.int p1), .val (.long q2), .second, .val (.long q3), .second, .val (.long q4), .second, .val (.long q5), .second, .val (.int y1), .val (.int (0 : Int32)), .unset, .unset, .unset, .unset, .unset] [(.int y1), (.ref b4), (.ref b4)])) rfl (by rw [hml]; rfl) (Steps.refl _) (a := b4) (argsL := [(.int y1)]) (rest := [(.ref b4)]) (lenOf own_pd2 rfl) rfl (by show 2 * 0 + _ ≤ _; exact Nat.le_of_eq rfl) (hb hby at_21) (fun _ _ => ⟨rfl, e4, (by decide : 1 + 0 ≤ _), (by decide : 5 + 0 ≤ _)⟩)
    dsimp only [Pt.U, Pt.locs, Pt.cells, Pt.slots] at X10 l10 y10 z10 st10 hQ10
    rw [l10, y10, z10] at X10
    generalize e10 : T10.heap = h10 at hQ10
    obtain ⟨rfl, Nq10, Kq10, G10_0, G10_1, G10_2, G10_3, G10_4, G10_5⟩ := hQ10
    have N10 := Fr.app N0 Nq10
    have K10 := K4.trans Kq10 (allS (Or.inr Zh4) all0)
    have Z10 := Nat.le_trans Z4 Kq10.1
    change Stand _ _ _ _ _ _ _ _ _ _ _ _ 1 5 at X10
    refine Goes.step (fun t k => st10.trans k) ?_
    show Goes _ _ _ _ _ _ _ (T10.setTop (mkF m 24 #[.val (.int p0), .val (.int p1), .val (.long q2), .second, .val (.long q3), .second, .val (.long q4), .second, .val (.long q5), .second, .val (.int y1), .val (.int (0 : Int32)), .unset, .unset, .unset, .unset, .unset] [(.ref b4)]))
    refine Goes.step (fun t k => XS.astore X10.here hx rfl (hb hby at_24) rfl rfl (l' := #[.val (.int p0), .val (.int p1), .val (.long q2), .second, .val (.long q3), .second, .val (.long q4), .second, .val (.long q5), .second, .val (.int y1), .val (.int (0 : Int32)), .val (.ref b4), .unset, .unset, .unset, .unset]) rfl k) ?_
    show Goes _ _ _ _ _ _ _ (T10.setTop (mkF m 26 #[.val (.int p0), .val (.int p1), .val (.long q2), .second, .val (.long q3), .second, .val (.long q4), .second, .val (.long q5), .second, .val (.int y1), .val (.int (0 : Int32)), .val (.ref b4), .unset, .unset, .unset, .unset] []))
    refine Goes.step (fun t k => XS.iload X10.here hx rfl (hb hby at_26) rfl k) ?_
    show Goes _ _ _ _ _ _ _ (T10.setTop (mkF m 28 #[.val (.int p0), .val (.int p1), .val (.long q2), .second, .val (.long q3), .second, .val (.long q4), .second, .val (.long q5), .second, .val (.int y1), .val (.int (0 : Int32)), .val (.ref b4), .unset, .unset, .unset, .unset] [(.int (0 : Int32))]))
    refine Goes.step (fun t k => XS.iconst X10.here hx rfl (hb hby at_28) k) ?_
    show Goes _ _ _ _ _ _ _ (T10.setTop (mkF m 29 #[.val (.int p0), .val (.int p1), .val (.long q2), .second, .val (.long q3), .second, .val (.long q4), .second, .val (.long q5), .second, .val (.int y1), .val (.int (0 : Int32)), .val (.ref b4), .unset, .unset, .unset, .unset] [(.int (1 : Int32)), (.int (0 : Int32))]))
    refine Goes.step (fun t k => XS.icmpYes X10.here hx rfl (pc0 := 29) (pc' := 38) rfl (hb hby at_29) rfl (tlt (by decide)).1 (by decide) (by decide) k) ?_
    show Goes _ _ _ _ _ _ _ (T10.setTop (mkF m 38 #[.val (.int p0), .val (.int p1), .val (.long q2), .second, .val (.long q3), .second, .val (.long q4), .second, .val (.long q5), .second, .val (.int y1), .val (.int (0 : Int32)), .val (.ref b4), .unset, .unset, .unset, .unset] []))
    refine Goes.step (fun t k => XS.iload X10.here hx rfl (hb hby at_38) rfl k) ?_
    show Goes _ _ _ _ _ _ _ (T10.setTop (mkF m 40 #[.val (.int p0), .val (.int p1), .val (.long q2), .second, .val (.long q3), .second, .val (.long q4), .second, .val (.long q5), .second, .val (.int y1), .val (.int (0 : Int32)), .val (.ref b4), .unset, .unset, .unset, .unset] [(.int (0 : Int32))]))
    refine Goes.step (fun t k => XS.iconst X10.here hx rfl (hb hby at_40) k) ?_
    show Goes _ _ _ _ _ _ _ (T10.setTop (mkF m 41 #[.val (.int p0), .val (.int p1), .val (.long q2), .second, .val (.long q3), .second, .val (.long q4), .second, .val (.long q5), .second, .val (.int y1), .val (.int (0 : Int32)), .val (.ref b4), .unset, .unset, .unset, .unset] [(.int (2 : Int32)), (.int (0 : Int32))]))
    refine Goes.step (fun t k => XS.icmpYes X10.here hx rfl (pc0 := 41) (pc' := 51) rfl (hb hby at_41) rfl (tlt (by decide)).1 (by decide) (by decide) k) ?_
    show Goes _ _ _ _ _ _ _ (T10.setTop (mkF m 51 #[.val (.int p0), .val (.int p1), .val (.long q2), .second, .val (.long q3), .second, .val (.long q4), .second, .val (.long q5), .second, .val (.int y1), .val (.int (0 : Int32)), .val (.ref b4), .unset, .unset, .unset, .unset] []))
    refine Goes.step (fun t k => XS.iload X10.here hx rfl (hb hby at_51) rfl k) ?_
    show Goes _ _ _ _ _ _ _ (T10.setTop (mkF m 53 #[.val (.int p0), .val (.int p1), .val (.long q2), .second, .val (.long q3), .second, .val (.long q4), .second, .val (.long q5), .second, .val (.int y1), .val (.int (0 : Int32)), .val (.ref b4), .unset, .unset, .unset, .unset] [(.int (0 : Int32))]))
    refine Goes.step (fun t k => XS.iconst X10.here hx rfl (hb hby at_53) k) ?_
    show Goes _ _ _ _ _ _ _ (T10.setTop (mkF m 54 #[.val (.int p0), .val (.int p1), .val (.long q2), .second, .val (.long q3), .second, .val (.long q4), .second, .val (.long q5), .second, .val (.int y1), .val (.int (0 : Int32)), .val (.ref b4), .unset, .unset, .unset, .unset] [(.int (3 : Int32)), (.int (0 : Int32))]))
    refine Goes.step (fun t k => XS.icmpYes X10.here hx rfl (pc0 := 54) (pc' := 64) rfl (hb hby at_54) rfl (tlt (by decide)).1 (by decide) (by decide) k) ?_
    show Goes _ _ _ _ _ _ _ (T10.setTop (mkF m 64 #[.val (.int p0), .val (.int p1), .val (.long q2), .second, .val (.long q3), .second, .val (.long q4), .second, .val (.long q5), .second, .val (.int y1), .val (.int (0 : Int32)), .val (.ref b4), .unset, .unset, .unset, .unset] []))
    refine Goes.step (fun t k => XS.iload X10.here hx rfl (hb hby at_64) rfl k) ?_
    show Goes _ _ _ _ _ _ _ (T10.setTop (mkF m 66 #[.val (.int p0), .val (.int p1), .val (.long q2), .second, .val (.long q3), .second, .val (.long q4), .second, .val (.long q5), .second, .val (.int y1), .val (.int (0 : Int32)), .val (.ref b4), .unset, .unset, .unset, .unset] [(.int (0 : Int32))]))
    refine Goes.step (fun t k => XS.iconst X10.here hx rfl (hb hby at_66) k) ?_
    show Goes _ _ _ _ _ _ _ (T10.setTop (mkF m 67 #[.val (.int p0), .val (.int p1), .val (.long q2), .second, .val (.long q3), .second, .val (.long q4), .second, .val (.long q5), .second, .val (.int y1), .val (.int (0 : Int32)), .val (.ref b4), .unset, .unset, .unset, .unset] [(.int (4 : Int32)), (.int (0 : Int32))]))
    refine Goes.step (fun t k => XS.icmpYes X10.here hx rfl (pc0 := 67) (pc' := 77) rfl (hb hby at_67) rfl (tlt (by decide)).1 (by decide) (by decide) k) ?_
    show Goes _ _ _ _ _ _ _ (T10.setTop (mkF m 77 #[.val (.int p0), .val (.int p1), .val (.long q2), .second, .val (.long q3), .second, .val (.long q4), .second, .val (.long q5), .second, .val (.int y1), .val (.int (0 : Int32)), .val (.ref b4), .unset, .unset, .unset, .unset] []))
    refine Goes.step (fun t k => XS.iload X10.here hx rfl (hb hby at_77) rfl k) ?_
    show Goes _ _ _ _ _ _ _ (T10.setTop (mkF m 79 #[.val (.int p0), .val (.int p1), .val (.long q2), .second, .val (.long q3), .second, .val (.long q4), .second, .val (.long q5), .second, .val (.int y1), .val (.int (0 : Int32)), .val (.ref b4), .unset, .unset, .unset, .unset] [(.int (0 : Int32))]))
    refine Goes.step (fun t k => XS.iconst X10.here hx rfl (hb hby at_79) k) ?_
    show Goes _ _ _ _ _ _ _ (T10.setTop (mkF m 80 #[.val (.int p0), .val (.int p1), .val (.long q2), .second, .val (.long q3), .second, .val (.long q4), .second, .val (.long q5), .second, .val (.int y1), .val (.int (0 : Int32)), .val (.ref b4), .unset, .unset, .unset, .unset] [(.int (5 : Int32)), (.int (0 : Int32))]))
    refine Goes.step (fun t k => XS.icmpYes X10.here hx rfl (pc0 := 80) (pc' := 89) rfl (hb hby at_80) rfl (tlt (by decide)).1 (by decide) (by decide) k) ?_
    show Goes _ _ _ _ _ _ _ (T10.setTop (mkF m 89 #[.val (.int p0), .val (.int p1), .val (.long q2), .second, .val (.long q3), .second, .val (.long q4), .second, .val (.long q5), .second, .val (.int y1), .val (.int (0 : Int32)), .val (.ref b4), .unset, .unset, .unset, .unset] []))
    refine Goes.step (fun t k => XS.aload X10.here hx rfl (hb hby at_89) rfl rfl k) ?_
    show Goes _ _ _ _ _ _ _ (T10.setTop (mkF m 91 #[.val (.int p0), .val (.int p1), .val (.long q2), .second, .val (.long q3), .second, .val (.long q4), .second, .val (.long q5), .second, .val (.int y1), .val (.int (0 : Int32)), .val (.ref b4), .unset, .unset, .unset, .unset] [(.ref b4)]))
    obtain ⟨cq16, kq16, q16a, q16b, q16c⟩ := isOf hZ e10 G10_0
    obtain ⟨_, _, ⟨T16, L16, k16, n16⟩, -, X16, ⟨Lc16, hQ16, l16, y16, z16⟩, st16⟩ := X10.virtualBack hx (y := (⟨"com/example/zugzwang/zugzwang/search/AlphaBetaEngine$Deepening", "nextNanos", "()D"⟩ : MethodName)) (z := (⟨"com/example/zugzwang/zugzwang/search/AlphaBetaEngine$Deepening", "nextNanos", "()D"⟩ : MethodName)) hown (mvT hZ (hw _ (List.mem_of_getElem? (i := 25) rfl))) (mvT hZ (hw _ (List.mem_of_getElem? (i := 26) rfl))) (notFace_of_selects (args := #[]) (mvT hZ (hw _ (List.mem_of_getElem? (i := 28) rfl)))) (mvT hZ (hw _ (List.mem_of_getElem? (i := 28) rfl))) (mvT hZ (hw _ (List.mem_of_getElem? (i := 27) rfl))) (by decide) (backOf (W := 0) (rm4 l Z tA hw [] b4 (0 : Int64) y1 (0 : Int64) (0 : Int32) (0 : Int64) h10 G10_1 G10_2 G10_3 G10_4 G10_5) hZ (hw _ (List.mem_of_getElem? (i := 29) rfl)) (hw _ (List.mem_of_getElem? (i := 3) rfl)) (by decide) (by decide)) q16a q16c (g := (mkF m 91 #[.val (.int p0), .val (.int p1), .val (.long q2), .second, .val (.long q3), .second, .val (.long q4), .second, .val (.long q5), .second, .val (.int y1), .val (.int (0 : Int32)), .val (.ref b4), .unset, .unset, .unset, .unset] [(.ref b4)])) rfl (by rw [hml]; rfl) (Steps.refl _) (argsL := []) (rest := []) (lenOf own_pd3 rfl) rfl (by show 2 * 0 + _ ≤ _; exact Nat.le_of_eq rfl) (hb hby at_91) (fun _ _ => ⟨rfl, e10, (by decide : 1 + 0 ≤ _), (by decide : 5 + 0 ≤ _)⟩)
    dsimp only [Pt.U, Pt.locs, Pt.cells, Pt.slots] at X16 l16 y16 z16 st16 hQ16
    rw [l16, y16, z16] at X16
    obtain ⟨rfl, rfl, e16⟩ := hQ16
    try rw [List.append_nil] at X16
    change Stand _ _ _ _ _ _ _ _ _ _ _ _ 1 5 at X16
    refine Goes.step (fun t k => st16.trans k) ?_
    show Goes _ _ _ _ _ _ _ (T16.setTop (mkF m 94 #[.val (.int p0), .val (.int p1), .val (.long q2), .second, .val (.long q3), .second, .val (.long q4), .second, .val (.long q5), .second, .val (.int y1), .val (.int (0 : Int32)), .val (.ref b4), .unset, .unset, .unset, .unset] [(.double (f4 (0 : Int64) y1 (0 : Int64) (0 : Int32) (0 : Int64)))]))
    refine Goes.step (fun t k => XS.dstore X16.here hx rfl (hb hby at_94) rfl (l' := #[.val (.int p0), .val (.int p1), .val (.long q2), .second, .val (.long q3), .second, .val (.long q4), .second, .val (.long q5), .second, .val (.int y1), .val (.int (0 : Int32)), .val (.ref b4), .val (.double (f4 (0 : Int64) y1 (0 : Int64) (0 : Int32) (0 : Int64))), .second, .unset, .unset]) rfl k) ?_
    show Goes _ _ _ _ _ _ _ (T16.setTop (mkF m 96 #[.val (.int p0), .val (.int p1), .val (.long q2), .second, .val (.long q3), .second, .val (.long q4), .second, .val (.long q5), .second, .val (.int y1), .val (.int (0 : Int32)), .val (.ref b4), .val (.double (f4 (0 : Int64) y1 (0 : Int64) (0 : Int32) (0 : Int64))), .second, .unset, .unset] []))
    generalize hy17 : (f4 (0 : Int64) y1 (0 : Int64) (0 : Int32) (0 : Int64)) = y17
    refine Goes.step (fun t k => XS.iload X16.here hx rfl (hb hby at_96) rfl k) ?_
    show Goes _ _ _ _ _ _ _ (T16.setTop (mkF m 98 #[.val (.int p0), .val (.int p1), .val (.long q2), .second, .val (.long q3), .second, .val (.long q4), .second, .val (.long q5), .second, .val (.int y1), .val (.int (0 : Int32)), .val (.ref b4), .val (.double y17), .second, .unset, .unset] [(.int (0 : Int32))]))
    refine Goes.step (fun t k => XS.iconst X16.here hx rfl (hb hby at_98) k) ?_
    show Goes _ _ _ _ _ _ _ (T16.setTop (mkF m 99 #[.val (.int p0), .val (.int p1), .val (.long q2), .second, .val (.long q3), .second, .val (.long q4), .second, .val (.long q5), .second, .val (.int y1), .val (.int (0 : Int32)), .val (.ref b4), .val (.double y17), .second, .unset, .unset] [(.int (2 : Int32)), (.int (0 : Int32))]))
    refine Goes.step (fun t k => XS.icmpNo X16.here hx rfl (hb hby at_99) rfl (tlt (by decide)).2.1 k) ?_
    show Goes _ _ _ _ _ _ _ (T16.setTop (mkF m 102 #[.val (.int p0), .val (.int p1), .val (.long q2), .second, .val (.long q3), .second, .val (.long q4), .second, .val (.long q5), .second, .val (.int y1), .val (.int (0 : Int32)), .val (.ref b4), .val (.double y17), .second, .unset, .unset] []))
    refine Goes.step (fun t k => XS.dconst0 X16.here hx rfl (hb hby at_102) (v := (0 : UInt64)) (by decide) k) ?_
    show Goes _ _ _ _ _ _ _ (T16.setTop (mkF m 103 #[.val (.int p0), .val (.int p1), .val (.long q2), .second, .val (.long q3), .second, .val (.long q4), .second, .val (.long q5), .second, .val (.int y1), .val (.int (0 : Int32)), .val (.ref b4), .val (.double y17), .second, .unset, .unset] [(.double (0 : UInt64))]))
    refine Goes.step (fun t k => XS.dstore X16.here hx rfl (hb hby at_103) rfl (l' := #[.val (.int p0), .val (.int p1), .val (.long q2), .second, .val (.long q3), .second, .val (.long q4), .second, .val (.long q5), .second, .val (.int y1), .val (.int (0 : Int32)), .val (.ref b4), .val (.double y17), .second, .val (.double (0 : UInt64)), .second]) rfl k) ?_
    show Goes _ _ _ _ _ _ _ (T16.setTop (mkF m 105 #[.val (.int p0), .val (.int p1), .val (.long q2), .second, .val (.long q3), .second, .val (.long q4), .second, .val (.long q5), .second, .val (.int y1), .val (.int (0 : Int32)), .val (.ref b4), .val (.double y17), .second, .val (.double (0 : UInt64)), .second] []))
    refine Goes.step (fun t k => XS.goto X16.here hx rfl (pc0 := 105) (pc' := 180) rfl (hb hby at_105) (by decide) (by decide) k) ?_
    show Goes _ _ _ _ _ _ _ (T16.setTop (mkF m 180 #[.val (.int p0), .val (.int p1), .val (.long q2), .second, .val (.long q3), .second, .val (.long q4), .second, .val (.long q5), .second, .val (.int y1), .val (.int (0 : Int32)), .val (.ref b4), .val (.double y17), .second, .val (.double (0 : UInt64)), .second] []))
    refine Goes.step (fun t k => XS.dload X16.here hx rfl (hb hby at_180) rfl k) ?_
    show Goes _ _ _ _ _ _ _ (T16.setTop (mkF m 182 #[.val (.int p0), .val (.int p1), .val (.long q2), .second, .val (.long q3), .second, .val (.long q4), .second, .val (.long q5), .second, .val (.int y1), .val (.int (0 : Int32)), .val (.ref b4), .val (.double y17), .second, .val (.double (0 : UInt64)), .second] [(.double y17)]))
    refine Goes.step (fun t k => XS.dload X16.here hx rfl (hb hby at_182) rfl k) ?_
    show Goes _ _ _ _ _ _ _ (T16.setTop (mkF m 184 #[.val (.int p0), .val (.int p1), .val (.long q2), .second, .val (.long q3), .second, .val (.long q4), .second, .val (.long q5), .second, .val (.int y1), .val (.int (0 : Int32)), .val (.ref b4), .val (.double y17), .second, .val (.double (0 : UInt64)), .second] [(.double (0 : UInt64)), (.double y17)]))
    refine Goes.step (fun t k => XS.dcmpS X16.here hx rfl (hb hby at_184) rfl rfl k) ?_
    show Goes _ _ _ _ _ _ _ (T16.setTop (mkF m 185 #[.val (.int p0), .val (.int p1), .val (.long q2), .second, .val (.long q3), .second, .val (.long q4), .second, .val (.long q5), .second, .val (.int y1), .val (.int (0 : Int32)), .val (.ref b4), .val (.double y17), .second, .val (.double (0 : UInt64)), .second] [(.int (cmpValue (FP.dcmp y17 (0 : UInt64)) .l))]))
    suffices k20 : ∀ (x20_0 : Int32), x20_0 = (if (cmpValue (FP.dcmp y17 (0 : UInt64)) .l) = (0 : Int32) then (1 : Int32) else (0 : Int32)) → Goes p e below s (Q0 Z p0 p1 q2 q3 q4 q5 h0 n0) kC0 kS0 (T16.setTop (mkF m 193 #[.val (.int p0), .val (.int p1), .val (.long q2), .second, .val (.long q3), .second, .val (.long q4), .second, .val (.long q5), .second, .val (.int y1), .val (.int (0 : Int32)), .val (.ref b4), .val (.double y17), .second, .val (.double (0 : UInt64)), .second] [(.int x20_0)])) by
      by_cases hc185_19 : (cmpValue (FP.dcmp y17 (0 : UInt64)) .l) = (0 : Int32)
      · refine Goes.step (fun t k => XS.ifNo X16.here hx rfl (hb hby at_185) rfl ((if0 _ _).trans (teq hc185_19).2) k) ?_
        show Goes _ _ _ _ _ _ _ (T16.setTop (mkF m 188 #[.val (.int p0), .val (.int p1), .val (.long q2), .second, .val (.long q3), .second, .val (.long q4), .second, .val (.long q5), .second, .val (.int y1), .val (.int (0 : Int32)), .val (.ref b4), .val (.double y17), .second, .val (.double (0 : UInt64)), .second] []))
        refine Goes.step (fun t k => XS.iconst X16.here hx rfl (hb hby at_188) k) ?_
        show Goes _ _ _ _ _ _ _ (T16.setTop (mkF m 189 #[.val (.int p0), .val (.int p1), .val (.long q2), .second, .val (.long q3), .second, .val (.long q4), .second, .val (.long q5), .second, .val (.int y1), .val (.int (0 : Int32)), .val (.ref b4), .val (.double y17), .second, .val (.double (0 : UInt64)), .second] [(.int (1 : Int32))]))
        refine Goes.step (fun t k => XS.goto X16.here hx rfl (pc0 := 189) (pc' := 193) rfl (hb hby at_189) (by decide) (by decide) k) ?_
        show Goes _ _ _ _ _ _ _ (T16.setTop (mkF m 193 #[.val (.int p0), .val (.int p1), .val (.long q2), .second, .val (.long q3), .second, .val (.long q4), .second, .val (.long q5), .second, .val (.int y1), .val (.int (0 : Int32)), .val (.ref b4), .val (.double y17), .second, .val (.double (0 : UInt64)), .second] [(.int (1 : Int32))]))
        exact k20 _ (if_pos hc185_19).symm
      · refine Goes.step (fun t k => XS.ifYes X16.here hx rfl (pc0 := 185) (pc' := 192) rfl (hb hby at_185) rfl ((if0 _ _).trans (feq hc185_19).2) (by decide) (by decide) k) ?_
        show Goes _ _ _ _ _ _ _ (T16.setTop (mkF m 192 #[.val (.int p0), .val (.int p1), .val (.long q2), .second, .val (.long q3), .second, .val (.long q4), .second, .val (.long q5), .second, .val (.int y1), .val (.int (0 : Int32)), .val (.ref b4), .val (.double y17), .second, .val (.double (0 : UInt64)), .second] []))
        refine Goes.step (fun t k => XS.iconst X16.here hx rfl (hb hby at_192) k) ?_
        show Goes _ _ _ _ _ _ _ (T16.setTop (mkF m 193 #[.val (.int p0), .val (.int p1), .val (.long q2), .second, .val (.long q3), .second, .val (.long q4), .second, .val (.long q5), .second, .val (.int y1), .val (.int (0 : Int32)), .val (.ref b4), .val (.double y17), .second, .val (.double (0 : UInt64)), .second] [(.int (0 : Int32))]))
        exact k20 _ (if_neg hc185_19).symm
    intro x20_0 hx20_0
    exact Goes.retZ X16 hx Bd.notSynchronized (r := (1 : Int32)) Bd.returns (by simp) (hb hby at_193) (own_plain p0 y1 y17 x20_0 hy1 hy17 hx20_0) ⟨rfl, N10⟩ (by decide) (by decide)
  · show Goes _ _ _ _ _ _ _ (s₁.setTop (mkF m 15 #[.val (.int p0), .val (.int p1), .val (.long q2), .second, .val (.long q3), .second, .val (.long q4), .second, .val (.long q5), .second, .val (.int y1), .val (.int (1 : Int32)), .unset, .unset, .unset, .unset, .unset] []))
    obtain ⟨T21, h21, X21, e21, E21, A21, D21, -, st21⟩ := newO X0 hx hZ hown (hw _ (List.mem_of_getElem? (i := 1) rfl)) (hw _ (List.mem_of_getElem? (i := 2) rfl)) (hw _ (List.mem_of_getElem? (i := 3) rfl)) e0 (g := (mkF m 15 #[.val (.int p0), .val (.int p1), .val (.long q2), .second, .val (.long q3), .second, .val (.long q4), .second, .val (.long q5), .second, .val (.int y1), .val (.int (1 : Int32)), .unset, .unset, .unset, .unset, .unset] [])) rfl (hb hby at_15) (by decide) (by decide)
    obtain ⟨b21, g21⟩ : ∃ z, z = h0.size := ⟨_, rfl⟩
    rw [← g21] at A21 D21 st21
    have Zs21 : n0 ≤ b21 := Nat.le_trans Z0 (Nat.le_of_eq g21.symm)
    have Zh21 : h0.size ≤ b21 := Nat.le_trans (Keep.refl h0 []).1 (Nat.le_of_eq g21.symm)
    have K21 := (Keep.refl h0 []).ext E21
    have Z21 := Nat.le_trans Z0 E21.1
    have F22 : Fld Z h21 b21 "com/example/zugzwang/zugzwang/search/AlphaBetaEngine$Deepening" "moves" "I" (.int (0 : Int32)) := D21 (Or.inr (hw _ (List.mem_of_getElem? (i := 11) rfl))) (ty := .int) (by decide)
    have F23 : Fld Z h21 b21 "com/example/zugzwang/zugzwang/search/AlphaBetaEngine$Deepening" "oneBefore" "J" (.long (0 : Int64)) := D21 (Or.inl (hw _ (List.mem_of_getElem? (i := 18) rfl))) (ty := .long) (by decide)
    have F24 : Fld Z h21 b21 "com/example/zugzwang/zugzwang/search/AlphaBetaEngine$Deepening" "twoBefore" "J" (.long (0 : Int64)) := D21 (Or.inl (hw _ (List.mem_of_getElem? (i := 20) rfl))) (ty := .long) (by decide)
    have F25 : Fld Z h21 b21 "com/example/zugzwang/zugzwang/search/AlphaBetaEngine$Deepening" "last" "J" (.long (0 : Int64)) := D21 (Or.inl (hw _ (List.mem_of_getElem? (i := 22) rfl))) (ty := .long) (by decide)
    have F26 : Fld Z h21 b21 "com/example/zugzwang/zugzwang/search/AlphaBetaEngine$Deepening" "searches" "I" (.int (0 : Int32)) := D21 (Or.inl (hw _ (List.mem_of_getElem? (i := 24) rfl))) (ty := .int) (by decide)
    refine Goes.step (fun t k => st21 t k) ?_
    show Goes _ _ _ _ _ _ _ (T21.setTop (mkF m 18 #[.val (.int p0), .val (.int p1), .val (.long q2), .second, .val (.long q3), .second, .val (.long q4), .second, .val (.long q5), .second, .val (.int y1), .val (.int (1 : Int32)), .unset, .unset, .unset, .unset, .unset] [(.ref b21)]))
    refine Goes.step (fun t k => XS.dup X21.here hx rfl (hb hby at_18) rfl rfl k) ?_
    show Goes _ _ _ _ _ _ _ (T21.setTop (mkF m 19 #[.val (.int p0), .val (.int p1), .val (.long q2), .second, .val (.long q3), .second, .val (.long q4), .second, .val (.long q5), .second, .val (.int y1), .val (.int (1 : Int32)), .unset, .unset, .unset, .unset, .unset] [(.ref b21), (.ref b21)]))
    refine Goes.step (fun t k => XS.iload X21.here hx rfl (hb hby at_19) rfl k) ?_
    show Goes _ _ _ _ _ _ _ (T21.setTop (mkF m 21 #[.val (.int p0), .val (.int p1), .val (.long q2), .second, .val (.long q3), .second, .val (.long q4), .second, .val (.long q5), .second, .val (.int y1), .val (.int (1 : Int32)), .unset, .unset, .unset, .unset, .unset] [(.int y1), (.ref b21), (.ref b21)]))
    obtain ⟨_, _, ⟨T27, L27, k27, n27⟩, -, X27, ⟨Lc27, hQ27, l27, y27, z27⟩, st27⟩ := X21.specialBack hx (y := (⟨"com/example/zugzwang/zugzwang/search/AlphaBetaEngine$Deepening", "<init>", "(I)V"⟩ : MethodName)) rfl hown (mvT hZ (hw _ (List.mem_of_getElem? (i := 4) rfl))) (mvT hZ (hw _ (List.mem_of_getElem? (i := 5) rfl))) (mvT hZ (hw _ (List.mem_of_getElem? (i := 6) rfl))) (by decide) (backOf (W := 1) (rm1 l Z tA hw [] b21 y1 h21 n0 Z21 A21 F25 F22 F23 F26 F24 Zs21) hZ (hw _ (List.mem_of_getElem? (i := 6) rfl)) (hw _ (List.mem_of_getElem? (i := 3) rfl)) (by decide) (by decide)) (g := (mkF m 21 #[.val (.int p0), .val (.int p1), .val (.long q2), .second, .val (.long q3), .second, .val (.long q4), .second, .val (.long q5), .second, .val (.int y1), .val (.int (1 : Int32)), .unset, .unset, .unset, .unset, .unset] [(.int y1), (.ref b21), (.ref b21)])) rfl (by rw [hml]; rfl) (Steps.refl _) (a := b21) (argsL := [(.int y1)]) (rest := [(.ref b21)]) (lenOf own_pd2 rfl) rfl (by show 2 * 0 + _ ≤ _; exact Nat.le_of_eq rfl) (hb hby at_21) (fun _ _ => ⟨rfl, e21, (by decide : 1 + 0 ≤ _), (by decide : 5 + 0 ≤ _)⟩)
    dsimp only [Pt.U, Pt.locs, Pt.cells, Pt.slots] at X27 l27 y27 z27 st27 hQ27
    rw [l27, y27, z27] at X27
    generalize e27 : T27.heap = h27 at hQ27
    obtain ⟨rfl, Nq27, Kq27, G27_0, G27_1, G27_2, G27_3, G27_4, G27_5⟩ := hQ27
    have N27 := Fr.app N0 Nq27
    have K27 := K21.trans Kq27 (allS (Or.inr Zh21) all0)
    have Z27 := Nat.le_trans Z21 Kq27.1
    change Stand _ _ _ _ _ _ _ _ _ _ _ _ 1 5 at X27
    refine Goes.step (fun t k => st27.trans k) ?_
    show Goes _ _ _ _ _ _ _ (T27.setTop (mkF m 24 #[.val (.int p0), .val (.int p1), .val (.long q2), .second, .val (.long q3), .second, .val (.long q4), .second, .val (.long q5), .second, .val (.int y1), .val (.int (1 : Int32)), .unset, .unset, .unset, .unset, .unset] [(.ref b21)]))
    refine Goes.step (fun t k => XS.astore X27.here hx rfl (hb hby at_24) rfl rfl (l' := #[.val (.int p0), .val (.int p1), .val (.long q2), .second, .val (.long q3), .second, .val (.long q4), .second, .val (.long q5), .second, .val (.int y1), .val (.int (1 : Int32)), .val (.ref b21), .unset, .unset, .unset, .unset]) rfl k) ?_
    show Goes _ _ _ _ _ _ _ (T27.setTop (mkF m 26 #[.val (.int p0), .val (.int p1), .val (.long q2), .second, .val (.long q3), .second, .val (.long q4), .second, .val (.long q5), .second, .val (.int y1), .val (.int (1 : Int32)), .val (.ref b21), .unset, .unset, .unset, .unset] []))
    refine Goes.step (fun t k => XS.iload X27.here hx rfl (hb hby at_26) rfl k) ?_
    show Goes _ _ _ _ _ _ _ (T27.setTop (mkF m 28 #[.val (.int p0), .val (.int p1), .val (.long q2), .second, .val (.long q3), .second, .val (.long q4), .second, .val (.long q5), .second, .val (.int y1), .val (.int (1 : Int32)), .val (.ref b21), .unset, .unset, .unset, .unset] [(.int (1 : Int32))]))
    refine Goes.step (fun t k => XS.iconst X27.here hx rfl (hb hby at_28) k) ?_
    show Goes _ _ _ _ _ _ _ (T27.setTop (mkF m 29 #[.val (.int p0), .val (.int p1), .val (.long q2), .second, .val (.long q3), .second, .val (.long q4), .second, .val (.long q5), .second, .val (.int y1), .val (.int (1 : Int32)), .val (.ref b21), .unset, .unset, .unset, .unset] [(.int (1 : Int32)), (.int (1 : Int32))]))
    refine Goes.step (fun t k => XS.icmpNo X27.here hx rfl (hb hby at_29) rfl (flt (by decide)).1 k) ?_
    show Goes _ _ _ _ _ _ _ (T27.setTop (mkF m 32 #[.val (.int p0), .val (.int p1), .val (.long q2), .second, .val (.long q3), .second, .val (.long q4), .second, .val (.long q5), .second, .val (.int y1), .val (.int (1 : Int32)), .val (.ref b21), .unset, .unset, .unset, .unset] []))
    refine Goes.step (fun t k => XS.aload X27.here hx rfl (hb hby at_32) rfl rfl k) ?_
    show Goes _ _ _ _ _ _ _ (T27.setTop (mkF m 34 #[.val (.int p0), .val (.int p1), .val (.long q2), .second, .val (.long q3), .second, .val (.long q4), .second, .val (.long q5), .second, .val (.int y1), .val (.int (1 : Int32)), .val (.ref b21), .unset, .unset, .unset, .unset] [(.ref b21)]))
    refine Goes.step (fun t k => XS.lloadN X27.here hx rfl (hb hby at_34) rfl k) ?_
    show Goes _ _ _ _ _ _ _ (T27.setTop (mkF m 35 #[.val (.int p0), .val (.int p1), .val (.long q2), .second, .val (.long q3), .second, .val (.long q4), .second, .val (.long q5), .second, .val (.int y1), .val (.int (1 : Int32)), .val (.ref b21), .unset, .unset, .unset, .unset] [(.long q2), (.ref b21)]))
    obtain ⟨cq29, kq29, q29a, q29b, q29c⟩ := isOf hZ e27 G27_0
    obtain ⟨_, _, ⟨T29, L29, k29, n29⟩, -, X29, ⟨Lc29, hQ29, l29, y29, z29⟩, st29⟩ := X27.virtualBack hx (y := (⟨"com/example/zugzwang/zugzwang/search/AlphaBetaEngine$Deepening", "finished", "(J)V"⟩ : MethodName)) (z := (⟨"com/example/zugzwang/zugzwang/search/AlphaBetaEngine$Deepening", "finished", "(J)V"⟩ : MethodName)) hown (mvT hZ (hw _ (List.mem_of_getElem? (i := 12) rfl))) (mvT hZ (hw _ (List.mem_of_getElem? (i := 13) rfl))) (notFace_of_selects (args := #[]) (mvT hZ (hw _ (List.mem_of_getElem? (i := 15) rfl)))) (mvT hZ (hw _ (List.mem_of_getElem? (i := 15) rfl))) (mvT hZ (hw _ (List.mem_of_getElem? (i := 14) rfl))) (by decide) (backOf (W := 0) (rm3 l Z tA hw [] b21 q2 (0 : Int64) y1 (0 : Int64) (0 : Int32) (0 : Int64) h27 n0 Z27 G27_0 G27_1 G27_2 G27_3 G27_4 G27_5 Zs21) hZ (hw _ (List.mem_of_getElem? (i := 16) rfl)) (hw _ (List.mem_of_getElem? (i := 3) rfl)) (by decide) (by decide)) q29a q29c (g := (mkF m 35 #[.val (.int p0), .val (.int p1), .val (.long q2), .second, .val (.long q3), .second, .val (.long q4), .second, .val (.long q5), .second, .val (.int y1), .val (.int (1 : Int32)), .val (.ref b21), .unset, .unset, .unset, .unset] [(.long q2), (.ref b21)])) rfl (by rw [hml]; rfl) (Steps.refl _) (argsL := [(.long q2)]) (rest := []) (lenOf own_pd4 rfl) rfl (by show 2 * 0 + _ ≤ _; exact Nat.le_of_eq rfl) (hb hby at_35) (fun _ _ => ⟨rfl, e27, (by decide : 1 + 0 ≤ _), (by decide : 5 + 0 ≤ _)⟩)
    dsimp only [Pt.U, Pt.locs, Pt.cells, Pt.slots] at X29 l29 y29 z29 st29 hQ29
    rw [l29, y29, z29] at X29
    generalize e29 : T29.heap = h29 at hQ29
    obtain ⟨rfl, Nq29, Kq29, G29_0, G29_1, G29_2, G29_3, G29_4, G29_5⟩ := hQ29
    have N29 := Fr.app N27 Nq29
    have K29 := K27.trans Kq29 (allS (Or.inr Zh21) all0)
    have Z29 := Nat.le_trans Z27 Kq29.1
    change Stand _ _ _ _ _ _ _ _ _ _ _ _ 1 5 at X29
    refine Goes.step (fun t k => st29.trans k) ?_
    show Goes _ _ _ _ _ _ _ (T29.setTop (mkF m 38 #[.val (.int p0), .val (.int p1), .val (.long q2), .second, .val (.long q3), .second, .val (.long q4), .second, .val (.long q5), .second, .val (.int y1), .val (.int (1 : Int32)), .val (.ref b21), .unset, .unset, .unset, .unset] []))
    refine Goes.step (fun t k => XS.iload X29.here hx rfl (hb hby at_38) rfl k) ?_
    show Goes _ _ _ _ _ _ _ (T29.setTop (mkF m 40 #[.val (.int p0), .val (.int p1), .val (.long q2), .second, .val (.long q3), .second, .val (.long q4), .second, .val (.long q5), .second, .val (.int y1), .val (.int (1 : Int32)), .val (.ref b21), .unset, .unset, .unset, .unset] [(.int (1 : Int32))]))
    refine Goes.step (fun t k => XS.iconst X29.here hx rfl (hb hby at_40) k) ?_
    show Goes _ _ _ _ _ _ _ (T29.setTop (mkF m 41 #[.val (.int p0), .val (.int p1), .val (.long q2), .second, .val (.long q3), .second, .val (.long q4), .second, .val (.long q5), .second, .val (.int y1), .val (.int (1 : Int32)), .val (.ref b21), .unset, .unset, .unset, .unset] [(.int (2 : Int32)), (.int (1 : Int32))]))
    refine Goes.step (fun t k => XS.icmpYes X29.here hx rfl (pc0 := 41) (pc' := 51) rfl (hb hby at_41) rfl (tlt (by decide)).1 (by decide) (by decide) k) ?_
    show Goes _ _ _ _ _ _ _ (T29.setTop (mkF m 51 #[.val (.int p0), .val (.int p1), .val (.long q2), .second, .val (.long q3), .second, .val (.long q4), .second, .val (.long q5), .second, .val (.int y1), .val (.int (1 : Int32)), .val (.ref b21), .unset, .unset, .unset, .unset] []))
    refine Goes.step (fun t k => XS.iload X29.here hx rfl (hb hby at_51) rfl k) ?_
    show Goes _ _ _ _ _ _ _ (T29.setTop (mkF m 53 #[.val (.int p0), .val (.int p1), .val (.long q2), .second, .val (.long q3), .second, .val (.long q4), .second, .val (.long q5), .second, .val (.int y1), .val (.int (1 : Int32)), .val (.ref b21), .unset, .unset, .unset, .unset] [(.int (1 : Int32))]))
    refine Goes.step (fun t k => XS.iconst X29.here hx rfl (hb hby at_53) k) ?_
    show Goes _ _ _ _ _ _ _ (T29.setTop (mkF m 54 #[.val (.int p0), .val (.int p1), .val (.long q2), .second, .val (.long q3), .second, .val (.long q4), .second, .val (.long q5), .second, .val (.int y1), .val (.int (1 : Int32)), .val (.ref b21), .unset, .unset, .unset, .unset] [(.int (3 : Int32)), (.int (1 : Int32))]))
    refine Goes.step (fun t k => XS.icmpYes X29.here hx rfl (pc0 := 54) (pc' := 64) rfl (hb hby at_54) rfl (tlt (by decide)).1 (by decide) (by decide) k) ?_
    show Goes _ _ _ _ _ _ _ (T29.setTop (mkF m 64 #[.val (.int p0), .val (.int p1), .val (.long q2), .second, .val (.long q3), .second, .val (.long q4), .second, .val (.long q5), .second, .val (.int y1), .val (.int (1 : Int32)), .val (.ref b21), .unset, .unset, .unset, .unset] []))
    refine Goes.step (fun t k => XS.iload X29.here hx rfl (hb hby at_64) rfl k) ?_
    show Goes _ _ _ _ _ _ _ (T29.setTop (mkF m 66 #[.val (.int p0), .val (.int p1), .val (.long q2), .second, .val (.long q3), .second, .val (.long q4), .second, .val (.long q5), .second, .val (.int y1), .val (.int (1 : Int32)), .val (.ref b21), .unset, .unset, .unset, .unset] [(.int (1 : Int32))]))
    refine Goes.step (fun t k => XS.iconst X29.here hx rfl (hb hby at_66) k) ?_
    show Goes _ _ _ _ _ _ _ (T29.setTop (mkF m 67 #[.val (.int p0), .val (.int p1), .val (.long q2), .second, .val (.long q3), .second, .val (.long q4), .second, .val (.long q5), .second, .val (.int y1), .val (.int (1 : Int32)), .val (.ref b21), .unset, .unset, .unset, .unset] [(.int (4 : Int32)), (.int (1 : Int32))]))
    refine Goes.step (fun t k => XS.icmpYes X29.here hx rfl (pc0 := 67) (pc' := 77) rfl (hb hby at_67) rfl (tlt (by decide)).1 (by decide) (by decide) k) ?_
    show Goes _ _ _ _ _ _ _ (T29.setTop (mkF m 77 #[.val (.int p0), .val (.int p1), .val (.long q2), .second, .val (.long q3), .second, .val (.long q4), .second, .val (.long q5), .second, .val (.int y1), .val (.int (1 : Int32)), .val (.ref b21), .unset, .unset, .unset, .unset] []))
    refine Goes.step (fun t k => XS.iload X29.here hx rfl (hb hby at_77) rfl k) ?_
    show Goes _ _ _ _ _ _ _ (T29.setTop (mkF m 79 #[.val (.int p0), .val (.int p1), .val (.long q2), .second, .val (.long q3), .second, .val (.long q4), .second, .val (.long q5), .second, .val (.int y1), .val (.int (1 : Int32)), .val (.ref b21), .unset, .unset, .unset, .unset] [(.int (1 : Int32))]))
    refine Goes.step (fun t k => XS.iconst X29.here hx rfl (hb hby at_79) k) ?_
    show Goes _ _ _ _ _ _ _ (T29.setTop (mkF m 80 #[.val (.int p0), .val (.int p1), .val (.long q2), .second, .val (.long q3), .second, .val (.long q4), .second, .val (.long q5), .second, .val (.int y1), .val (.int (1 : Int32)), .val (.ref b21), .unset, .unset, .unset, .unset] [(.int (5 : Int32)), (.int (1 : Int32))]))
    refine Goes.step (fun t k => XS.icmpYes X29.here hx rfl (pc0 := 80) (pc' := 89) rfl (hb hby at_80) rfl (tlt (by decide)).1 (by decide) (by decide) k) ?_
    show Goes _ _ _ _ _ _ _ (T29.setTop (mkF m 89 #[.val (.int p0), .val (.int p1), .val (.long q2), .second, .val (.long q3), .second, .val (.long q4), .second, .val (.long q5), .second, .val (.int y1), .val (.int (1 : Int32)), .val (.ref b21), .unset, .unset, .unset, .unset] []))
    refine Goes.step (fun t k => XS.aload X29.here hx rfl (hb hby at_89) rfl rfl k) ?_
    show Goes _ _ _ _ _ _ _ (T29.setTop (mkF m 91 #[.val (.int p0), .val (.int p1), .val (.long q2), .second, .val (.long q3), .second, .val (.long q4), .second, .val (.long q5), .second, .val (.int y1), .val (.int (1 : Int32)), .val (.ref b21), .unset, .unset, .unset, .unset] [(.ref b21)]))
    obtain ⟨cq34, kq34, q34a, q34b, q34c⟩ := isOf hZ e29 G29_0
    obtain ⟨_, _, ⟨T34, L34, k34, n34⟩, -, X34, ⟨Lc34, hQ34, l34, y34, z34⟩, st34⟩ := X29.virtualBack hx (y := (⟨"com/example/zugzwang/zugzwang/search/AlphaBetaEngine$Deepening", "nextNanos", "()D"⟩ : MethodName)) (z := (⟨"com/example/zugzwang/zugzwang/search/AlphaBetaEngine$Deepening", "nextNanos", "()D"⟩ : MethodName)) hown (mvT hZ (hw _ (List.mem_of_getElem? (i := 25) rfl))) (mvT hZ (hw _ (List.mem_of_getElem? (i := 26) rfl))) (notFace_of_selects (args := #[]) (mvT hZ (hw _ (List.mem_of_getElem? (i := 28) rfl)))) (mvT hZ (hw _ (List.mem_of_getElem? (i := 28) rfl))) (mvT hZ (hw _ (List.mem_of_getElem? (i := 27) rfl))) (by decide) (backOf (W := 0) (rm4 l Z tA hw [] b21 q2 y1 (0 : Int64) ((0 : Int32) + (1 : Int32)) (0 : Int64) h29 G29_1 G29_2 G29_3 G29_4 G29_5) hZ (hw _ (List.mem_of_getElem? (i := 29) rfl)) (hw _ (List.mem_of_getElem? (i := 3) rfl)) (by decide) (by decide)) q34a q34c (g := (mkF m 91 #[.val (.int p0), .val (.int p1), .val (.long q2), .second, .val (.long q3), .second, .val (.long q4), .second, .val (.long q5), .second, .val (.int y1), .val (.int (1 : Int32)), .val (.ref b21), .unset, .unset, .unset, .unset] [(.ref b21)])) rfl (by rw [hml]; rfl) (Steps.refl _) (argsL := []) (rest := []) (lenOf own_pd3 rfl) rfl (by show 2 * 0 + _ ≤ _; exact Nat.le_of_eq rfl) (hb hby at_91) (fun _ _ => ⟨rfl, e29, (by decide : 1 + 0 ≤ _), (by decide : 5 + 0 ≤ _)⟩)
    dsimp only [Pt.U, Pt.locs, Pt.cells, Pt.slots] at X34 l34 y34 z34 st34 hQ34
    rw [l34, y34, z34] at X34
    obtain ⟨rfl, rfl, e34⟩ := hQ34
    try rw [List.append_nil] at X34
    change Stand _ _ _ _ _ _ _ _ _ _ _ _ 1 5 at X34
    refine Goes.step (fun t k => st34.trans k) ?_
    show Goes _ _ _ _ _ _ _ (T34.setTop (mkF m 94 #[.val (.int p0), .val (.int p1), .val (.long q2), .second, .val (.long q3), .second, .val (.long q4), .second, .val (.long q5), .second, .val (.int y1), .val (.int (1 : Int32)), .val (.ref b21), .unset, .unset, .unset, .unset] [(.double (f4 q2 y1 (0 : Int64) ((0 : Int32) + (1 : Int32)) (0 : Int64)))]))
    refine Goes.step (fun t k => XS.dstore X34.here hx rfl (hb hby at_94) rfl (l' := #[.val (.int p0), .val (.int p1), .val (.long q2), .second, .val (.long q3), .second, .val (.long q4), .second, .val (.long q5), .second, .val (.int y1), .val (.int (1 : Int32)), .val (.ref b21), .val (.double (f4 q2 y1 (0 : Int64) ((0 : Int32) + (1 : Int32)) (0 : Int64))), .second, .unset, .unset]) rfl k) ?_
    show Goes _ _ _ _ _ _ _ (T34.setTop (mkF m 96 #[.val (.int p0), .val (.int p1), .val (.long q2), .second, .val (.long q3), .second, .val (.long q4), .second, .val (.long q5), .second, .val (.int y1), .val (.int (1 : Int32)), .val (.ref b21), .val (.double (f4 q2 y1 (0 : Int64) ((0 : Int32) + (1 : Int32)) (0 : Int64))), .second, .unset, .unset] []))
    generalize hy35 : (f4 q2 y1 (0 : Int64) ((0 : Int32) + (1 : Int32)) (0 : Int64)) = y35
    refine Goes.step (fun t k => XS.iload X34.here hx rfl (hb hby at_96) rfl k) ?_
    show Goes _ _ _ _ _ _ _ (T34.setTop (mkF m 98 #[.val (.int p0), .val (.int p1), .val (.long q2), .second, .val (.long q3), .second, .val (.long q4), .second, .val (.long q5), .second, .val (.int y1), .val (.int (1 : Int32)), .val (.ref b21), .val (.double y35), .second, .unset, .unset] [(.int (1 : Int32))]))
    refine Goes.step (fun t k => XS.iconst X34.here hx rfl (hb hby at_98) k) ?_
    show Goes _ _ _ _ _ _ _ (T34.setTop (mkF m 99 #[.val (.int p0), .val (.int p1), .val (.long q2), .second, .val (.long q3), .second, .val (.long q4), .second, .val (.long q5), .second, .val (.int y1), .val (.int (1 : Int32)), .val (.ref b21), .val (.double y35), .second, .unset, .unset] [(.int (2 : Int32)), (.int (1 : Int32))]))
    refine Goes.step (fun t k => XS.icmpNo X34.here hx rfl (hb hby at_99) rfl (tlt (by decide)).2.1 k) ?_
    show Goes _ _ _ _ _ _ _ (T34.setTop (mkF m 102 #[.val (.int p0), .val (.int p1), .val (.long q2), .second, .val (.long q3), .second, .val (.long q4), .second, .val (.long q5), .second, .val (.int y1), .val (.int (1 : Int32)), .val (.ref b21), .val (.double y35), .second, .unset, .unset] []))
    refine Goes.step (fun t k => XS.dconst0 X34.here hx rfl (hb hby at_102) (v := (0 : UInt64)) (by decide) k) ?_
    show Goes _ _ _ _ _ _ _ (T34.setTop (mkF m 103 #[.val (.int p0), .val (.int p1), .val (.long q2), .second, .val (.long q3), .second, .val (.long q4), .second, .val (.long q5), .second, .val (.int y1), .val (.int (1 : Int32)), .val (.ref b21), .val (.double y35), .second, .unset, .unset] [(.double (0 : UInt64))]))
    refine Goes.step (fun t k => XS.dstore X34.here hx rfl (hb hby at_103) rfl (l' := #[.val (.int p0), .val (.int p1), .val (.long q2), .second, .val (.long q3), .second, .val (.long q4), .second, .val (.long q5), .second, .val (.int y1), .val (.int (1 : Int32)), .val (.ref b21), .val (.double y35), .second, .val (.double (0 : UInt64)), .second]) rfl k) ?_
    show Goes _ _ _ _ _ _ _ (T34.setTop (mkF m 105 #[.val (.int p0), .val (.int p1), .val (.long q2), .second, .val (.long q3), .second, .val (.long q4), .second, .val (.long q5), .second, .val (.int y1), .val (.int (1 : Int32)), .val (.ref b21), .val (.double y35), .second, .val (.double (0 : UInt64)), .second] []))
    refine Goes.step (fun t k => XS.goto X34.here hx rfl (pc0 := 105) (pc' := 180) rfl (hb hby at_105) (by decide) (by decide) k) ?_
    show Goes _ _ _ _ _ _ _ (T34.setTop (mkF m 180 #[.val (.int p0), .val (.int p1), .val (.long q2), .second, .val (.long q3), .second, .val (.long q4), .second, .val (.long q5), .second, .val (.int y1), .val (.int (1 : Int32)), .val (.ref b21), .val (.double y35), .second, .val (.double (0 : UInt64)), .second] []))
    refine Goes.step (fun t k => XS.dload X34.here hx rfl (hb hby at_180) rfl k) ?_
    show Goes _ _ _ _ _ _ _ (T34.setTop (mkF m 182 #[.val (.int p0), .val (.int p1), .val (.long q2), .second, .val (.long q3), .second, .val (.long q4), .second, .val (.long q5), .second, .val (.int y1), .val (.int (1 : Int32)), .val (.ref b21), .val (.double y35), .second, .val (.double (0 : UInt64)), .second] [(.double y35)]))
    refine Goes.step (fun t k => XS.dload X34.here hx rfl (hb hby at_182) rfl k) ?_
    show Goes _ _ _ _ _ _ _ (T34.setTop (mkF m 184 #[.val (.int p0), .val (.int p1), .val (.long q2), .second, .val (.long q3), .second, .val (.long q4), .second, .val (.long q5), .second, .val (.int y1), .val (.int (1 : Int32)), .val (.ref b21), .val (.double y35), .second, .val (.double (0 : UInt64)), .second] [(.double (0 : UInt64)), (.double y35)]))
    refine Goes.step (fun t k => XS.dcmpS X34.here hx rfl (hb hby at_184) rfl rfl k) ?_
    show Goes _ _ _ _ _ _ _ (T34.setTop (mkF m 185 #[.val (.int p0), .val (.int p1), .val (.long q2), .second, .val (.long q3), .second, .val (.long q4), .second, .val (.long q5), .second, .val (.int y1), .val (.int (1 : Int32)), .val (.ref b21), .val (.double y35), .second, .val (.double (0 : UInt64)), .second] [(.int (cmpValue (FP.dcmp y35 (0 : UInt64)) .l))]))
    suffices k38 : ∀ (x38_0 : Int32), x38_0 = (if (cmpValue (FP.dcmp y35 (0 : UInt64)) .l) = (0 : Int32) then (1 : Int32) else (0 : Int32)) → Goes p e below s (Q0 Z p0 p1 q2 q3 q4 q5 h0 n0) kC0 kS0 (T34.setTop (mkF m 193 #[.val (.int p0), .val (.int p1), .val (.long q2), .second, .val (.long q3), .second, .val (.long q4), .second, .val (.long q5), .second, .val (.int y1), .val (.int (1 : Int32)), .val (.ref b21), .val (.double y35), .second, .val (.double (0 : UInt64)), .second] [(.int x38_0)])) by
      by_cases hc185_37 : (cmpValue (FP.dcmp y35 (0 : UInt64)) .l) = (0 : Int32)
      · refine Goes.step (fun t k => XS.ifNo X34.here hx rfl (hb hby at_185) rfl ((if0 _ _).trans (teq hc185_37).2) k) ?_
        show Goes _ _ _ _ _ _ _ (T34.setTop (mkF m 188 #[.val (.int p0), .val (.int p1), .val (.long q2), .second, .val (.long q3), .second, .val (.long q4), .second, .val (.long q5), .second, .val (.int y1), .val (.int (1 : Int32)), .val (.ref b21), .val (.double y35), .second, .val (.double (0 : UInt64)), .second] []))
        refine Goes.step (fun t k => XS.iconst X34.here hx rfl (hb hby at_188) k) ?_
        show Goes _ _ _ _ _ _ _ (T34.setTop (mkF m 189 #[.val (.int p0), .val (.int p1), .val (.long q2), .second, .val (.long q3), .second, .val (.long q4), .second, .val (.long q5), .second, .val (.int y1), .val (.int (1 : Int32)), .val (.ref b21), .val (.double y35), .second, .val (.double (0 : UInt64)), .second] [(.int (1 : Int32))]))
        refine Goes.step (fun t k => XS.goto X34.here hx rfl (pc0 := 189) (pc' := 193) rfl (hb hby at_189) (by decide) (by decide) k) ?_
        show Goes _ _ _ _ _ _ _ (T34.setTop (mkF m 193 #[.val (.int p0), .val (.int p1), .val (.long q2), .second, .val (.long q3), .second, .val (.long q4), .second, .val (.long q5), .second, .val (.int y1), .val (.int (1 : Int32)), .val (.ref b21), .val (.double y35), .second, .val (.double (0 : UInt64)), .second] [(.int (1 : Int32))]))
        exact k38 _ (if_pos hc185_37).symm
      · refine Goes.step (fun t k => XS.ifYes X34.here hx rfl (pc0 := 185) (pc' := 192) rfl (hb hby at_185) rfl ((if0 _ _).trans (feq hc185_37).2) (by decide) (by decide) k) ?_
        show Goes _ _ _ _ _ _ _ (T34.setTop (mkF m 192 #[.val (.int p0), .val (.int p1), .val (.long q2), .second, .val (.long q3), .second, .val (.long q4), .second, .val (.long q5), .second, .val (.int y1), .val (.int (1 : Int32)), .val (.ref b21), .val (.double y35), .second, .val (.double (0 : UInt64)), .second] []))
        refine Goes.step (fun t k => XS.iconst X34.here hx rfl (hb hby at_192) k) ?_
        show Goes _ _ _ _ _ _ _ (T34.setTop (mkF m 193 #[.val (.int p0), .val (.int p1), .val (.long q2), .second, .val (.long q3), .second, .val (.long q4), .second, .val (.long q5), .second, .val (.int y1), .val (.int (1 : Int32)), .val (.ref b21), .val (.double y35), .second, .val (.double (0 : UInt64)), .second] [(.int (0 : Int32))]))
        exact k38 _ (if_neg hc185_37).symm
    intro x38_0 hx38_0
    exact Goes.retZ X34 hx Bd.notSynchronized (r := (1 : Int32)) Bd.returns (by simp) (hb hby at_193) (own_plain_2 p0 q2 y1 y35 x38_0 hy1 hy35 hx38_0) ⟨rfl, N29⟩ (by decide) (by decide)
  · show Goes _ _ _ _ _ _ _ (s₁.setTop (mkF m 15 #[.val (.int p0), .val (.int p1), .val (.long q2), .second, .val (.long q3), .second, .val (.long q4), .second, .val (.long q5), .second, .val (.int y1), .val (.int (2 : Int32)), .unset, .unset, .unset, .unset, .unset] []))
    obtain ⟨T39, h39, X39, e39, E39, A39, D39, -, st39⟩ := newO X0 hx hZ hown (hw _ (List.mem_of_getElem? (i := 1) rfl)) (hw _ (List.mem_of_getElem? (i := 2) rfl)) (hw _ (List.mem_of_getElem? (i := 3) rfl)) e0 (g := (mkF m 15 #[.val (.int p0), .val (.int p1), .val (.long q2), .second, .val (.long q3), .second, .val (.long q4), .second, .val (.long q5), .second, .val (.int y1), .val (.int (2 : Int32)), .unset, .unset, .unset, .unset, .unset] [])) rfl (hb hby at_15) (by decide) (by decide)
    obtain ⟨b39, g39⟩ : ∃ z, z = h0.size := ⟨_, rfl⟩
    rw [← g39] at A39 D39 st39
    have Zs39 : n0 ≤ b39 := Nat.le_trans Z0 (Nat.le_of_eq g39.symm)
    have Zh39 : h0.size ≤ b39 := Nat.le_trans (Keep.refl h0 []).1 (Nat.le_of_eq g39.symm)
    have K39 := (Keep.refl h0 []).ext E39
    have Z39 := Nat.le_trans Z0 E39.1
    have F40 : Fld Z h39 b39 "com/example/zugzwang/zugzwang/search/AlphaBetaEngine$Deepening" "moves" "I" (.int (0 : Int32)) := D39 (Or.inr (hw _ (List.mem_of_getElem? (i := 11) rfl))) (ty := .int) (by decide)
    have F41 : Fld Z h39 b39 "com/example/zugzwang/zugzwang/search/AlphaBetaEngine$Deepening" "oneBefore" "J" (.long (0 : Int64)) := D39 (Or.inl (hw _ (List.mem_of_getElem? (i := 18) rfl))) (ty := .long) (by decide)
    have F42 : Fld Z h39 b39 "com/example/zugzwang/zugzwang/search/AlphaBetaEngine$Deepening" "twoBefore" "J" (.long (0 : Int64)) := D39 (Or.inl (hw _ (List.mem_of_getElem? (i := 20) rfl))) (ty := .long) (by decide)
    have F43 : Fld Z h39 b39 "com/example/zugzwang/zugzwang/search/AlphaBetaEngine$Deepening" "last" "J" (.long (0 : Int64)) := D39 (Or.inl (hw _ (List.mem_of_getElem? (i := 22) rfl))) (ty := .long) (by decide)
    have F44 : Fld Z h39 b39 "com/example/zugzwang/zugzwang/search/AlphaBetaEngine$Deepening" "searches" "I" (.int (0 : Int32)) := D39 (Or.inl (hw _ (List.mem_of_getElem? (i := 24) rfl))) (ty := .int) (by decide)
    refine Goes.step (fun t k => st39 t k) ?_
    show Goes _ _ _ _ _ _ _ (T39.setTop (mkF m 18 #[.val (.int p0), .val (.int p1), .val (.long q2), .second, .val (.long q3), .second, .val (.long q4), .second, .val (.long q5), .second, .val (.int y1), .val (.int (2 : Int32)), .unset, .unset, .unset, .unset, .unset] [(.ref b39)]))
    refine Goes.step (fun t k => XS.dup X39.here hx rfl (hb hby at_18) rfl rfl k) ?_
    show Goes _ _ _ _ _ _ _ (T39.setTop (mkF m 19 #[.val (.int p0), .val (.int p1), .val (.long q2), .second, .val (.long q3), .second, .val (.long q4), .second, .val (.long q5), .second, .val (.int y1), .val (.int (2 : Int32)), .unset, .unset, .unset, .unset, .unset] [(.ref b39), (.ref b39)]))
    refine Goes.step (fun t k => XS.iload X39.here hx rfl (hb hby at_19) rfl k) ?_
    show Goes _ _ _ _ _ _ _ (T39.setTop (mkF m 21 #[.val (.int p0), .val (.int p1), .val (.long q2), .second, .val (.long q3), .second, .val (.long q4), .second, .val (.long q5), .second, .val (.int y1), .val (.int (2 : Int32)), .unset, .unset, .unset, .unset, .unset] [(.int y1), (.ref b39), (.ref b39)]))
    obtain ⟨_, _, ⟨T45, L45, k45, n45⟩, -, X45, ⟨Lc45, hQ45, l45, y45, z45⟩, st45⟩ := X39.specialBack hx (y := (⟨"com/example/zugzwang/zugzwang/search/AlphaBetaEngine$Deepening", "<init>", "(I)V"⟩ : MethodName)) rfl hown (mvT hZ (hw _ (List.mem_of_getElem? (i := 4) rfl))) (mvT hZ (hw _ (List.mem_of_getElem? (i := 5) rfl))) (mvT hZ (hw _ (List.mem_of_getElem? (i := 6) rfl))) (by decide) (backOf (W := 1) (rm1 l Z tA hw [] b39 y1 h39 n0 Z39 A39 F43 F40 F41 F44 F42 Zs39) hZ (hw _ (List.mem_of_getElem? (i := 6) rfl)) (hw _ (List.mem_of_getElem? (i := 3) rfl)) (by decide) (by decide)) (g := (mkF m 21 #[.val (.int p0), .val (.int p1), .val (.long q2), .second, .val (.long q3), .second, .val (.long q4), .second, .val (.long q5), .second, .val (.int y1), .val (.int (2 : Int32)), .unset, .unset, .unset, .unset, .unset] [(.int y1), (.ref b39), (.ref b39)])) rfl (by rw [hml]; rfl) (Steps.refl _) (a := b39) (argsL := [(.int y1)]) (rest := [(.ref b39)]) (lenOf own_pd2 rfl) rfl (by show 2 * 0 + _ ≤ _; exact Nat.le_of_eq rfl) (hb hby at_21) (fun _ _ => ⟨rfl, e39, (by decide : 1 + 0 ≤ _), (by decide : 5 + 0 ≤ _)⟩)
    dsimp only [Pt.U, Pt.locs, Pt.cells, Pt.slots] at X45 l45 y45 z45 st45 hQ45
    rw [l45, y45, z45] at X45
    generalize e45 : T45.heap = h45 at hQ45
    obtain ⟨rfl, Nq45, Kq45, G45_0, G45_1, G45_2, G45_3, G45_4, G45_5⟩ := hQ45
    have N45 := Fr.app N0 Nq45
    have K45 := K39.trans Kq45 (allS (Or.inr Zh39) all0)
    have Z45 := Nat.le_trans Z39 Kq45.1
    change Stand _ _ _ _ _ _ _ _ _ _ _ _ 1 5 at X45
    refine Goes.step (fun t k => st45.trans k) ?_
    show Goes _ _ _ _ _ _ _ (T45.setTop (mkF m 24 #[.val (.int p0), .val (.int p1), .val (.long q2), .second, .val (.long q3), .second, .val (.long q4), .second, .val (.long q5), .second, .val (.int y1), .val (.int (2 : Int32)), .unset, .unset, .unset, .unset, .unset] [(.ref b39)]))
    refine Goes.step (fun t k => XS.astore X45.here hx rfl (hb hby at_24) rfl rfl (l' := #[.val (.int p0), .val (.int p1), .val (.long q2), .second, .val (.long q3), .second, .val (.long q4), .second, .val (.long q5), .second, .val (.int y1), .val (.int (2 : Int32)), .val (.ref b39), .unset, .unset, .unset, .unset]) rfl k) ?_
    show Goes _ _ _ _ _ _ _ (T45.setTop (mkF m 26 #[.val (.int p0), .val (.int p1), .val (.long q2), .second, .val (.long q3), .second, .val (.long q4), .second, .val (.long q5), .second, .val (.int y1), .val (.int (2 : Int32)), .val (.ref b39), .unset, .unset, .unset, .unset] []))
    refine Goes.step (fun t k => XS.iload X45.here hx rfl (hb hby at_26) rfl k) ?_
    show Goes _ _ _ _ _ _ _ (T45.setTop (mkF m 28 #[.val (.int p0), .val (.int p1), .val (.long q2), .second, .val (.long q3), .second, .val (.long q4), .second, .val (.long q5), .second, .val (.int y1), .val (.int (2 : Int32)), .val (.ref b39), .unset, .unset, .unset, .unset] [(.int (2 : Int32))]))
    refine Goes.step (fun t k => XS.iconst X45.here hx rfl (hb hby at_28) k) ?_
    show Goes _ _ _ _ _ _ _ (T45.setTop (mkF m 29 #[.val (.int p0), .val (.int p1), .val (.long q2), .second, .val (.long q3), .second, .val (.long q4), .second, .val (.long q5), .second, .val (.int y1), .val (.int (2 : Int32)), .val (.ref b39), .unset, .unset, .unset, .unset] [(.int (1 : Int32)), (.int (2 : Int32))]))
    refine Goes.step (fun t k => XS.icmpNo X45.here hx rfl (hb hby at_29) rfl (flt (by decide)).1 k) ?_
    show Goes _ _ _ _ _ _ _ (T45.setTop (mkF m 32 #[.val (.int p0), .val (.int p1), .val (.long q2), .second, .val (.long q3), .second, .val (.long q4), .second, .val (.long q5), .second, .val (.int y1), .val (.int (2 : Int32)), .val (.ref b39), .unset, .unset, .unset, .unset] []))
    refine Goes.step (fun t k => XS.aload X45.here hx rfl (hb hby at_32) rfl rfl k) ?_
    show Goes _ _ _ _ _ _ _ (T45.setTop (mkF m 34 #[.val (.int p0), .val (.int p1), .val (.long q2), .second, .val (.long q3), .second, .val (.long q4), .second, .val (.long q5), .second, .val (.int y1), .val (.int (2 : Int32)), .val (.ref b39), .unset, .unset, .unset, .unset] [(.ref b39)]))
    refine Goes.step (fun t k => XS.lloadN X45.here hx rfl (hb hby at_34) rfl k) ?_
    show Goes _ _ _ _ _ _ _ (T45.setTop (mkF m 35 #[.val (.int p0), .val (.int p1), .val (.long q2), .second, .val (.long q3), .second, .val (.long q4), .second, .val (.long q5), .second, .val (.int y1), .val (.int (2 : Int32)), .val (.ref b39), .unset, .unset, .unset, .unset] [(.long q2), (.ref b39)]))
    obtain ⟨cq47, kq47, q47a, q47b, q47c⟩ := isOf hZ e45 G45_0
    obtain ⟨_, _, ⟨T47, L47, k47, n47⟩, -, X47, ⟨Lc47, hQ47, l47, y47, z47⟩, st47⟩ := X45.virtualBack hx (y := (⟨"com/example/zugzwang/zugzwang/search/AlphaBetaEngine$Deepening", "finished", "(J)V"⟩ : MethodName)) (z := (⟨"com/example/zugzwang/zugzwang/search/AlphaBetaEngine$Deepening", "finished", "(J)V"⟩ : MethodName)) hown (mvT hZ (hw _ (List.mem_of_getElem? (i := 12) rfl))) (mvT hZ (hw _ (List.mem_of_getElem? (i := 13) rfl))) (notFace_of_selects (args := #[]) (mvT hZ (hw _ (List.mem_of_getElem? (i := 15) rfl)))) (mvT hZ (hw _ (List.mem_of_getElem? (i := 15) rfl))) (mvT hZ (hw _ (List.mem_of_getElem? (i := 14) rfl))) (by decide) (backOf (W := 0) (rm3 l Z tA hw [] b39 q2 (0 : Int64) y1 (0 : Int64) (0 : Int32) (0 : Int64) h45 n0 Z45 G45_0 G45_1 G45_2 G45_3 G45_4 G45_5 Zs39) hZ (hw _ (List.mem_of_getElem? (i := 16) rfl)) (hw _ (List.mem_of_getElem? (i := 3) rfl)) (by decide) (by decide)) q47a q47c (g := (mkF m 35 #[.val (.int p0), .val (.int p1), .val (.long q2), .second, .val (.long q3), .second, .val (.long q4), .second, .val (.long q5), .second, .val (.int y1), .val (.int (2 : Int32)), .val (.ref b39), .unset, .unset, .unset, .unset] [(.long q2), (.ref b39)])) rfl (by rw [hml]; rfl) (Steps.refl _) (argsL := [(.long q2)]) (rest := []) (lenOf own_pd4 rfl) rfl (by show 2 * 0 + _ ≤ _; exact Nat.le_of_eq rfl) (hb hby at_35) (fun _ _ => ⟨rfl, e45, (by decide : 1 + 0 ≤ _), (by decide : 5 + 0 ≤ _)⟩)
    dsimp only [Pt.U, Pt.locs, Pt.cells, Pt.slots] at X47 l47 y47 z47 st47 hQ47
    rw [l47, y47, z47] at X47
    generalize e47 : T47.heap = h47 at hQ47
    obtain ⟨rfl, Nq47, Kq47, G47_0, G47_1, G47_2, G47_3, G47_4, G47_5⟩ := hQ47
    have N47 := Fr.app N45 Nq47
    have K47 := K45.trans Kq47 (allS (Or.inr Zh39) all0)
    have Z47 := Nat.le_trans Z45 Kq47.1
    change Stand _ _ _ _ _ _ _ _ _ _ _ _ 1 5 at X47
    refine Goes.step (fun t k => st47.trans k) ?_
    show Goes _ _ _ _ _ _ _ (T47.setTop (mkF m 38 #[.val (.int p0), .val (.int p1), .val (.long q2), .second, .val (.long q3), .second, .val (.long q4), .second, .val (.long q5), .second, .val (.int y1), .val (.int (2 : Int32)), .val (.ref b39), .unset, .unset, .unset, .unset] []))
    refine Goes.step (fun t k => XS.iload X47.here hx rfl (hb hby at_38) rfl k) ?_
    show Goes _ _ _ _ _ _ _ (T47.setTop (mkF m 40 #[.val (.int p0), .val (.int p1), .val (.long q2), .second, .val (.long q3), .second, .val (.long q4), .second, .val (.long q5), .second, .val (.int y1), .val (.int (2 : Int32)), .val (.ref b39), .unset, .unset, .unset, .unset] [(.int (2 : Int32))]))
    refine Goes.step (fun t k => XS.iconst X47.here hx rfl (hb hby at_40) k) ?_
    show Goes _ _ _ _ _ _ _ (T47.setTop (mkF m 41 #[.val (.int p0), .val (.int p1), .val (.long q2), .second, .val (.long q3), .second, .val (.long q4), .second, .val (.long q5), .second, .val (.int y1), .val (.int (2 : Int32)), .val (.ref b39), .unset, .unset, .unset, .unset] [(.int (2 : Int32)), (.int (2 : Int32))]))
    refine Goes.step (fun t k => XS.icmpNo X47.here hx rfl (hb hby at_41) rfl (flt (by decide)).1 k) ?_
    show Goes _ _ _ _ _ _ _ (T47.setTop (mkF m 44 #[.val (.int p0), .val (.int p1), .val (.long q2), .second, .val (.long q3), .second, .val (.long q4), .second, .val (.long q5), .second, .val (.int y1), .val (.int (2 : Int32)), .val (.ref b39), .unset, .unset, .unset, .unset] []))
    refine Goes.step (fun t k => XS.aload X47.here hx rfl (hb hby at_44) rfl rfl k) ?_
    show Goes _ _ _ _ _ _ _ (T47.setTop (mkF m 46 #[.val (.int p0), .val (.int p1), .val (.long q2), .second, .val (.long q3), .second, .val (.long q4), .second, .val (.long q5), .second, .val (.int y1), .val (.int (2 : Int32)), .val (.ref b39), .unset, .unset, .unset, .unset] [(.ref b39)]))
    refine Goes.step (fun t k => XS.lload X47.here hx rfl (hb hby at_46) rfl k) ?_
    show Goes _ _ _ _ _ _ _ (T47.setTop (mkF m 48 #[.val (.int p0), .val (.int p1), .val (.long q2), .second, .val (.long q3), .second, .val (.long q4), .second, .val (.long q5), .second, .val (.int y1), .val (.int (2 : Int32)), .val (.ref b39), .unset, .unset, .unset, .unset] [(.long q3), (.ref b39)]))
    obtain ⟨cq49, kq49, q49a, q49b, q49c⟩ := isOf hZ e47 G47_0
    obtain ⟨_, _, ⟨T49, L49, k49, n49⟩, -, X49, ⟨Lc49, hQ49, l49, y49, z49⟩, st49⟩ := X47.virtualBack hx (y := (⟨"com/example/zugzwang/zugzwang/search/AlphaBetaEngine$Deepening", "finished", "(J)V"⟩ : MethodName)) (z := (⟨"com/example/zugzwang/zugzwang/search/AlphaBetaEngine$Deepening", "finished", "(J)V"⟩ : MethodName)) hown (mvT hZ (hw _ (List.mem_of_getElem? (i := 12) rfl))) (mvT hZ (hw _ (List.mem_of_getElem? (i := 13) rfl))) (notFace_of_selects (args := #[]) (mvT hZ (hw _ (List.mem_of_getElem? (i := 15) rfl)))) (mvT hZ (hw _ (List.mem_of_getElem? (i := 15) rfl))) (mvT hZ (hw _ (List.mem_of_getElem? (i := 14) rfl))) (by decide) (backOf (W := 0) (rm3 l Z tA hw [] b39 q3 q2 y1 (0 : Int64) ((0 : Int32) + (1 : Int32)) (0 : Int64) h47 n0 Z47 G47_0 G47_1 G47_2 G47_3 G47_4 G47_5 Zs39) hZ (hw _ (List.mem_of_getElem? (i := 16) rfl)) (hw _ (List.mem_of_getElem? (i := 3) rfl)) (by decide) (by decide)) q49a q49c (g := (mkF m 48 #[.val (.int p0), .val (.int p1), .val (.long q2), .second, .val (.long q3), .second, .val (.long q4), .second, .val (.long q5), .second, .val (.int y1), .val (.int (2 : Int32)), .val (.ref b39), .unset, .unset, .unset, .unset] [(.long q3), (.ref b39)])) rfl (by rw [hml]; rfl) (Steps.refl _) (argsL := [(.long q3)]) (rest := []) (lenOf own_pd4 rfl) rfl (by show 2 * 0 + _ ≤ _; exact Nat.le_of_eq rfl) (hb hby at_48) (fun _ _ => ⟨rfl, e47, (by decide : 1 + 0 ≤ _), (by decide : 5 + 0 ≤ _)⟩)
    dsimp only [Pt.U, Pt.locs, Pt.cells, Pt.slots] at X49 l49 y49 z49 st49 hQ49
    rw [l49, y49, z49] at X49
    generalize e49 : T49.heap = h49 at hQ49
    obtain ⟨rfl, Nq49, Kq49, G49_0, G49_1, G49_2, G49_3, G49_4, G49_5⟩ := hQ49
    have N49 := Fr.app N47 Nq49
    have K49 := K47.trans Kq49 (allS (Or.inr Zh39) all0)
    have Z49 := Nat.le_trans Z47 Kq49.1
    change Stand _ _ _ _ _ _ _ _ _ _ _ _ 1 5 at X49
    refine Goes.step (fun t k => st49.trans k) ?_
    show Goes _ _ _ _ _ _ _ (T49.setTop (mkF m 51 #[.val (.int p0), .val (.int p1), .val (.long q2), .second, .val (.long q3), .second, .val (.long q4), .second, .val (.long q5), .second, .val (.int y1), .val (.int (2 : Int32)), .val (.ref b39), .unset, .unset, .unset, .unset] []))
    refine Goes.step (fun t k => XS.iload X49.here hx rfl (hb hby at_51) rfl k) ?_
    show Goes _ _ _ _ _ _ _ (T49.setTop (mkF m 53 #[.val (.int p0), .val (.int p1), .val (.long q2), .second, .val (.long q3), .second, .val (.long q4), .second, .val (.long q5), .second, .val (.int y1), .val (.int (2 : Int32)), .val (.ref b39), .unset, .unset, .unset, .unset] [(.int (2 : Int32))]))
    refine Goes.step (fun t k => XS.iconst X49.here hx rfl (hb hby at_53) k) ?_
    show Goes _ _ _ _ _ _ _ (T49.setTop (mkF m 54 #[.val (.int p0), .val (.int p1), .val (.long q2), .second, .val (.long q3), .second, .val (.long q4), .second, .val (.long q5), .second, .val (.int y1), .val (.int (2 : Int32)), .val (.ref b39), .unset, .unset, .unset, .unset] [(.int (3 : Int32)), (.int (2 : Int32))]))
    refine Goes.step (fun t k => XS.icmpYes X49.here hx rfl (pc0 := 54) (pc' := 64) rfl (hb hby at_54) rfl (tlt (by decide)).1 (by decide) (by decide) k) ?_
    show Goes _ _ _ _ _ _ _ (T49.setTop (mkF m 64 #[.val (.int p0), .val (.int p1), .val (.long q2), .second, .val (.long q3), .second, .val (.long q4), .second, .val (.long q5), .second, .val (.int y1), .val (.int (2 : Int32)), .val (.ref b39), .unset, .unset, .unset, .unset] []))
    refine Goes.step (fun t k => XS.iload X49.here hx rfl (hb hby at_64) rfl k) ?_
    show Goes _ _ _ _ _ _ _ (T49.setTop (mkF m 66 #[.val (.int p0), .val (.int p1), .val (.long q2), .second, .val (.long q3), .second, .val (.long q4), .second, .val (.long q5), .second, .val (.int y1), .val (.int (2 : Int32)), .val (.ref b39), .unset, .unset, .unset, .unset] [(.int (2 : Int32))]))
    refine Goes.step (fun t k => XS.iconst X49.here hx rfl (hb hby at_66) k) ?_
    show Goes _ _ _ _ _ _ _ (T49.setTop (mkF m 67 #[.val (.int p0), .val (.int p1), .val (.long q2), .second, .val (.long q3), .second, .val (.long q4), .second, .val (.long q5), .second, .val (.int y1), .val (.int (2 : Int32)), .val (.ref b39), .unset, .unset, .unset, .unset] [(.int (4 : Int32)), (.int (2 : Int32))]))
    refine Goes.step (fun t k => XS.icmpYes X49.here hx rfl (pc0 := 67) (pc' := 77) rfl (hb hby at_67) rfl (tlt (by decide)).1 (by decide) (by decide) k) ?_
    show Goes _ _ _ _ _ _ _ (T49.setTop (mkF m 77 #[.val (.int p0), .val (.int p1), .val (.long q2), .second, .val (.long q3), .second, .val (.long q4), .second, .val (.long q5), .second, .val (.int y1), .val (.int (2 : Int32)), .val (.ref b39), .unset, .unset, .unset, .unset] []))
    refine Goes.step (fun t k => XS.iload X49.here hx rfl (hb hby at_77) rfl k) ?_
    show Goes _ _ _ _ _ _ _ (T49.setTop (mkF m 79 #[.val (.int p0), .val (.int p1), .val (.long q2), .second, .val (.long q3), .second, .val (.long q4), .second, .val (.long q5), .second, .val (.int y1), .val (.int (2 : Int32)), .val (.ref b39), .unset, .unset, .unset, .unset] [(.int (2 : Int32))]))
    refine Goes.step (fun t k => XS.iconst X49.here hx rfl (hb hby at_79) k) ?_
    show Goes _ _ _ _ _ _ _ (T49.setTop (mkF m 80 #[.val (.int p0), .val (.int p1), .val (.long q2), .second, .val (.long q3), .second, .val (.long q4), .second, .val (.long q5), .second, .val (.int y1), .val (.int (2 : Int32)), .val (.ref b39), .unset, .unset, .unset, .unset] [(.int (5 : Int32)), (.int (2 : Int32))]))
    refine Goes.step (fun t k => XS.icmpYes X49.here hx rfl (pc0 := 80) (pc' := 89) rfl (hb hby at_80) rfl (tlt (by decide)).1 (by decide) (by decide) k) ?_
    show Goes _ _ _ _ _ _ _ (T49.setTop (mkF m 89 #[.val (.int p0), .val (.int p1), .val (.long q2), .second, .val (.long q3), .second, .val (.long q4), .second, .val (.long q5), .second, .val (.int y1), .val (.int (2 : Int32)), .val (.ref b39), .unset, .unset, .unset, .unset] []))
    refine Goes.step (fun t k => XS.aload X49.here hx rfl (hb hby at_89) rfl rfl k) ?_
    show Goes _ _ _ _ _ _ _ (T49.setTop (mkF m 91 #[.val (.int p0), .val (.int p1), .val (.long q2), .second, .val (.long q3), .second, .val (.long q4), .second, .val (.long q5), .second, .val (.int y1), .val (.int (2 : Int32)), .val (.ref b39), .unset, .unset, .unset, .unset] [(.ref b39)]))
    obtain ⟨cq53, kq53, q53a, q53b, q53c⟩ := isOf hZ e49 G49_0
    obtain ⟨_, _, ⟨T53, L53, k53, n53⟩, -, X53, ⟨Lc53, hQ53, l53, y53, z53⟩, st53⟩ := X49.virtualBack hx (y := (⟨"com/example/zugzwang/zugzwang/search/AlphaBetaEngine$Deepening", "nextNanos", "()D"⟩ : MethodName)) (z := (⟨"com/example/zugzwang/zugzwang/search/AlphaBetaEngine$Deepening", "nextNanos", "()D"⟩ : MethodName)) hown (mvT hZ (hw _ (List.mem_of_getElem? (i := 25) rfl))) (mvT hZ (hw _ (List.mem_of_getElem? (i := 26) rfl))) (notFace_of_selects (args := #[]) (mvT hZ (hw _ (List.mem_of_getElem? (i := 28) rfl)))) (mvT hZ (hw _ (List.mem_of_getElem? (i := 28) rfl))) (mvT hZ (hw _ (List.mem_of_getElem? (i := 27) rfl))) (by decide) (backOf (W := 0) (rm4 l Z tA hw [] b39 q3 y1 q2 (((0 : Int32) + (1 : Int32)) + (1 : Int32)) (0 : Int64) h49 G49_1 G49_2 G49_3 G49_4 G49_5) hZ (hw _ (List.mem_of_getElem? (i := 29) rfl)) (hw _ (List.mem_of_getElem? (i := 3) rfl)) (by decide) (by decide)) q53a q53c (g := (mkF m 91 #[.val (.int p0), .val (.int p1), .val (.long q2), .second, .val (.long q3), .second, .val (.long q4), .second, .val (.long q5), .second, .val (.int y1), .val (.int (2 : Int32)), .val (.ref b39), .unset, .unset, .unset, .unset] [(.ref b39)])) rfl (by rw [hml]; rfl) (Steps.refl _) (argsL := []) (rest := []) (lenOf own_pd3 rfl) rfl (by show 2 * 0 + _ ≤ _; exact Nat.le_of_eq rfl) (hb hby at_91) (fun _ _ => ⟨rfl, e49, (by decide : 1 + 0 ≤ _), (by decide : 5 + 0 ≤ _)⟩)
    dsimp only [Pt.U, Pt.locs, Pt.cells, Pt.slots] at X53 l53 y53 z53 st53 hQ53
    rw [l53, y53, z53] at X53
    obtain ⟨rfl, rfl, e53⟩ := hQ53
    try rw [List.append_nil] at X53
    change Stand _ _ _ _ _ _ _ _ _ _ _ _ 1 5 at X53
    refine Goes.step (fun t k => st53.trans k) ?_
    show Goes _ _ _ _ _ _ _ (T53.setTop (mkF m 94 #[.val (.int p0), .val (.int p1), .val (.long q2), .second, .val (.long q3), .second, .val (.long q4), .second, .val (.long q5), .second, .val (.int y1), .val (.int (2 : Int32)), .val (.ref b39), .unset, .unset, .unset, .unset] [(.double (f4 q3 y1 q2 (((0 : Int32) + (1 : Int32)) + (1 : Int32)) (0 : Int64)))]))
    refine Goes.step (fun t k => XS.dstore X53.here hx rfl (hb hby at_94) rfl (l' := #[.val (.int p0), .val (.int p1), .val (.long q2), .second, .val (.long q3), .second, .val (.long q4), .second, .val (.long q5), .second, .val (.int y1), .val (.int (2 : Int32)), .val (.ref b39), .val (.double (f4 q3 y1 q2 (((0 : Int32) + (1 : Int32)) + (1 : Int32)) (0 : Int64))), .second, .unset, .unset]) rfl k) ?_
    show Goes _ _ _ _ _ _ _ (T53.setTop (mkF m 96 #[.val (.int p0), .val (.int p1), .val (.long q2), .second, .val (.long q3), .second, .val (.long q4), .second, .val (.long q5), .second, .val (.int y1), .val (.int (2 : Int32)), .val (.ref b39), .val (.double (f4 q3 y1 q2 (((0 : Int32) + (1 : Int32)) + (1 : Int32)) (0 : Int64))), .second, .unset, .unset] []))
    generalize hy54 : (f4 q3 y1 q2 (((0 : Int32) + (1 : Int32)) + (1 : Int32)) (0 : Int64)) = y54
    refine Goes.step (fun t k => XS.iload X53.here hx rfl (hb hby at_96) rfl k) ?_
    show Goes _ _ _ _ _ _ _ (T53.setTop (mkF m 98 #[.val (.int p0), .val (.int p1), .val (.long q2), .second, .val (.long q3), .second, .val (.long q4), .second, .val (.long q5), .second, .val (.int y1), .val (.int (2 : Int32)), .val (.ref b39), .val (.double y54), .second, .unset, .unset] [(.int (2 : Int32))]))
    refine Goes.step (fun t k => XS.iconst X53.here hx rfl (hb hby at_98) k) ?_
    show Goes _ _ _ _ _ _ _ (T53.setTop (mkF m 99 #[.val (.int p0), .val (.int p1), .val (.long q2), .second, .val (.long q3), .second, .val (.long q4), .second, .val (.long q5), .second, .val (.int y1), .val (.int (2 : Int32)), .val (.ref b39), .val (.double y54), .second, .unset, .unset] [(.int (2 : Int32)), (.int (2 : Int32))]))
    refine Goes.step (fun t k => XS.icmpYes X53.here hx rfl (pc0 := 99) (pc' := 108) rfl (hb hby at_99) rfl (flt (by decide)).2.1 (by decide) (by decide) k) ?_
    show Goes _ _ _ _ _ _ _ (T53.setTop (mkF m 108 #[.val (.int p0), .val (.int p1), .val (.long q2), .second, .val (.long q3), .second, .val (.long q4), .second, .val (.long q5), .second, .val (.int y1), .val (.int (2 : Int32)), .val (.ref b39), .val (.double y54), .second, .unset, .unset] []))
    refine Goes.step (fun t k => XS.iload X53.here hx rfl (hb hby at_108) rfl k) ?_
    show Goes _ _ _ _ _ _ _ (T53.setTop (mkF m 110 #[.val (.int p0), .val (.int p1), .val (.long q2), .second, .val (.long q3), .second, .val (.long q4), .second, .val (.long q5), .second, .val (.int y1), .val (.int (2 : Int32)), .val (.ref b39), .val (.double y54), .second, .unset, .unset] [(.int (2 : Int32))]))
    refine Goes.step (fun t k => XS.iconst X53.here hx rfl (hb hby at_110) k) ?_
    show Goes _ _ _ _ _ _ _ (T53.setTop (mkF m 111 #[.val (.int p0), .val (.int p1), .val (.long q2), .second, .val (.long q3), .second, .val (.long q4), .second, .val (.long q5), .second, .val (.int y1), .val (.int (2 : Int32)), .val (.ref b39), .val (.double y54), .second, .unset, .unset] [(.int (2 : Int32)), (.int (2 : Int32))]))
    refine Goes.step (fun t k => XS.icmpNo X53.here hx rfl (hb hby at_111) rfl (teq (by decide)).2 k) ?_
    show Goes _ _ _ _ _ _ _ (T53.setTop (mkF m 114 #[.val (.int p0), .val (.int p1), .val (.long q2), .second, .val (.long q3), .second, .val (.long q4), .second, .val (.long q5), .second, .val (.int y1), .val (.int (2 : Int32)), .val (.ref b39), .val (.double y54), .second, .unset, .unset] []))
    refine Goes.step (fun t k => XS.lloadN X53.here hx rfl (hb hby at_114) rfl k) ?_
    show Goes _ _ _ _ _ _ _ (T53.setTop (mkF m 115 #[.val (.int p0), .val (.int p1), .val (.long q2), .second, .val (.long q3), .second, .val (.long q4), .second, .val (.long q5), .second, .val (.int y1), .val (.int (2 : Int32)), .val (.ref b39), .val (.double y54), .second, .unset, .unset] [(.long q2)]))
    refine Goes.step (fun t k => XS.l2dS X53.here hx rfl (hb hby at_115) rfl rfl k) ?_
    show Goes _ _ _ _ _ _ _ (T53.setTop (mkF m 116 #[.val (.int p0), .val (.int p1), .val (.long q2), .second, .val (.long q3), .second, .val (.long q4), .second, .val (.long q5), .second, .val (.int y1), .val (.int (2 : Int32)), .val (.ref b39), .val (.double y54), .second, .unset, .unset] [(.double (FP.l2d q2))]))
    refine Goes.step (fun t k => XS.iload X53.here hx rfl (hb hby at_116) rfl k) ?_
    show Goes _ _ _ _ _ _ _ (T53.setTop (mkF m 118 #[.val (.int p0), .val (.int p1), .val (.long q2), .second, .val (.long q3), .second, .val (.long q4), .second, .val (.long q5), .second, .val (.int y1), .val (.int (2 : Int32)), .val (.ref b39), .val (.double y54), .second, .unset, .unset] [(.int y1), (.double (FP.l2d q2))]))
    refine Goes.step (fun t k => XS.i2dS X53.here hx rfl (hb hby at_118) rfl rfl k) ?_
    show Goes _ _ _ _ _ _ _ (T53.setTop (mkF m 119 #[.val (.int p0), .val (.int p1), .val (.long q2), .second, .val (.long q3), .second, .val (.long q4), .second, .val (.long q5), .second, .val (.int y1), .val (.int (2 : Int32)), .val (.ref b39), .val (.double y54), .second, .unset, .unset] [(.double (FP.i2d y1)), (.double (FP.l2d q2))]))
    have hnan57 : Jvm.Free.Fl.NoNaN64 (FP.dmul (FP.l2d q2) (FP.i2d y1)) := by exact own_fin (own_md _ _) (by decide)
    refine Goes.step (fun t k => XS.dmulS X53.here hx rfl (hb hby at_119) rfl hnan57 rfl k) ?_
    show Goes _ _ _ _ _ _ _ (T53.setTop (mkF m 120 #[.val (.int p0), .val (.int p1), .val (.long q2), .second, .val (.long q3), .second, .val (.long q4), .second, .val (.long q5), .second, .val (.int y1), .val (.int (2 : Int32)), .val (.ref b39), .val (.double y54), .second, .unset, .unset] [(.double (FP.dmul (FP.l2d q2) (FP.i2d y1)))]))
    refine Goes.step (fun t k => XS.dstore X53.here hx rfl (hb hby at_120) rfl (l' := #[.val (.int p0), .val (.int p1), .val (.long q2), .second, .val (.long q3), .second, .val (.long q4), .second, .val (.long q5), .second, .val (.int y1), .val (.int (2 : Int32)), .val (.ref b39), .val (.double y54), .second, .val (.double (FP.dmul (FP.l2d q2) (FP.i2d y1))), .second]) rfl k) ?_
    show Goes _ _ _ _ _ _ _ (T53.setTop (mkF m 122 #[.val (.int p0), .val (.int p1), .val (.long q2), .second, .val (.long q3), .second, .val (.long q4), .second, .val (.long q5), .second, .val (.int y1), .val (.int (2 : Int32)), .val (.ref b39), .val (.double y54), .second, .val (.double (FP.dmul (FP.l2d q2) (FP.i2d y1))), .second] []))
    generalize hy58 : (FP.dmul (FP.l2d q2) (FP.i2d y1)) = y58
    refine Goes.step (fun t k => XS.goto X53.here hx rfl (pc0 := 122) (pc' := 180) rfl (hb hby at_122) (by decide) (by decide) k) ?_
    show Goes _ _ _ _ _ _ _ (T53.setTop (mkF m 180 #[.val (.int p0), .val (.int p1), .val (.long q2), .second, .val (.long q3), .second, .val (.long q4), .second, .val (.long q5), .second, .val (.int y1), .val (.int (2 : Int32)), .val (.ref b39), .val (.double y54), .second, .val (.double y58), .second] []))
    refine Goes.step (fun t k => XS.dload X53.here hx rfl (hb hby at_180) rfl k) ?_
    show Goes _ _ _ _ _ _ _ (T53.setTop (mkF m 182 #[.val (.int p0), .val (.int p1), .val (.long q2), .second, .val (.long q3), .second, .val (.long q4), .second, .val (.long q5), .second, .val (.int y1), .val (.int (2 : Int32)), .val (.ref b39), .val (.double y54), .second, .val (.double y58), .second] [(.double y54)]))
    refine Goes.step (fun t k => XS.dload X53.here hx rfl (hb hby at_182) rfl k) ?_
    show Goes _ _ _ _ _ _ _ (T53.setTop (mkF m 184 #[.val (.int p0), .val (.int p1), .val (.long q2), .second, .val (.long q3), .second, .val (.long q4), .second, .val (.long q5), .second, .val (.int y1), .val (.int (2 : Int32)), .val (.ref b39), .val (.double y54), .second, .val (.double y58), .second] [(.double y58), (.double y54)]))
    refine Goes.step (fun t k => XS.dcmpS X53.here hx rfl (hb hby at_184) rfl rfl k) ?_
    show Goes _ _ _ _ _ _ _ (T53.setTop (mkF m 185 #[.val (.int p0), .val (.int p1), .val (.long q2), .second, .val (.long q3), .second, .val (.long q4), .second, .val (.long q5), .second, .val (.int y1), .val (.int (2 : Int32)), .val (.ref b39), .val (.double y54), .second, .val (.double y58), .second] [(.int (cmpValue (FP.dcmp y54 y58) .l))]))
    suffices k60 : ∀ (x60_0 : Int32), x60_0 = (if (cmpValue (FP.dcmp y54 y58) .l) = (0 : Int32) then (1 : Int32) else (0 : Int32)) → Goes p e below s (Q0 Z p0 p1 q2 q3 q4 q5 h0 n0) kC0 kS0 (T53.setTop (mkF m 193 #[.val (.int p0), .val (.int p1), .val (.long q2), .second, .val (.long q3), .second, .val (.long q4), .second, .val (.long q5), .second, .val (.int y1), .val (.int (2 : Int32)), .val (.ref b39), .val (.double y54), .second, .val (.double y58), .second] [(.int x60_0)])) by
      by_cases hc185_59 : (cmpValue (FP.dcmp y54 y58) .l) = (0 : Int32)
      · refine Goes.step (fun t k => XS.ifNo X53.here hx rfl (hb hby at_185) rfl ((if0 _ _).trans (teq hc185_59).2) k) ?_
        show Goes _ _ _ _ _ _ _ (T53.setTop (mkF m 188 #[.val (.int p0), .val (.int p1), .val (.long q2), .second, .val (.long q3), .second, .val (.long q4), .second, .val (.long q5), .second, .val (.int y1), .val (.int (2 : Int32)), .val (.ref b39), .val (.double y54), .second, .val (.double y58), .second] []))
        refine Goes.step (fun t k => XS.iconst X53.here hx rfl (hb hby at_188) k) ?_
        show Goes _ _ _ _ _ _ _ (T53.setTop (mkF m 189 #[.val (.int p0), .val (.int p1), .val (.long q2), .second, .val (.long q3), .second, .val (.long q4), .second, .val (.long q5), .second, .val (.int y1), .val (.int (2 : Int32)), .val (.ref b39), .val (.double y54), .second, .val (.double y58), .second] [(.int (1 : Int32))]))
        refine Goes.step (fun t k => XS.goto X53.here hx rfl (pc0 := 189) (pc' := 193) rfl (hb hby at_189) (by decide) (by decide) k) ?_
        show Goes _ _ _ _ _ _ _ (T53.setTop (mkF m 193 #[.val (.int p0), .val (.int p1), .val (.long q2), .second, .val (.long q3), .second, .val (.long q4), .second, .val (.long q5), .second, .val (.int y1), .val (.int (2 : Int32)), .val (.ref b39), .val (.double y54), .second, .val (.double y58), .second] [(.int (1 : Int32))]))
        exact k60 _ (if_pos hc185_59).symm
      · refine Goes.step (fun t k => XS.ifYes X53.here hx rfl (pc0 := 185) (pc' := 192) rfl (hb hby at_185) rfl ((if0 _ _).trans (feq hc185_59).2) (by decide) (by decide) k) ?_
        show Goes _ _ _ _ _ _ _ (T53.setTop (mkF m 192 #[.val (.int p0), .val (.int p1), .val (.long q2), .second, .val (.long q3), .second, .val (.long q4), .second, .val (.long q5), .second, .val (.int y1), .val (.int (2 : Int32)), .val (.ref b39), .val (.double y54), .second, .val (.double y58), .second] []))
        refine Goes.step (fun t k => XS.iconst X53.here hx rfl (hb hby at_192) k) ?_
        show Goes _ _ _ _ _ _ _ (T53.setTop (mkF m 193 #[.val (.int p0), .val (.int p1), .val (.long q2), .second, .val (.long q3), .second, .val (.long q4), .second, .val (.long q5), .second, .val (.int y1), .val (.int (2 : Int32)), .val (.ref b39), .val (.double y54), .second, .val (.double y58), .second] [(.int (0 : Int32))]))
        exact k60 _ (if_neg hc185_59).symm
    intro x60_0 hx60_0
    exact Goes.retZ X53 hx Bd.notSynchronized (r := (1 : Int32)) Bd.returns (by simp) (hb hby at_193) (own_plain_3 p0 q2 q3 y1 y54 y58 x60_0 hy1 hy54 hy58 hx60_0) ⟨rfl, N49⟩ (by decide) (by decide)
  · show Goes _ _ _ _ _ _ _ (s₁.setTop (mkF m 15 #[.val (.int p0), .val (.int p1), .val (.long q2), .second, .val (.long q3), .second, .val (.long q4), .second, .val (.long q5), .second, .val (.int y1), .val (.int (3 : Int32)), .unset, .unset, .unset, .unset, .unset] []))
    obtain ⟨T61, h61, X61, e61, E61, A61, D61, -, st61⟩ := newO X0 hx hZ hown (hw _ (List.mem_of_getElem? (i := 1) rfl)) (hw _ (List.mem_of_getElem? (i := 2) rfl)) (hw _ (List.mem_of_getElem? (i := 3) rfl)) e0 (g := (mkF m 15 #[.val (.int p0), .val (.int p1), .val (.long q2), .second, .val (.long q3), .second, .val (.long q4), .second, .val (.long q5), .second, .val (.int y1), .val (.int (3 : Int32)), .unset, .unset, .unset, .unset, .unset] [])) rfl (hb hby at_15) (by decide) (by decide)
    obtain ⟨b61, g61⟩ : ∃ z, z = h0.size := ⟨_, rfl⟩
    rw [← g61] at A61 D61 st61
    have Zs61 : n0 ≤ b61 := Nat.le_trans Z0 (Nat.le_of_eq g61.symm)
    have Zh61 : h0.size ≤ b61 := Nat.le_trans (Keep.refl h0 []).1 (Nat.le_of_eq g61.symm)
    have K61 := (Keep.refl h0 []).ext E61
    have Z61 := Nat.le_trans Z0 E61.1
    have F62 : Fld Z h61 b61 "com/example/zugzwang/zugzwang/search/AlphaBetaEngine$Deepening" "moves" "I" (.int (0 : Int32)) := D61 (Or.inr (hw _ (List.mem_of_getElem? (i := 11) rfl))) (ty := .int) (by decide)
    have F63 : Fld Z h61 b61 "com/example/zugzwang/zugzwang/search/AlphaBetaEngine$Deepening" "oneBefore" "J" (.long (0 : Int64)) := D61 (Or.inl (hw _ (List.mem_of_getElem? (i := 18) rfl))) (ty := .long) (by decide)
    have F64 : Fld Z h61 b61 "com/example/zugzwang/zugzwang/search/AlphaBetaEngine$Deepening" "twoBefore" "J" (.long (0 : Int64)) := D61 (Or.inl (hw _ (List.mem_of_getElem? (i := 20) rfl))) (ty := .long) (by decide)
    have F65 : Fld Z h61 b61 "com/example/zugzwang/zugzwang/search/AlphaBetaEngine$Deepening" "last" "J" (.long (0 : Int64)) := D61 (Or.inl (hw _ (List.mem_of_getElem? (i := 22) rfl))) (ty := .long) (by decide)
    have F66 : Fld Z h61 b61 "com/example/zugzwang/zugzwang/search/AlphaBetaEngine$Deepening" "searches" "I" (.int (0 : Int32)) := D61 (Or.inl (hw _ (List.mem_of_getElem? (i := 24) rfl))) (ty := .int) (by decide)
    refine Goes.step (fun t k => st61 t k) ?_
    show Goes _ _ _ _ _ _ _ (T61.setTop (mkF m 18 #[.val (.int p0), .val (.int p1), .val (.long q2), .second, .val (.long q3), .second, .val (.long q4), .second, .val (.long q5), .second, .val (.int y1), .val (.int (3 : Int32)), .unset, .unset, .unset, .unset, .unset] [(.ref b61)]))
    refine Goes.step (fun t k => XS.dup X61.here hx rfl (hb hby at_18) rfl rfl k) ?_
    show Goes _ _ _ _ _ _ _ (T61.setTop (mkF m 19 #[.val (.int p0), .val (.int p1), .val (.long q2), .second, .val (.long q3), .second, .val (.long q4), .second, .val (.long q5), .second, .val (.int y1), .val (.int (3 : Int32)), .unset, .unset, .unset, .unset, .unset] [(.ref b61), (.ref b61)]))
    refine Goes.step (fun t k => XS.iload X61.here hx rfl (hb hby at_19) rfl k) ?_
    show Goes _ _ _ _ _ _ _ (T61.setTop (mkF m 21 #[.val (.int p0), .val (.int p1), .val (.long q2), .second, .val (.long q3), .second, .val (.long q4), .second, .val (.long q5), .second, .val (.int y1), .val (.int (3 : Int32)), .unset, .unset, .unset, .unset, .unset] [(.int y1), (.ref b61), (.ref b61)]))
    obtain ⟨_, _, ⟨T67, L67, k67, n67⟩, -, X67, ⟨Lc67, hQ67, l67, y67, z67⟩, st67⟩ := X61.specialBack hx (y := (⟨"com/example/zugzwang/zugzwang/search/AlphaBetaEngine$Deepening", "<init>", "(I)V"⟩ : MethodName)) rfl hown (mvT hZ (hw _ (List.mem_of_getElem? (i := 4) rfl))) (mvT hZ (hw _ (List.mem_of_getElem? (i := 5) rfl))) (mvT hZ (hw _ (List.mem_of_getElem? (i := 6) rfl))) (by decide) (backOf (W := 1) (rm1 l Z tA hw [] b61 y1 h61 n0 Z61 A61 F65 F62 F63 F66 F64 Zs61) hZ (hw _ (List.mem_of_getElem? (i := 6) rfl)) (hw _ (List.mem_of_getElem? (i := 3) rfl)) (by decide) (by decide)) (g := (mkF m 21 #[.val (.int p0), .val (.int p1), .val (.long q2), .second, .val (.long q3), .second, .val (.long q4), .second, .val (.long q5), .second, .val (.int y1), .val (.int (3 : Int32)), .unset, .unset, .unset, .unset, .unset] [(.int y1), (.ref b61), (.ref b61)])) rfl (by rw [hml]; rfl) (Steps.refl _) (a := b61) (argsL := [(.int y1)]) (rest := [(.ref b61)]) (lenOf own_pd2 rfl) rfl (by show 2 * 0 + _ ≤ _; exact Nat.le_of_eq rfl) (hb hby at_21) (fun _ _ => ⟨rfl, e61, (by decide : 1 + 0 ≤ _), (by decide : 5 + 0 ≤ _)⟩)
    dsimp only [Pt.U, Pt.locs, Pt.cells, Pt.slots] at X67 l67 y67 z67 st67 hQ67
    rw [l67, y67, z67] at X67
    generalize e67 : T67.heap = h67 at hQ67
    obtain ⟨rfl, Nq67, Kq67, G67_0, G67_1, G67_2, G67_3, G67_4, G67_5⟩ := hQ67
    have N67 := Fr.app N0 Nq67
    have K67 := K61.trans Kq67 (allS (Or.inr Zh61) all0)
    have Z67 := Nat.le_trans Z61 Kq67.1
    change Stand _ _ _ _ _ _ _ _ _ _ _ _ 1 5 at X67
    refine Goes.step (fun t k => st67.trans k) ?_
    show Goes _ _ _ _ _ _ _ (T67.setTop (mkF m 24 #[.val (.int p0), .val (.int p1), .val (.long q2), .second, .val (.long q3), .second, .val (.long q4), .second, .val (.long q5), .second, .val (.int y1), .val (.int (3 : Int32)), .unset, .unset, .unset, .unset, .unset] [(.ref b61)]))
    refine Goes.step (fun t k => XS.astore X67.here hx rfl (hb hby at_24) rfl rfl (l' := #[.val (.int p0), .val (.int p1), .val (.long q2), .second, .val (.long q3), .second, .val (.long q4), .second, .val (.long q5), .second, .val (.int y1), .val (.int (3 : Int32)), .val (.ref b61), .unset, .unset, .unset, .unset]) rfl k) ?_
    show Goes _ _ _ _ _ _ _ (T67.setTop (mkF m 26 #[.val (.int p0), .val (.int p1), .val (.long q2), .second, .val (.long q3), .second, .val (.long q4), .second, .val (.long q5), .second, .val (.int y1), .val (.int (3 : Int32)), .val (.ref b61), .unset, .unset, .unset, .unset] []))
    refine Goes.step (fun t k => XS.iload X67.here hx rfl (hb hby at_26) rfl k) ?_
    show Goes _ _ _ _ _ _ _ (T67.setTop (mkF m 28 #[.val (.int p0), .val (.int p1), .val (.long q2), .second, .val (.long q3), .second, .val (.long q4), .second, .val (.long q5), .second, .val (.int y1), .val (.int (3 : Int32)), .val (.ref b61), .unset, .unset, .unset, .unset] [(.int (3 : Int32))]))
    refine Goes.step (fun t k => XS.iconst X67.here hx rfl (hb hby at_28) k) ?_
    show Goes _ _ _ _ _ _ _ (T67.setTop (mkF m 29 #[.val (.int p0), .val (.int p1), .val (.long q2), .second, .val (.long q3), .second, .val (.long q4), .second, .val (.long q5), .second, .val (.int y1), .val (.int (3 : Int32)), .val (.ref b61), .unset, .unset, .unset, .unset] [(.int (1 : Int32)), (.int (3 : Int32))]))
    refine Goes.step (fun t k => XS.icmpNo X67.here hx rfl (hb hby at_29) rfl (flt (by decide)).1 k) ?_
    show Goes _ _ _ _ _ _ _ (T67.setTop (mkF m 32 #[.val (.int p0), .val (.int p1), .val (.long q2), .second, .val (.long q3), .second, .val (.long q4), .second, .val (.long q5), .second, .val (.int y1), .val (.int (3 : Int32)), .val (.ref b61), .unset, .unset, .unset, .unset] []))
    refine Goes.step (fun t k => XS.aload X67.here hx rfl (hb hby at_32) rfl rfl k) ?_
    show Goes _ _ _ _ _ _ _ (T67.setTop (mkF m 34 #[.val (.int p0), .val (.int p1), .val (.long q2), .second, .val (.long q3), .second, .val (.long q4), .second, .val (.long q5), .second, .val (.int y1), .val (.int (3 : Int32)), .val (.ref b61), .unset, .unset, .unset, .unset] [(.ref b61)]))
    refine Goes.step (fun t k => XS.lloadN X67.here hx rfl (hb hby at_34) rfl k) ?_
    show Goes _ _ _ _ _ _ _ (T67.setTop (mkF m 35 #[.val (.int p0), .val (.int p1), .val (.long q2), .second, .val (.long q3), .second, .val (.long q4), .second, .val (.long q5), .second, .val (.int y1), .val (.int (3 : Int32)), .val (.ref b61), .unset, .unset, .unset, .unset] [(.long q2), (.ref b61)]))
    obtain ⟨cq69, kq69, q69a, q69b, q69c⟩ := isOf hZ e67 G67_0
    obtain ⟨_, _, ⟨T69, L69, k69, n69⟩, -, X69, ⟨Lc69, hQ69, l69, y69, z69⟩, st69⟩ := X67.virtualBack hx (y := (⟨"com/example/zugzwang/zugzwang/search/AlphaBetaEngine$Deepening", "finished", "(J)V"⟩ : MethodName)) (z := (⟨"com/example/zugzwang/zugzwang/search/AlphaBetaEngine$Deepening", "finished", "(J)V"⟩ : MethodName)) hown (mvT hZ (hw _ (List.mem_of_getElem? (i := 12) rfl))) (mvT hZ (hw _ (List.mem_of_getElem? (i := 13) rfl))) (notFace_of_selects (args := #[]) (mvT hZ (hw _ (List.mem_of_getElem? (i := 15) rfl)))) (mvT hZ (hw _ (List.mem_of_getElem? (i := 15) rfl))) (mvT hZ (hw _ (List.mem_of_getElem? (i := 14) rfl))) (by decide) (backOf (W := 0) (rm3 l Z tA hw [] b61 q2 (0 : Int64) y1 (0 : Int64) (0 : Int32) (0 : Int64) h67 n0 Z67 G67_0 G67_1 G67_2 G67_3 G67_4 G67_5 Zs61) hZ (hw _ (List.mem_of_getElem? (i := 16) rfl)) (hw _ (List.mem_of_getElem? (i := 3) rfl)) (by decide) (by decide)) q69a q69c (g := (mkF m 35 #[.val (.int p0), .val (.int p1), .val (.long q2), .second, .val (.long q3), .second, .val (.long q4), .second, .val (.long q5), .second, .val (.int y1), .val (.int (3 : Int32)), .val (.ref b61), .unset, .unset, .unset, .unset] [(.long q2), (.ref b61)])) rfl (by rw [hml]; rfl) (Steps.refl _) (argsL := [(.long q2)]) (rest := []) (lenOf own_pd4 rfl) rfl (by show 2 * 0 + _ ≤ _; exact Nat.le_of_eq rfl) (hb hby at_35) (fun _ _ => ⟨rfl, e67, (by decide : 1 + 0 ≤ _), (by decide : 5 + 0 ≤ _)⟩)
    dsimp only [Pt.U, Pt.locs, Pt.cells, Pt.slots] at X69 l69 y69 z69 st69 hQ69
    rw [l69, y69, z69] at X69
    generalize e69 : T69.heap = h69 at hQ69
    obtain ⟨rfl, Nq69, Kq69, G69_0, G69_1, G69_2, G69_3, G69_4, G69_5⟩ := hQ69
    have N69 := Fr.app N67 Nq69
    have K69 := K67.trans Kq69 (allS (Or.inr Zh61) all0)
    have Z69 := Nat.le_trans Z67 Kq69.1
    change Stand _ _ _ _ _ _ _ _ _ _ _ _ 1 5 at X69
    refine Goes.step (fun t k => st69.trans k) ?_
    show Goes _ _ _ _ _ _ _ (T69.setTop (mkF m 38 #[.val (.int p0), .val (.int p1), .val (.long q2), .second, .val (.long q3), .second, .val (.long q4), .second, .val (.long q5), .second, .val (.int y1), .val (.int (3 : Int32)), .val (.ref b61), .unset, .unset, .unset, .unset] []))
    refine Goes.step (fun t k => XS.iload X69.here hx rfl (hb hby at_38) rfl k) ?_
    show Goes _ _ _ _ _ _ _ (T69.setTop (mkF m 40 #[.val (.int p0), .val (.int p1), .val (.long q2), .second, .val (.long q3), .second, .val (.long q4), .second, .val (.long q5), .second, .val (.int y1), .val (.int (3 : Int32)), .val (.ref b61), .unset, .unset, .unset, .unset] [(.int (3 : Int32))]))
    refine Goes.step (fun t k => XS.iconst X69.here hx rfl (hb hby at_40) k) ?_
    show Goes _ _ _ _ _ _ _ (T69.setTop (mkF m 41 #[.val (.int p0), .val (.int p1), .val (.long q2), .second, .val (.long q3), .second, .val (.long q4), .second, .val (.long q5), .second, .val (.int y1), .val (.int (3 : Int32)), .val (.ref b61), .unset, .unset, .unset, .unset] [(.int (2 : Int32)), (.int (3 : Int32))]))
    refine Goes.step (fun t k => XS.icmpNo X69.here hx rfl (hb hby at_41) rfl (flt (by decide)).1 k) ?_
    show Goes _ _ _ _ _ _ _ (T69.setTop (mkF m 44 #[.val (.int p0), .val (.int p1), .val (.long q2), .second, .val (.long q3), .second, .val (.long q4), .second, .val (.long q5), .second, .val (.int y1), .val (.int (3 : Int32)), .val (.ref b61), .unset, .unset, .unset, .unset] []))
    refine Goes.step (fun t k => XS.aload X69.here hx rfl (hb hby at_44) rfl rfl k) ?_
    show Goes _ _ _ _ _ _ _ (T69.setTop (mkF m 46 #[.val (.int p0), .val (.int p1), .val (.long q2), .second, .val (.long q3), .second, .val (.long q4), .second, .val (.long q5), .second, .val (.int y1), .val (.int (3 : Int32)), .val (.ref b61), .unset, .unset, .unset, .unset] [(.ref b61)]))
    refine Goes.step (fun t k => XS.lload X69.here hx rfl (hb hby at_46) rfl k) ?_
    show Goes _ _ _ _ _ _ _ (T69.setTop (mkF m 48 #[.val (.int p0), .val (.int p1), .val (.long q2), .second, .val (.long q3), .second, .val (.long q4), .second, .val (.long q5), .second, .val (.int y1), .val (.int (3 : Int32)), .val (.ref b61), .unset, .unset, .unset, .unset] [(.long q3), (.ref b61)]))
    obtain ⟨cq71, kq71, q71a, q71b, q71c⟩ := isOf hZ e69 G69_0
    obtain ⟨_, _, ⟨T71, L71, k71, n71⟩, -, X71, ⟨Lc71, hQ71, l71, y71, z71⟩, st71⟩ := X69.virtualBack hx (y := (⟨"com/example/zugzwang/zugzwang/search/AlphaBetaEngine$Deepening", "finished", "(J)V"⟩ : MethodName)) (z := (⟨"com/example/zugzwang/zugzwang/search/AlphaBetaEngine$Deepening", "finished", "(J)V"⟩ : MethodName)) hown (mvT hZ (hw _ (List.mem_of_getElem? (i := 12) rfl))) (mvT hZ (hw _ (List.mem_of_getElem? (i := 13) rfl))) (notFace_of_selects (args := #[]) (mvT hZ (hw _ (List.mem_of_getElem? (i := 15) rfl)))) (mvT hZ (hw _ (List.mem_of_getElem? (i := 15) rfl))) (mvT hZ (hw _ (List.mem_of_getElem? (i := 14) rfl))) (by decide) (backOf (W := 0) (rm3 l Z tA hw [] b61 q3 q2 y1 (0 : Int64) ((0 : Int32) + (1 : Int32)) (0 : Int64) h69 n0 Z69 G69_0 G69_1 G69_2 G69_3 G69_4 G69_5 Zs61) hZ (hw _ (List.mem_of_getElem? (i := 16) rfl)) (hw _ (List.mem_of_getElem? (i := 3) rfl)) (by decide) (by decide)) q71a q71c (g := (mkF m 48 #[.val (.int p0), .val (.int p1), .val (.long q2), .second, .val (.long q3), .second, .val (.long q4), .second, .val (.long q5), .second, .val (.int y1), .val (.int (3 : Int32)), .val (.ref b61), .unset, .unset, .unset, .unset] [(.long q3), (.ref b61)])) rfl (by rw [hml]; rfl) (Steps.refl _) (argsL := [(.long q3)]) (rest := []) (lenOf own_pd4 rfl) rfl (by show 2 * 0 + _ ≤ _; exact Nat.le_of_eq rfl) (hb hby at_48) (fun _ _ => ⟨rfl, e69, (by decide : 1 + 0 ≤ _), (by decide : 5 + 0 ≤ _)⟩)
    dsimp only [Pt.U, Pt.locs, Pt.cells, Pt.slots] at X71 l71 y71 z71 st71 hQ71
    rw [l71, y71, z71] at X71
    generalize e71 : T71.heap = h71 at hQ71
    obtain ⟨rfl, Nq71, Kq71, G71_0, G71_1, G71_2, G71_3, G71_4, G71_5⟩ := hQ71
    have N71 := Fr.app N69 Nq71
    have K71 := K69.trans Kq71 (allS (Or.inr Zh61) all0)
    have Z71 := Nat.le_trans Z69 Kq71.1
    change Stand _ _ _ _ _ _ _ _ _ _ _ _ 1 5 at X71
    refine Goes.step (fun t k => st71.trans k) ?_
    show Goes _ _ _ _ _ _ _ (T71.setTop (mkF m 51 #[.val (.int p0), .val (.int p1), .val (.long q2), .second, .val (.long q3), .second, .val (.long q4), .second, .val (.long q5), .second, .val (.int y1), .val (.int (3 : Int32)), .val (.ref b61), .unset, .unset, .unset, .unset] []))
    refine Goes.step (fun t k => XS.iload X71.here hx rfl (hb hby at_51) rfl k) ?_
    show Goes _ _ _ _ _ _ _ (T71.setTop (mkF m 53 #[.val (.int p0), .val (.int p1), .val (.long q2), .second, .val (.long q3), .second, .val (.long q4), .second, .val (.long q5), .second, .val (.int y1), .val (.int (3 : Int32)), .val (.ref b61), .unset, .unset, .unset, .unset] [(.int (3 : Int32))]))
    refine Goes.step (fun t k => XS.iconst X71.here hx rfl (hb hby at_53) k) ?_
    show Goes _ _ _ _ _ _ _ (T71.setTop (mkF m 54 #[.val (.int p0), .val (.int p1), .val (.long q2), .second, .val (.long q3), .second, .val (.long q4), .second, .val (.long q5), .second, .val (.int y1), .val (.int (3 : Int32)), .val (.ref b61), .unset, .unset, .unset, .unset] [(.int (3 : Int32)), (.int (3 : Int32))]))
    refine Goes.step (fun t k => XS.icmpNo X71.here hx rfl (hb hby at_54) rfl (flt (by decide)).1 k) ?_
    show Goes _ _ _ _ _ _ _ (T71.setTop (mkF m 57 #[.val (.int p0), .val (.int p1), .val (.long q2), .second, .val (.long q3), .second, .val (.long q4), .second, .val (.long q5), .second, .val (.int y1), .val (.int (3 : Int32)), .val (.ref b61), .unset, .unset, .unset, .unset] []))
    refine Goes.step (fun t k => XS.aload X71.here hx rfl (hb hby at_57) rfl rfl k) ?_
    show Goes _ _ _ _ _ _ _ (T71.setTop (mkF m 59 #[.val (.int p0), .val (.int p1), .val (.long q2), .second, .val (.long q3), .second, .val (.long q4), .second, .val (.long q5), .second, .val (.int y1), .val (.int (3 : Int32)), .val (.ref b61), .unset, .unset, .unset, .unset] [(.ref b61)]))
    refine Goes.step (fun t k => XS.lload X71.here hx rfl (hb hby at_59) rfl k) ?_
    show Goes _ _ _ _ _ _ _ (T71.setTop (mkF m 61 #[.val (.int p0), .val (.int p1), .val (.long q2), .second, .val (.long q3), .second, .val (.long q4), .second, .val (.long q5), .second, .val (.int y1), .val (.int (3 : Int32)), .val (.ref b61), .unset, .unset, .unset, .unset] [(.long q4), (.ref b61)]))
    obtain ⟨cq73, kq73, q73a, q73b, q73c⟩ := isOf hZ e71 G71_0
    obtain ⟨_, _, ⟨T73, L73, k73, n73⟩, -, X73, ⟨Lc73, hQ73, l73, y73, z73⟩, st73⟩ := X71.virtualBack hx (y := (⟨"com/example/zugzwang/zugzwang/search/AlphaBetaEngine$Deepening", "finished", "(J)V"⟩ : MethodName)) (z := (⟨"com/example/zugzwang/zugzwang/search/AlphaBetaEngine$Deepening", "finished", "(J)V"⟩ : MethodName)) hown (mvT hZ (hw _ (List.mem_of_getElem? (i := 12) rfl))) (mvT hZ (hw _ (List.mem_of_getElem? (i := 13) rfl))) (notFace_of_selects (args := #[]) (mvT hZ (hw _ (List.mem_of_getElem? (i := 15) rfl)))) (mvT hZ (hw _ (List.mem_of_getElem? (i := 15) rfl))) (mvT hZ (hw _ (List.mem_of_getElem? (i := 14) rfl))) (by decide) (backOf (W := 0) (rm3 l Z tA hw [] b61 q4 q3 y1 q2 (((0 : Int32) + (1 : Int32)) + (1 : Int32)) (0 : Int64) h71 n0 Z71 G71_0 G71_1 G71_2 G71_3 G71_4 G71_5 Zs61) hZ (hw _ (List.mem_of_getElem? (i := 16) rfl)) (hw _ (List.mem_of_getElem? (i := 3) rfl)) (by decide) (by decide)) q73a q73c (g := (mkF m 61 #[.val (.int p0), .val (.int p1), .val (.long q2), .second, .val (.long q3), .second, .val (.long q4), .second, .val (.long q5), .second, .val (.int y1), .val (.int (3 : Int32)), .val (.ref b61), .unset, .unset, .unset, .unset] [(.long q4), (.ref b61)])) rfl (by rw [hml]; rfl) (Steps.refl _) (argsL := [(.long q4)]) (rest := []) (lenOf own_pd4 rfl) rfl (by show 2 * 0 + _ ≤ _; exact Nat.le_of_eq rfl) (hb hby at_61) (fun _ _ => ⟨rfl, e71, (by decide : 1 + 0 ≤ _), (by decide : 5 + 0 ≤ _)⟩)
    dsimp only [Pt.U, Pt.locs, Pt.cells, Pt.slots] at X73 l73 y73 z73 st73 hQ73
    rw [l73, y73, z73] at X73
    generalize e73 : T73.heap = h73 at hQ73
    obtain ⟨rfl, Nq73, Kq73, G73_0, G73_1, G73_2, G73_3, G73_4, G73_5⟩ := hQ73
    have N73 := Fr.app N71 Nq73
    have K73 := K71.trans Kq73 (allS (Or.inr Zh61) all0)
    have Z73 := Nat.le_trans Z71 Kq73.1
    change Stand _ _ _ _ _ _ _ _ _ _ _ _ 1 5 at X73
    refine Goes.step (fun t k => st73.trans k) ?_
    show Goes _ _ _ _ _ _ _ (T73.setTop (mkF m 64 #[.val (.int p0), .val (.int p1), .val (.long q2), .second, .val (.long q3), .second, .val (.long q4), .second, .val (.long q5), .second, .val (.int y1), .val (.int (3 : Int32)), .val (.ref b61), .unset, .unset, .unset, .unset] []))
    refine Goes.step (fun t k => XS.iload X73.here hx rfl (hb hby at_64) rfl k) ?_
    show Goes _ _ _ _ _ _ _ (T73.setTop (mkF m 66 #[.val (.int p0), .val (.int p1), .val (.long q2), .second, .val (.long q3), .second, .val (.long q4), .second, .val (.long q5), .second, .val (.int y1), .val (.int (3 : Int32)), .val (.ref b61), .unset, .unset, .unset, .unset] [(.int (3 : Int32))]))
    refine Goes.step (fun t k => XS.iconst X73.here hx rfl (hb hby at_66) k) ?_
    show Goes _ _ _ _ _ _ _ (T73.setTop (mkF m 67 #[.val (.int p0), .val (.int p1), .val (.long q2), .second, .val (.long q3), .second, .val (.long q4), .second, .val (.long q5), .second, .val (.int y1), .val (.int (3 : Int32)), .val (.ref b61), .unset, .unset, .unset, .unset] [(.int (4 : Int32)), (.int (3 : Int32))]))
    refine Goes.step (fun t k => XS.icmpYes X73.here hx rfl (pc0 := 67) (pc' := 77) rfl (hb hby at_67) rfl (tlt (by decide)).1 (by decide) (by decide) k) ?_
    show Goes _ _ _ _ _ _ _ (T73.setTop (mkF m 77 #[.val (.int p0), .val (.int p1), .val (.long q2), .second, .val (.long q3), .second, .val (.long q4), .second, .val (.long q5), .second, .val (.int y1), .val (.int (3 : Int32)), .val (.ref b61), .unset, .unset, .unset, .unset] []))
    refine Goes.step (fun t k => XS.iload X73.here hx rfl (hb hby at_77) rfl k) ?_
    show Goes _ _ _ _ _ _ _ (T73.setTop (mkF m 79 #[.val (.int p0), .val (.int p1), .val (.long q2), .second, .val (.long q3), .second, .val (.long q4), .second, .val (.long q5), .second, .val (.int y1), .val (.int (3 : Int32)), .val (.ref b61), .unset, .unset, .unset, .unset] [(.int (3 : Int32))]))
    refine Goes.step (fun t k => XS.iconst X73.here hx rfl (hb hby at_79) k) ?_
    show Goes _ _ _ _ _ _ _ (T73.setTop (mkF m 80 #[.val (.int p0), .val (.int p1), .val (.long q2), .second, .val (.long q3), .second, .val (.long q4), .second, .val (.long q5), .second, .val (.int y1), .val (.int (3 : Int32)), .val (.ref b61), .unset, .unset, .unset, .unset] [(.int (5 : Int32)), (.int (3 : Int32))]))
    refine Goes.step (fun t k => XS.icmpYes X73.here hx rfl (pc0 := 80) (pc' := 89) rfl (hb hby at_80) rfl (tlt (by decide)).1 (by decide) (by decide) k) ?_
    show Goes _ _ _ _ _ _ _ (T73.setTop (mkF m 89 #[.val (.int p0), .val (.int p1), .val (.long q2), .second, .val (.long q3), .second, .val (.long q4), .second, .val (.long q5), .second, .val (.int y1), .val (.int (3 : Int32)), .val (.ref b61), .unset, .unset, .unset, .unset] []))
    refine Goes.step (fun t k => XS.aload X73.here hx rfl (hb hby at_89) rfl rfl k) ?_
    show Goes _ _ _ _ _ _ _ (T73.setTop (mkF m 91 #[.val (.int p0), .val (.int p1), .val (.long q2), .second, .val (.long q3), .second, .val (.long q4), .second, .val (.long q5), .second, .val (.int y1), .val (.int (3 : Int32)), .val (.ref b61), .unset, .unset, .unset, .unset] [(.ref b61)]))
    obtain ⟨cq76, kq76, q76a, q76b, q76c⟩ := isOf hZ e73 G73_0
    obtain ⟨_, _, ⟨T76, L76, k76, n76⟩, -, X76, ⟨Lc76, hQ76, l76, y76, z76⟩, st76⟩ := X73.virtualBack hx (y := (⟨"com/example/zugzwang/zugzwang/search/AlphaBetaEngine$Deepening", "nextNanos", "()D"⟩ : MethodName)) (z := (⟨"com/example/zugzwang/zugzwang/search/AlphaBetaEngine$Deepening", "nextNanos", "()D"⟩ : MethodName)) hown (mvT hZ (hw _ (List.mem_of_getElem? (i := 25) rfl))) (mvT hZ (hw _ (List.mem_of_getElem? (i := 26) rfl))) (notFace_of_selects (args := #[]) (mvT hZ (hw _ (List.mem_of_getElem? (i := 28) rfl)))) (mvT hZ (hw _ (List.mem_of_getElem? (i := 28) rfl))) (mvT hZ (hw _ (List.mem_of_getElem? (i := 27) rfl))) (by decide) (backOf (W := 0) (rm4 l Z tA hw [] b61 q4 y1 q3 ((((0 : Int32) + (1 : Int32)) + (1 : Int32)) + (1 : Int32)) q2 h73 G73_1 G73_2 G73_3 G73_4 G73_5) hZ (hw _ (List.mem_of_getElem? (i := 29) rfl)) (hw _ (List.mem_of_getElem? (i := 3) rfl)) (by decide) (by decide)) q76a q76c (g := (mkF m 91 #[.val (.int p0), .val (.int p1), .val (.long q2), .second, .val (.long q3), .second, .val (.long q4), .second, .val (.long q5), .second, .val (.int y1), .val (.int (3 : Int32)), .val (.ref b61), .unset, .unset, .unset, .unset] [(.ref b61)])) rfl (by rw [hml]; rfl) (Steps.refl _) (argsL := []) (rest := []) (lenOf own_pd3 rfl) rfl (by show 2 * 0 + _ ≤ _; exact Nat.le_of_eq rfl) (hb hby at_91) (fun _ _ => ⟨rfl, e73, (by decide : 1 + 0 ≤ _), (by decide : 5 + 0 ≤ _)⟩)
    dsimp only [Pt.U, Pt.locs, Pt.cells, Pt.slots] at X76 l76 y76 z76 st76 hQ76
    rw [l76, y76, z76] at X76
    obtain ⟨rfl, rfl, e76⟩ := hQ76
    try rw [List.append_nil] at X76
    change Stand _ _ _ _ _ _ _ _ _ _ _ _ 1 5 at X76
    refine Goes.step (fun t k => st76.trans k) ?_
    show Goes _ _ _ _ _ _ _ (T76.setTop (mkF m 94 #[.val (.int p0), .val (.int p1), .val (.long q2), .second, .val (.long q3), .second, .val (.long q4), .second, .val (.long q5), .second, .val (.int y1), .val (.int (3 : Int32)), .val (.ref b61), .unset, .unset, .unset, .unset] [(.double (f4 q4 y1 q3 ((((0 : Int32) + (1 : Int32)) + (1 : Int32)) + (1 : Int32)) q2))]))
    refine Goes.step (fun t k => XS.dstore X76.here hx rfl (hb hby at_94) rfl (l' := #[.val (.int p0), .val (.int p1), .val (.long q2), .second, .val (.long q3), .second, .val (.long q4), .second, .val (.long q5), .second, .val (.int y1), .val (.int (3 : Int32)), .val (.ref b61), .val (.double (f4 q4 y1 q3 ((((0 : Int32) + (1 : Int32)) + (1 : Int32)) + (1 : Int32)) q2)), .second, .unset, .unset]) rfl k) ?_
    show Goes _ _ _ _ _ _ _ (T76.setTop (mkF m 96 #[.val (.int p0), .val (.int p1), .val (.long q2), .second, .val (.long q3), .second, .val (.long q4), .second, .val (.long q5), .second, .val (.int y1), .val (.int (3 : Int32)), .val (.ref b61), .val (.double (f4 q4 y1 q3 ((((0 : Int32) + (1 : Int32)) + (1 : Int32)) + (1 : Int32)) q2)), .second, .unset, .unset] []))
    generalize hy77 : (f4 q4 y1 q3 ((((0 : Int32) + (1 : Int32)) + (1 : Int32)) + (1 : Int32)) q2) = y77
    refine Goes.step (fun t k => XS.iload X76.here hx rfl (hb hby at_96) rfl k) ?_
    show Goes _ _ _ _ _ _ _ (T76.setTop (mkF m 98 #[.val (.int p0), .val (.int p1), .val (.long q2), .second, .val (.long q3), .second, .val (.long q4), .second, .val (.long q5), .second, .val (.int y1), .val (.int (3 : Int32)), .val (.ref b61), .val (.double y77), .second, .unset, .unset] [(.int (3 : Int32))]))
    refine Goes.step (fun t k => XS.iconst X76.here hx rfl (hb hby at_98) k) ?_
    show Goes _ _ _ _ _ _ _ (T76.setTop (mkF m 99 #[.val (.int p0), .val (.int p1), .val (.long q2), .second, .val (.long q3), .second, .val (.long q4), .second, .val (.long q5), .second, .val (.int y1), .val (.int (3 : Int32)), .val (.ref b61), .val (.double y77), .second, .unset, .unset] [(.int (2 : Int32)), (.int (3 : Int32))]))
    refine Goes.step (fun t k => XS.icmpYes X76.here hx rfl (pc0 := 99) (pc' := 108) rfl (hb hby at_99) rfl (flt (by decide)).2.1 (by decide) (by decide) k) ?_
    show Goes _ _ _ _ _ _ _ (T76.setTop (mkF m 108 #[.val (.int p0), .val (.int p1), .val (.long q2), .second, .val (.long q3), .second, .val (.long q4), .second, .val (.long q5), .second, .val (.int y1), .val (.int (3 : Int32)), .val (.ref b61), .val (.double y77), .second, .unset, .unset] []))
    refine Goes.step (fun t k => XS.iload X76.here hx rfl (hb hby at_108) rfl k) ?_
    show Goes _ _ _ _ _ _ _ (T76.setTop (mkF m 110 #[.val (.int p0), .val (.int p1), .val (.long q2), .second, .val (.long q3), .second, .val (.long q4), .second, .val (.long q5), .second, .val (.int y1), .val (.int (3 : Int32)), .val (.ref b61), .val (.double y77), .second, .unset, .unset] [(.int (3 : Int32))]))
    refine Goes.step (fun t k => XS.iconst X76.here hx rfl (hb hby at_110) k) ?_
    show Goes _ _ _ _ _ _ _ (T76.setTop (mkF m 111 #[.val (.int p0), .val (.int p1), .val (.long q2), .second, .val (.long q3), .second, .val (.long q4), .second, .val (.long q5), .second, .val (.int y1), .val (.int (3 : Int32)), .val (.ref b61), .val (.double y77), .second, .unset, .unset] [(.int (2 : Int32)), (.int (3 : Int32))]))
    refine Goes.step (fun t k => XS.icmpYes X76.here hx rfl (pc0 := 111) (pc' := 125) rfl (hb hby at_111) rfl (feq (by decide)).2 (by decide) (by decide) k) ?_
    show Goes _ _ _ _ _ _ _ (T76.setTop (mkF m 125 #[.val (.int p0), .val (.int p1), .val (.long q2), .second, .val (.long q3), .second, .val (.long q4), .second, .val (.long q5), .second, .val (.int y1), .val (.int (3 : Int32)), .val (.ref b61), .val (.double y77), .second, .unset, .unset] []))
    refine Goes.step (fun t k => XS.iload X76.here hx rfl (hb hby at_125) rfl k) ?_
    show Goes _ _ _ _ _ _ _ (T76.setTop (mkF m 127 #[.val (.int p0), .val (.int p1), .val (.long q2), .second, .val (.long q3), .second, .val (.long q4), .second, .val (.long q5), .second, .val (.int y1), .val (.int (3 : Int32)), .val (.ref b61), .val (.double y77), .second, .unset, .unset] [(.int (3 : Int32))]))
    refine Goes.step (fun t k => XS.iconst X76.here hx rfl (hb hby at_127) k) ?_
    show Goes _ _ _ _ _ _ _ (T76.setTop (mkF m 128 #[.val (.int p0), .val (.int p1), .val (.long q2), .second, .val (.long q3), .second, .val (.long q4), .second, .val (.long q5), .second, .val (.int y1), .val (.int (3 : Int32)), .val (.ref b61), .val (.double y77), .second, .unset, .unset] [(.int (3 : Int32)), (.int (3 : Int32))]))
    refine Goes.step (fun t k => XS.icmpNo X76.here hx rfl (hb hby at_128) rfl (teq (by decide)).2 k) ?_
    show Goes _ _ _ _ _ _ _ (T76.setTop (mkF m 131 #[.val (.int p0), .val (.int p1), .val (.long q2), .second, .val (.long q3), .second, .val (.long q4), .second, .val (.long q5), .second, .val (.int y1), .val (.int (3 : Int32)), .val (.ref b61), .val (.double y77), .second, .unset, .unset] []))
    refine Goes.step (fun t k => XS.iload X76.here hx rfl (hb hby at_131) rfl k) ?_
    show Goes _ _ _ _ _ _ _ (T76.setTop (mkF m 133 #[.val (.int p0), .val (.int p1), .val (.long q2), .second, .val (.long q3), .second, .val (.long q4), .second, .val (.long q5), .second, .val (.int y1), .val (.int (3 : Int32)), .val (.ref b61), .val (.double y77), .second, .unset, .unset] [(.int y1)]))
    refine Goes.step (fun t k => XS.lload X76.here hx rfl (hb hby at_133) rfl k) ?_
    show Goes _ _ _ _ _ _ _ (T76.setTop (mkF m 135 #[.val (.int p0), .val (.int p1), .val (.long q2), .second, .val (.long q3), .second, .val (.long q4), .second, .val (.long q5), .second, .val (.int y1), .val (.int (3 : Int32)), .val (.ref b61), .val (.double y77), .second, .unset, .unset] [(.long q4), (.int y1)]))
    refine Goes.step (fun t k => XS.lload X76.here hx rfl (hb hby at_135) rfl k) ?_
    show Goes _ _ _ _ _ _ _ (T76.setTop (mkF m 137 #[.val (.int p0), .val (.int p1), .val (.long q2), .second, .val (.long q3), .second, .val (.long q4), .second, .val (.long q5), .second, .val (.int y1), .val (.int (3 : Int32)), .val (.ref b61), .val (.double y77), .second, .unset, .unset] [(.long q3), (.long q4), (.int y1)]))
    refine Goes.step (fun t k => XS.lloadN X76.here hx rfl (hb hby at_137) rfl k) ?_
    show Goes _ _ _ _ _ _ _ (T76.setTop (mkF m 138 #[.val (.int p0), .val (.int p1), .val (.long q2), .second, .val (.long q3), .second, .val (.long q4), .second, .val (.long q5), .second, .val (.int y1), .val (.int (3 : Int32)), .val (.ref b61), .val (.double y77), .second, .unset, .unset] [(.long q2), (.long q3), (.long q4), (.int y1)]))
    obtain ⟨_, _, ⟨T81, L81, k81, n81⟩, -, X81, ⟨Lc81, hQ81, l81, y81, z81⟩, st81⟩ := Jvm.LawKit.callS X76 hx (y := (⟨"com/example/zugzwang/zugzwang/search/DeepeningFinishedPinLaw", "forecast", "(IJJJ)D"⟩ : MethodName)) hown (mvT hZ (hw _ (List.mem_of_getElem? (i := 37) rfl))) (mvT hZ (hw _ (List.mem_of_getElem? (i := 38) rfl))) (mvT hZ (hw _ (List.mem_of_getElem? (i := 39) rfl))) (mvT hZ (hw _ (List.mem_of_getElem? (i := 40) rfl))) (by decide) (backOf (W := 0) (rm7 l Z tA hw [] y1 q4 q3 q2 h73) hZ (hw _ (List.mem_of_getElem? (i := 40) rfl)) (hw _ (List.mem_of_getElem? (i := 39) rfl)) (by decide) (by decide)) (g := (mkF m 138 #[.val (.int p0), .val (.int p1), .val (.long q2), .second, .val (.long q3), .second, .val (.long q4), .second, .val (.long q5), .second, .val (.int y1), .val (.int (3 : Int32)), .val (.ref b61), .val (.double y77), .second, .unset, .unset] [(.long q2), (.long q3), (.long q4), (.int y1)])) rfl (by rw [hml]; rfl) (argsL := [(.int y1), (.long q4), (.long q3), (.long q2)]) (rest := []) (lenOf own_pd5 rfl) rfl (by show 2 * 0 + _ ≤ _; exact Nat.le_of_eq rfl) (hb hby at_138) (fun _ _ => ⟨rfl, e76, (by decide : 1 + 0 ≤ _), (by decide : 5 + 0 ≤ _)⟩)
    dsimp only [Pt.U, Pt.locs, Pt.cells, Pt.slots] at X81 l81 y81 z81 st81 hQ81
    rw [l81, y81, z81] at X81
    obtain ⟨rfl, rfl, e81⟩ := hQ81
    try rw [List.append_nil] at X81
    change Stand _ _ _ _ _ _ _ _ _ _ _ _ 1 5 at X81
    refine Goes.step (fun t k => st81 t k) ?_
    show Goes _ _ _ _ _ _ _ (T81.setTop (mkF m 141 #[.val (.int p0), .val (.int p1), .val (.long q2), .second, .val (.long q3), .second, .val (.long q4), .second, .val (.long q5), .second, .val (.int y1), .val (.int (3 : Int32)), .val (.ref b61), .val (.double y77), .second, .unset, .unset] [(.double (f7 y1 q4 q3 q2))]))
    refine Goes.step (fun t k => XS.dstore X81.here hx rfl (hb hby at_141) rfl (l' := #[.val (.int p0), .val (.int p1), .val (.long q2), .second, .val (.long q3), .second, .val (.long q4), .second, .val (.long q5), .second, .val (.int y1), .val (.int (3 : Int32)), .val (.ref b61), .val (.double y77), .second, .val (.double (f7 y1 q4 q3 q2)), .second]) rfl k) ?_
    show Goes _ _ _ _ _ _ _ (T81.setTop (mkF m 143 #[.val (.int p0), .val (.int p1), .val (.long q2), .second, .val (.long q3), .second, .val (.long q4), .second, .val (.long q5), .second, .val (.int y1), .val (.int (3 : Int32)), .val (.ref b61), .val (.double y77), .second, .val (.double (f7 y1 q4 q3 q2)), .second] []))
    refine Goes.step (fun t k => XS.goto X81.here hx rfl (pc0 := 143) (pc' := 180) rfl (hb hby at_143) (by decide) (by decide) k) ?_
    show Goes _ _ _ _ _ _ _ (T81.setTop (mkF m 180 #[.val (.int p0), .val (.int p1), .val (.long q2), .second, .val (.long q3), .second, .val (.long q4), .second, .val (.long q5), .second, .val (.int y1), .val (.int (3 : Int32)), .val (.ref b61), .val (.double y77), .second, .val (.double (f7 y1 q4 q3 q2)), .second] []))
    refine Goes.step (fun t k => XS.dload X81.here hx rfl (hb hby at_180) rfl k) ?_
    show Goes _ _ _ _ _ _ _ (T81.setTop (mkF m 182 #[.val (.int p0), .val (.int p1), .val (.long q2), .second, .val (.long q3), .second, .val (.long q4), .second, .val (.long q5), .second, .val (.int y1), .val (.int (3 : Int32)), .val (.ref b61), .val (.double y77), .second, .val (.double (f7 y1 q4 q3 q2)), .second] [(.double y77)]))
    refine Goes.step (fun t k => XS.dload X81.here hx rfl (hb hby at_182) rfl k) ?_
    show Goes _ _ _ _ _ _ _ (T81.setTop (mkF m 184 #[.val (.int p0), .val (.int p1), .val (.long q2), .second, .val (.long q3), .second, .val (.long q4), .second, .val (.long q5), .second, .val (.int y1), .val (.int (3 : Int32)), .val (.ref b61), .val (.double y77), .second, .val (.double (f7 y1 q4 q3 q2)), .second] [(.double (f7 y1 q4 q3 q2)), (.double y77)]))
    refine Goes.step (fun t k => XS.dcmpS X81.here hx rfl (hb hby at_184) rfl rfl k) ?_
    show Goes _ _ _ _ _ _ _ (T81.setTop (mkF m 185 #[.val (.int p0), .val (.int p1), .val (.long q2), .second, .val (.long q3), .second, .val (.long q4), .second, .val (.long q5), .second, .val (.int y1), .val (.int (3 : Int32)), .val (.ref b61), .val (.double y77), .second, .val (.double (f7 y1 q4 q3 q2)), .second] [(.int (cmpValue (FP.dcmp y77 (f7 y1 q4 q3 q2)) .l))]))
    suffices k83 : ∀ (x83_0 : Int32), x83_0 = (if (cmpValue (FP.dcmp y77 (f7 y1 q4 q3 q2)) .l) = (0 : Int32) then (1 : Int32) else (0 : Int32)) → Goes p e below s (Q0 Z p0 p1 q2 q3 q4 q5 h0 n0) kC0 kS0 (T81.setTop (mkF m 193 #[.val (.int p0), .val (.int p1), .val (.long q2), .second, .val (.long q3), .second, .val (.long q4), .second, .val (.long q5), .second, .val (.int y1), .val (.int (3 : Int32)), .val (.ref b61), .val (.double y77), .second, .val (.double (f7 y1 q4 q3 q2)), .second] [(.int x83_0)])) by
      by_cases hc185_82 : (cmpValue (FP.dcmp y77 (f7 y1 q4 q3 q2)) .l) = (0 : Int32)
      · refine Goes.step (fun t k => XS.ifNo X81.here hx rfl (hb hby at_185) rfl ((if0 _ _).trans (teq hc185_82).2) k) ?_
        show Goes _ _ _ _ _ _ _ (T81.setTop (mkF m 188 #[.val (.int p0), .val (.int p1), .val (.long q2), .second, .val (.long q3), .second, .val (.long q4), .second, .val (.long q5), .second, .val (.int y1), .val (.int (3 : Int32)), .val (.ref b61), .val (.double y77), .second, .val (.double (f7 y1 q4 q3 q2)), .second] []))
        refine Goes.step (fun t k => XS.iconst X81.here hx rfl (hb hby at_188) k) ?_
        show Goes _ _ _ _ _ _ _ (T81.setTop (mkF m 189 #[.val (.int p0), .val (.int p1), .val (.long q2), .second, .val (.long q3), .second, .val (.long q4), .second, .val (.long q5), .second, .val (.int y1), .val (.int (3 : Int32)), .val (.ref b61), .val (.double y77), .second, .val (.double (f7 y1 q4 q3 q2)), .second] [(.int (1 : Int32))]))
        refine Goes.step (fun t k => XS.goto X81.here hx rfl (pc0 := 189) (pc' := 193) rfl (hb hby at_189) (by decide) (by decide) k) ?_
        show Goes _ _ _ _ _ _ _ (T81.setTop (mkF m 193 #[.val (.int p0), .val (.int p1), .val (.long q2), .second, .val (.long q3), .second, .val (.long q4), .second, .val (.long q5), .second, .val (.int y1), .val (.int (3 : Int32)), .val (.ref b61), .val (.double y77), .second, .val (.double (f7 y1 q4 q3 q2)), .second] [(.int (1 : Int32))]))
        exact k83 _ (if_pos hc185_82).symm
      · refine Goes.step (fun t k => XS.ifYes X81.here hx rfl (pc0 := 185) (pc' := 192) rfl (hb hby at_185) rfl ((if0 _ _).trans (feq hc185_82).2) (by decide) (by decide) k) ?_
        show Goes _ _ _ _ _ _ _ (T81.setTop (mkF m 192 #[.val (.int p0), .val (.int p1), .val (.long q2), .second, .val (.long q3), .second, .val (.long q4), .second, .val (.long q5), .second, .val (.int y1), .val (.int (3 : Int32)), .val (.ref b61), .val (.double y77), .second, .val (.double (f7 y1 q4 q3 q2)), .second] []))
        refine Goes.step (fun t k => XS.iconst X81.here hx rfl (hb hby at_192) k) ?_
        show Goes _ _ _ _ _ _ _ (T81.setTop (mkF m 193 #[.val (.int p0), .val (.int p1), .val (.long q2), .second, .val (.long q3), .second, .val (.long q4), .second, .val (.long q5), .second, .val (.int y1), .val (.int (3 : Int32)), .val (.ref b61), .val (.double y77), .second, .val (.double (f7 y1 q4 q3 q2)), .second] [(.int (0 : Int32))]))
        exact k83 _ (if_neg hc185_82).symm
    intro x83_0 hx83_0
    exact Goes.retZ X81 hx Bd.notSynchronized (r := (1 : Int32)) Bd.returns (by simp) (hb hby at_193) (own_plain_4 p0 q2 q3 q4 y1 y77 x83_0 hy1 hy77 hx83_0) ⟨rfl, N73⟩ (by decide) (by decide)
  · show Goes _ _ _ _ _ _ _ (s₁.setTop (mkF m 15 #[.val (.int p0), .val (.int p1), .val (.long q2), .second, .val (.long q3), .second, .val (.long q4), .second, .val (.long q5), .second, .val (.int y1), .val (.int (4 : Int32)), .unset, .unset, .unset, .unset, .unset] []))
    obtain ⟨T84, h84, X84, e84, E84, A84, D84, -, st84⟩ := newO X0 hx hZ hown (hw _ (List.mem_of_getElem? (i := 1) rfl)) (hw _ (List.mem_of_getElem? (i := 2) rfl)) (hw _ (List.mem_of_getElem? (i := 3) rfl)) e0 (g := (mkF m 15 #[.val (.int p0), .val (.int p1), .val (.long q2), .second, .val (.long q3), .second, .val (.long q4), .second, .val (.long q5), .second, .val (.int y1), .val (.int (4 : Int32)), .unset, .unset, .unset, .unset, .unset] [])) rfl (hb hby at_15) (by decide) (by decide)
    obtain ⟨b84, g84⟩ : ∃ z, z = h0.size := ⟨_, rfl⟩
    rw [← g84] at A84 D84 st84
    have Zs84 : n0 ≤ b84 := Nat.le_trans Z0 (Nat.le_of_eq g84.symm)
    have Zh84 : h0.size ≤ b84 := Nat.le_trans (Keep.refl h0 []).1 (Nat.le_of_eq g84.symm)
    have K84 := (Keep.refl h0 []).ext E84
    have Z84 := Nat.le_trans Z0 E84.1
    have F85 : Fld Z h84 b84 "com/example/zugzwang/zugzwang/search/AlphaBetaEngine$Deepening" "moves" "I" (.int (0 : Int32)) := D84 (Or.inr (hw _ (List.mem_of_getElem? (i := 11) rfl))) (ty := .int) (by decide)
    have F86 : Fld Z h84 b84 "com/example/zugzwang/zugzwang/search/AlphaBetaEngine$Deepening" "oneBefore" "J" (.long (0 : Int64)) := D84 (Or.inl (hw _ (List.mem_of_getElem? (i := 18) rfl))) (ty := .long) (by decide)
    have F87 : Fld Z h84 b84 "com/example/zugzwang/zugzwang/search/AlphaBetaEngine$Deepening" "twoBefore" "J" (.long (0 : Int64)) := D84 (Or.inl (hw _ (List.mem_of_getElem? (i := 20) rfl))) (ty := .long) (by decide)
    have F88 : Fld Z h84 b84 "com/example/zugzwang/zugzwang/search/AlphaBetaEngine$Deepening" "last" "J" (.long (0 : Int64)) := D84 (Or.inl (hw _ (List.mem_of_getElem? (i := 22) rfl))) (ty := .long) (by decide)
    have F89 : Fld Z h84 b84 "com/example/zugzwang/zugzwang/search/AlphaBetaEngine$Deepening" "searches" "I" (.int (0 : Int32)) := D84 (Or.inl (hw _ (List.mem_of_getElem? (i := 24) rfl))) (ty := .int) (by decide)
    refine Goes.step (fun t k => st84 t k) ?_
    show Goes _ _ _ _ _ _ _ (T84.setTop (mkF m 18 #[.val (.int p0), .val (.int p1), .val (.long q2), .second, .val (.long q3), .second, .val (.long q4), .second, .val (.long q5), .second, .val (.int y1), .val (.int (4 : Int32)), .unset, .unset, .unset, .unset, .unset] [(.ref b84)]))
    refine Goes.step (fun t k => XS.dup X84.here hx rfl (hb hby at_18) rfl rfl k) ?_
    show Goes _ _ _ _ _ _ _ (T84.setTop (mkF m 19 #[.val (.int p0), .val (.int p1), .val (.long q2), .second, .val (.long q3), .second, .val (.long q4), .second, .val (.long q5), .second, .val (.int y1), .val (.int (4 : Int32)), .unset, .unset, .unset, .unset, .unset] [(.ref b84), (.ref b84)]))
    refine Goes.step (fun t k => XS.iload X84.here hx rfl (hb hby at_19) rfl k) ?_
    show Goes _ _ _ _ _ _ _ (T84.setTop (mkF m 21 #[.val (.int p0), .val (.int p1), .val (.long q2), .second, .val (.long q3), .second, .val (.long q4), .second, .val (.long q5), .second, .val (.int y1), .val (.int (4 : Int32)), .unset, .unset, .unset, .unset, .unset] [(.int y1), (.ref b84), (.ref b84)]))
    obtain ⟨_, _, ⟨T90, L90, k90, n90⟩, -, X90, ⟨Lc90, hQ90, l90, y90, z90⟩, st90⟩ := X84.specialBack hx (y := (⟨"com/example/zugzwang/zugzwang/search/AlphaBetaEngine$Deepening", "<init>", "(I)V"⟩ : MethodName)) rfl hown (mvT hZ (hw _ (List.mem_of_getElem? (i := 4) rfl))) (mvT hZ (hw _ (List.mem_of_getElem? (i := 5) rfl))) (mvT hZ (hw _ (List.mem_of_getElem? (i := 6) rfl))) (by decide) (backOf (W := 1) (rm1 l Z tA hw [] b84 y1 h84 n0 Z84 A84 F88 F85 F86 F89 F87 Zs84) hZ (hw _ (List.mem_of_getElem? (i := 6) rfl)) (hw _ (List.mem_of_getElem? (i := 3) rfl)) (by decide) (by decide)) (g := (mkF m 21 #[.val (.int p0), .val (.int p1), .val (.long q2), .second, .val (.long q3), .second, .val (.long q4), .second, .val (.long q5), .second, .val (.int y1), .val (.int (4 : Int32)), .unset, .unset, .unset, .unset, .unset] [(.int y1), (.ref b84), (.ref b84)])) rfl (by rw [hml]; rfl) (Steps.refl _) (a := b84) (argsL := [(.int y1)]) (rest := [(.ref b84)]) (lenOf own_pd2 rfl) rfl (by show 2 * 0 + _ ≤ _; exact Nat.le_of_eq rfl) (hb hby at_21) (fun _ _ => ⟨rfl, e84, (by decide : 1 + 0 ≤ _), (by decide : 5 + 0 ≤ _)⟩)
    dsimp only [Pt.U, Pt.locs, Pt.cells, Pt.slots] at X90 l90 y90 z90 st90 hQ90
    rw [l90, y90, z90] at X90
    generalize e90 : T90.heap = h90 at hQ90
    obtain ⟨rfl, Nq90, Kq90, G90_0, G90_1, G90_2, G90_3, G90_4, G90_5⟩ := hQ90
    have N90 := Fr.app N0 Nq90
    have K90 := K84.trans Kq90 (allS (Or.inr Zh84) all0)
    have Z90 := Nat.le_trans Z84 Kq90.1
    change Stand _ _ _ _ _ _ _ _ _ _ _ _ 1 5 at X90
    refine Goes.step (fun t k => st90.trans k) ?_
    show Goes _ _ _ _ _ _ _ (T90.setTop (mkF m 24 #[.val (.int p0), .val (.int p1), .val (.long q2), .second, .val (.long q3), .second, .val (.long q4), .second, .val (.long q5), .second, .val (.int y1), .val (.int (4 : Int32)), .unset, .unset, .unset, .unset, .unset] [(.ref b84)]))
    refine Goes.step (fun t k => XS.astore X90.here hx rfl (hb hby at_24) rfl rfl (l' := #[.val (.int p0), .val (.int p1), .val (.long q2), .second, .val (.long q3), .second, .val (.long q4), .second, .val (.long q5), .second, .val (.int y1), .val (.int (4 : Int32)), .val (.ref b84), .unset, .unset, .unset, .unset]) rfl k) ?_
    show Goes _ _ _ _ _ _ _ (T90.setTop (mkF m 26 #[.val (.int p0), .val (.int p1), .val (.long q2), .second, .val (.long q3), .second, .val (.long q4), .second, .val (.long q5), .second, .val (.int y1), .val (.int (4 : Int32)), .val (.ref b84), .unset, .unset, .unset, .unset] []))
    refine Goes.step (fun t k => XS.iload X90.here hx rfl (hb hby at_26) rfl k) ?_
    show Goes _ _ _ _ _ _ _ (T90.setTop (mkF m 28 #[.val (.int p0), .val (.int p1), .val (.long q2), .second, .val (.long q3), .second, .val (.long q4), .second, .val (.long q5), .second, .val (.int y1), .val (.int (4 : Int32)), .val (.ref b84), .unset, .unset, .unset, .unset] [(.int (4 : Int32))]))
    refine Goes.step (fun t k => XS.iconst X90.here hx rfl (hb hby at_28) k) ?_
    show Goes _ _ _ _ _ _ _ (T90.setTop (mkF m 29 #[.val (.int p0), .val (.int p1), .val (.long q2), .second, .val (.long q3), .second, .val (.long q4), .second, .val (.long q5), .second, .val (.int y1), .val (.int (4 : Int32)), .val (.ref b84), .unset, .unset, .unset, .unset] [(.int (1 : Int32)), (.int (4 : Int32))]))
    refine Goes.step (fun t k => XS.icmpNo X90.here hx rfl (hb hby at_29) rfl (flt (by decide)).1 k) ?_
    show Goes _ _ _ _ _ _ _ (T90.setTop (mkF m 32 #[.val (.int p0), .val (.int p1), .val (.long q2), .second, .val (.long q3), .second, .val (.long q4), .second, .val (.long q5), .second, .val (.int y1), .val (.int (4 : Int32)), .val (.ref b84), .unset, .unset, .unset, .unset] []))
    refine Goes.step (fun t k => XS.aload X90.here hx rfl (hb hby at_32) rfl rfl k) ?_
    show Goes _ _ _ _ _ _ _ (T90.setTop (mkF m 34 #[.val (.int p0), .val (.int p1), .val (.long q2), .second, .val (.long q3), .second, .val (.long q4), .second, .val (.long q5), .second, .val (.int y1), .val (.int (4 : Int32)), .val (.ref b84), .unset, .unset, .unset, .unset] [(.ref b84)]))
    refine Goes.step (fun t k => XS.lloadN X90.here hx rfl (hb hby at_34) rfl k) ?_
    show Goes _ _ _ _ _ _ _ (T90.setTop (mkF m 35 #[.val (.int p0), .val (.int p1), .val (.long q2), .second, .val (.long q3), .second, .val (.long q4), .second, .val (.long q5), .second, .val (.int y1), .val (.int (4 : Int32)), .val (.ref b84), .unset, .unset, .unset, .unset] [(.long q2), (.ref b84)]))
    obtain ⟨cq92, kq92, q92a, q92b, q92c⟩ := isOf hZ e90 G90_0
    obtain ⟨_, _, ⟨T92, L92, k92, n92⟩, -, X92, ⟨Lc92, hQ92, l92, y92, z92⟩, st92⟩ := X90.virtualBack hx (y := (⟨"com/example/zugzwang/zugzwang/search/AlphaBetaEngine$Deepening", "finished", "(J)V"⟩ : MethodName)) (z := (⟨"com/example/zugzwang/zugzwang/search/AlphaBetaEngine$Deepening", "finished", "(J)V"⟩ : MethodName)) hown (mvT hZ (hw _ (List.mem_of_getElem? (i := 12) rfl))) (mvT hZ (hw _ (List.mem_of_getElem? (i := 13) rfl))) (notFace_of_selects (args := #[]) (mvT hZ (hw _ (List.mem_of_getElem? (i := 15) rfl)))) (mvT hZ (hw _ (List.mem_of_getElem? (i := 15) rfl))) (mvT hZ (hw _ (List.mem_of_getElem? (i := 14) rfl))) (by decide) (backOf (W := 0) (rm3 l Z tA hw [] b84 q2 (0 : Int64) y1 (0 : Int64) (0 : Int32) (0 : Int64) h90 n0 Z90 G90_0 G90_1 G90_2 G90_3 G90_4 G90_5 Zs84) hZ (hw _ (List.mem_of_getElem? (i := 16) rfl)) (hw _ (List.mem_of_getElem? (i := 3) rfl)) (by decide) (by decide)) q92a q92c (g := (mkF m 35 #[.val (.int p0), .val (.int p1), .val (.long q2), .second, .val (.long q3), .second, .val (.long q4), .second, .val (.long q5), .second, .val (.int y1), .val (.int (4 : Int32)), .val (.ref b84), .unset, .unset, .unset, .unset] [(.long q2), (.ref b84)])) rfl (by rw [hml]; rfl) (Steps.refl _) (argsL := [(.long q2)]) (rest := []) (lenOf own_pd4 rfl) rfl (by show 2 * 0 + _ ≤ _; exact Nat.le_of_eq rfl) (hb hby at_35) (fun _ _ => ⟨rfl, e90, (by decide : 1 + 0 ≤ _), (by decide : 5 + 0 ≤ _)⟩)
    dsimp only [Pt.U, Pt.locs, Pt.cells, Pt.slots] at X92 l92 y92 z92 st92 hQ92
    rw [l92, y92, z92] at X92
    generalize e92 : T92.heap = h92 at hQ92
    obtain ⟨rfl, Nq92, Kq92, G92_0, G92_1, G92_2, G92_3, G92_4, G92_5⟩ := hQ92
    have N92 := Fr.app N90 Nq92
    have K92 := K90.trans Kq92 (allS (Or.inr Zh84) all0)
    have Z92 := Nat.le_trans Z90 Kq92.1
    change Stand _ _ _ _ _ _ _ _ _ _ _ _ 1 5 at X92
    refine Goes.step (fun t k => st92.trans k) ?_
    show Goes _ _ _ _ _ _ _ (T92.setTop (mkF m 38 #[.val (.int p0), .val (.int p1), .val (.long q2), .second, .val (.long q3), .second, .val (.long q4), .second, .val (.long q5), .second, .val (.int y1), .val (.int (4 : Int32)), .val (.ref b84), .unset, .unset, .unset, .unset] []))
    refine Goes.step (fun t k => XS.iload X92.here hx rfl (hb hby at_38) rfl k) ?_
    show Goes _ _ _ _ _ _ _ (T92.setTop (mkF m 40 #[.val (.int p0), .val (.int p1), .val (.long q2), .second, .val (.long q3), .second, .val (.long q4), .second, .val (.long q5), .second, .val (.int y1), .val (.int (4 : Int32)), .val (.ref b84), .unset, .unset, .unset, .unset] [(.int (4 : Int32))]))
    refine Goes.step (fun t k => XS.iconst X92.here hx rfl (hb hby at_40) k) ?_
    show Goes _ _ _ _ _ _ _ (T92.setTop (mkF m 41 #[.val (.int p0), .val (.int p1), .val (.long q2), .second, .val (.long q3), .second, .val (.long q4), .second, .val (.long q5), .second, .val (.int y1), .val (.int (4 : Int32)), .val (.ref b84), .unset, .unset, .unset, .unset] [(.int (2 : Int32)), (.int (4 : Int32))]))
    refine Goes.step (fun t k => XS.icmpNo X92.here hx rfl (hb hby at_41) rfl (flt (by decide)).1 k) ?_
    show Goes _ _ _ _ _ _ _ (T92.setTop (mkF m 44 #[.val (.int p0), .val (.int p1), .val (.long q2), .second, .val (.long q3), .second, .val (.long q4), .second, .val (.long q5), .second, .val (.int y1), .val (.int (4 : Int32)), .val (.ref b84), .unset, .unset, .unset, .unset] []))
    refine Goes.step (fun t k => XS.aload X92.here hx rfl (hb hby at_44) rfl rfl k) ?_
    show Goes _ _ _ _ _ _ _ (T92.setTop (mkF m 46 #[.val (.int p0), .val (.int p1), .val (.long q2), .second, .val (.long q3), .second, .val (.long q4), .second, .val (.long q5), .second, .val (.int y1), .val (.int (4 : Int32)), .val (.ref b84), .unset, .unset, .unset, .unset] [(.ref b84)]))
    refine Goes.step (fun t k => XS.lload X92.here hx rfl (hb hby at_46) rfl k) ?_
    show Goes _ _ _ _ _ _ _ (T92.setTop (mkF m 48 #[.val (.int p0), .val (.int p1), .val (.long q2), .second, .val (.long q3), .second, .val (.long q4), .second, .val (.long q5), .second, .val (.int y1), .val (.int (4 : Int32)), .val (.ref b84), .unset, .unset, .unset, .unset] [(.long q3), (.ref b84)]))
    obtain ⟨cq94, kq94, q94a, q94b, q94c⟩ := isOf hZ e92 G92_0
    obtain ⟨_, _, ⟨T94, L94, k94, n94⟩, -, X94, ⟨Lc94, hQ94, l94, y94, z94⟩, st94⟩ := X92.virtualBack hx (y := (⟨"com/example/zugzwang/zugzwang/search/AlphaBetaEngine$Deepening", "finished", "(J)V"⟩ : MethodName)) (z := (⟨"com/example/zugzwang/zugzwang/search/AlphaBetaEngine$Deepening", "finished", "(J)V"⟩ : MethodName)) hown (mvT hZ (hw _ (List.mem_of_getElem? (i := 12) rfl))) (mvT hZ (hw _ (List.mem_of_getElem? (i := 13) rfl))) (notFace_of_selects (args := #[]) (mvT hZ (hw _ (List.mem_of_getElem? (i := 15) rfl)))) (mvT hZ (hw _ (List.mem_of_getElem? (i := 15) rfl))) (mvT hZ (hw _ (List.mem_of_getElem? (i := 14) rfl))) (by decide) (backOf (W := 0) (rm3 l Z tA hw [] b84 q3 q2 y1 (0 : Int64) ((0 : Int32) + (1 : Int32)) (0 : Int64) h92 n0 Z92 G92_0 G92_1 G92_2 G92_3 G92_4 G92_5 Zs84) hZ (hw _ (List.mem_of_getElem? (i := 16) rfl)) (hw _ (List.mem_of_getElem? (i := 3) rfl)) (by decide) (by decide)) q94a q94c (g := (mkF m 48 #[.val (.int p0), .val (.int p1), .val (.long q2), .second, .val (.long q3), .second, .val (.long q4), .second, .val (.long q5), .second, .val (.int y1), .val (.int (4 : Int32)), .val (.ref b84), .unset, .unset, .unset, .unset] [(.long q3), (.ref b84)])) rfl (by rw [hml]; rfl) (Steps.refl _) (argsL := [(.long q3)]) (rest := []) (lenOf own_pd4 rfl) rfl (by show 2 * 0 + _ ≤ _; exact Nat.le_of_eq rfl) (hb hby at_48) (fun _ _ => ⟨rfl, e92, (by decide : 1 + 0 ≤ _), (by decide : 5 + 0 ≤ _)⟩)
    dsimp only [Pt.U, Pt.locs, Pt.cells, Pt.slots] at X94 l94 y94 z94 st94 hQ94
    rw [l94, y94, z94] at X94
    generalize e94 : T94.heap = h94 at hQ94
    obtain ⟨rfl, Nq94, Kq94, G94_0, G94_1, G94_2, G94_3, G94_4, G94_5⟩ := hQ94
    have N94 := Fr.app N92 Nq94
    have K94 := K92.trans Kq94 (allS (Or.inr Zh84) all0)
    have Z94 := Nat.le_trans Z92 Kq94.1
    change Stand _ _ _ _ _ _ _ _ _ _ _ _ 1 5 at X94
    refine Goes.step (fun t k => st94.trans k) ?_
    show Goes _ _ _ _ _ _ _ (T94.setTop (mkF m 51 #[.val (.int p0), .val (.int p1), .val (.long q2), .second, .val (.long q3), .second, .val (.long q4), .second, .val (.long q5), .second, .val (.int y1), .val (.int (4 : Int32)), .val (.ref b84), .unset, .unset, .unset, .unset] []))
    refine Goes.step (fun t k => XS.iload X94.here hx rfl (hb hby at_51) rfl k) ?_
    show Goes _ _ _ _ _ _ _ (T94.setTop (mkF m 53 #[.val (.int p0), .val (.int p1), .val (.long q2), .second, .val (.long q3), .second, .val (.long q4), .second, .val (.long q5), .second, .val (.int y1), .val (.int (4 : Int32)), .val (.ref b84), .unset, .unset, .unset, .unset] [(.int (4 : Int32))]))
    refine Goes.step (fun t k => XS.iconst X94.here hx rfl (hb hby at_53) k) ?_
    show Goes _ _ _ _ _ _ _ (T94.setTop (mkF m 54 #[.val (.int p0), .val (.int p1), .val (.long q2), .second, .val (.long q3), .second, .val (.long q4), .second, .val (.long q5), .second, .val (.int y1), .val (.int (4 : Int32)), .val (.ref b84), .unset, .unset, .unset, .unset] [(.int (3 : Int32)), (.int (4 : Int32))]))
    refine Goes.step (fun t k => XS.icmpNo X94.here hx rfl (hb hby at_54) rfl (flt (by decide)).1 k) ?_
    show Goes _ _ _ _ _ _ _ (T94.setTop (mkF m 57 #[.val (.int p0), .val (.int p1), .val (.long q2), .second, .val (.long q3), .second, .val (.long q4), .second, .val (.long q5), .second, .val (.int y1), .val (.int (4 : Int32)), .val (.ref b84), .unset, .unset, .unset, .unset] []))
    refine Goes.step (fun t k => XS.aload X94.here hx rfl (hb hby at_57) rfl rfl k) ?_
    show Goes _ _ _ _ _ _ _ (T94.setTop (mkF m 59 #[.val (.int p0), .val (.int p1), .val (.long q2), .second, .val (.long q3), .second, .val (.long q4), .second, .val (.long q5), .second, .val (.int y1), .val (.int (4 : Int32)), .val (.ref b84), .unset, .unset, .unset, .unset] [(.ref b84)]))
    refine Goes.step (fun t k => XS.lload X94.here hx rfl (hb hby at_59) rfl k) ?_
    show Goes _ _ _ _ _ _ _ (T94.setTop (mkF m 61 #[.val (.int p0), .val (.int p1), .val (.long q2), .second, .val (.long q3), .second, .val (.long q4), .second, .val (.long q5), .second, .val (.int y1), .val (.int (4 : Int32)), .val (.ref b84), .unset, .unset, .unset, .unset] [(.long q4), (.ref b84)]))
    obtain ⟨cq96, kq96, q96a, q96b, q96c⟩ := isOf hZ e94 G94_0
    obtain ⟨_, _, ⟨T96, L96, k96, n96⟩, -, X96, ⟨Lc96, hQ96, l96, y96, z96⟩, st96⟩ := X94.virtualBack hx (y := (⟨"com/example/zugzwang/zugzwang/search/AlphaBetaEngine$Deepening", "finished", "(J)V"⟩ : MethodName)) (z := (⟨"com/example/zugzwang/zugzwang/search/AlphaBetaEngine$Deepening", "finished", "(J)V"⟩ : MethodName)) hown (mvT hZ (hw _ (List.mem_of_getElem? (i := 12) rfl))) (mvT hZ (hw _ (List.mem_of_getElem? (i := 13) rfl))) (notFace_of_selects (args := #[]) (mvT hZ (hw _ (List.mem_of_getElem? (i := 15) rfl)))) (mvT hZ (hw _ (List.mem_of_getElem? (i := 15) rfl))) (mvT hZ (hw _ (List.mem_of_getElem? (i := 14) rfl))) (by decide) (backOf (W := 0) (rm3 l Z tA hw [] b84 q4 q3 y1 q2 (((0 : Int32) + (1 : Int32)) + (1 : Int32)) (0 : Int64) h94 n0 Z94 G94_0 G94_1 G94_2 G94_3 G94_4 G94_5 Zs84) hZ (hw _ (List.mem_of_getElem? (i := 16) rfl)) (hw _ (List.mem_of_getElem? (i := 3) rfl)) (by decide) (by decide)) q96a q96c (g := (mkF m 61 #[.val (.int p0), .val (.int p1), .val (.long q2), .second, .val (.long q3), .second, .val (.long q4), .second, .val (.long q5), .second, .val (.int y1), .val (.int (4 : Int32)), .val (.ref b84), .unset, .unset, .unset, .unset] [(.long q4), (.ref b84)])) rfl (by rw [hml]; rfl) (Steps.refl _) (argsL := [(.long q4)]) (rest := []) (lenOf own_pd4 rfl) rfl (by show 2 * 0 + _ ≤ _; exact Nat.le_of_eq rfl) (hb hby at_61) (fun _ _ => ⟨rfl, e94, (by decide : 1 + 0 ≤ _), (by decide : 5 + 0 ≤ _)⟩)
    dsimp only [Pt.U, Pt.locs, Pt.cells, Pt.slots] at X96 l96 y96 z96 st96 hQ96
    rw [l96, y96, z96] at X96
    generalize e96 : T96.heap = h96 at hQ96
    obtain ⟨rfl, Nq96, Kq96, G96_0, G96_1, G96_2, G96_3, G96_4, G96_5⟩ := hQ96
    have N96 := Fr.app N94 Nq96
    have K96 := K94.trans Kq96 (allS (Or.inr Zh84) all0)
    have Z96 := Nat.le_trans Z94 Kq96.1
    change Stand _ _ _ _ _ _ _ _ _ _ _ _ 1 5 at X96
    refine Goes.step (fun t k => st96.trans k) ?_
    show Goes _ _ _ _ _ _ _ (T96.setTop (mkF m 64 #[.val (.int p0), .val (.int p1), .val (.long q2), .second, .val (.long q3), .second, .val (.long q4), .second, .val (.long q5), .second, .val (.int y1), .val (.int (4 : Int32)), .val (.ref b84), .unset, .unset, .unset, .unset] []))
    refine Goes.step (fun t k => XS.iload X96.here hx rfl (hb hby at_64) rfl k) ?_
    show Goes _ _ _ _ _ _ _ (T96.setTop (mkF m 66 #[.val (.int p0), .val (.int p1), .val (.long q2), .second, .val (.long q3), .second, .val (.long q4), .second, .val (.long q5), .second, .val (.int y1), .val (.int (4 : Int32)), .val (.ref b84), .unset, .unset, .unset, .unset] [(.int (4 : Int32))]))
    refine Goes.step (fun t k => XS.iconst X96.here hx rfl (hb hby at_66) k) ?_
    show Goes _ _ _ _ _ _ _ (T96.setTop (mkF m 67 #[.val (.int p0), .val (.int p1), .val (.long q2), .second, .val (.long q3), .second, .val (.long q4), .second, .val (.long q5), .second, .val (.int y1), .val (.int (4 : Int32)), .val (.ref b84), .unset, .unset, .unset, .unset] [(.int (4 : Int32)), (.int (4 : Int32))]))
    refine Goes.step (fun t k => XS.icmpNo X96.here hx rfl (hb hby at_67) rfl (flt (by decide)).1 k) ?_
    show Goes _ _ _ _ _ _ _ (T96.setTop (mkF m 70 #[.val (.int p0), .val (.int p1), .val (.long q2), .second, .val (.long q3), .second, .val (.long q4), .second, .val (.long q5), .second, .val (.int y1), .val (.int (4 : Int32)), .val (.ref b84), .unset, .unset, .unset, .unset] []))
    refine Goes.step (fun t k => XS.aload X96.here hx rfl (hb hby at_70) rfl rfl k) ?_
    show Goes _ _ _ _ _ _ _ (T96.setTop (mkF m 72 #[.val (.int p0), .val (.int p1), .val (.long q2), .second, .val (.long q3), .second, .val (.long q4), .second, .val (.long q5), .second, .val (.int y1), .val (.int (4 : Int32)), .val (.ref b84), .unset, .unset, .unset, .unset] [(.ref b84)]))
    refine Goes.step (fun t k => XS.lload X96.here hx rfl (hb hby at_72) rfl k) ?_
    show Goes _ _ _ _ _ _ _ (T96.setTop (mkF m 74 #[.val (.int p0), .val (.int p1), .val (.long q2), .second, .val (.long q3), .second, .val (.long q4), .second, .val (.long q5), .second, .val (.int y1), .val (.int (4 : Int32)), .val (.ref b84), .unset, .unset, .unset, .unset] [(.long q5), (.ref b84)]))
    obtain ⟨cq98, kq98, q98a, q98b, q98c⟩ := isOf hZ e96 G96_0
    obtain ⟨_, _, ⟨T98, L98, k98, n98⟩, -, X98, ⟨Lc98, hQ98, l98, y98, z98⟩, st98⟩ := X96.virtualBack hx (y := (⟨"com/example/zugzwang/zugzwang/search/AlphaBetaEngine$Deepening", "finished", "(J)V"⟩ : MethodName)) (z := (⟨"com/example/zugzwang/zugzwang/search/AlphaBetaEngine$Deepening", "finished", "(J)V"⟩ : MethodName)) hown (mvT hZ (hw _ (List.mem_of_getElem? (i := 12) rfl))) (mvT hZ (hw _ (List.mem_of_getElem? (i := 13) rfl))) (notFace_of_selects (args := #[]) (mvT hZ (hw _ (List.mem_of_getElem? (i := 15) rfl)))) (mvT hZ (hw _ (List.mem_of_getElem? (i := 15) rfl))) (mvT hZ (hw _ (List.mem_of_getElem? (i := 14) rfl))) (by decide) (backOf (W := 0) (rm3 l Z tA hw [] b84 q5 q4 y1 q3 ((((0 : Int32) + (1 : Int32)) + (1 : Int32)) + (1 : Int32)) q2 h96 n0 Z96 G96_0 G96_1 G96_2 G96_3 G96_4 G96_5 Zs84) hZ (hw _ (List.mem_of_getElem? (i := 16) rfl)) (hw _ (List.mem_of_getElem? (i := 3) rfl)) (by decide) (by decide)) q98a q98c (g := (mkF m 74 #[.val (.int p0), .val (.int p1), .val (.long q2), .second, .val (.long q3), .second, .val (.long q4), .second, .val (.long q5), .second, .val (.int y1), .val (.int (4 : Int32)), .val (.ref b84), .unset, .unset, .unset, .unset] [(.long q5), (.ref b84)])) rfl (by rw [hml]; rfl) (Steps.refl _) (argsL := [(.long q5)]) (rest := []) (lenOf own_pd4 rfl) rfl (by show 2 * 0 + _ ≤ _; exact Nat.le_of_eq rfl) (hb hby at_74) (fun _ _ => ⟨rfl, e96, (by decide : 1 + 0 ≤ _), (by decide : 5 + 0 ≤ _)⟩)
    dsimp only [Pt.U, Pt.locs, Pt.cells, Pt.slots] at X98 l98 y98 z98 st98 hQ98
    rw [l98, y98, z98] at X98
    generalize e98 : T98.heap = h98 at hQ98
    obtain ⟨rfl, Nq98, Kq98, G98_0, G98_1, G98_2, G98_3, G98_4, G98_5⟩ := hQ98
    have N98 := Fr.app N96 Nq98
    have K98 := K96.trans Kq98 (allS (Or.inr Zh84) all0)
    have Z98 := Nat.le_trans Z96 Kq98.1
    change Stand _ _ _ _ _ _ _ _ _ _ _ _ 1 5 at X98
    refine Goes.step (fun t k => st98.trans k) ?_
    show Goes _ _ _ _ _ _ _ (T98.setTop (mkF m 77 #[.val (.int p0), .val (.int p1), .val (.long q2), .second, .val (.long q3), .second, .val (.long q4), .second, .val (.long q5), .second, .val (.int y1), .val (.int (4 : Int32)), .val (.ref b84), .unset, .unset, .unset, .unset] []))
    refine Goes.step (fun t k => XS.iload X98.here hx rfl (hb hby at_77) rfl k) ?_
    show Goes _ _ _ _ _ _ _ (T98.setTop (mkF m 79 #[.val (.int p0), .val (.int p1), .val (.long q2), .second, .val (.long q3), .second, .val (.long q4), .second, .val (.long q5), .second, .val (.int y1), .val (.int (4 : Int32)), .val (.ref b84), .unset, .unset, .unset, .unset] [(.int (4 : Int32))]))
    refine Goes.step (fun t k => XS.iconst X98.here hx rfl (hb hby at_79) k) ?_
    show Goes _ _ _ _ _ _ _ (T98.setTop (mkF m 80 #[.val (.int p0), .val (.int p1), .val (.long q2), .second, .val (.long q3), .second, .val (.long q4), .second, .val (.long q5), .second, .val (.int y1), .val (.int (4 : Int32)), .val (.ref b84), .unset, .unset, .unset, .unset] [(.int (5 : Int32)), (.int (4 : Int32))]))
    refine Goes.step (fun t k => XS.icmpYes X98.here hx rfl (pc0 := 80) (pc' := 89) rfl (hb hby at_80) rfl (tlt (by decide)).1 (by decide) (by decide) k) ?_
    show Goes _ _ _ _ _ _ _ (T98.setTop (mkF m 89 #[.val (.int p0), .val (.int p1), .val (.long q2), .second, .val (.long q3), .second, .val (.long q4), .second, .val (.long q5), .second, .val (.int y1), .val (.int (4 : Int32)), .val (.ref b84), .unset, .unset, .unset, .unset] []))
    refine Goes.step (fun t k => XS.aload X98.here hx rfl (hb hby at_89) rfl rfl k) ?_
    show Goes _ _ _ _ _ _ _ (T98.setTop (mkF m 91 #[.val (.int p0), .val (.int p1), .val (.long q2), .second, .val (.long q3), .second, .val (.long q4), .second, .val (.long q5), .second, .val (.int y1), .val (.int (4 : Int32)), .val (.ref b84), .unset, .unset, .unset, .unset] [(.ref b84)]))
    obtain ⟨cq100, kq100, q100a, q100b, q100c⟩ := isOf hZ e98 G98_0
    obtain ⟨_, _, ⟨T100, L100, k100, n100⟩, -, X100, ⟨Lc100, hQ100, l100, y100, z100⟩, st100⟩ := X98.virtualBack hx (y := (⟨"com/example/zugzwang/zugzwang/search/AlphaBetaEngine$Deepening", "nextNanos", "()D"⟩ : MethodName)) (z := (⟨"com/example/zugzwang/zugzwang/search/AlphaBetaEngine$Deepening", "nextNanos", "()D"⟩ : MethodName)) hown (mvT hZ (hw _ (List.mem_of_getElem? (i := 25) rfl))) (mvT hZ (hw _ (List.mem_of_getElem? (i := 26) rfl))) (notFace_of_selects (args := #[]) (mvT hZ (hw _ (List.mem_of_getElem? (i := 28) rfl)))) (mvT hZ (hw _ (List.mem_of_getElem? (i := 28) rfl))) (mvT hZ (hw _ (List.mem_of_getElem? (i := 27) rfl))) (by decide) (backOf (W := 0) (rm4 l Z tA hw [] b84 q5 y1 q4 (((((0 : Int32) + (1 : Int32)) + (1 : Int32)) + (1 : Int32)) + (1 : Int32)) q3 h98 G98_1 G98_2 G98_3 G98_4 G98_5) hZ (hw _ (List.mem_of_getElem? (i := 29) rfl)) (hw _ (List.mem_of_getElem? (i := 3) rfl)) (by decide) (by decide)) q100a q100c (g := (mkF m 91 #[.val (.int p0), .val (.int p1), .val (.long q2), .second, .val (.long q3), .second, .val (.long q4), .second, .val (.long q5), .second, .val (.int y1), .val (.int (4 : Int32)), .val (.ref b84), .unset, .unset, .unset, .unset] [(.ref b84)])) rfl (by rw [hml]; rfl) (Steps.refl _) (argsL := []) (rest := []) (lenOf own_pd3 rfl) rfl (by show 2 * 0 + _ ≤ _; exact Nat.le_of_eq rfl) (hb hby at_91) (fun _ _ => ⟨rfl, e98, (by decide : 1 + 0 ≤ _), (by decide : 5 + 0 ≤ _)⟩)
    dsimp only [Pt.U, Pt.locs, Pt.cells, Pt.slots] at X100 l100 y100 z100 st100 hQ100
    rw [l100, y100, z100] at X100
    obtain ⟨rfl, rfl, e100⟩ := hQ100
    try rw [List.append_nil] at X100
    change Stand _ _ _ _ _ _ _ _ _ _ _ _ 1 5 at X100
    refine Goes.step (fun t k => st100.trans k) ?_
    show Goes _ _ _ _ _ _ _ (T100.setTop (mkF m 94 #[.val (.int p0), .val (.int p1), .val (.long q2), .second, .val (.long q3), .second, .val (.long q4), .second, .val (.long q5), .second, .val (.int y1), .val (.int (4 : Int32)), .val (.ref b84), .unset, .unset, .unset, .unset] [(.double (f4 q5 y1 q4 (((((0 : Int32) + (1 : Int32)) + (1 : Int32)) + (1 : Int32)) + (1 : Int32)) q3))]))
    refine Goes.step (fun t k => XS.dstore X100.here hx rfl (hb hby at_94) rfl (l' := #[.val (.int p0), .val (.int p1), .val (.long q2), .second, .val (.long q3), .second, .val (.long q4), .second, .val (.long q5), .second, .val (.int y1), .val (.int (4 : Int32)), .val (.ref b84), .val (.double (f4 q5 y1 q4 (((((0 : Int32) + (1 : Int32)) + (1 : Int32)) + (1 : Int32)) + (1 : Int32)) q3)), .second, .unset, .unset]) rfl k) ?_
    show Goes _ _ _ _ _ _ _ (T100.setTop (mkF m 96 #[.val (.int p0), .val (.int p1), .val (.long q2), .second, .val (.long q3), .second, .val (.long q4), .second, .val (.long q5), .second, .val (.int y1), .val (.int (4 : Int32)), .val (.ref b84), .val (.double (f4 q5 y1 q4 (((((0 : Int32) + (1 : Int32)) + (1 : Int32)) + (1 : Int32)) + (1 : Int32)) q3)), .second, .unset, .unset] []))
    generalize hy101 : (f4 q5 y1 q4 (((((0 : Int32) + (1 : Int32)) + (1 : Int32)) + (1 : Int32)) + (1 : Int32)) q3) = y101
    refine Goes.step (fun t k => XS.iload X100.here hx rfl (hb hby at_96) rfl k) ?_
    show Goes _ _ _ _ _ _ _ (T100.setTop (mkF m 98 #[.val (.int p0), .val (.int p1), .val (.long q2), .second, .val (.long q3), .second, .val (.long q4), .second, .val (.long q5), .second, .val (.int y1), .val (.int (4 : Int32)), .val (.ref b84), .val (.double y101), .second, .unset, .unset] [(.int (4 : Int32))]))
    refine Goes.step (fun t k => XS.iconst X100.here hx rfl (hb hby at_98) k) ?_
    show Goes _ _ _ _ _ _ _ (T100.setTop (mkF m 99 #[.val (.int p0), .val (.int p1), .val (.long q2), .second, .val (.long q3), .second, .val (.long q4), .second, .val (.long q5), .second, .val (.int y1), .val (.int (4 : Int32)), .val (.ref b84), .val (.double y101), .second, .unset, .unset] [(.int (2 : Int32)), (.int (4 : Int32))]))
    refine Goes.step (fun t k => XS.icmpYes X100.here hx rfl (pc0 := 99) (pc' := 108) rfl (hb hby at_99) rfl (flt (by decide)).2.1 (by decide) (by decide) k) ?_
    show Goes _ _ _ _ _ _ _ (T100.setTop (mkF m 108 #[.val (.int p0), .val (.int p1), .val (.long q2), .second, .val (.long q3), .second, .val (.long q4), .second, .val (.long q5), .second, .val (.int y1), .val (.int (4 : Int32)), .val (.ref b84), .val (.double y101), .second, .unset, .unset] []))
    refine Goes.step (fun t k => XS.iload X100.here hx rfl (hb hby at_108) rfl k) ?_
    show Goes _ _ _ _ _ _ _ (T100.setTop (mkF m 110 #[.val (.int p0), .val (.int p1), .val (.long q2), .second, .val (.long q3), .second, .val (.long q4), .second, .val (.long q5), .second, .val (.int y1), .val (.int (4 : Int32)), .val (.ref b84), .val (.double y101), .second, .unset, .unset] [(.int (4 : Int32))]))
    refine Goes.step (fun t k => XS.iconst X100.here hx rfl (hb hby at_110) k) ?_
    show Goes _ _ _ _ _ _ _ (T100.setTop (mkF m 111 #[.val (.int p0), .val (.int p1), .val (.long q2), .second, .val (.long q3), .second, .val (.long q4), .second, .val (.long q5), .second, .val (.int y1), .val (.int (4 : Int32)), .val (.ref b84), .val (.double y101), .second, .unset, .unset] [(.int (2 : Int32)), (.int (4 : Int32))]))
    refine Goes.step (fun t k => XS.icmpYes X100.here hx rfl (pc0 := 111) (pc' := 125) rfl (hb hby at_111) rfl (feq (by decide)).2 (by decide) (by decide) k) ?_
    show Goes _ _ _ _ _ _ _ (T100.setTop (mkF m 125 #[.val (.int p0), .val (.int p1), .val (.long q2), .second, .val (.long q3), .second, .val (.long q4), .second, .val (.long q5), .second, .val (.int y1), .val (.int (4 : Int32)), .val (.ref b84), .val (.double y101), .second, .unset, .unset] []))
    refine Goes.step (fun t k => XS.iload X100.here hx rfl (hb hby at_125) rfl k) ?_
    show Goes _ _ _ _ _ _ _ (T100.setTop (mkF m 127 #[.val (.int p0), .val (.int p1), .val (.long q2), .second, .val (.long q3), .second, .val (.long q4), .second, .val (.long q5), .second, .val (.int y1), .val (.int (4 : Int32)), .val (.ref b84), .val (.double y101), .second, .unset, .unset] [(.int (4 : Int32))]))
    refine Goes.step (fun t k => XS.iconst X100.here hx rfl (hb hby at_127) k) ?_
    show Goes _ _ _ _ _ _ _ (T100.setTop (mkF m 128 #[.val (.int p0), .val (.int p1), .val (.long q2), .second, .val (.long q3), .second, .val (.long q4), .second, .val (.long q5), .second, .val (.int y1), .val (.int (4 : Int32)), .val (.ref b84), .val (.double y101), .second, .unset, .unset] [(.int (3 : Int32)), (.int (4 : Int32))]))
    refine Goes.step (fun t k => XS.icmpYes X100.here hx rfl (pc0 := 128) (pc' := 146) rfl (hb hby at_128) rfl (feq (by decide)).2 (by decide) (by decide) k) ?_
    show Goes _ _ _ _ _ _ _ (T100.setTop (mkF m 146 #[.val (.int p0), .val (.int p1), .val (.long q2), .second, .val (.long q3), .second, .val (.long q4), .second, .val (.long q5), .second, .val (.int y1), .val (.int (4 : Int32)), .val (.ref b84), .val (.double y101), .second, .unset, .unset] []))
    refine Goes.step (fun t k => XS.iload X100.here hx rfl (hb hby at_146) rfl k) ?_
    show Goes _ _ _ _ _ _ _ (T100.setTop (mkF m 148 #[.val (.int p0), .val (.int p1), .val (.long q2), .second, .val (.long q3), .second, .val (.long q4), .second, .val (.long q5), .second, .val (.int y1), .val (.int (4 : Int32)), .val (.ref b84), .val (.double y101), .second, .unset, .unset] [(.int (4 : Int32))]))
    refine Goes.step (fun t k => XS.iconst X100.here hx rfl (hb hby at_148) k) ?_
    show Goes _ _ _ _ _ _ _ (T100.setTop (mkF m 149 #[.val (.int p0), .val (.int p1), .val (.long q2), .second, .val (.long q3), .second, .val (.long q4), .second, .val (.long q5), .second, .val (.int y1), .val (.int (4 : Int32)), .val (.ref b84), .val (.double y101), .second, .unset, .unset] [(.int (4 : Int32)), (.int (4 : Int32))]))
    refine Goes.step (fun t k => XS.icmpNo X100.here hx rfl (hb hby at_149) rfl (teq (by decide)).2 k) ?_
    show Goes _ _ _ _ _ _ _ (T100.setTop (mkF m 152 #[.val (.int p0), .val (.int p1), .val (.long q2), .second, .val (.long q3), .second, .val (.long q4), .second, .val (.long q5), .second, .val (.int y1), .val (.int (4 : Int32)), .val (.ref b84), .val (.double y101), .second, .unset, .unset] []))
    refine Goes.step (fun t k => XS.iload X100.here hx rfl (hb hby at_152) rfl k) ?_
    show Goes _ _ _ _ _ _ _ (T100.setTop (mkF m 154 #[.val (.int p0), .val (.int p1), .val (.long q2), .second, .val (.long q3), .second, .val (.long q4), .second, .val (.long q5), .second, .val (.int y1), .val (.int (4 : Int32)), .val (.ref b84), .val (.double y101), .second, .unset, .unset] [(.int y1)]))
    refine Goes.step (fun t k => XS.lload X100.here hx rfl (hb hby at_154) rfl k) ?_
    show Goes _ _ _ _ _ _ _ (T100.setTop (mkF m 156 #[.val (.int p0), .val (.int p1), .val (.long q2), .second, .val (.long q3), .second, .val (.long q4), .second, .val (.long q5), .second, .val (.int y1), .val (.int (4 : Int32)), .val (.ref b84), .val (.double y101), .second, .unset, .unset] [(.long q5), (.int y1)]))
    refine Goes.step (fun t k => XS.lload X100.here hx rfl (hb hby at_156) rfl k) ?_
    show Goes _ _ _ _ _ _ _ (T100.setTop (mkF m 158 #[.val (.int p0), .val (.int p1), .val (.long q2), .second, .val (.long q3), .second, .val (.long q4), .second, .val (.long q5), .second, .val (.int y1), .val (.int (4 : Int32)), .val (.ref b84), .val (.double y101), .second, .unset, .unset] [(.long q4), (.long q5), (.int y1)]))
    refine Goes.step (fun t k => XS.lload X100.here hx rfl (hb hby at_158) rfl k) ?_
    show Goes _ _ _ _ _ _ _ (T100.setTop (mkF m 160 #[.val (.int p0), .val (.int p1), .val (.long q2), .second, .val (.long q3), .second, .val (.long q4), .second, .val (.long q5), .second, .val (.int y1), .val (.int (4 : Int32)), .val (.ref b84), .val (.double y101), .second, .unset, .unset] [(.long q3), (.long q4), (.long q5), (.int y1)]))
    obtain ⟨_, _, ⟨T106, L106, k106, n106⟩, -, X106, ⟨Lc106, hQ106, l106, y106, z106⟩, st106⟩ := Jvm.LawKit.callS X100 hx (y := (⟨"com/example/zugzwang/zugzwang/search/DeepeningFinishedPinLaw", "forecast", "(IJJJ)D"⟩ : MethodName)) hown (mvT hZ (hw _ (List.mem_of_getElem? (i := 37) rfl))) (mvT hZ (hw _ (List.mem_of_getElem? (i := 38) rfl))) (mvT hZ (hw _ (List.mem_of_getElem? (i := 39) rfl))) (mvT hZ (hw _ (List.mem_of_getElem? (i := 40) rfl))) (by decide) (backOf (W := 0) (rm7 l Z tA hw [] y1 q5 q4 q3 h98) hZ (hw _ (List.mem_of_getElem? (i := 40) rfl)) (hw _ (List.mem_of_getElem? (i := 39) rfl)) (by decide) (by decide)) (g := (mkF m 160 #[.val (.int p0), .val (.int p1), .val (.long q2), .second, .val (.long q3), .second, .val (.long q4), .second, .val (.long q5), .second, .val (.int y1), .val (.int (4 : Int32)), .val (.ref b84), .val (.double y101), .second, .unset, .unset] [(.long q3), (.long q4), (.long q5), (.int y1)])) rfl (by rw [hml]; rfl) (argsL := [(.int y1), (.long q5), (.long q4), (.long q3)]) (rest := []) (lenOf own_pd5 rfl) rfl (by show 2 * 0 + _ ≤ _; exact Nat.le_of_eq rfl) (hb hby at_160) (fun _ _ => ⟨rfl, e100, (by decide : 1 + 0 ≤ _), (by decide : 5 + 0 ≤ _)⟩)
    dsimp only [Pt.U, Pt.locs, Pt.cells, Pt.slots] at X106 l106 y106 z106 st106 hQ106
    rw [l106, y106, z106] at X106
    obtain ⟨rfl, rfl, e106⟩ := hQ106
    try rw [List.append_nil] at X106
    change Stand _ _ _ _ _ _ _ _ _ _ _ _ 1 5 at X106
    refine Goes.step (fun t k => st106 t k) ?_
    show Goes _ _ _ _ _ _ _ (T106.setTop (mkF m 163 #[.val (.int p0), .val (.int p1), .val (.long q2), .second, .val (.long q3), .second, .val (.long q4), .second, .val (.long q5), .second, .val (.int y1), .val (.int (4 : Int32)), .val (.ref b84), .val (.double y101), .second, .unset, .unset] [(.double (f7 y1 q5 q4 q3))]))
    refine Goes.step (fun t k => XS.dstore X106.here hx rfl (hb hby at_163) rfl (l' := #[.val (.int p0), .val (.int p1), .val (.long q2), .second, .val (.long q3), .second, .val (.long q4), .second, .val (.long q5), .second, .val (.int y1), .val (.int (4 : Int32)), .val (.ref b84), .val (.double y101), .second, .val (.double (f7 y1 q5 q4 q3)), .second]) rfl k) ?_
    show Goes _ _ _ _ _ _ _ (T106.setTop (mkF m 165 #[.val (.int p0), .val (.int p1), .val (.long q2), .second, .val (.long q3), .second, .val (.long q4), .second, .val (.long q5), .second, .val (.int y1), .val (.int (4 : Int32)), .val (.ref b84), .val (.double y101), .second, .val (.double (f7 y1 q5 q4 q3)), .second] []))
    refine Goes.step (fun t k => XS.goto X106.here hx rfl (pc0 := 165) (pc' := 180) rfl (hb hby at_165) (by decide) (by decide) k) ?_
    show Goes _ _ _ _ _ _ _ (T106.setTop (mkF m 180 #[.val (.int p0), .val (.int p1), .val (.long q2), .second, .val (.long q3), .second, .val (.long q4), .second, .val (.long q5), .second, .val (.int y1), .val (.int (4 : Int32)), .val (.ref b84), .val (.double y101), .second, .val (.double (f7 y1 q5 q4 q3)), .second] []))
    refine Goes.step (fun t k => XS.dload X106.here hx rfl (hb hby at_180) rfl k) ?_
    show Goes _ _ _ _ _ _ _ (T106.setTop (mkF m 182 #[.val (.int p0), .val (.int p1), .val (.long q2), .second, .val (.long q3), .second, .val (.long q4), .second, .val (.long q5), .second, .val (.int y1), .val (.int (4 : Int32)), .val (.ref b84), .val (.double y101), .second, .val (.double (f7 y1 q5 q4 q3)), .second] [(.double y101)]))
    refine Goes.step (fun t k => XS.dload X106.here hx rfl (hb hby at_182) rfl k) ?_
    show Goes _ _ _ _ _ _ _ (T106.setTop (mkF m 184 #[.val (.int p0), .val (.int p1), .val (.long q2), .second, .val (.long q3), .second, .val (.long q4), .second, .val (.long q5), .second, .val (.int y1), .val (.int (4 : Int32)), .val (.ref b84), .val (.double y101), .second, .val (.double (f7 y1 q5 q4 q3)), .second] [(.double (f7 y1 q5 q4 q3)), (.double y101)]))
    refine Goes.step (fun t k => XS.dcmpS X106.here hx rfl (hb hby at_184) rfl rfl k) ?_
    show Goes _ _ _ _ _ _ _ (T106.setTop (mkF m 185 #[.val (.int p0), .val (.int p1), .val (.long q2), .second, .val (.long q3), .second, .val (.long q4), .second, .val (.long q5), .second, .val (.int y1), .val (.int (4 : Int32)), .val (.ref b84), .val (.double y101), .second, .val (.double (f7 y1 q5 q4 q3)), .second] [(.int (cmpValue (FP.dcmp y101 (f7 y1 q5 q4 q3)) .l))]))
    suffices k108 : ∀ (x108_0 : Int32), x108_0 = (if (cmpValue (FP.dcmp y101 (f7 y1 q5 q4 q3)) .l) = (0 : Int32) then (1 : Int32) else (0 : Int32)) → Goes p e below s (Q0 Z p0 p1 q2 q3 q4 q5 h0 n0) kC0 kS0 (T106.setTop (mkF m 193 #[.val (.int p0), .val (.int p1), .val (.long q2), .second, .val (.long q3), .second, .val (.long q4), .second, .val (.long q5), .second, .val (.int y1), .val (.int (4 : Int32)), .val (.ref b84), .val (.double y101), .second, .val (.double (f7 y1 q5 q4 q3)), .second] [(.int x108_0)])) by
      by_cases hc185_107 : (cmpValue (FP.dcmp y101 (f7 y1 q5 q4 q3)) .l) = (0 : Int32)
      · refine Goes.step (fun t k => XS.ifNo X106.here hx rfl (hb hby at_185) rfl ((if0 _ _).trans (teq hc185_107).2) k) ?_
        show Goes _ _ _ _ _ _ _ (T106.setTop (mkF m 188 #[.val (.int p0), .val (.int p1), .val (.long q2), .second, .val (.long q3), .second, .val (.long q4), .second, .val (.long q5), .second, .val (.int y1), .val (.int (4 : Int32)), .val (.ref b84), .val (.double y101), .second, .val (.double (f7 y1 q5 q4 q3)), .second] []))
        refine Goes.step (fun t k => XS.iconst X106.here hx rfl (hb hby at_188) k) ?_
        show Goes _ _ _ _ _ _ _ (T106.setTop (mkF m 189 #[.val (.int p0), .val (.int p1), .val (.long q2), .second, .val (.long q3), .second, .val (.long q4), .second, .val (.long q5), .second, .val (.int y1), .val (.int (4 : Int32)), .val (.ref b84), .val (.double y101), .second, .val (.double (f7 y1 q5 q4 q3)), .second] [(.int (1 : Int32))]))
        refine Goes.step (fun t k => XS.goto X106.here hx rfl (pc0 := 189) (pc' := 193) rfl (hb hby at_189) (by decide) (by decide) k) ?_
        show Goes _ _ _ _ _ _ _ (T106.setTop (mkF m 193 #[.val (.int p0), .val (.int p1), .val (.long q2), .second, .val (.long q3), .second, .val (.long q4), .second, .val (.long q5), .second, .val (.int y1), .val (.int (4 : Int32)), .val (.ref b84), .val (.double y101), .second, .val (.double (f7 y1 q5 q4 q3)), .second] [(.int (1 : Int32))]))
        exact k108 _ (if_pos hc185_107).symm
      · refine Goes.step (fun t k => XS.ifYes X106.here hx rfl (pc0 := 185) (pc' := 192) rfl (hb hby at_185) rfl ((if0 _ _).trans (feq hc185_107).2) (by decide) (by decide) k) ?_
        show Goes _ _ _ _ _ _ _ (T106.setTop (mkF m 192 #[.val (.int p0), .val (.int p1), .val (.long q2), .second, .val (.long q3), .second, .val (.long q4), .second, .val (.long q5), .second, .val (.int y1), .val (.int (4 : Int32)), .val (.ref b84), .val (.double y101), .second, .val (.double (f7 y1 q5 q4 q3)), .second] []))
        refine Goes.step (fun t k => XS.iconst X106.here hx rfl (hb hby at_192) k) ?_
        show Goes _ _ _ _ _ _ _ (T106.setTop (mkF m 193 #[.val (.int p0), .val (.int p1), .val (.long q2), .second, .val (.long q3), .second, .val (.long q4), .second, .val (.long q5), .second, .val (.int y1), .val (.int (4 : Int32)), .val (.ref b84), .val (.double y101), .second, .val (.double (f7 y1 q5 q4 q3)), .second] [(.int (0 : Int32))]))
        exact k108 _ (if_neg hc185_107).symm
    intro x108_0 hx108_0
    exact Goes.retZ X106 hx Bd.notSynchronized (r := (1 : Int32)) Bd.returns (by simp) (hb hby at_193) (own_plain_5 p0 q3 q4 q5 y1 y101 x108_0 hy1 hy101 hx108_0) ⟨rfl, N98⟩ (by decide) (by decide)
  · show Goes _ _ _ _ _ _ _ (s₁.setTop (mkF m 15 #[.val (.int p0), .val (.int p1), .val (.long q2), .second, .val (.long q3), .second, .val (.long q4), .second, .val (.long q5), .second, .val (.int y1), .val (.int (5 : Int32)), .unset, .unset, .unset, .unset, .unset] []))
    obtain ⟨T109, h109, X109, e109, E109, A109, D109, -, st109⟩ := newO X0 hx hZ hown (hw _ (List.mem_of_getElem? (i := 1) rfl)) (hw _ (List.mem_of_getElem? (i := 2) rfl)) (hw _ (List.mem_of_getElem? (i := 3) rfl)) e0 (g := (mkF m 15 #[.val (.int p0), .val (.int p1), .val (.long q2), .second, .val (.long q3), .second, .val (.long q4), .second, .val (.long q5), .second, .val (.int y1), .val (.int (5 : Int32)), .unset, .unset, .unset, .unset, .unset] [])) rfl (hb hby at_15) (by decide) (by decide)
    obtain ⟨b109, g109⟩ : ∃ z, z = h0.size := ⟨_, rfl⟩
    rw [← g109] at A109 D109 st109
    have Zs109 : n0 ≤ b109 := Nat.le_trans Z0 (Nat.le_of_eq g109.symm)
    have Zh109 : h0.size ≤ b109 := Nat.le_trans (Keep.refl h0 []).1 (Nat.le_of_eq g109.symm)
    have K109 := (Keep.refl h0 []).ext E109
    have Z109 := Nat.le_trans Z0 E109.1
    have F110 : Fld Z h109 b109 "com/example/zugzwang/zugzwang/search/AlphaBetaEngine$Deepening" "moves" "I" (.int (0 : Int32)) := D109 (Or.inr (hw _ (List.mem_of_getElem? (i := 11) rfl))) (ty := .int) (by decide)
    have F111 : Fld Z h109 b109 "com/example/zugzwang/zugzwang/search/AlphaBetaEngine$Deepening" "oneBefore" "J" (.long (0 : Int64)) := D109 (Or.inl (hw _ (List.mem_of_getElem? (i := 18) rfl))) (ty := .long) (by decide)
    have F112 : Fld Z h109 b109 "com/example/zugzwang/zugzwang/search/AlphaBetaEngine$Deepening" "twoBefore" "J" (.long (0 : Int64)) := D109 (Or.inl (hw _ (List.mem_of_getElem? (i := 20) rfl))) (ty := .long) (by decide)
    have F113 : Fld Z h109 b109 "com/example/zugzwang/zugzwang/search/AlphaBetaEngine$Deepening" "last" "J" (.long (0 : Int64)) := D109 (Or.inl (hw _ (List.mem_of_getElem? (i := 22) rfl))) (ty := .long) (by decide)
    have F114 : Fld Z h109 b109 "com/example/zugzwang/zugzwang/search/AlphaBetaEngine$Deepening" "searches" "I" (.int (0 : Int32)) := D109 (Or.inl (hw _ (List.mem_of_getElem? (i := 24) rfl))) (ty := .int) (by decide)
    refine Goes.step (fun t k => st109 t k) ?_
    show Goes _ _ _ _ _ _ _ (T109.setTop (mkF m 18 #[.val (.int p0), .val (.int p1), .val (.long q2), .second, .val (.long q3), .second, .val (.long q4), .second, .val (.long q5), .second, .val (.int y1), .val (.int (5 : Int32)), .unset, .unset, .unset, .unset, .unset] [(.ref b109)]))
    refine Goes.step (fun t k => XS.dup X109.here hx rfl (hb hby at_18) rfl rfl k) ?_
    show Goes _ _ _ _ _ _ _ (T109.setTop (mkF m 19 #[.val (.int p0), .val (.int p1), .val (.long q2), .second, .val (.long q3), .second, .val (.long q4), .second, .val (.long q5), .second, .val (.int y1), .val (.int (5 : Int32)), .unset, .unset, .unset, .unset, .unset] [(.ref b109), (.ref b109)]))
    refine Goes.step (fun t k => XS.iload X109.here hx rfl (hb hby at_19) rfl k) ?_
    show Goes _ _ _ _ _ _ _ (T109.setTop (mkF m 21 #[.val (.int p0), .val (.int p1), .val (.long q2), .second, .val (.long q3), .second, .val (.long q4), .second, .val (.long q5), .second, .val (.int y1), .val (.int (5 : Int32)), .unset, .unset, .unset, .unset, .unset] [(.int y1), (.ref b109), (.ref b109)]))
    obtain ⟨_, _, ⟨T115, L115, k115, n115⟩, -, X115, ⟨Lc115, hQ115, l115, y115, z115⟩, st115⟩ := X109.specialBack hx (y := (⟨"com/example/zugzwang/zugzwang/search/AlphaBetaEngine$Deepening", "<init>", "(I)V"⟩ : MethodName)) rfl hown (mvT hZ (hw _ (List.mem_of_getElem? (i := 4) rfl))) (mvT hZ (hw _ (List.mem_of_getElem? (i := 5) rfl))) (mvT hZ (hw _ (List.mem_of_getElem? (i := 6) rfl))) (by decide) (backOf (W := 1) (rm1 l Z tA hw [] b109 y1 h109 n0 Z109 A109 F113 F110 F111 F114 F112 Zs109) hZ (hw _ (List.mem_of_getElem? (i := 6) rfl)) (hw _ (List.mem_of_getElem? (i := 3) rfl)) (by decide) (by decide)) (g := (mkF m 21 #[.val (.int p0), .val (.int p1), .val (.long q2), .second, .val (.long q3), .second, .val (.long q4), .second, .val (.long q5), .second, .val (.int y1), .val (.int (5 : Int32)), .unset, .unset, .unset, .unset, .unset] [(.int y1), (.ref b109), (.ref b109)])) rfl (by rw [hml]; rfl) (Steps.refl _) (a := b109) (argsL := [(.int y1)]) (rest := [(.ref b109)]) (lenOf own_pd2 rfl) rfl (by show 2 * 0 + _ ≤ _; exact Nat.le_of_eq rfl) (hb hby at_21) (fun _ _ => ⟨rfl, e109, (by decide : 1 + 0 ≤ _), (by decide : 5 + 0 ≤ _)⟩)
    dsimp only [Pt.U, Pt.locs, Pt.cells, Pt.slots] at X115 l115 y115 z115 st115 hQ115
    rw [l115, y115, z115] at X115
    generalize e115 : T115.heap = h115 at hQ115
    obtain ⟨rfl, Nq115, Kq115, G115_0, G115_1, G115_2, G115_3, G115_4, G115_5⟩ := hQ115
    have N115 := Fr.app N0 Nq115
    have K115 := K109.trans Kq115 (allS (Or.inr Zh109) all0)
    have Z115 := Nat.le_trans Z109 Kq115.1
    change Stand _ _ _ _ _ _ _ _ _ _ _ _ 1 5 at X115
    refine Goes.step (fun t k => st115.trans k) ?_
    show Goes _ _ _ _ _ _ _ (T115.setTop (mkF m 24 #[.val (.int p0), .val (.int p1), .val (.long q2), .second, .val (.long q3), .second, .val (.long q4), .second, .val (.long q5), .second, .val (.int y1), .val (.int (5 : Int32)), .unset, .unset, .unset, .unset, .unset] [(.ref b109)]))
    refine Goes.step (fun t k => XS.astore X115.here hx rfl (hb hby at_24) rfl rfl (l' := #[.val (.int p0), .val (.int p1), .val (.long q2), .second, .val (.long q3), .second, .val (.long q4), .second, .val (.long q5), .second, .val (.int y1), .val (.int (5 : Int32)), .val (.ref b109), .unset, .unset, .unset, .unset]) rfl k) ?_
    show Goes _ _ _ _ _ _ _ (T115.setTop (mkF m 26 #[.val (.int p0), .val (.int p1), .val (.long q2), .second, .val (.long q3), .second, .val (.long q4), .second, .val (.long q5), .second, .val (.int y1), .val (.int (5 : Int32)), .val (.ref b109), .unset, .unset, .unset, .unset] []))
    refine Goes.step (fun t k => XS.iload X115.here hx rfl (hb hby at_26) rfl k) ?_
    show Goes _ _ _ _ _ _ _ (T115.setTop (mkF m 28 #[.val (.int p0), .val (.int p1), .val (.long q2), .second, .val (.long q3), .second, .val (.long q4), .second, .val (.long q5), .second, .val (.int y1), .val (.int (5 : Int32)), .val (.ref b109), .unset, .unset, .unset, .unset] [(.int (5 : Int32))]))
    refine Goes.step (fun t k => XS.iconst X115.here hx rfl (hb hby at_28) k) ?_
    show Goes _ _ _ _ _ _ _ (T115.setTop (mkF m 29 #[.val (.int p0), .val (.int p1), .val (.long q2), .second, .val (.long q3), .second, .val (.long q4), .second, .val (.long q5), .second, .val (.int y1), .val (.int (5 : Int32)), .val (.ref b109), .unset, .unset, .unset, .unset] [(.int (1 : Int32)), (.int (5 : Int32))]))
    refine Goes.step (fun t k => XS.icmpNo X115.here hx rfl (hb hby at_29) rfl (flt (by decide)).1 k) ?_
    show Goes _ _ _ _ _ _ _ (T115.setTop (mkF m 32 #[.val (.int p0), .val (.int p1), .val (.long q2), .second, .val (.long q3), .second, .val (.long q4), .second, .val (.long q5), .second, .val (.int y1), .val (.int (5 : Int32)), .val (.ref b109), .unset, .unset, .unset, .unset] []))
    refine Goes.step (fun t k => XS.aload X115.here hx rfl (hb hby at_32) rfl rfl k) ?_
    show Goes _ _ _ _ _ _ _ (T115.setTop (mkF m 34 #[.val (.int p0), .val (.int p1), .val (.long q2), .second, .val (.long q3), .second, .val (.long q4), .second, .val (.long q5), .second, .val (.int y1), .val (.int (5 : Int32)), .val (.ref b109), .unset, .unset, .unset, .unset] [(.ref b109)]))
    refine Goes.step (fun t k => XS.lloadN X115.here hx rfl (hb hby at_34) rfl k) ?_
    show Goes _ _ _ _ _ _ _ (T115.setTop (mkF m 35 #[.val (.int p0), .val (.int p1), .val (.long q2), .second, .val (.long q3), .second, .val (.long q4), .second, .val (.long q5), .second, .val (.int y1), .val (.int (5 : Int32)), .val (.ref b109), .unset, .unset, .unset, .unset] [(.long q2), (.ref b109)]))
    obtain ⟨cq117, kq117, q117a, q117b, q117c⟩ := isOf hZ e115 G115_0
    obtain ⟨_, _, ⟨T117, L117, k117, n117⟩, -, X117, ⟨Lc117, hQ117, l117, y117, z117⟩, st117⟩ := X115.virtualBack hx (y := (⟨"com/example/zugzwang/zugzwang/search/AlphaBetaEngine$Deepening", "finished", "(J)V"⟩ : MethodName)) (z := (⟨"com/example/zugzwang/zugzwang/search/AlphaBetaEngine$Deepening", "finished", "(J)V"⟩ : MethodName)) hown (mvT hZ (hw _ (List.mem_of_getElem? (i := 12) rfl))) (mvT hZ (hw _ (List.mem_of_getElem? (i := 13) rfl))) (notFace_of_selects (args := #[]) (mvT hZ (hw _ (List.mem_of_getElem? (i := 15) rfl)))) (mvT hZ (hw _ (List.mem_of_getElem? (i := 15) rfl))) (mvT hZ (hw _ (List.mem_of_getElem? (i := 14) rfl))) (by decide) (backOf (W := 0) (rm3 l Z tA hw [] b109 q2 (0 : Int64) y1 (0 : Int64) (0 : Int32) (0 : Int64) h115 n0 Z115 G115_0 G115_1 G115_2 G115_3 G115_4 G115_5 Zs109) hZ (hw _ (List.mem_of_getElem? (i := 16) rfl)) (hw _ (List.mem_of_getElem? (i := 3) rfl)) (by decide) (by decide)) q117a q117c (g := (mkF m 35 #[.val (.int p0), .val (.int p1), .val (.long q2), .second, .val (.long q3), .second, .val (.long q4), .second, .val (.long q5), .second, .val (.int y1), .val (.int (5 : Int32)), .val (.ref b109), .unset, .unset, .unset, .unset] [(.long q2), (.ref b109)])) rfl (by rw [hml]; rfl) (Steps.refl _) (argsL := [(.long q2)]) (rest := []) (lenOf own_pd4 rfl) rfl (by show 2 * 0 + _ ≤ _; exact Nat.le_of_eq rfl) (hb hby at_35) (fun _ _ => ⟨rfl, e115, (by decide : 1 + 0 ≤ _), (by decide : 5 + 0 ≤ _)⟩)
    dsimp only [Pt.U, Pt.locs, Pt.cells, Pt.slots] at X117 l117 y117 z117 st117 hQ117
    rw [l117, y117, z117] at X117
    generalize e117 : T117.heap = h117 at hQ117
    obtain ⟨rfl, Nq117, Kq117, G117_0, G117_1, G117_2, G117_3, G117_4, G117_5⟩ := hQ117
    have N117 := Fr.app N115 Nq117
    have K117 := K115.trans Kq117 (allS (Or.inr Zh109) all0)
    have Z117 := Nat.le_trans Z115 Kq117.1
    change Stand _ _ _ _ _ _ _ _ _ _ _ _ 1 5 at X117
    refine Goes.step (fun t k => st117.trans k) ?_
    show Goes _ _ _ _ _ _ _ (T117.setTop (mkF m 38 #[.val (.int p0), .val (.int p1), .val (.long q2), .second, .val (.long q3), .second, .val (.long q4), .second, .val (.long q5), .second, .val (.int y1), .val (.int (5 : Int32)), .val (.ref b109), .unset, .unset, .unset, .unset] []))
    refine Goes.step (fun t k => XS.iload X117.here hx rfl (hb hby at_38) rfl k) ?_
    show Goes _ _ _ _ _ _ _ (T117.setTop (mkF m 40 #[.val (.int p0), .val (.int p1), .val (.long q2), .second, .val (.long q3), .second, .val (.long q4), .second, .val (.long q5), .second, .val (.int y1), .val (.int (5 : Int32)), .val (.ref b109), .unset, .unset, .unset, .unset] [(.int (5 : Int32))]))
    refine Goes.step (fun t k => XS.iconst X117.here hx rfl (hb hby at_40) k) ?_
    show Goes _ _ _ _ _ _ _ (T117.setTop (mkF m 41 #[.val (.int p0), .val (.int p1), .val (.long q2), .second, .val (.long q3), .second, .val (.long q4), .second, .val (.long q5), .second, .val (.int y1), .val (.int (5 : Int32)), .val (.ref b109), .unset, .unset, .unset, .unset] [(.int (2 : Int32)), (.int (5 : Int32))]))
    refine Goes.step (fun t k => XS.icmpNo X117.here hx rfl (hb hby at_41) rfl (flt (by decide)).1 k) ?_
    show Goes _ _ _ _ _ _ _ (T117.setTop (mkF m 44 #[.val (.int p0), .val (.int p1), .val (.long q2), .second, .val (.long q3), .second, .val (.long q4), .second, .val (.long q5), .second, .val (.int y1), .val (.int (5 : Int32)), .val (.ref b109), .unset, .unset, .unset, .unset] []))
    refine Goes.step (fun t k => XS.aload X117.here hx rfl (hb hby at_44) rfl rfl k) ?_
    show Goes _ _ _ _ _ _ _ (T117.setTop (mkF m 46 #[.val (.int p0), .val (.int p1), .val (.long q2), .second, .val (.long q3), .second, .val (.long q4), .second, .val (.long q5), .second, .val (.int y1), .val (.int (5 : Int32)), .val (.ref b109), .unset, .unset, .unset, .unset] [(.ref b109)]))
    refine Goes.step (fun t k => XS.lload X117.here hx rfl (hb hby at_46) rfl k) ?_
    show Goes _ _ _ _ _ _ _ (T117.setTop (mkF m 48 #[.val (.int p0), .val (.int p1), .val (.long q2), .second, .val (.long q3), .second, .val (.long q4), .second, .val (.long q5), .second, .val (.int y1), .val (.int (5 : Int32)), .val (.ref b109), .unset, .unset, .unset, .unset] [(.long q3), (.ref b109)]))
    obtain ⟨cq119, kq119, q119a, q119b, q119c⟩ := isOf hZ e117 G117_0
    obtain ⟨_, _, ⟨T119, L119, k119, n119⟩, -, X119, ⟨Lc119, hQ119, l119, y119, z119⟩, st119⟩ := X117.virtualBack hx (y := (⟨"com/example/zugzwang/zugzwang/search/AlphaBetaEngine$Deepening", "finished", "(J)V"⟩ : MethodName)) (z := (⟨"com/example/zugzwang/zugzwang/search/AlphaBetaEngine$Deepening", "finished", "(J)V"⟩ : MethodName)) hown (mvT hZ (hw _ (List.mem_of_getElem? (i := 12) rfl))) (mvT hZ (hw _ (List.mem_of_getElem? (i := 13) rfl))) (notFace_of_selects (args := #[]) (mvT hZ (hw _ (List.mem_of_getElem? (i := 15) rfl)))) (mvT hZ (hw _ (List.mem_of_getElem? (i := 15) rfl))) (mvT hZ (hw _ (List.mem_of_getElem? (i := 14) rfl))) (by decide) (backOf (W := 0) (rm3 l Z tA hw [] b109 q3 q2 y1 (0 : Int64) ((0 : Int32) + (1 : Int32)) (0 : Int64) h117 n0 Z117 G117_0 G117_1 G117_2 G117_3 G117_4 G117_5 Zs109) hZ (hw _ (List.mem_of_getElem? (i := 16) rfl)) (hw _ (List.mem_of_getElem? (i := 3) rfl)) (by decide) (by decide)) q119a q119c (g := (mkF m 48 #[.val (.int p0), .val (.int p1), .val (.long q2), .second, .val (.long q3), .second, .val (.long q4), .second, .val (.long q5), .second, .val (.int y1), .val (.int (5 : Int32)), .val (.ref b109), .unset, .unset, .unset, .unset] [(.long q3), (.ref b109)])) rfl (by rw [hml]; rfl) (Steps.refl _) (argsL := [(.long q3)]) (rest := []) (lenOf own_pd4 rfl) rfl (by show 2 * 0 + _ ≤ _; exact Nat.le_of_eq rfl) (hb hby at_48) (fun _ _ => ⟨rfl, e117, (by decide : 1 + 0 ≤ _), (by decide : 5 + 0 ≤ _)⟩)
    dsimp only [Pt.U, Pt.locs, Pt.cells, Pt.slots] at X119 l119 y119 z119 st119 hQ119
    rw [l119, y119, z119] at X119
    generalize e119 : T119.heap = h119 at hQ119
    obtain ⟨rfl, Nq119, Kq119, G119_0, G119_1, G119_2, G119_3, G119_4, G119_5⟩ := hQ119
    have N119 := Fr.app N117 Nq119
    have K119 := K117.trans Kq119 (allS (Or.inr Zh109) all0)
    have Z119 := Nat.le_trans Z117 Kq119.1
    change Stand _ _ _ _ _ _ _ _ _ _ _ _ 1 5 at X119
    refine Goes.step (fun t k => st119.trans k) ?_
    show Goes _ _ _ _ _ _ _ (T119.setTop (mkF m 51 #[.val (.int p0), .val (.int p1), .val (.long q2), .second, .val (.long q3), .second, .val (.long q4), .second, .val (.long q5), .second, .val (.int y1), .val (.int (5 : Int32)), .val (.ref b109), .unset, .unset, .unset, .unset] []))
    refine Goes.step (fun t k => XS.iload X119.here hx rfl (hb hby at_51) rfl k) ?_
    show Goes _ _ _ _ _ _ _ (T119.setTop (mkF m 53 #[.val (.int p0), .val (.int p1), .val (.long q2), .second, .val (.long q3), .second, .val (.long q4), .second, .val (.long q5), .second, .val (.int y1), .val (.int (5 : Int32)), .val (.ref b109), .unset, .unset, .unset, .unset] [(.int (5 : Int32))]))
    refine Goes.step (fun t k => XS.iconst X119.here hx rfl (hb hby at_53) k) ?_
    show Goes _ _ _ _ _ _ _ (T119.setTop (mkF m 54 #[.val (.int p0), .val (.int p1), .val (.long q2), .second, .val (.long q3), .second, .val (.long q4), .second, .val (.long q5), .second, .val (.int y1), .val (.int (5 : Int32)), .val (.ref b109), .unset, .unset, .unset, .unset] [(.int (3 : Int32)), (.int (5 : Int32))]))
    refine Goes.step (fun t k => XS.icmpNo X119.here hx rfl (hb hby at_54) rfl (flt (by decide)).1 k) ?_
    show Goes _ _ _ _ _ _ _ (T119.setTop (mkF m 57 #[.val (.int p0), .val (.int p1), .val (.long q2), .second, .val (.long q3), .second, .val (.long q4), .second, .val (.long q5), .second, .val (.int y1), .val (.int (5 : Int32)), .val (.ref b109), .unset, .unset, .unset, .unset] []))
    refine Goes.step (fun t k => XS.aload X119.here hx rfl (hb hby at_57) rfl rfl k) ?_
    show Goes _ _ _ _ _ _ _ (T119.setTop (mkF m 59 #[.val (.int p0), .val (.int p1), .val (.long q2), .second, .val (.long q3), .second, .val (.long q4), .second, .val (.long q5), .second, .val (.int y1), .val (.int (5 : Int32)), .val (.ref b109), .unset, .unset, .unset, .unset] [(.ref b109)]))
    refine Goes.step (fun t k => XS.lload X119.here hx rfl (hb hby at_59) rfl k) ?_
    show Goes _ _ _ _ _ _ _ (T119.setTop (mkF m 61 #[.val (.int p0), .val (.int p1), .val (.long q2), .second, .val (.long q3), .second, .val (.long q4), .second, .val (.long q5), .second, .val (.int y1), .val (.int (5 : Int32)), .val (.ref b109), .unset, .unset, .unset, .unset] [(.long q4), (.ref b109)]))
    obtain ⟨cq121, kq121, q121a, q121b, q121c⟩ := isOf hZ e119 G119_0
    obtain ⟨_, _, ⟨T121, L121, k121, n121⟩, -, X121, ⟨Lc121, hQ121, l121, y121, z121⟩, st121⟩ := X119.virtualBack hx (y := (⟨"com/example/zugzwang/zugzwang/search/AlphaBetaEngine$Deepening", "finished", "(J)V"⟩ : MethodName)) (z := (⟨"com/example/zugzwang/zugzwang/search/AlphaBetaEngine$Deepening", "finished", "(J)V"⟩ : MethodName)) hown (mvT hZ (hw _ (List.mem_of_getElem? (i := 12) rfl))) (mvT hZ (hw _ (List.mem_of_getElem? (i := 13) rfl))) (notFace_of_selects (args := #[]) (mvT hZ (hw _ (List.mem_of_getElem? (i := 15) rfl)))) (mvT hZ (hw _ (List.mem_of_getElem? (i := 15) rfl))) (mvT hZ (hw _ (List.mem_of_getElem? (i := 14) rfl))) (by decide) (backOf (W := 0) (rm3 l Z tA hw [] b109 q4 q3 y1 q2 (((0 : Int32) + (1 : Int32)) + (1 : Int32)) (0 : Int64) h119 n0 Z119 G119_0 G119_1 G119_2 G119_3 G119_4 G119_5 Zs109) hZ (hw _ (List.mem_of_getElem? (i := 16) rfl)) (hw _ (List.mem_of_getElem? (i := 3) rfl)) (by decide) (by decide)) q121a q121c (g := (mkF m 61 #[.val (.int p0), .val (.int p1), .val (.long q2), .second, .val (.long q3), .second, .val (.long q4), .second, .val (.long q5), .second, .val (.int y1), .val (.int (5 : Int32)), .val (.ref b109), .unset, .unset, .unset, .unset] [(.long q4), (.ref b109)])) rfl (by rw [hml]; rfl) (Steps.refl _) (argsL := [(.long q4)]) (rest := []) (lenOf own_pd4 rfl) rfl (by show 2 * 0 + _ ≤ _; exact Nat.le_of_eq rfl) (hb hby at_61) (fun _ _ => ⟨rfl, e119, (by decide : 1 + 0 ≤ _), (by decide : 5 + 0 ≤ _)⟩)
    dsimp only [Pt.U, Pt.locs, Pt.cells, Pt.slots] at X121 l121 y121 z121 st121 hQ121
    rw [l121, y121, z121] at X121
    generalize e121 : T121.heap = h121 at hQ121
    obtain ⟨rfl, Nq121, Kq121, G121_0, G121_1, G121_2, G121_3, G121_4, G121_5⟩ := hQ121
    have N121 := Fr.app N119 Nq121
    have K121 := K119.trans Kq121 (allS (Or.inr Zh109) all0)
    have Z121 := Nat.le_trans Z119 Kq121.1
    change Stand _ _ _ _ _ _ _ _ _ _ _ _ 1 5 at X121
    refine Goes.step (fun t k => st121.trans k) ?_
    show Goes _ _ _ _ _ _ _ (T121.setTop (mkF m 64 #[.val (.int p0), .val (.int p1), .val (.long q2), .second, .val (.long q3), .second, .val (.long q4), .second, .val (.long q5), .second, .val (.int y1), .val (.int (5 : Int32)), .val (.ref b109), .unset, .unset, .unset, .unset] []))
    refine Goes.step (fun t k => XS.iload X121.here hx rfl (hb hby at_64) rfl k) ?_
    show Goes _ _ _ _ _ _ _ (T121.setTop (mkF m 66 #[.val (.int p0), .val (.int p1), .val (.long q2), .second, .val (.long q3), .second, .val (.long q4), .second, .val (.long q5), .second, .val (.int y1), .val (.int (5 : Int32)), .val (.ref b109), .unset, .unset, .unset, .unset] [(.int (5 : Int32))]))
    refine Goes.step (fun t k => XS.iconst X121.here hx rfl (hb hby at_66) k) ?_
    show Goes _ _ _ _ _ _ _ (T121.setTop (mkF m 67 #[.val (.int p0), .val (.int p1), .val (.long q2), .second, .val (.long q3), .second, .val (.long q4), .second, .val (.long q5), .second, .val (.int y1), .val (.int (5 : Int32)), .val (.ref b109), .unset, .unset, .unset, .unset] [(.int (4 : Int32)), (.int (5 : Int32))]))
    refine Goes.step (fun t k => XS.icmpNo X121.here hx rfl (hb hby at_67) rfl (flt (by decide)).1 k) ?_
    show Goes _ _ _ _ _ _ _ (T121.setTop (mkF m 70 #[.val (.int p0), .val (.int p1), .val (.long q2), .second, .val (.long q3), .second, .val (.long q4), .second, .val (.long q5), .second, .val (.int y1), .val (.int (5 : Int32)), .val (.ref b109), .unset, .unset, .unset, .unset] []))
    refine Goes.step (fun t k => XS.aload X121.here hx rfl (hb hby at_70) rfl rfl k) ?_
    show Goes _ _ _ _ _ _ _ (T121.setTop (mkF m 72 #[.val (.int p0), .val (.int p1), .val (.long q2), .second, .val (.long q3), .second, .val (.long q4), .second, .val (.long q5), .second, .val (.int y1), .val (.int (5 : Int32)), .val (.ref b109), .unset, .unset, .unset, .unset] [(.ref b109)]))
    refine Goes.step (fun t k => XS.lload X121.here hx rfl (hb hby at_72) rfl k) ?_
    show Goes _ _ _ _ _ _ _ (T121.setTop (mkF m 74 #[.val (.int p0), .val (.int p1), .val (.long q2), .second, .val (.long q3), .second, .val (.long q4), .second, .val (.long q5), .second, .val (.int y1), .val (.int (5 : Int32)), .val (.ref b109), .unset, .unset, .unset, .unset] [(.long q5), (.ref b109)]))
    obtain ⟨cq123, kq123, q123a, q123b, q123c⟩ := isOf hZ e121 G121_0
    obtain ⟨_, _, ⟨T123, L123, k123, n123⟩, -, X123, ⟨Lc123, hQ123, l123, y123, z123⟩, st123⟩ := X121.virtualBack hx (y := (⟨"com/example/zugzwang/zugzwang/search/AlphaBetaEngine$Deepening", "finished", "(J)V"⟩ : MethodName)) (z := (⟨"com/example/zugzwang/zugzwang/search/AlphaBetaEngine$Deepening", "finished", "(J)V"⟩ : MethodName)) hown (mvT hZ (hw _ (List.mem_of_getElem? (i := 12) rfl))) (mvT hZ (hw _ (List.mem_of_getElem? (i := 13) rfl))) (notFace_of_selects (args := #[]) (mvT hZ (hw _ (List.mem_of_getElem? (i := 15) rfl)))) (mvT hZ (hw _ (List.mem_of_getElem? (i := 15) rfl))) (mvT hZ (hw _ (List.mem_of_getElem? (i := 14) rfl))) (by decide) (backOf (W := 0) (rm3 l Z tA hw [] b109 q5 q4 y1 q3 ((((0 : Int32) + (1 : Int32)) + (1 : Int32)) + (1 : Int32)) q2 h121 n0 Z121 G121_0 G121_1 G121_2 G121_3 G121_4 G121_5 Zs109) hZ (hw _ (List.mem_of_getElem? (i := 16) rfl)) (hw _ (List.mem_of_getElem? (i := 3) rfl)) (by decide) (by decide)) q123a q123c (g := (mkF m 74 #[.val (.int p0), .val (.int p1), .val (.long q2), .second, .val (.long q3), .second, .val (.long q4), .second, .val (.long q5), .second, .val (.int y1), .val (.int (5 : Int32)), .val (.ref b109), .unset, .unset, .unset, .unset] [(.long q5), (.ref b109)])) rfl (by rw [hml]; rfl) (Steps.refl _) (argsL := [(.long q5)]) (rest := []) (lenOf own_pd4 rfl) rfl (by show 2 * 0 + _ ≤ _; exact Nat.le_of_eq rfl) (hb hby at_74) (fun _ _ => ⟨rfl, e121, (by decide : 1 + 0 ≤ _), (by decide : 5 + 0 ≤ _)⟩)
    dsimp only [Pt.U, Pt.locs, Pt.cells, Pt.slots] at X123 l123 y123 z123 st123 hQ123
    rw [l123, y123, z123] at X123
    generalize e123 : T123.heap = h123 at hQ123
    obtain ⟨rfl, Nq123, Kq123, G123_0, G123_1, G123_2, G123_3, G123_4, G123_5⟩ := hQ123
    have N123 := Fr.app N121 Nq123
    have K123 := K121.trans Kq123 (allS (Or.inr Zh109) all0)
    have Z123 := Nat.le_trans Z121 Kq123.1
    change Stand _ _ _ _ _ _ _ _ _ _ _ _ 1 5 at X123
    refine Goes.step (fun t k => st123.trans k) ?_
    show Goes _ _ _ _ _ _ _ (T123.setTop (mkF m 77 #[.val (.int p0), .val (.int p1), .val (.long q2), .second, .val (.long q3), .second, .val (.long q4), .second, .val (.long q5), .second, .val (.int y1), .val (.int (5 : Int32)), .val (.ref b109), .unset, .unset, .unset, .unset] []))
    refine Goes.step (fun t k => XS.iload X123.here hx rfl (hb hby at_77) rfl k) ?_
    show Goes _ _ _ _ _ _ _ (T123.setTop (mkF m 79 #[.val (.int p0), .val (.int p1), .val (.long q2), .second, .val (.long q3), .second, .val (.long q4), .second, .val (.long q5), .second, .val (.int y1), .val (.int (5 : Int32)), .val (.ref b109), .unset, .unset, .unset, .unset] [(.int (5 : Int32))]))
    refine Goes.step (fun t k => XS.iconst X123.here hx rfl (hb hby at_79) k) ?_
    show Goes _ _ _ _ _ _ _ (T123.setTop (mkF m 80 #[.val (.int p0), .val (.int p1), .val (.long q2), .second, .val (.long q3), .second, .val (.long q4), .second, .val (.long q5), .second, .val (.int y1), .val (.int (5 : Int32)), .val (.ref b109), .unset, .unset, .unset, .unset] [(.int (5 : Int32)), (.int (5 : Int32))]))
    refine Goes.step (fun t k => XS.icmpNo X123.here hx rfl (hb hby at_80) rfl (flt (by decide)).1 k) ?_
    show Goes _ _ _ _ _ _ _ (T123.setTop (mkF m 83 #[.val (.int p0), .val (.int p1), .val (.long q2), .second, .val (.long q3), .second, .val (.long q4), .second, .val (.long q5), .second, .val (.int y1), .val (.int (5 : Int32)), .val (.ref b109), .unset, .unset, .unset, .unset] []))
    refine Goes.step (fun t k => XS.aload X123.here hx rfl (hb hby at_83) rfl rfl k) ?_
    show Goes _ _ _ _ _ _ _ (T123.setTop (mkF m 85 #[.val (.int p0), .val (.int p1), .val (.long q2), .second, .val (.long q3), .second, .val (.long q4), .second, .val (.long q5), .second, .val (.int y1), .val (.int (5 : Int32)), .val (.ref b109), .unset, .unset, .unset, .unset] [(.ref b109)]))
    refine Goes.step (fun t k => XS.lloadN X123.here hx rfl (hb hby at_85) rfl k) ?_
    show Goes _ _ _ _ _ _ _ (T123.setTop (mkF m 86 #[.val (.int p0), .val (.int p1), .val (.long q2), .second, .val (.long q3), .second, .val (.long q4), .second, .val (.long q5), .second, .val (.int y1), .val (.int (5 : Int32)), .val (.ref b109), .unset, .unset, .unset, .unset] [(.long q2), (.ref b109)]))
    obtain ⟨cq125, kq125, q125a, q125b, q125c⟩ := isOf hZ e123 G123_0
    obtain ⟨_, _, ⟨T125, L125, k125, n125⟩, -, X125, ⟨Lc125, hQ125, l125, y125, z125⟩, st125⟩ := X123.virtualBack hx (y := (⟨"com/example/zugzwang/zugzwang/search/AlphaBetaEngine$Deepening", "finished", "(J)V"⟩ : MethodName)) (z := (⟨"com/example/zugzwang/zugzwang/search/AlphaBetaEngine$Deepening", "finished", "(J)V"⟩ : MethodName)) hown (mvT hZ (hw _ (List.mem_of_getElem? (i := 12) rfl))) (mvT hZ (hw _ (List.mem_of_getElem? (i := 13) rfl))) (notFace_of_selects (args := #[]) (mvT hZ (hw _ (List.mem_of_getElem? (i := 15) rfl)))) (mvT hZ (hw _ (List.mem_of_getElem? (i := 15) rfl))) (mvT hZ (hw _ (List.mem_of_getElem? (i := 14) rfl))) (by decide) (backOf (W := 0) (rm3 l Z tA hw [] b109 q2 q5 y1 q4 (((((0 : Int32) + (1 : Int32)) + (1 : Int32)) + (1 : Int32)) + (1 : Int32)) q3 h123 n0 Z123 G123_0 G123_1 G123_2 G123_3 G123_4 G123_5 Zs109) hZ (hw _ (List.mem_of_getElem? (i := 16) rfl)) (hw _ (List.mem_of_getElem? (i := 3) rfl)) (by decide) (by decide)) q125a q125c (g := (mkF m 86 #[.val (.int p0), .val (.int p1), .val (.long q2), .second, .val (.long q3), .second, .val (.long q4), .second, .val (.long q5), .second, .val (.int y1), .val (.int (5 : Int32)), .val (.ref b109), .unset, .unset, .unset, .unset] [(.long q2), (.ref b109)])) rfl (by rw [hml]; rfl) (Steps.refl _) (argsL := [(.long q2)]) (rest := []) (lenOf own_pd4 rfl) rfl (by show 2 * 0 + _ ≤ _; exact Nat.le_of_eq rfl) (hb hby at_86) (fun _ _ => ⟨rfl, e123, (by decide : 1 + 0 ≤ _), (by decide : 5 + 0 ≤ _)⟩)
    dsimp only [Pt.U, Pt.locs, Pt.cells, Pt.slots] at X125 l125 y125 z125 st125 hQ125
    rw [l125, y125, z125] at X125
    generalize e125 : T125.heap = h125 at hQ125
    obtain ⟨rfl, Nq125, Kq125, G125_0, G125_1, G125_2, G125_3, G125_4, G125_5⟩ := hQ125
    have N125 := Fr.app N123 Nq125
    have K125 := K123.trans Kq125 (allS (Or.inr Zh109) all0)
    have Z125 := Nat.le_trans Z123 Kq125.1
    change Stand _ _ _ _ _ _ _ _ _ _ _ _ 1 5 at X125
    refine Goes.step (fun t k => st125.trans k) ?_
    show Goes _ _ _ _ _ _ _ (T125.setTop (mkF m 89 #[.val (.int p0), .val (.int p1), .val (.long q2), .second, .val (.long q3), .second, .val (.long q4), .second, .val (.long q5), .second, .val (.int y1), .val (.int (5 : Int32)), .val (.ref b109), .unset, .unset, .unset, .unset] []))
    refine Goes.step (fun t k => XS.aload X125.here hx rfl (hb hby at_89) rfl rfl k) ?_
    show Goes _ _ _ _ _ _ _ (T125.setTop (mkF m 91 #[.val (.int p0), .val (.int p1), .val (.long q2), .second, .val (.long q3), .second, .val (.long q4), .second, .val (.long q5), .second, .val (.int y1), .val (.int (5 : Int32)), .val (.ref b109), .unset, .unset, .unset, .unset] [(.ref b109)]))
    obtain ⟨cq126, kq126, q126a, q126b, q126c⟩ := isOf hZ e125 G125_0
    obtain ⟨_, _, ⟨T126, L126, k126, n126⟩, -, X126, ⟨Lc126, hQ126, l126, y126, z126⟩, st126⟩ := X125.virtualBack hx (y := (⟨"com/example/zugzwang/zugzwang/search/AlphaBetaEngine$Deepening", "nextNanos", "()D"⟩ : MethodName)) (z := (⟨"com/example/zugzwang/zugzwang/search/AlphaBetaEngine$Deepening", "nextNanos", "()D"⟩ : MethodName)) hown (mvT hZ (hw _ (List.mem_of_getElem? (i := 25) rfl))) (mvT hZ (hw _ (List.mem_of_getElem? (i := 26) rfl))) (notFace_of_selects (args := #[]) (mvT hZ (hw _ (List.mem_of_getElem? (i := 28) rfl)))) (mvT hZ (hw _ (List.mem_of_getElem? (i := 28) rfl))) (mvT hZ (hw _ (List.mem_of_getElem? (i := 27) rfl))) (by decide) (backOf (W := 0) (rm4 l Z tA hw [] b109 q2 y1 q5 ((((((0 : Int32) + (1 : Int32)) + (1 : Int32)) + (1 : Int32)) + (1 : Int32)) + (1 : Int32)) q4 h125 G125_1 G125_2 G125_3 G125_4 G125_5) hZ (hw _ (List.mem_of_getElem? (i := 29) rfl)) (hw _ (List.mem_of_getElem? (i := 3) rfl)) (by decide) (by decide)) q126a q126c (g := (mkF m 91 #[.val (.int p0), .val (.int p1), .val (.long q2), .second, .val (.long q3), .second, .val (.long q4), .second, .val (.long q5), .second, .val (.int y1), .val (.int (5 : Int32)), .val (.ref b109), .unset, .unset, .unset, .unset] [(.ref b109)])) rfl (by rw [hml]; rfl) (Steps.refl _) (argsL := []) (rest := []) (lenOf own_pd3 rfl) rfl (by show 2 * 0 + _ ≤ _; exact Nat.le_of_eq rfl) (hb hby at_91) (fun _ _ => ⟨rfl, e125, (by decide : 1 + 0 ≤ _), (by decide : 5 + 0 ≤ _)⟩)
    dsimp only [Pt.U, Pt.locs, Pt.cells, Pt.slots] at X126 l126 y126 z126 st126 hQ126
    rw [l126, y126, z126] at X126
    obtain ⟨rfl, rfl, e126⟩ := hQ126
    try rw [List.append_nil] at X126
    change Stand _ _ _ _ _ _ _ _ _ _ _ _ 1 5 at X126
    refine Goes.step (fun t k => st126.trans k) ?_
    show Goes _ _ _ _ _ _ _ (T126.setTop (mkF m 94 #[.val (.int p0), .val (.int p1), .val (.long q2), .second, .val (.long q3), .second, .val (.long q4), .second, .val (.long q5), .second, .val (.int y1), .val (.int (5 : Int32)), .val (.ref b109), .unset, .unset, .unset, .unset] [(.double (f4 q2 y1 q5 ((((((0 : Int32) + (1 : Int32)) + (1 : Int32)) + (1 : Int32)) + (1 : Int32)) + (1 : Int32)) q4))]))
    refine Goes.step (fun t k => XS.dstore X126.here hx rfl (hb hby at_94) rfl (l' := #[.val (.int p0), .val (.int p1), .val (.long q2), .second, .val (.long q3), .second, .val (.long q4), .second, .val (.long q5), .second, .val (.int y1), .val (.int (5 : Int32)), .val (.ref b109), .val (.double (f4 q2 y1 q5 ((((((0 : Int32) + (1 : Int32)) + (1 : Int32)) + (1 : Int32)) + (1 : Int32)) + (1 : Int32)) q4)), .second, .unset, .unset]) rfl k) ?_
    show Goes _ _ _ _ _ _ _ (T126.setTop (mkF m 96 #[.val (.int p0), .val (.int p1), .val (.long q2), .second, .val (.long q3), .second, .val (.long q4), .second, .val (.long q5), .second, .val (.int y1), .val (.int (5 : Int32)), .val (.ref b109), .val (.double (f4 q2 y1 q5 ((((((0 : Int32) + (1 : Int32)) + (1 : Int32)) + (1 : Int32)) + (1 : Int32)) + (1 : Int32)) q4)), .second, .unset, .unset] []))
    generalize hy127 : (f4 q2 y1 q5 ((((((0 : Int32) + (1 : Int32)) + (1 : Int32)) + (1 : Int32)) + (1 : Int32)) + (1 : Int32)) q4) = y127
    refine Goes.step (fun t k => XS.iload X126.here hx rfl (hb hby at_96) rfl k) ?_
    show Goes _ _ _ _ _ _ _ (T126.setTop (mkF m 98 #[.val (.int p0), .val (.int p1), .val (.long q2), .second, .val (.long q3), .second, .val (.long q4), .second, .val (.long q5), .second, .val (.int y1), .val (.int (5 : Int32)), .val (.ref b109), .val (.double y127), .second, .unset, .unset] [(.int (5 : Int32))]))
    refine Goes.step (fun t k => XS.iconst X126.here hx rfl (hb hby at_98) k) ?_
    show Goes _ _ _ _ _ _ _ (T126.setTop (mkF m 99 #[.val (.int p0), .val (.int p1), .val (.long q2), .second, .val (.long q3), .second, .val (.long q4), .second, .val (.long q5), .second, .val (.int y1), .val (.int (5 : Int32)), .val (.ref b109), .val (.double y127), .second, .unset, .unset] [(.int (2 : Int32)), (.int (5 : Int32))]))
    refine Goes.step (fun t k => XS.icmpYes X126.here hx rfl (pc0 := 99) (pc' := 108) rfl (hb hby at_99) rfl (flt (by decide)).2.1 (by decide) (by decide) k) ?_
    show Goes _ _ _ _ _ _ _ (T126.setTop (mkF m 108 #[.val (.int p0), .val (.int p1), .val (.long q2), .second, .val (.long q3), .second, .val (.long q4), .second, .val (.long q5), .second, .val (.int y1), .val (.int (5 : Int32)), .val (.ref b109), .val (.double y127), .second, .unset, .unset] []))
    refine Goes.step (fun t k => XS.iload X126.here hx rfl (hb hby at_108) rfl k) ?_
    show Goes _ _ _ _ _ _ _ (T126.setTop (mkF m 110 #[.val (.int p0), .val (.int p1), .val (.long q2), .second, .val (.long q3), .second, .val (.long q4), .second, .val (.long q5), .second, .val (.int y1), .val (.int (5 : Int32)), .val (.ref b109), .val (.double y127), .second, .unset, .unset] [(.int (5 : Int32))]))
    refine Goes.step (fun t k => XS.iconst X126.here hx rfl (hb hby at_110) k) ?_
    show Goes _ _ _ _ _ _ _ (T126.setTop (mkF m 111 #[.val (.int p0), .val (.int p1), .val (.long q2), .second, .val (.long q3), .second, .val (.long q4), .second, .val (.long q5), .second, .val (.int y1), .val (.int (5 : Int32)), .val (.ref b109), .val (.double y127), .second, .unset, .unset] [(.int (2 : Int32)), (.int (5 : Int32))]))
    refine Goes.step (fun t k => XS.icmpYes X126.here hx rfl (pc0 := 111) (pc' := 125) rfl (hb hby at_111) rfl (feq (by decide)).2 (by decide) (by decide) k) ?_
    show Goes _ _ _ _ _ _ _ (T126.setTop (mkF m 125 #[.val (.int p0), .val (.int p1), .val (.long q2), .second, .val (.long q3), .second, .val (.long q4), .second, .val (.long q5), .second, .val (.int y1), .val (.int (5 : Int32)), .val (.ref b109), .val (.double y127), .second, .unset, .unset] []))
    refine Goes.step (fun t k => XS.iload X126.here hx rfl (hb hby at_125) rfl k) ?_
    show Goes _ _ _ _ _ _ _ (T126.setTop (mkF m 127 #[.val (.int p0), .val (.int p1), .val (.long q2), .second, .val (.long q3), .second, .val (.long q4), .second, .val (.long q5), .second, .val (.int y1), .val (.int (5 : Int32)), .val (.ref b109), .val (.double y127), .second, .unset, .unset] [(.int (5 : Int32))]))
    refine Goes.step (fun t k => XS.iconst X126.here hx rfl (hb hby at_127) k) ?_
    show Goes _ _ _ _ _ _ _ (T126.setTop (mkF m 128 #[.val (.int p0), .val (.int p1), .val (.long q2), .second, .val (.long q3), .second, .val (.long q4), .second, .val (.long q5), .second, .val (.int y1), .val (.int (5 : Int32)), .val (.ref b109), .val (.double y127), .second, .unset, .unset] [(.int (3 : Int32)), (.int (5 : Int32))]))
    refine Goes.step (fun t k => XS.icmpYes X126.here hx rfl (pc0 := 128) (pc' := 146) rfl (hb hby at_128) rfl (feq (by decide)).2 (by decide) (by decide) k) ?_
    show Goes _ _ _ _ _ _ _ (T126.setTop (mkF m 146 #[.val (.int p0), .val (.int p1), .val (.long q2), .second, .val (.long q3), .second, .val (.long q4), .second, .val (.long q5), .second, .val (.int y1), .val (.int (5 : Int32)), .val (.ref b109), .val (.double y127), .second, .unset, .unset] []))
    refine Goes.step (fun t k => XS.iload X126.here hx rfl (hb hby at_146) rfl k) ?_
    show Goes _ _ _ _ _ _ _ (T126.setTop (mkF m 148 #[.val (.int p0), .val (.int p1), .val (.long q2), .second, .val (.long q3), .second, .val (.long q4), .second, .val (.long q5), .second, .val (.int y1), .val (.int (5 : Int32)), .val (.ref b109), .val (.double y127), .second, .unset, .unset] [(.int (5 : Int32))]))
    refine Goes.step (fun t k => XS.iconst X126.here hx rfl (hb hby at_148) k) ?_
    show Goes _ _ _ _ _ _ _ (T126.setTop (mkF m 149 #[.val (.int p0), .val (.int p1), .val (.long q2), .second, .val (.long q3), .second, .val (.long q4), .second, .val (.long q5), .second, .val (.int y1), .val (.int (5 : Int32)), .val (.ref b109), .val (.double y127), .second, .unset, .unset] [(.int (4 : Int32)), (.int (5 : Int32))]))
    refine Goes.step (fun t k => XS.icmpYes X126.here hx rfl (pc0 := 149) (pc' := 168) rfl (hb hby at_149) rfl (feq (by decide)).2 (by decide) (by decide) k) ?_
    show Goes _ _ _ _ _ _ _ (T126.setTop (mkF m 168 #[.val (.int p0), .val (.int p1), .val (.long q2), .second, .val (.long q3), .second, .val (.long q4), .second, .val (.long q5), .second, .val (.int y1), .val (.int (5 : Int32)), .val (.ref b109), .val (.double y127), .second, .unset, .unset] []))
    refine Goes.step (fun t k => XS.iload X126.here hx rfl (hb hby at_168) rfl k) ?_
    show Goes _ _ _ _ _ _ _ (T126.setTop (mkF m 170 #[.val (.int p0), .val (.int p1), .val (.long q2), .second, .val (.long q3), .second, .val (.long q4), .second, .val (.long q5), .second, .val (.int y1), .val (.int (5 : Int32)), .val (.ref b109), .val (.double y127), .second, .unset, .unset] [(.int y1)]))
    refine Goes.step (fun t k => XS.lloadN X126.here hx rfl (hb hby at_170) rfl k) ?_
    show Goes _ _ _ _ _ _ _ (T126.setTop (mkF m 171 #[.val (.int p0), .val (.int p1), .val (.long q2), .second, .val (.long q3), .second, .val (.long q4), .second, .val (.long q5), .second, .val (.int y1), .val (.int (5 : Int32)), .val (.ref b109), .val (.double y127), .second, .unset, .unset] [(.long q2), (.int y1)]))
    refine Goes.step (fun t k => XS.lload X126.here hx rfl (hb hby at_171) rfl k) ?_
    show Goes _ _ _ _ _ _ _ (T126.setTop (mkF m 173 #[.val (.int p0), .val (.int p1), .val (.long q2), .second, .val (.long q3), .second, .val (.long q4), .second, .val (.long q5), .second, .val (.int y1), .val (.int (5 : Int32)), .val (.ref b109), .val (.double y127), .second, .unset, .unset] [(.long q5), (.long q2), (.int y1)]))
    refine Goes.step (fun t k => XS.lload X126.here hx rfl (hb hby at_173) rfl k) ?_
    show Goes _ _ _ _ _ _ _ (T126.setTop (mkF m 175 #[.val (.int p0), .val (.int p1), .val (.long q2), .second, .val (.long q3), .second, .val (.long q4), .second, .val (.long q5), .second, .val (.int y1), .val (.int (5 : Int32)), .val (.ref b109), .val (.double y127), .second, .unset, .unset] [(.long q4), (.long q5), (.long q2), (.int y1)]))
    obtain ⟨_, _, ⟨T132, L132, k132, n132⟩, -, X132, ⟨Lc132, hQ132, l132, y132, z132⟩, st132⟩ := Jvm.LawKit.callS X126 hx (y := (⟨"com/example/zugzwang/zugzwang/search/DeepeningFinishedPinLaw", "forecast", "(IJJJ)D"⟩ : MethodName)) hown (mvT hZ (hw _ (List.mem_of_getElem? (i := 37) rfl))) (mvT hZ (hw _ (List.mem_of_getElem? (i := 38) rfl))) (mvT hZ (hw _ (List.mem_of_getElem? (i := 39) rfl))) (mvT hZ (hw _ (List.mem_of_getElem? (i := 40) rfl))) (by decide) (backOf (W := 0) (rm7 l Z tA hw [] y1 q2 q5 q4 h125) hZ (hw _ (List.mem_of_getElem? (i := 40) rfl)) (hw _ (List.mem_of_getElem? (i := 39) rfl)) (by decide) (by decide)) (g := (mkF m 175 #[.val (.int p0), .val (.int p1), .val (.long q2), .second, .val (.long q3), .second, .val (.long q4), .second, .val (.long q5), .second, .val (.int y1), .val (.int (5 : Int32)), .val (.ref b109), .val (.double y127), .second, .unset, .unset] [(.long q4), (.long q5), (.long q2), (.int y1)])) rfl (by rw [hml]; rfl) (argsL := [(.int y1), (.long q2), (.long q5), (.long q4)]) (rest := []) (lenOf own_pd5 rfl) rfl (by show 2 * 0 + _ ≤ _; exact Nat.le_of_eq rfl) (hb hby at_175) (fun _ _ => ⟨rfl, e126, (by decide : 1 + 0 ≤ _), (by decide : 5 + 0 ≤ _)⟩)
    dsimp only [Pt.U, Pt.locs, Pt.cells, Pt.slots] at X132 l132 y132 z132 st132 hQ132
    rw [l132, y132, z132] at X132
    obtain ⟨rfl, rfl, e132⟩ := hQ132
    try rw [List.append_nil] at X132
    change Stand _ _ _ _ _ _ _ _ _ _ _ _ 1 5 at X132
    refine Goes.step (fun t k => st132 t k) ?_
    show Goes _ _ _ _ _ _ _ (T132.setTop (mkF m 178 #[.val (.int p0), .val (.int p1), .val (.long q2), .second, .val (.long q3), .second, .val (.long q4), .second, .val (.long q5), .second, .val (.int y1), .val (.int (5 : Int32)), .val (.ref b109), .val (.double y127), .second, .unset, .unset] [(.double (f7 y1 q2 q5 q4))]))
    refine Goes.step (fun t k => XS.dstore X132.here hx rfl (hb hby at_178) rfl (l' := #[.val (.int p0), .val (.int p1), .val (.long q2), .second, .val (.long q3), .second, .val (.long q4), .second, .val (.long q5), .second, .val (.int y1), .val (.int (5 : Int32)), .val (.ref b109), .val (.double y127), .second, .val (.double (f7 y1 q2 q5 q4)), .second]) rfl k) ?_
    show Goes _ _ _ _ _ _ _ (T132.setTop (mkF m 180 #[.val (.int p0), .val (.int p1), .val (.long q2), .second, .val (.long q3), .second, .val (.long q4), .second, .val (.long q5), .second, .val (.int y1), .val (.int (5 : Int32)), .val (.ref b109), .val (.double y127), .second, .val (.double (f7 y1 q2 q5 q4)), .second] []))
    refine Goes.step (fun t k => XS.dload X132.here hx rfl (hb hby at_180) rfl k) ?_
    show Goes _ _ _ _ _ _ _ (T132.setTop (mkF m 182 #[.val (.int p0), .val (.int p1), .val (.long q2), .second, .val (.long q3), .second, .val (.long q4), .second, .val (.long q5), .second, .val (.int y1), .val (.int (5 : Int32)), .val (.ref b109), .val (.double y127), .second, .val (.double (f7 y1 q2 q5 q4)), .second] [(.double y127)]))
    refine Goes.step (fun t k => XS.dload X132.here hx rfl (hb hby at_182) rfl k) ?_
    show Goes _ _ _ _ _ _ _ (T132.setTop (mkF m 184 #[.val (.int p0), .val (.int p1), .val (.long q2), .second, .val (.long q3), .second, .val (.long q4), .second, .val (.long q5), .second, .val (.int y1), .val (.int (5 : Int32)), .val (.ref b109), .val (.double y127), .second, .val (.double (f7 y1 q2 q5 q4)), .second] [(.double (f7 y1 q2 q5 q4)), (.double y127)]))
    refine Goes.step (fun t k => XS.dcmpS X132.here hx rfl (hb hby at_184) rfl rfl k) ?_
    show Goes _ _ _ _ _ _ _ (T132.setTop (mkF m 185 #[.val (.int p0), .val (.int p1), .val (.long q2), .second, .val (.long q3), .second, .val (.long q4), .second, .val (.long q5), .second, .val (.int y1), .val (.int (5 : Int32)), .val (.ref b109), .val (.double y127), .second, .val (.double (f7 y1 q2 q5 q4)), .second] [(.int (cmpValue (FP.dcmp y127 (f7 y1 q2 q5 q4)) .l))]))
    suffices k134 : ∀ (x134_0 : Int32), x134_0 = (if (cmpValue (FP.dcmp y127 (f7 y1 q2 q5 q4)) .l) = (0 : Int32) then (1 : Int32) else (0 : Int32)) → Goes p e below s (Q0 Z p0 p1 q2 q3 q4 q5 h0 n0) kC0 kS0 (T132.setTop (mkF m 193 #[.val (.int p0), .val (.int p1), .val (.long q2), .second, .val (.long q3), .second, .val (.long q4), .second, .val (.long q5), .second, .val (.int y1), .val (.int (5 : Int32)), .val (.ref b109), .val (.double y127), .second, .val (.double (f7 y1 q2 q5 q4)), .second] [(.int x134_0)])) by
      by_cases hc185_133 : (cmpValue (FP.dcmp y127 (f7 y1 q2 q5 q4)) .l) = (0 : Int32)
      · refine Goes.step (fun t k => XS.ifNo X132.here hx rfl (hb hby at_185) rfl ((if0 _ _).trans (teq hc185_133).2) k) ?_
        show Goes _ _ _ _ _ _ _ (T132.setTop (mkF m 188 #[.val (.int p0), .val (.int p1), .val (.long q2), .second, .val (.long q3), .second, .val (.long q4), .second, .val (.long q5), .second, .val (.int y1), .val (.int (5 : Int32)), .val (.ref b109), .val (.double y127), .second, .val (.double (f7 y1 q2 q5 q4)), .second] []))
        refine Goes.step (fun t k => XS.iconst X132.here hx rfl (hb hby at_188) k) ?_
        show Goes _ _ _ _ _ _ _ (T132.setTop (mkF m 189 #[.val (.int p0), .val (.int p1), .val (.long q2), .second, .val (.long q3), .second, .val (.long q4), .second, .val (.long q5), .second, .val (.int y1), .val (.int (5 : Int32)), .val (.ref b109), .val (.double y127), .second, .val (.double (f7 y1 q2 q5 q4)), .second] [(.int (1 : Int32))]))
        refine Goes.step (fun t k => XS.goto X132.here hx rfl (pc0 := 189) (pc' := 193) rfl (hb hby at_189) (by decide) (by decide) k) ?_
        show Goes _ _ _ _ _ _ _ (T132.setTop (mkF m 193 #[.val (.int p0), .val (.int p1), .val (.long q2), .second, .val (.long q3), .second, .val (.long q4), .second, .val (.long q5), .second, .val (.int y1), .val (.int (5 : Int32)), .val (.ref b109), .val (.double y127), .second, .val (.double (f7 y1 q2 q5 q4)), .second] [(.int (1 : Int32))]))
        exact k134 _ (if_pos hc185_133).symm
      · refine Goes.step (fun t k => XS.ifYes X132.here hx rfl (pc0 := 185) (pc' := 192) rfl (hb hby at_185) rfl ((if0 _ _).trans (feq hc185_133).2) (by decide) (by decide) k) ?_
        show Goes _ _ _ _ _ _ _ (T132.setTop (mkF m 192 #[.val (.int p0), .val (.int p1), .val (.long q2), .second, .val (.long q3), .second, .val (.long q4), .second, .val (.long q5), .second, .val (.int y1), .val (.int (5 : Int32)), .val (.ref b109), .val (.double y127), .second, .val (.double (f7 y1 q2 q5 q4)), .second] []))
        refine Goes.step (fun t k => XS.iconst X132.here hx rfl (hb hby at_192) k) ?_
        show Goes _ _ _ _ _ _ _ (T132.setTop (mkF m 193 #[.val (.int p0), .val (.int p1), .val (.long q2), .second, .val (.long q3), .second, .val (.long q4), .second, .val (.long q5), .second, .val (.int y1), .val (.int (5 : Int32)), .val (.ref b109), .val (.double y127), .second, .val (.double (f7 y1 q2 q5 q4)), .second] [(.int (0 : Int32))]))
        exact k134 _ (if_neg hc185_133).symm
    intro x134_0 hx134_0
    exact Goes.retZ X132 hx Bd.notSynchronized (r := (1 : Int32)) Bd.returns (by simp) (hb hby at_193) (own_plain_6 p0 q2 q4 q5 y1 y127 x134_0 hy1 hy127 hx134_0) ⟨rfl, N125⟩ (by decide) (by decide)
set_option maxRecDepth 65536 in
set_option maxHeartbeats 40000000 in
theorem comes_1 {Post : Tables → Env → Array Value → State → Outcome → State → Prop} (hpost : ∀ tb e args s v u, (limb_1_1.after args s (.returned v) u = true ∧ limb_1_2.after args s (.returned v) u = true ∧ True) → FrameEnd s (.returned v) u (Jvm.fieldLocs frame_1_writes args s ++ Jvm.arrayLocs frame_1_arrays args s ++ Jvm.staticLocs frame_1_statics s) 16 128 → Post tb e args s (.returned v) u) :
    ArmFor flags0 classFile x code maxLocals ret World_1 tables_1 room_1 Calls_1 rest_1 Pre_1 Post := by
  intro l hfl _ _ p e ha hc hk s m args below hf hA hF happ hP
  obtain ⟨hcalls, hrest, hpre⟩ := hP
  obtain ⟨-, -, -, hnamed, -, -, -, hat⟩ := (Spec.applies_iff hf).mp happ
  obtain ⟨hg, hn⟩ := and_e (Cond.before_iff.mp (show (Jvm.Cond.and given_1 narrow_1).before args s = true from hpre))
  obtain ⟨g0, gr0⟩ := and_e hg
  obtain ⟨ga0, gr1⟩ := and_e gr0
  obtain ⟨ga1, gr2⟩ := and_e gr1
  obtain ⟨ga2, gr3⟩ := and_e gr2
  obtain ⟨ga3, gr4⟩ := and_e gr3
  obtain ⟨ga4, gr5⟩ := and_e gr4
  have ga5 := gr5
  obtain ⟨w0, w1, w2, w3, w4, w5, rfl⟩ : ∃ w0 w1 w2 w3 w4 w5 : Value, args = #[w0, w1, w2, w3, w4, w5] := by
    have hs : args.size = 6 := by simpa [Cond.value, given_1] using g0
    obtain ⟨L⟩ := args
    match L, hs with
    | [w0, w1, w2, w3, w4, w5], _ => exact ⟨w0, w1, w2, w3, w4, w5, rfl⟩
  have hw := fun d (hd : d ∈ tables_1) => atoms_spec (ws := Jvm.Cond.code x code maxLocals ret :: tables_1) hat d (List.mem_cons_of_mem _ hd)
  have hfit : Fit s := fun {y c} hc i hi => by
    obtain ⟨ha, rfl⟩ := Array.getElem?_eq_some_iff.mp hc
    have q := List.all_eq_true.mp ((Array.all_eq_true_iff_forall_mem.mp hF) _ (Array.getElem_mem ha)) i (List.mem_range.mpr hi)
    simpa [Array.getElem?_eq_getElem hi] using q
  obtain ⟨i0, ei0⟩ := is_v ga0
  obtain rfl : w0 = (.int i0) := Option.some.inj ei0
  obtain ⟨i1, ei1⟩ := is_v ga1
  obtain rfl : w1 = (.int i1) := Option.some.inj ei1
  obtain ⟨i2, ei2⟩ := isL_v ga2
  obtain rfl : w2 = (.long i2) := Option.some.inj ei2
  obtain ⟨i3, ei3⟩ := isL_v ga3
  obtain rfl : w3 = (.long i3) := Option.some.inj ei3
  obtain ⟨i4, ei4⟩ := isL_v ga4
  obtain rfl : w4 = (.long i4) := Option.some.inj ei4
  obtain ⟨i5, ei5⟩ := isL_v ga5
  obtain rfl : w5 = (.long i5) := Option.some.inj ei5
  obtain ⟨n, o, h1, h2, h3, _, L, rfl, ⟨rfl, N⟩, hq⟩ := rm0 l s _ hw tables_1 i0 i1 i2 i3 i4 i5  s.heap s.heap.size (Nat.le_refl _)  p e ha hc hk s m _ below hf ((Spec.applies_iff_loose hf).mp happ).1 ⟨rfl, State.Warmed39.refl s, rfl⟩ trivial
  refine ⟨n, _, h1, h2, h3, hpost _ _ _ _ _ _ ⟨Cond.after_iff.mpr rfl, Cond.after_iff.mpr (eq_i res_at (Term.int_eval (1)) rfl), trivial⟩ ⟨hq.1, hq.2.1, (hq.2.2.sift fun y hy => Or.inr (N y hy)).mono (by decide) (by decide)⟩⟩
theorem main_1_1 : Claimed_1_1 := comes_1 fun _ _ _ _ _ _ h hF => ⟨h.1, hF⟩
theorem main_1_2 : Claimed_1_2 := comes_1 fun _ _ _ _ _ _ h hF => ⟨h.2.1, hF⟩
end Jvm.Pilot.@@N@@
namespace Jvm.Pilot.@@N@@
open Jvm Jvm.ClassFile Sem Op Lib Jvm.Free Jvm.Stand Jvm.Pilot.@@N@@.Jvm.D
/-! MADE BY PROGRAM (witnessworld.py) out of the Statement's table words and the real class files: 10 classes; the members and pool entries that the words name. The judged class is class 1, her method 1. -/
namespace start1
open Jvm.ClassFile
def u (s : String) : CpInfo := .utf8 (stringToUtf16 s)
/-- a pool by its gaps: so many unusable entries, then the entry; so many at the end -/
def gap : Nat → List CpInfo → List CpInfo
  | 0, r => r
  | n + 1, r => .unusable :: gap n r
def poolList (es : List (Nat × CpInfo)) (last : Nat) : List CpInfo := es.foldr (fun e r => gap e.1 (e.2 :: r)) (gap last [])
def pool (es : List (Nat × CpInfo)) (last : Nat) : Array CpInfo := ⟨poolList es last⟩
def fileOf (pool : Array CpInfo) (this : Nat) (attrs : Array Attribute := #[]) (ms : Array MethodInfo := #[]) (fl : Nat := 33) (sup : Nat := 0) (ifs : Array Nat := #[]) (fds : Array FieldInfo := #[]) : ClassFile where
  minorVersion := 0
  majorVersion := 65
  constantPool := pool
  accessFlags := fl
  thisClass := this
  superClass := sup
  interfaces := ifs
  fields := fds
  methods := ms
  attributes := attrs
def plain (name : String) (sup : Option ClassId) : Class where
  name := name
  kind := .ordinary
  loader := none
  accessFlags := 33
  super := sup
  interfaces := #[]
  cf := none
  fields := #[]
  methods := #[]
  instanceTypes := #[]
  staticTypes := #[]
  resolved := #[]
  callSites := []
  init := .initialized
  statics := none
  mirror := none

def pool0 : Array CpInfo := pool [(5, u "<init>"), (0, u "()V"), (1, .class_ 10), (1, u "java/lang/Object")] 113

def k0c0 : Code := { maxStack := 0, maxLocals := 1, code := object_method_1_code, exceptionTable := #[], attributes := #[] }
def k0m0 : Method := { name := "<init>", desc := "()V", sig := { parameters := [], returnType := none }, accessFlags := 1, code := some k0c0 }
/-- java/lang/Object -/
def k0 : Class := { plain "java/lang/Object" none with
  accessFlags := 33
  interfaces := #[]
  cf := some (fileOf pool0 8 #[] #[{ accessFlags := 1, nameIndex := 5, descriptorIndex := 6, attributes := #[] }] 33 0 #[] #[])
  fields := #[]
  methods := #[k0m0]
  instanceTypes := #[]
  staticTypes := #[]
  resolved := Array.replicate 124 none
  statics := none }

def pool1 : Array CpInfo := pool [(2, .class_ 4), (1, u "java/lang/Object"), (0, u "<init>"), (0, u "()V"), (0, .integer 2147483647), (0, .class_ 9), (0, u "com/example/zugzwang/zugzwang/search/AlphaBetaEngine$Deepening"), (0, .methodref 8 11), (0, .nameAndType 5 12), (0, u "(I)V"), (0, .methodref 8 14), (0, .nameAndType 15 16), (0, u "finished"), (0, u "(J)V"), (0, .methodref 8 18), (0, .nameAndType 19 20), (0, u "nextNanos"), (0, u "()D"), (0, .methodref 22 23), (0, .class_ 24), (0, .nameAndType 25 26), (0, u "com/example/zugzwang/zugzwang/search/DeepeningFinishedPinLaw"), (0, u "forecast"), (0, u "(IJJJ)D"), (0, .methodref 28 29), (0, .class_ 30), (0, .nameAndType 31 32), (0, u "java/lang/Math"), (0, u "max"), (0, u "(JJ)J"), (2, u "law"), (0, u "(IIJJJJ)Z")] 7

def k1m0 : Method := { name := "<init>", desc := "()V", sig := { parameters := [], returnType := none }, accessFlags := 1, code := none }
def k1c1 : Code := { maxStack := 7, maxLocals := 17, code := code, exceptionTable := #[], attributes := #[] }
def k1m1 : Method := { name := "law", desc := "(IIJJJJ)Z", sig := { parameters := [.int, .int, .long, .long, .long, .long], returnType := some .boolean }, accessFlags := 9, code := some k1c1 }
def k1c2 : Code := { maxStack := 6, maxLocals := 13, code := method_3_code, exceptionTable := #[], attributes := #[] }
def k1m2 : Method := { name := "forecast", desc := "(IJJJ)D", sig := { parameters := [.int, .long, .long, .long], returnType := some .double }, accessFlags := 10, code := some k1c2 }
/-- com/example/zugzwang/zugzwang/search/DeepeningFinishedPinLaw -/
def k1 : Class := { plain "com/example/zugzwang/zugzwang/search/DeepeningFinishedPinLaw" (some 0) with
  accessFlags := 49
  interfaces := #[]
  cf := some (fileOf pool1 22 #[] #[{ accessFlags := 1, nameIndex := 5, descriptorIndex := 6, attributes := #[] }, { accessFlags := 9, nameIndex := 35, descriptorIndex := 36, attributes := #[] }, { accessFlags := 10, nameIndex := 25, descriptorIndex := 26, attributes := #[] }] 49 2 #[] #[])
  fields := #[]
  methods := #[k1m0, k1m1, k1m2]
  instanceTypes := #[]
  staticTypes := #[]
  resolved := Array.replicate 44 none
  statics := none }

def pool2 : Array CpInfo := pool [(1, .methodref 2 3), (0, .class_ 4), (0, .nameAndType 5 6), (0, u "java/lang/Object"), (0, u "<init>"), (0, u "()V"), (0, .fieldref 8 9), (0, .class_ 10), (0, .nameAndType 11 12), (0, u "com/example/zugzwang/zugzwang/search/AlphaBetaEngine$Deepening"), (0, u "moves"), (0, u "I"), (0, .fieldref 8 14), (0, .nameAndType 15 16), (0, u "oneBefore"), (0, u "J"), (0, .fieldref 8 18), (0, .nameAndType 19 16), (0, u "twoBefore"), (0, .fieldref 8 21), (0, .nameAndType 22 16), (0, u "last"), (0, .fieldref 8 24), (0, .nameAndType 25 12), (0, u "searches"), (0, .methodref 27 28), (0, .class_ 29), (0, .nameAndType 30 31), (0, u "java/lang/Math"), (0, u "max"), (0, u "(JJ)J"), (0, .methodref 27 33), (0, .nameAndType 34 35), (0, u "min"), (0, u "(DD)D"), (0, u "(I)V"), (2, u "finished"), (0, u "(J)V"), (0, u "nextNanos"), (0, u "()D"), (4, .class_ 48), (0, u "com/example/zugzwang/zugzwang/search/AlphaBetaEngine")] 2

def k2c0 : Code := { maxStack := 2, maxLocals := 2, code := prog_51_method_1_code, exceptionTable := #[], attributes := #[] }
def k2m0 : Method := { name := "<init>", desc := "(I)V", sig := { parameters := [.int], returnType := none }, accessFlags := 0, code := some k2c0 }
def k2c1 : Code := { maxStack := 3, maxLocals := 3, code := prog_51_method_2_code, exceptionTable := #[], attributes := #[] }
def k2m1 : Method := { name := "finished", desc := "(J)V", sig := { parameters := [.long], returnType := none }, accessFlags := 0, code := some k2c1 }
def k2c2 : Code := { maxStack := 6, maxLocals := 5, code := prog_51_method_3_code, exceptionTable := #[], attributes := #[] }
def k2m2 : Method := { name := "nextNanos", desc := "()D", sig := { parameters := [], returnType := some .double }, accessFlags := 0, code := some k2c2 }
/-- com/example/zugzwang/zugzwang/search/AlphaBetaEngine$Deepening -/
def k2 : Class := { plain "com/example/zugzwang/zugzwang/search/AlphaBetaEngine$Deepening" (some 0) with
  accessFlags := 48
  interfaces := #[]
  cf := some (fileOf pool2 8 #[.nestHost 47] #[{ accessFlags := 0, nameIndex := 5, descriptorIndex := 36, attributes := #[] }, { accessFlags := 0, nameIndex := 39, descriptorIndex := 40, attributes := #[] }, { accessFlags := 0, nameIndex := 41, descriptorIndex := 42, attributes := #[] }] 48 2 #[] #[{ accessFlags := 18, nameIndex := 11, descriptorIndex := 12, attributes := #[] }, { accessFlags := 2, nameIndex := 25, descriptorIndex := 12, attributes := #[] }, { accessFlags := 2, nameIndex := 22, descriptorIndex := 16, attributes := #[] }, { accessFlags := 2, nameIndex := 15, descriptorIndex := 16, attributes := #[] }, { accessFlags := 2, nameIndex := 19, descriptorIndex := 16, attributes := #[] }])
  fields := #[{ name := "moves", type := .int, accessFlags := 18, slot := 0, constantValue := 0 }, { name := "searches", type := .int, accessFlags := 2, slot := 1, constantValue := 0 }, { name := "last", type := .long, accessFlags := 2, slot := 2, constantValue := 0 }, { name := "oneBefore", type := .long, accessFlags := 2, slot := 3, constantValue := 0 }, { name := "twoBefore", type := .long, accessFlags := 2, slot := 4, constantValue := 0 }]
  methods := #[k2m0, k2m1, k2m2]
  instanceTypes := #[.int, .int, .long, .long, .long]
  staticTypes := #[]
  resolved := Array.replicate 51 none
  statics := none }

def pool3 : Array CpInfo := pool [(1, .class_ 2), (0, u "java/lang/Math"), (1, .class_ 6), (1, u "java/lang/Object"), (0, u "<init>"), (0, u "()V"), (43, u "(DD)D"), (45, .class_ 100), (1, u "java/lang/Math$RandomNumberGeneratorHolder"), (20, u "(JJ)J"), (50, u "negativeZeroFloatBits"), (0, u "J"), (2, u "negativeZeroDoubleBits"), (21, u "max"), (2, u "min"), (43, u "$assertionsDisabled"), (0, u "Z"), (91, u "twoToTheDoubleScaleDown"), (0, u "D"), (4, u "twoToTheDoubleScaleUp"), (9, u "E"), (3, u "PI"), (2, u "TAU"), (2, u "DEGREES_TO_RADIANS"), (0, u "RADIANS_TO_DEGREES")] 94

def k3m0 : Method := { name := "<init>", desc := "()V", sig := { parameters := [], returnType := none }, accessFlags := 2, code := none }
def k3c1 : Code := { maxStack := 4, maxLocals := 4, code := jdk_29_method_66_code, exceptionTable := #[], attributes := #[] }
def k3m1 : Method := { name := "max", desc := "(JJ)J", sig := { parameters := [.long, .long], returnType := some .long }, accessFlags := 9, code := some k3c1 }
def k3c2 : Code := { maxStack := 4, maxLocals := 4, code := jdk_29_method_72_code, exceptionTable := #[], attributes := #[] }
def k3m2 : Method := { name := "min", desc := "(DD)D", sig := { parameters := [.double, .double], returnType := some .double }, accessFlags := 9, code := some k3c2 }
/-- java/lang/Math -/
def k3 : Class := { plain "java/lang/Math" (some 0) with
  accessFlags := 49
  interfaces := #[]
  cf := some (fileOf pool3 1 #[.nestMembers #[98]] #[{ accessFlags := 2, nameIndex := 7, descriptorIndex := 8, attributes := #[] }, { accessFlags := 9, nameIndex := 198, descriptorIndex := 121, attributes := #[] }, { accessFlags := 9, nameIndex := 201, descriptorIndex := 52, attributes := #[] }] 49 4 #[] #[{ accessFlags := 25, nameIndex := 354, descriptorIndex := 339, attributes := #[] }, { accessFlags := 25, nameIndex := 358, descriptorIndex := 339, attributes := #[] }, { accessFlags := 25, nameIndex := 361, descriptorIndex := 339, attributes := #[] }, { accessFlags := 26, nameIndex := 364, descriptorIndex := 339, attributes := #[] }, { accessFlags := 26, nameIndex := 365, descriptorIndex := 339, attributes := #[] }, { accessFlags := 26, nameIndex := 172, descriptorIndex := 173, attributes := #[] }, { accessFlags := 26, nameIndex := 176, descriptorIndex := 173, attributes := #[] }, { accessFlags := 8, nameIndex := 344, descriptorIndex := 339, attributes := #[] }, { accessFlags := 8, nameIndex := 338, descriptorIndex := 339, attributes := #[] }, { accessFlags := 4120, nameIndex := 245, descriptorIndex := 246, attributes := #[] }])
  fields := #[{ name := "E", type := .double, accessFlags := 25, slot := 0, constantValue := 0 }, { name := "PI", type := .double, accessFlags := 25, slot := 1, constantValue := 0 }, { name := "TAU", type := .double, accessFlags := 25, slot := 2, constantValue := 0 }, { name := "DEGREES_TO_RADIANS", type := .double, accessFlags := 26, slot := 3, constantValue := 0 }, { name := "RADIANS_TO_DEGREES", type := .double, accessFlags := 26, slot := 4, constantValue := 0 }, { name := "negativeZeroFloatBits", type := .long, accessFlags := 26, slot := 5, constantValue := 0 }, { name := "negativeZeroDoubleBits", type := .long, accessFlags := 26, slot := 6, constantValue := 0 }, { name := "twoToTheDoubleScaleUp", type := .double, accessFlags := 8, slot := 7, constantValue := 0 }, { name := "twoToTheDoubleScaleDown", type := .double, accessFlags := 8, slot := 8, constantValue := 0 }, { name := "$assertionsDisabled", type := .boolean, accessFlags := 4120, slot := 9, constantValue := 0 }]
  methods := #[k3m0, k3m1, k3m2]
  instanceTypes := #[]
  staticTypes := #[.double, .double, .double, .double, .double, .long, .long, .double, .double, .boolean]
  resolved := Array.replicate 460 none
  statics := none }

def pool4 : Array CpInfo := pool [(1, u "java/lang/Cloneable"), (0, .class_ 1), (0, u "java/lang/Object"), (0, .class_ 3)] 3

/-- java/lang/Cloneable -/
def k4 : Class := { plain "java/lang/Cloneable" (some 0) with
  accessFlags := 1537
  interfaces := #[]
  cf := some (fileOf pool4 2 #[] #[] 1537 4 #[] #[])
  fields := #[]
  methods := #[]
  instanceTypes := #[]
  staticTypes := #[]
  resolved := Array.replicate 8 none
  statics := none }

def pool5 : Array CpInfo := pool [(1, u "java/io/Serializable"), (0, .class_ 1), (0, u "java/lang/Object"), (0, .class_ 3)] 3

/-- java/io/Serializable -/
def k5 : Class := { plain "java/io/Serializable" (some 0) with
  accessFlags := 1537
  interfaces := #[]
  cf := some (fileOf pool5 2 #[] #[] 1537 4 #[] #[])
  fields := #[]
  methods := #[]
  instanceTypes := #[]
  staticTypes := #[]
  resolved := Array.replicate 8 none
  statics := none }

/-- the primitive byte -/
def k6 : Class := { plain "byte" none with kind := .primitive 'B', accessFlags := 0x411 }
/-- [B -/
def k7 : Class := { plain "[B" (some 0) with kind := .array 6 .byte, interfaces := #[4, 5], accessFlags := 1041 }

/-- the primitive int -/
def k8 : Class := { plain "int" none with kind := .primitive 'I', accessFlags := 0x411 }
/-- [I -/
def k9 : Class := { plain "[I" (some 0) with kind := .array 8 .int, interfaces := #[4, 5], accessFlags := 1041 }

def heap : Heap := #[]
def classes : Array Class := #[k0, k1, k2, k3, k4, k5, k6, k7, k8, k9]
def interned : List (Array UInt16 × Addr) := []
def slotsUsed : Nat := 0
def theMethod : MethodId := ⟨1, 1⟩
def args0 : Array Value := #[.int 5, .int 6, .long 7, .long 8, .long 9, .long 10]
def aboutOver (below : List Frame) : State where
  vm := { classes := classes, interned := interned.toArray }
  heap := heap
  slotsUsed := slotsUsed
  threads := #[{ frames := .invoking theMethod args0 :: below }]
def below0 : List Frame := [.native { method := ⟨0, 0⟩, args := #[] }]
def about1 : State := aboutOver below0
def p0 : Program := .bare "" "" ""
def e0 : Env := launch0.env 0 0 0
theorem w_frames : about1.frames = Frame.invoking theMethod args0 :: below0 := rfl
set_option maxRecDepth 65536 in
theorem w_args : argsFit about1.vm theMethod args0 = true := by decide +kernel
set_option maxRecDepth 65536 in
theorem w_heap : heapFits about1 = true := by decide +kernel
set_option maxRecDepth 65536 in
theorem w_runnable : about1.curStatus? = some .runnable := by decide +kernel
set_option maxRecDepth 65536 in
theorem w_alone : about1.alone = true := by decide +kernel
set_option maxRecDepth 65536 in
theorem w_named : about1.methodNamed? x = some theMethod := by decide +kernel
set_option maxRecDepth 65536 in
theorem w_hears : about1.hears theMethod below0 = true := by decide +kernel
set_option maxRecDepth 65536 in
theorem w_ripe : about1.ripe theMethod args0 below0 = true := by decide +kernel
theorem w_running : about1.status = .running := rfl
set_option maxRecDepth 65536 in
theorem w_room : about1.hasRoom e0.platform room_1 = true :=
  launch0.hasRoom_least _ room_1 (by decide +kernel) (by decide +kernel) (by decide +kernel) (by decide +kernel) (by decide +kernel) (by decide +kernel)
theorem allAtoms_all (ts : List Jvm.Cond) (a : Array Jvm.Value) (st : Jvm.State) : (allAtoms ts).before a st = ts.all (fun c => c.before a st) := by
  induction ts with
  | nil => rfl
  | cons c t ih =>
    show (Jvm.Cond.and c (allAtoms t)).before a st = _
    rw [Jvm.Cond.before_and, ih, List.all_cons]
def words1 : List Jvm.Cond := Jvm.Cond.code x code maxLocals ret :: tables_1
/-- a 'code' word, met by the world's own term for the bytes: nothing is compared byte by byte -/
theorem code_word {y : MethodName} {bytes : ByteArray} {mx : Nat} {rt : Option FieldType} {a : Array Value} {s : State} {m : MethodId} {meth : Method} {c : Code} (h1 : s.methodNamed? y = some m) (h2 : s.vm.method? m = some meth) (h3 : meth.code = some c) (h4 : c.code = bytes)
    (h5 : (c.maxLocals == mx && c.exceptionTable.isEmpty && decide (c.maxStack ≤ mostOperands) && decide (meth.sig.returnType = rt) && !meth.locks && decide (parseMethodDescriptor y.desc = some meth.sig)) = true) : (Jvm.Cond.code y bytes mx rt).before a s = true := by
  simp only [Bool.and_eq_true, beq_iff_eq, Bool.not_eq_true', decide_eq_true_eq] at h5
  obtain ⟨⟨⟨⟨⟨g1, g2⟩, g3⟩, g4⟩, g5⟩, g6⟩ := h5
  simp [Cond.before, Cond.holds, Cond.value, h1, h2, h3, h4, g1, g2, g3, g4, g5, g6]
def isCode : Jvm.Cond → Bool
  | .code _ _ _ _ => true
  | _ => false
theorem all_split {L : List Jvm.Cond} {P : Jvm.Cond → Bool} (h1 : L.all (fun c => isCode c || P c) = true) (h2 : ∀ c ∈ L.filter isCode, P c = true) : L.all P = true := by
  refine List.all_eq_true.mpr fun c hc => ?_
  have h := List.all_eq_true.mp h1 c hc
  rcases Bool.eq_false_or_eq_true (isCode c) with hi | hi
  · exact h2 c (List.mem_filter.mpr ⟨hc, hi⟩)
  · simpa [hi] using h
set_option maxRecDepth 65536 in
theorem w_c0 : (Jvm.Cond.code x code maxLocals ret).before args0 about1 = true := code_word (m := ⟨1, 1⟩) (meth := k1m1) (c := k1c1) (by decide +kernel) rfl rfl rfl (by decide +kernel)
set_option maxRecDepth 65536 in
theorem w_c1 : (Jvm.Cond.code ({ cls := "com/example/zugzwang/zugzwang/search/AlphaBetaEngine$Deepening", name := "<init>", desc := "(I)V" } : Jvm.MethodName) prog_51_method_1_code (2 : Nat) (Option.none : Option Jvm.ClassFile.FieldType)).before args0 about1 = true := code_word (m := ⟨2, 0⟩) (meth := k2m0) (c := k2c0) (by decide +kernel) rfl rfl rfl (by decide +kernel)
set_option maxRecDepth 65536 in
theorem w_c2 : (Jvm.Cond.code ({ cls := "java/lang/Object", name := "<init>", desc := "()V" } : Jvm.MethodName) object_method_1_code (1 : Nat) (Option.none : Option Jvm.ClassFile.FieldType)).before args0 about1 = true := code_word (m := ⟨0, 0⟩) (meth := k0m0) (c := k0c0) (by decide +kernel) rfl rfl rfl (by decide +kernel)
set_option maxRecDepth 65536 in
theorem w_c3 : (Jvm.Cond.code ({ cls := "com/example/zugzwang/zugzwang/search/AlphaBetaEngine$Deepening", name := "finished", desc := "(J)V" } : Jvm.MethodName) prog_51_method_2_code (3 : Nat) (Option.none : Option Jvm.ClassFile.FieldType)).before args0 about1 = true := code_word (m := ⟨2, 1⟩) (meth := k2m1) (c := k2c1) (by decide +kernel) rfl rfl rfl (by decide +kernel)
set_option maxRecDepth 65536 in
theorem w_c4 : (Jvm.Cond.code ({ cls := "com/example/zugzwang/zugzwang/search/AlphaBetaEngine$Deepening", name := "nextNanos", desc := "()D" } : Jvm.MethodName) prog_51_method_3_code (5 : Nat) (Option.some Jvm.ClassFile.FieldType.double)).before args0 about1 = true := code_word (m := ⟨2, 2⟩) (meth := k2m2) (c := k2c2) (by decide +kernel) rfl rfl rfl (by decide +kernel)
set_option maxRecDepth 65536 in
theorem w_c5 : (Jvm.Cond.code ({ cls := "java/lang/Math", name := "max", desc := "(JJ)J" } : Jvm.MethodName) jdk_29_method_66_code (4 : Nat) (Option.some Jvm.ClassFile.FieldType.long)).before args0 about1 = true := code_word (m := ⟨3, 1⟩) (meth := k3m1) (c := k3c1) (by decide +kernel) rfl rfl rfl (by decide +kernel)
set_option maxRecDepth 65536 in
theorem w_c6 : (Jvm.Cond.code ({ cls := "java/lang/Math", name := "min", desc := "(DD)D" } : Jvm.MethodName) jdk_29_method_72_code (4 : Nat) (Option.some Jvm.ClassFile.FieldType.double)).before args0 about1 = true := code_word (m := ⟨3, 2⟩) (meth := k3m2) (c := k3c2) (by decide +kernel) rfl rfl rfl (by decide +kernel)
set_option maxRecDepth 65536 in
theorem w_c7 : (Jvm.Cond.code ({ cls := "com/example/zugzwang/zugzwang/search/DeepeningFinishedPinLaw", name := "forecast", desc := "(IJJJ)D" } : Jvm.MethodName) method_3_code (13 : Nat) (Option.some Jvm.ClassFile.FieldType.double)).before args0 about1 = true := code_word (m := ⟨1, 2⟩) (meth := k1m2) (c := k1c2) (by decide +kernel) rfl rfl rfl (by decide +kernel)
def codes1 : List Jvm.Cond := [Jvm.Cond.code x code maxLocals ret, Jvm.Cond.code ({ cls := "com/example/zugzwang/zugzwang/search/AlphaBetaEngine$Deepening", name := "<init>", desc := "(I)V" } : Jvm.MethodName) prog_51_method_1_code (2 : Nat) (Option.none : Option Jvm.ClassFile.FieldType), Jvm.Cond.code ({ cls := "java/lang/Object", name := "<init>", desc := "()V" } : Jvm.MethodName) object_method_1_code (1 : Nat) (Option.none : Option Jvm.ClassFile.FieldType), Jvm.Cond.code ({ cls := "com/example/zugzwang/zugzwang/search/AlphaBetaEngine$Deepening", name := "finished", desc := "(J)V" } : Jvm.MethodName) prog_51_method_2_code (3 : Nat) (Option.none : Option Jvm.ClassFile.FieldType), Jvm.Cond.code ({ cls := "com/example/zugzwang/zugzwang/search/AlphaBetaEngine$Deepening", name := "nextNanos", desc := "()D" } : Jvm.MethodName) prog_51_method_3_code (5 : Nat) (Option.some Jvm.ClassFile.FieldType.double), Jvm.Cond.code ({ cls := "java/lang/Math", name := "max", desc := "(JJ)J" } : Jvm.MethodName) jdk_29_method_66_code (4 : Nat) (Option.some Jvm.ClassFile.FieldType.long), Jvm.Cond.code ({ cls := "java/lang/Math", name := "min", desc := "(DD)D" } : Jvm.MethodName) jdk_29_method_72_code (4 : Nat) (Option.some Jvm.ClassFile.FieldType.double), Jvm.Cond.code ({ cls := "com/example/zugzwang/zugzwang/search/DeepeningFinishedPinLaw", name := "forecast", desc := "(IJJJ)D" } : Jvm.MethodName) method_3_code (13 : Nat) (Option.some Jvm.ClassFile.FieldType.double)]
set_option maxRecDepth 65536 in
theorem codes_eq : words1.filter isCode = codes1 := rfl
theorem w_codes : ∀ c ∈ words1.filter isCode, c.before args0 about1 = true := by
  rw [codes_eq]
  intro c hc
  simp only [codes1, List.mem_cons, List.not_mem_nil, or_false] at hc
  rcases hc with rfl | rfl | rfl | rfl | rfl | rfl | rfl | rfl
  · exact w_c0
  · exact w_c1
  · exact w_c2
  · exact w_c3
  · exact w_c4
  · exact w_c5
  · exact w_c6
  · exact w_c7
set_option maxRecDepth 65536 in
theorem w_t1 : (words1.take 24).all (fun c => isCode c || c.before args0 about1) = true := by decide +kernel
set_option maxRecDepth 65536 in
theorem w_t2 : (words1.drop 24).all (fun c => isCode c || c.before args0 about1) = true := by decide +kernel
theorem w_tables : (allAtoms (Jvm.Cond.code x code maxLocals ret :: tables_1)).before args0 about1 = true := by
  rw [allAtoms_all]
  show words1.all (fun c => c.before args0 about1) = true
  refine all_split ?_ w_codes
  rw [← List.take_append_drop 24 words1, List.all_append, w_t1, w_t2]
  rfl
set_option maxRecDepth 65536 in
theorem w_case : (Jvm.Cond.and given_1 narrow_1).before args0 about1 = true := by decide +kernel
theorem w_applies : (headSpec (Jvm.Cond.code x code maxLocals ret :: tables_1) room_1).applies x e0.platform about1 = true :=
  (Spec.applies_iff w_frames).mpr ⟨w_running, w_runnable, w_alone, w_named, w_hears, w_ripe, w_room, w_tables⟩
theorem atStart : AtStart classFile x code maxLocals ret World_1 tables_1 room_1 Calls_1 rest_1 Pre_1 launch0 p0 e0 about1 theMethod args0 below0 :=
  ⟨lists_1, trivial, launch0.admits_env _ _ _, launch0.least_env, fairChoices_fair.cas, fairChoices_fair.clock, w_frames, w_args, w_heap, w_applies, trivial, trivial, w_case⟩
end start1
theorem witness_1 : WitnessClaimed_1 := ⟨start1.p0, start1.e0, start1.about1, start1.theMethod, start1.args0, start1.below0, start1.atStart⟩
end Jvm.Pilot.@@N@@
