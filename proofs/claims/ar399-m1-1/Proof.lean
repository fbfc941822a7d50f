import JvmDerived
import JvmDerived.Pilot.@@N@@Statement
import JvmDerived.Pilot.@@N@@Code
set_option linter.unusedVariables false
set_option linter.unusedSimpArgs false
namespace Jvm.RoadKit
open Sem ClassFile Op Lib Jvm.Stand Jvm.Free Jvm.LawKit
section New
variable {p : Program} {l : Launch} {e : Env} {R : Room} {s : State} {m : MethodId} {args : Array Value} {below : List Frame} {meth : Method} {c : Code} {T : State} {locs : List Loc} {cells slots : Nat}
theorem retI (X : Stand p l e R s m args below meth c T locs cells slots) (hx : p.tables.exec = Jvm.exec) {pc : Nat} {Ls : Array Slot} {z : Int32} {rest : List Value} (hret : meth.sig.returnType = some .int) (hd : decode c.code pc = .ok (.ireturn, 1)) {fs : List Frame}
    (hl : ∀ (f : JFrame) (acts : List Action), f.method = m → f.locked = none → f.entered = [] → (doReturn e (T.setTop f) acts (some (.int z))).1 = T.setFrames fs) : Steps p.tables e below (T.setTop (mkF m pc Ls (.int z :: rest))) (T.setFrames fs) := by
  have hm' : T.vm.method? m = some meth := X.method'
  have hn : narrow .int (.int z) = .int z := rfl
  show Steps p.tables e below (T.setTop { method := m, pc := pc, locals := Ls, stack := _ :: rest, locked := none }) _
  jvm_step X.here [X.here.top, hx, hd, hm', hret, hn]
  first | (intro acts; rw [hl _ acts rfl rfl rfl]) | rw [hl _ _ rfl rfl rfl]
  exact Steps.refl _
end New
end Jvm.RoadKit
namespace Jvm.Pilot.@@N@@
open Jvm Jvm.ClassFile Sem Op Lib Jvm.Free Jvm.Stand Jvm.LawKit Jvm.RoadKit Bundle Jvm.Pilot.@@N@@.Jvm.D
/-! the walk's own form: from the state S the run ends in a return that P speaks of -/
def own_Gl (tb : Tables) (e : Env) (below : List Frame) (P : Outcome → State → Prop) (S : State) : Prop := ∃ s₂ o, Steps tb e below S s₂ ∧ s₂.status = .running ∧ Ended s₂ below o ∧ P o s₂
def own_P (s : State) (Q : Option Value → Heap → List Loc → Prop) (C N : Nat) (o : Outcome) (u : State) : Prop := ∃ v L, o = .returned v ∧ Q v u.heap L ∧ FrameEnd s o u L C N
theorem own_back {tb : Tables} {e : Env} {below : List Frame} {P : Outcome → State → Prop} {S S' : State} (k : ∀ t, Steps tb e below S' t → Steps tb e below S t) (h : own_Gl tb e below P S') : own_Gl tb e below P S := by
  obtain ⟨s₂, o, h1, h2⟩ := h
  exact ⟨s₂, o, k _ h1, h2⟩
theorem own_trans {tb : Tables} {e : Env} {below : List Frame} {P : Outcome → State → Prop} {S S' : State} (k : Steps tb e below S S') (h : own_Gl tb e below P S') : own_Gl tb e below P S := own_back (fun _ q => k.trans q) h
theorem own_join {tb : Tables} {e : Env} {below : List Frame} {P : Outcome → State → Prop} {S : State} {α : Type} (F : α → State) (C : α → Prop) (tail : ∀ i, C i → own_Gl tb e below P (F i)) (main : (∀ i, C i → own_Gl tb e below P (F i)) → own_Gl tb e below P S) : own_Gl tb e below P S := main tail
section OwnRet
variable {p : Program} {l : Launch} {e : Env} {R : Room} {s : State} {m : MethodId} {args : Array Value} {below : List Frame} {meth : Method} {c : Code} {T : State} {locs : List Loc} {cells slots : Nat}
theorem own_start {C N : Nat} {Q : Option Value → Heap → List Loc → Prop} {g g' : JFrame} (q : g = g') (h : own_Gl p.tables e below (own_P s Q C N) (T.setTop g')) :
    ∃ s₂ o, Steps p.tables e below (T.setTop g) s₂ ∧ s₂.status = .running ∧ Ended s₂ below o ∧ ∃ v L, o = .returned v ∧ Q v s₂.heap L ∧ FrameEnd s o s₂ L C N := by
  subst q; exact h
theorem own_ret (X : Stand p l e R s m args below meth c T locs cells slots) (hlk : meth.locks = false) {v : Option Value} {C N : Nat} {Q : Option Value → Heap → List Loc → Prop} {g : JFrame} (hv : meth.sig.returnType = none → v = none) (hq : Q v T.heap locs) (hc : cells ≤ C) (hn : slots ≤ N)
    (st : ∀ fs, (∀ (f : JFrame) (acts : List Action), f.method = m → f.locked = none → f.entered = [] → (doReturn e (T.setTop f) acts v).1 = T.setFrames fs) → Steps p.tables e below (T.setTop g) (T.setFrames fs)) : own_Gl p.tables e below (own_P s Q C N) (T.setTop g) := by
  obtain ⟨fs, hr, hrun, hended, hW, hsame⟩ := X.leave (v := v) hv hlk
  exact ⟨_, _, st fs hr, hrun, hended, _, _, rfl, hq, ⟨_, rfl⟩, hW, hsame.mono hc hn⟩
theorem own_rZ (X : Stand p l e R s m args below meth c T locs cells slots) (hx : p.tables.exec = Jvm.exec) (hlk : meth.locks = false) (hret : meth.sig.returnType = some .boolean) {z z' : Int32} {C N pc : Nat} {Ls : Array Slot} {rest : List Value} {Q : Option Value → Heap → List Loc → Prop} (hd : decode c.code pc = .ok (.ireturn, 1)) (hz : z &&& 1 = z') (hq : Q (some (.int z')) T.heap locs) (hc : cells ≤ C) (hn : slots ≤ N) :
    own_Gl p.tables e below (own_P s Q C N) (T.setTop (mkF m pc Ls (.int z :: rest))) := by
  subst hz
  exact own_ret X hlk (fun h => by rw [hret] at h; cases h) hq hc hn (fun fs hr => retN X hx (t := .boolean) hret (by simp) hd hr)
theorem own_rC (X : Stand p l e R s m args below meth c T locs cells slots) (hx : p.tables.exec = Jvm.exec) (hlk : meth.locks = false) (hret : meth.sig.returnType = some .char) {z z' : Int32} {C N pc : Nat} {Ls : Array Slot} {rest : List Value} {Q : Option Value → Heap → List Loc → Prop} (hd : decode c.code pc = .ok (.ireturn, 1)) (hz : nar .char z = z') (hq : Q (some (.int z')) T.heap locs) (hc : cells ≤ C) (hn : slots ≤ N) :
    own_Gl p.tables e below (own_P s Q C N) (T.setTop (mkF m pc Ls (.int z :: rest))) := by
  subst hz
  exact own_ret X hlk (fun h => by rw [hret] at h; cases h) hq hc hn (fun fs hr => retN X hx (t := .char) hret (by simp) hd hr)
theorem own_rI (X : Stand p l e R s m args below meth c T locs cells slots) (hx : p.tables.exec = Jvm.exec) (hlk : meth.locks = false) (hret : meth.sig.returnType = some .int) {z : Int32} {C N pc : Nat} {Ls : Array Slot} {rest : List Value} {Q : Option Value → Heap → List Loc → Prop} (hd : decode c.code pc = .ok (.ireturn, 1)) (hq : Q (some (.int z)) T.heap locs) (hc : cells ≤ C) (hn : slots ≤ N) :
    own_Gl p.tables e below (own_P s Q C N) (T.setTop (mkF m pc Ls (.int z :: rest))) :=
  own_ret X hlk (fun h => by rw [hret] at h; cases h) hq hc hn (fun fs hr => retI X hx hret hd hr)
theorem own_rJ (X : Stand p l e R s m args below meth c T locs cells slots) (hx : p.tables.exec = Jvm.exec) (hlk : meth.locks = false) (hret : meth.sig.returnType = some .long) {z : Int64} {C N pc : Nat} {Ls : Array Slot} {rest : List Value} {Q : Option Value → Heap → List Loc → Prop} (hd : decode c.code pc = .ok (.lreturn, 1)) (hq : Q (some (.long z)) T.heap locs) (hc : cells ≤ C) (hn : slots ≤ N) :
    own_Gl p.tables e below (own_P s Q C N) (T.setTop (mkF m pc Ls (.long z :: rest))) :=
  own_ret X hlk (fun h => by rw [hret] at h; cases h) hq hc hn (fun fs hr => retOut X hx hret rfl (Or.inr (Or.inl ⟨rfl, rfl, _, rfl⟩)) hd hr)
theorem own_rA (X : Stand p l e R s m args below meth c T locs cells slots) (hx : p.tables.exec = Jvm.exec) (hlk : meth.locks = false) {t : FieldType} (hret : meth.sig.returnType = some t) (ht : t.isReference = true) {z : Value} (hz : z.isRef = true) (hnz : narrow t z = z) {C N pc : Nat} {Ls : Array Slot} {rest : List Value} {Q : Option Value → Heap → List Loc → Prop} (hd : decode c.code pc = .ok (.areturn, 1)) (hq : Q (some z) T.heap locs) (hc : cells ≤ C) (hn : slots ≤ N) :
    own_Gl p.tables e below (own_P s Q C N) (T.setTop (mkF m pc Ls (z :: rest))) :=
  own_ret X hlk (fun h => by rw [hret] at h; cases h) hq hc hn (fun fs hr => retOut X hx hret hnz (Or.inr (Or.inr (Or.inr (Or.inr ⟨rfl, ht, hz⟩)))) hd hr)
theorem own_rV (X : Stand p l e R s m args below meth c T locs cells slots) (hx : p.tables.exec = Jvm.exec) (hlk : meth.locks = false) (hret : meth.sig.returnType = none) {C N pc : Nat} {Ls : Array Slot} {Q : Option Value → Heap → List Loc → Prop} (hd : decode c.code pc = .ok (.return_, 1)) (hq : Q none T.heap locs) (hc : cells ≤ C) (hn : slots ≤ N) :
    own_Gl p.tables e below (own_P s Q C N) (T.setTop (mkF m pc Ls [])) :=
  own_ret X hlk (fun _ => rfl) hq hc hn (fun fs hr => X.returnOut hx hret hd hr)
end OwnRet
/-! a comparison made a number: branch over; iconst_1; goto; iconst_0 -/
theorem own_bi {tb : Tables} [Ours tb] {e : Env} {below : List Frame} {P : Outcome → State → Prop} {T : State} {m : MethodId} {c : Code} (h : At T m c below) (hx : tb.exec = Jvm.exec) {cd : ClassFile.Cond} {x y : Int32} {Ls : Array Slot} {rest : List Value} (pc pc1 pc2 pc3 pc4 : Nat)
    (d0 : decode c.code pc = .ok (.if_icmp cd 7, 3)) (d1 : decode c.code pc1 = .ok (.iconst 1, 1)) (d2 : decode c.code pc2 = .ok (.goto 4, 3)) (d3 : decode c.code pc3 = .ok (.iconst 0, 1)) (q1 : pc1 = pc + 3) (q2 : pc2 = pc + 4) (q3 : pc3 = pc + 7) (q4 : pc4 = pc + 8)
    (k : own_Gl tb e below P (T.setTop (mkF m pc4 Ls (.int (if if_icmp.holds cd x y = true then 0 else 1) :: rest)))) : own_Gl tb e below P (T.setTop (mkF m pc Ls (.int y :: .int x :: rest))) := by
  subst q1 q2 q3 q4
  cases hc : if_icmp.holds cd x y
  · rw [hc] at k
    refine own_back (fun t q => XS.icmpNo h hx rfl d0 rfl hc q) ?_
    refine own_back (fun t q => XS.iconst h hx rfl d1 q) ?_
    refine own_back (fun t q => XS.goto h hx rfl (pc0 := pc + 4) (pc' := pc + 8) rfl d2 (by omega) (by omega) q) ?_
    exact k
  · rw [hc] at k
    refine own_back (fun t q => XS.icmpYes h hx rfl (pc0 := pc) (pc' := pc + 7) rfl d0 rfl hc (by omega) (by omega) q) ?_
    refine own_back (fun t q => XS.iconst h hx rfl d3 q) ?_
    exact k
theorem own_bz {tb : Tables} [Ours tb] {e : Env} {below : List Frame} {P : Outcome → State → Prop} {T : State} {m : MethodId} {c : Code} (h : At T m c below) (hx : tb.exec = Jvm.exec) {cd : ClassFile.Cond} {x : Int32} {Ls : Array Slot} {rest : List Value} (pc pc1 pc2 pc3 pc4 : Nat)
    (d0 : decode c.code pc = .ok (.ifCond cd 7, 3)) (d1 : decode c.code pc1 = .ok (.iconst 1, 1)) (d2 : decode c.code pc2 = .ok (.goto 4, 3)) (d3 : decode c.code pc3 = .ok (.iconst 0, 1)) (q1 : pc1 = pc + 3) (q2 : pc2 = pc + 4) (q3 : pc3 = pc + 7) (q4 : pc4 = pc + 8)
    (k : own_Gl tb e below P (T.setTop (mkF m pc4 Ls (.int (if if_icmp.holds cd x 0 = true then 0 else 1) :: rest)))) : own_Gl tb e below P (T.setTop (mkF m pc Ls (.int x :: rest))) := by
  subst q1 q2 q3 q4
  cases hc : if_icmp.holds cd x 0
  · rw [hc] at k
    refine own_back (fun t q => XS.ifNo h hx rfl d0 rfl ((if0 _ _).trans hc) q) ?_
    refine own_back (fun t q => XS.iconst h hx rfl d1 q) ?_
    refine own_back (fun t q => XS.goto h hx rfl (pc0 := pc + 4) (pc' := pc + 8) rfl d2 (by omega) (by omega) q) ?_
    exact k
  · rw [hc] at k
    refine own_back (fun t q => XS.ifYes h hx rfl (pc0 := pc) (pc' := pc + 7) rfl d0 rfl ((if0 _ _).trans hc) (by omega) (by omega) q) ?_
    refine own_back (fun t q => XS.iconst h hx rfl d3 q) ?_
    exact k
theorem own_one {z : Int32} (h : z = 1) : z &&& 1 = 1 := by subst h; decide
theorem own_zero {z : Int32} (h : z = 0) : z &&& 1 = 0 := by subst h; decide
def own_D (Z : State) (h : Heap) (dq es : Addr) (k : ClassId) (vs : List Addr) : Prop := Exa Z h dq "java/util/ArrayDeque" ∧ Fld Z h dq "java/util/ArrayDeque" "elements" "[Ljava/lang/Object;" (.ref es) ∧ Fld Z h dq "java/util/ArrayDeque" "head" "I" (.int 0) ∧ Fld Z h dq "java/util/ArrayDeque" "tail" "I" (.int (Int32.ofNat vs.length)) ∧ Ovr Z k "java/lang/Object" ∧ Arv Z h es k (.object "java/lang/Object") (17 : Int32) (vs.map Value.ref) .null ∧ (∀ x ∈ vs, Exa Z h x "[B") ∧ vs.length ≤ 3
def own_W (Z : State) (h : Heap) (pl dq es : Addr) (k : ClassId) (bn m : Int32) (vs : List Addr) : Prop := Exa Z h pl "com/example/thermopylae/thermopylae/http/BufferPool" ∧ Fld Z h pl "com/example/thermopylae/thermopylae/http/BufferPool" "kept" "Ljava/util/ArrayDeque;" (.ref dq) ∧ Fld Z h pl "com/example/thermopylae/thermopylae/http/BufferPool" "bytes" "I" (.int bn) ∧ Fld Z h pl "com/example/thermopylae/thermopylae/http/BufferPool" "most" "I" (.int m) ∧ own_D Z h dq es k vs
theorem own_D.keep {Z : State} {h h' : Heap} {dq es : Addr} {k : ClassId} {vs : List Addr} {ws : List Addr} (D : own_D Z h dq es k vs) (K : Keep h h' ws) (q1 : dq ∉ ws) (q2 : es ∉ ws) : own_D Z h' dq es k vs := by
  obtain ⟨d1, d2, d3, d4, d5, d6, d7, d8⟩ := D
  exact ⟨d1.keep K, d2.keep K q1, d3.keep K q1, d4.keep K q1, d5, d6.keep K q2, fun x hx => (d7 x hx).keep K, d8⟩
theorem own_W.keep {Z : State} {h h' : Heap} {pl dq es : Addr} {k : ClassId} {bn m : Int32} {vs : List Addr} {ws : List Addr} (D : own_W Z h pl dq es k bn m vs) (K : Keep h h' ws) (q0 : pl ∉ ws) (q1 : dq ∉ ws) (q2 : es ∉ ws) : own_W Z h' pl dq es k bn m vs := by
  obtain ⟨d1, d2, d3, d4, d5⟩ := D
  exact ⟨d1.keep K, d2.keep K q0, d3.keep K q0, d4.keep K q0, d5.keep K q1 q2⟩
theorem own_keepE {h h' : Heap} (E : Ext h h') : Keep h h' [] := (Keep.refl h []).ext E
theorem own_keepM {h0 h : Heap} {ws : List Addr} (K : Keep h0 h []) : Keep h0 h ws := ⟨K.1, fun x c q _ => K.2.1 x c q nin0, K.2.2⟩
theorem own_keepN {h0 h h' : Heap} {ws : List Addr} (K : Keep h0 h ws) (K' : Keep h h' []) : Keep h0 h' ws := K.trans K' (fun x hx => nomatch hx)
theorem own_nat {i : Nat} (h : i < 2147483648) : ¬ (Int32.ofNat i) < 0 ∧ (Int32.ofNat i).toNatClampNeg = i ∧ (Int32.ofNat i).toInt = i := by
  have e : (Int32.ofNat i).toInt = i := Int32.toInt_ofNat_small h
  refine ⟨?_, ?_, e⟩
  · rw [Int32.lt_iff_toInt_lt, e]; have : (0 : Int32).toInt = 0 := by decide
    omega
  · show (Int32.ofNat i).toInt.toNat = i
    omega
theorem own_addn {i : Nat} (h : i + 1 < 2147483648) : (Int32.ofNat i) + (1 : Int32) = Int32.ofNat (i + 1) := by
  have e := c_iadd (Int32.ofNat i) 1
  have r := rng32 ((Int32.ofNat i) + 1)
  have q := (own_nat h).2.2
  have q2 := (own_nat (i := i) (by omega)).2.2
  have z1 : (1 : Int32).toInt = 1 := by decide
  rw [q2, z1] at e
  exact Int32.toInt_inj.mp (by rw [q]; omega)
theorem own_decn {i : Nat} (h : i + 1 < 2147483648) : (Int32.ofNat (i + 1)) + (-1 : Int32) = Int32.ofNat i := by
  have e := c_iadd (Int32.ofNat (i + 1)) (-1)
  have r := rng32 ((Int32.ofNat (i + 1)) + (-1))
  have q := (own_nat h).2.2
  have q2 := (own_nat (i := i) (by omega)).2.2
  have z1 : (-1 : Int32).toInt = -1 := by decide
  rw [q, z1] at e
  exact Int32.toInt_inj.mp (by rw [q2]; omega)
theorem own_lset : ∀ (l : List Value) (a b : Value), (l ++ [a]).set l.length b = l ++ [b]
  | [], _, _ => rfl
  | x :: l, a, b => congrArg (x :: ·) (own_lset l a b)
theorem own_lget : ∀ (l : List Value) (a d : Value), (l ++ [a]).getD l.length d = a
  | [], _, _ => rfl
  | x :: l, a, d => own_lget l a d
theorem own_ne {Z : State} {h : Heap} {dq es : Addr} {k : ClassId} {vs : List Addr} {a0 : Array Value} {kk : Nat} (wi : (Cond.instantiable "java/util/ArrayDeque" kk).before a0 Z = true) (D : own_D Z h dq es k vs) : dq ≠ es := by
  obtain ⟨d1, -, -, -, -, ⟨c, A, -⟩, -⟩ := D
  exact ne_arr d1 wi A
theorem own_neP {Z : State} {h : Heap} {pl dq es : Addr} {k : ClassId} {bn m : Int32} {vs : List Addr} {a0 : Array Value} {kk : Nat} (wi : (Cond.instantiable "com/example/thermopylae/thermopylae/http/BufferPool" kk).before a0 Z = true) (D : own_W Z h pl dq es k bn m vs) : pl ≠ dq ∧ pl ≠ es ∧ pl < h.size ∧ dq < h.size ∧ es < h.size := by
  obtain ⟨d1, -, -, -, e1, -, -, -, -, ⟨c, A, -⟩, -⟩ := D
  exact ⟨ne_exa d1 e1 (by decide), ne_arr d1 wi A, d1.lt, e1.lt, A.lt⟩
theorem d10_0 : decode jdk_29_method_69_code 0 = .ok (.iload_n 0, 1) := by decide +kernel
theorem d10_1 : decode jdk_29_method_69_code 1 = .ok (.iload_n 1, 1) := by decide +kernel
theorem d10_2 : decode jdk_29_method_69_code 2 = .ok (.if_icmp .gt 7, 3) := by decide +kernel
theorem d10_5 : decode jdk_29_method_69_code 5 = .ok (.iload_n 0, 1) := by decide +kernel
theorem d10_6 : decode jdk_29_method_69_code 6 = .ok (.goto 4, 3) := by decide +kernel
theorem d10_9 : decode jdk_29_method_69_code 9 = .ok (.iload_n 1, 1) := by decide +kernel
theorem d10_10 : decode jdk_29_method_69_code 10 = .ok (.ireturn, 1) := by decide +kernel
theorem pn_10 : plainFor (⟨"java/lang/Math", "min", "(II)I"⟩ : MethodName) = true := Jvm.Free.JP.mathPlain rfl (by decide +kernel)
def Qrm10 (p1 p2 : Int32) (h0 : Heap) (n0 : Nat) (v : Option Value) (h : Heap) (L : List Loc) : Prop := v = some (.int (if p2 < p1 then p2 else p1)) ∧ Fr n0 L ∧ h = h0
set_option maxRecDepth 65536 in
set_option maxHeartbeats 40000000 in
theorem rm10 (l : Launch) (Z : State) (a0 : Array Value) (hw : ∀ d ∈ tables_1, d.before a0 Z = true) (ws : List Jvm.Cond) (p1 : Int32) (p2 : Int32) (h0 : Heap) (n0 : Nat) (Z0 : n0 ≤ h0.size)  :
    MetFree l (⟨"java/lang/Math", "min", "(II)I"⟩ : MethodName) (head1 (Jvm.Cond.code (⟨"java/lang/Math", "min", "(II)I"⟩ : MethodName) jdk_29_method_69_code 2 (some .int) :: ws) ({ frames := 0, cells := 0, slots := 0, locals := 0 } : Room)) (fun a_ U_ => a_ = #[(.int p1), (.int p2)] ∧ Z.Warmed39 U_.vm ∧ U_.heap = h0) (fun _ _ _ _ _ => True) (fun _ U_ o_ U'_ => ∃ v_ L_, o_ = .returned v_ ∧ (Qrm10 p1 p2 h0 n0) v_ U'_.heap L_ ∧ FrameEnd U_ o_ U'_ L_ 0 0) := by
  refine MetFree.of_bodySF pn_10 hisR ?_
  intro p e s m args below meth c s₁ Bd hml0 hP hK
  obtain ⟨rfl, hZ, hh⟩ := hP
  have hx := Bd.exec
  have hby := Bd.bytes
  have hlk : meth.locks = false := Bd.notSynchronized
  have hml : c.maxLocals = 2 := hml0
  have hown : s.vm.findClass "java/lang/Math" = some m.cls := findClass_of_methodNamed Bd.named
  have hnm := (name_of_methodNamed Bd.named Bd.method).1
  have X0 : Stand p l e ({ frames := 0, cells := 0, slots := 0, locals := 0 } : Room) s m #[(.int p1), (.int p2)] below meth c s₁ [] 0 0 := Stand.of_body Bd
  have e0 : s₁.heap = h0 := by rw [← hh, Bd.state]; rfl
  have N0 := Fr.nil n0
  refine own_start (Q := Qrm10 p1 p2 h0 n0) (g' := (mkF m 0 #[.val (.int p1), .val (.int p2)] [])) (by first | (simp [entryFrame, mkF, argsToLocals, Value.category]; done) | rfl) ?_
  show own_Gl _ _ _ _ (s₁.setTop (mkF m 0 #[.val (.int p1), .val (.int p2)] []))
  refine own_back (fun t_ q_ => XS.iloadN X0.here hx rfl (hb hby d10_0) rfl q_) ?_
  show own_Gl _ _ _ _ (s₁.setTop (mkF m 1 #[.val (.int p1), .val (.int p2)] [(.int p1)]))
  refine own_back (fun t_ q_ => XS.iloadN X0.here hx rfl (hb hby d10_1) rfl q_) ?_
  show own_Gl _ _ _ _ (s₁.setTop (mkF m 2 #[.val (.int p1), .val (.int p2)] [(.int p2), (.int p1)]))
  by_cases hc : p2 < p1
  · skip
    refine own_back (fun t_ q_ => XS.icmpYes X0.here hx rfl (pc0 := 2) (pc' := 9) rfl (hb hby d10_2) rfl (tlt (hc : p2 < p1)).2.2.1 (by decide) (by decide) q_) ?_
    show own_Gl _ _ _ _ (s₁.setTop (mkF m 9 #[.val (.int p1), .val (.int p2)] []))
    refine own_back (fun t_ q_ => XS.iloadN X0.here hx rfl (hb hby d10_9) rfl q_) ?_
    show own_Gl _ _ _ _ (s₁.setTop (mkF m 10 #[.val (.int p1), .val (.int p2)] [(.int p2)]))
    exact own_rI X0 hx hlk Bd.returns (hb hby d10_10) (by show Qrm10 p1 p2 h0 n0 _ s₁.heap _; rw [e0]; exact ⟨by rw [if_pos hc], N0, rfl⟩) (by decide) (by decide)
  · skip
    refine own_back (fun t_ q_ => XS.icmpNo X0.here hx rfl (hb hby d10_2) rfl (flt (hc : ¬ (p2 < p1))).2.2.1 q_) ?_
    show own_Gl _ _ _ _ (s₁.setTop (mkF m 5 #[.val (.int p1), .val (.int p2)] []))
    refine own_back (fun t_ q_ => XS.iloadN X0.here hx rfl (hb hby d10_5) rfl q_) ?_
    show own_Gl _ _ _ _ (s₁.setTop (mkF m 6 #[.val (.int p1), .val (.int p2)] [(.int p1)]))
    refine own_back (fun t_ q_ => XS.goto X0.here hx rfl (pc0 := 6) (pc' := 10) rfl (hb hby d10_6) (by decide) (by decide) q_) ?_
    show own_Gl _ _ _ _ (s₁.setTop (mkF m 10 #[.val (.int p1), .val (.int p2)] [(.int p1)]))
    exact own_rI X0 hx hlk Bd.returns (hb hby d10_10) (by show Qrm10 p1 p2 h0 n0 _ s₁.heap _; rw [e0]; exact ⟨by rw [if_neg hc], N0, rfl⟩) (by decide) (by decide)
theorem d7_0 : decode jdk_21_method_9_code 0 = .ok (.iload_n 0, 1) := by decide +kernel
theorem d7_1 : decode jdk_21_method_9_code 1 = .ok (.iload_n 1, 1) := by decide +kernel
theorem d7_2 : decode jdk_21_method_9_code 2 = .ok (.isub, 1) := by decide +kernel
theorem d7_3 : decode jdk_21_method_9_code 3 = .ok (.dup, 1) := by decide +kernel
theorem d7_4 : decode jdk_21_method_9_code 4 = .ok (.istore_n 0, 1) := by decide +kernel
theorem d7_5 : decode jdk_21_method_9_code 5 = .ok (.ifCond .ge 7, 3) := by decide +kernel
theorem d7_8 : decode jdk_21_method_9_code 8 = .ok (.iload_n 0, 1) := by decide +kernel
theorem d7_9 : decode jdk_21_method_9_code 9 = .ok (.iload_n 2, 1) := by decide +kernel
theorem d7_10 : decode jdk_21_method_9_code 10 = .ok (.iadd, 1) := by decide +kernel
theorem d7_11 : decode jdk_21_method_9_code 11 = .ok (.istore_n 0, 1) := by decide +kernel
theorem d7_12 : decode jdk_21_method_9_code 12 = .ok (.iload_n 0, 1) := by decide +kernel
theorem d7_13 : decode jdk_21_method_9_code 13 = .ok (.ireturn, 1) := by decide +kernel
theorem pn_7 : plainFor (⟨"java/util/ArrayDeque", "sub", "(III)I"⟩ : MethodName) = true := plainFor_of_name (by first | (simp [plainName, overriddenIn]; done) | decide +kernel)
def Qrm7 (p1 p2 : Int32) (h0 : Heap) (n0 : Nat) (v : Option Value) (h : Heap) (L : List Loc) : Prop := v = some (.int (p1 - p2)) ∧ Fr n0 L ∧ h = h0
set_option maxRecDepth 65536 in
set_option maxHeartbeats 40000000 in
theorem rm7 (l : Launch) (Z : State) (a0 : Array Value) (hw : ∀ d ∈ tables_1, d.before a0 Z = true) (ws : List Jvm.Cond) (p1 : Int32) (p2 : Int32) (p3 : Int32) (h0 : Heap) (n0 : Nat) (Z0 : n0 ≤ h0.size) (h1 : ¬ ((p1 - p2) < (0 : Int32))) :
    MetFree l (⟨"java/util/ArrayDeque", "sub", "(III)I"⟩ : MethodName) (head1 (Jvm.Cond.code (⟨"java/util/ArrayDeque", "sub", "(III)I"⟩ : MethodName) jdk_21_method_9_code 3 (some .int) :: ws) ({ frames := 0, cells := 0, slots := 0, locals := 0 } : Room)) (fun a_ U_ => a_ = #[(.int p1), (.int p2), (.int p3)] ∧ Z.Warmed39 U_.vm ∧ U_.heap = h0) (fun _ _ _ _ _ => True) (fun _ U_ o_ U'_ => ∃ v_ L_, o_ = .returned v_ ∧ (Qrm7 p1 p2 h0 n0) v_ U'_.heap L_ ∧ FrameEnd U_ o_ U'_ L_ 0 0) := by
  refine MetFree.of_bodySF pn_7 hisR ?_
  intro p e s m args below meth c s₁ Bd hml0 hP hK
  obtain ⟨rfl, hZ, hh⟩ := hP
  have hx := Bd.exec
  have hby := Bd.bytes
  have hlk : meth.locks = false := Bd.notSynchronized
  have hml : c.maxLocals = 3 := hml0
  have hown : s.vm.findClass "java/util/ArrayDeque" = some m.cls := findClass_of_methodNamed Bd.named
  have hnm := (name_of_methodNamed Bd.named Bd.method).1
  have X0 : Stand p l e ({ frames := 0, cells := 0, slots := 0, locals := 0 } : Room) s m #[(.int p1), (.int p2), (.int p3)] below meth c s₁ [] 0 0 := Stand.of_body Bd
  have e0 : s₁.heap = h0 := by rw [← hh, Bd.state]; rfl
  have N0 := Fr.nil n0
  refine own_start (Q := Qrm7 p1 p2 h0 n0) (g' := (mkF m 0 #[.val (.int p1), .val (.int p2), .val (.int p3)] [])) (by first | (simp [entryFrame, mkF, argsToLocals, Value.category]; done) | rfl) ?_
  show own_Gl _ _ _ _ (s₁.setTop (mkF m 0 #[.val (.int p1), .val (.int p2), .val (.int p3)] []))
  refine own_back (fun t_ q_ => XS.iloadN X0.here hx rfl (hb hby d7_0) rfl q_) ?_
  show own_Gl _ _ _ _ (s₁.setTop (mkF m 1 #[.val (.int p1), .val (.int p2), .val (.int p3)] [(.int p1)]))
  refine own_back (fun t_ q_ => XS.iloadN X0.here hx rfl (hb hby d7_1) rfl q_) ?_
  show own_Gl _ _ _ _ (s₁.setTop (mkF m 2 #[.val (.int p1), .val (.int p2), .val (.int p3)] [(.int p2), (.int p1)]))
  refine own_back (fun t_ q_ => XS.isub X0.here hx rfl (hb hby d7_2) rfl q_) ?_
  show own_Gl _ _ _ _ (s₁.setTop (mkF m 3 #[.val (.int p1), .val (.int p2), .val (.int p3)] [(.int (p1 - p2))]))
  refine own_back (fun t_ q_ => XS.dup X0.here hx rfl (hb hby d7_3) rfl rfl q_) ?_
  show own_Gl _ _ _ _ (s₁.setTop (mkF m 4 #[.val (.int p1), .val (.int p2), .val (.int p3)] [(.int (p1 - p2)), (.int (p1 - p2))]))
  refine own_back (fun t_ q_ => XS.istoreN X0.here hx rfl (hb hby d7_4) rfl (l' := #[.val (.int (p1 - p2)), .val (.int p2), .val (.int p3)]) rfl q_) ?_
  show own_Gl _ _ _ _ (s₁.setTop (mkF m 5 #[.val (.int (p1 - p2)), .val (.int p2), .val (.int p3)] [(.int (p1 - p2))]))
  refine own_back (fun t_ q_ => XS.ifYes X0.here hx rfl (pc0 := 5) (pc' := 12) rfl (hb hby d7_5) rfl ((if0 _ _).trans (flt (h1 : ¬ ((p1 - p2) < (0 : Int32)))).2.1) (by decide) (by decide) q_) ?_
  show own_Gl _ _ _ _ (s₁.setTop (mkF m 12 #[.val (.int (p1 - p2)), .val (.int p2), .val (.int p3)] []))
  refine own_back (fun t_ q_ => XS.iloadN X0.here hx rfl (hb hby d7_12) rfl q_) ?_
  show own_Gl _ _ _ _ (s₁.setTop (mkF m 13 #[.val (.int (p1 - p2)), .val (.int p2), .val (.int p3)] [(.int (p1 - p2))]))
  exact own_rI X0 hx hlk Bd.returns (hb hby d7_13) (by show Qrm7 p1 p2 h0 n0 _ s₁.heap _; rw [e0]; exact ⟨rfl, N0, rfl⟩) (by decide) (by decide)
theorem d9_0 : decode jdk_21_method_6_code 0 = .ok (.iinc 0 1, 3) := by decide +kernel
theorem d9_3 : decode jdk_21_method_6_code 3 = .ok (.iload_n 0, 1) := by decide +kernel
theorem d9_4 : decode jdk_21_method_6_code 4 = .ok (.iload_n 1, 1) := by decide +kernel
theorem d9_5 : decode jdk_21_method_6_code 5 = .ok (.if_icmp .lt 5, 3) := by decide +kernel
theorem d9_8 : decode jdk_21_method_6_code 8 = .ok (.iconst 0, 1) := by decide +kernel
theorem d9_9 : decode jdk_21_method_6_code 9 = .ok (.istore_n 0, 1) := by decide +kernel
theorem d9_10 : decode jdk_21_method_6_code 10 = .ok (.iload_n 0, 1) := by decide +kernel
theorem d9_11 : decode jdk_21_method_6_code 11 = .ok (.ireturn, 1) := by decide +kernel
theorem pn_9 : plainFor (⟨"java/util/ArrayDeque", "inc", "(II)I"⟩ : MethodName) = true := plainFor_of_name (by first | (simp [plainName, overriddenIn]; done) | decide +kernel)
def Qrm9 (p1 p2 : Int32) (h0 : Heap) (n0 : Nat) (v : Option Value) (h : Heap) (L : List Loc) : Prop := v = some (.int (p1 + 1)) ∧ Fr n0 L ∧ h = h0
set_option maxRecDepth 65536 in
set_option maxHeartbeats 40000000 in
theorem rm9 (l : Launch) (Z : State) (a0 : Array Value) (hw : ∀ d ∈ tables_1, d.before a0 Z = true) (ws : List Jvm.Cond) (p1 : Int32) (p2 : Int32) (h0 : Heap) (n0 : Nat) (Z0 : n0 ≤ h0.size) (h1 : (p1 + (1 : Int32)) < p2) :
    MetFree l (⟨"java/util/ArrayDeque", "inc", "(II)I"⟩ : MethodName) (head1 (Jvm.Cond.code (⟨"java/util/ArrayDeque", "inc", "(II)I"⟩ : MethodName) jdk_21_method_6_code 2 (some .int) :: ws) ({ frames := 0, cells := 0, slots := 0, locals := 0 } : Room)) (fun a_ U_ => a_ = #[(.int p1), (.int p2)] ∧ Z.Warmed39 U_.vm ∧ U_.heap = h0) (fun _ _ _ _ _ => True) (fun _ U_ o_ U'_ => ∃ v_ L_, o_ = .returned v_ ∧ (Qrm9 p1 p2 h0 n0) v_ U'_.heap L_ ∧ FrameEnd U_ o_ U'_ L_ 0 0) := by
  refine MetFree.of_bodySF pn_9 hisR ?_
  intro p e s m args below meth c s₁ Bd hml0 hP hK
  obtain ⟨rfl, hZ, hh⟩ := hP
  have hx := Bd.exec
  have hby := Bd.bytes
  have hlk : meth.locks = false := Bd.notSynchronized
  have hml : c.maxLocals = 2 := hml0
  have hown : s.vm.findClass "java/util/ArrayDeque" = some m.cls := findClass_of_methodNamed Bd.named
  have hnm := (name_of_methodNamed Bd.named Bd.method).1
  have X0 : Stand p l e ({ frames := 0, cells := 0, slots := 0, locals := 0 } : Room) s m #[(.int p1), (.int p2)] below meth c s₁ [] 0 0 := Stand.of_body Bd
  have e0 : s₁.heap = h0 := by rw [← hh, Bd.state]; rfl
  have N0 := Fr.nil n0
  refine own_start (Q := Qrm9 p1 p2 h0 n0) (g' := (mkF m 0 #[.val (.int p1), .val (.int p2)] [])) (by first | (simp [entryFrame, mkF, argsToLocals, Value.category]; done) | rfl) ?_
  show own_Gl _ _ _ _ (s₁.setTop (mkF m 0 #[.val (.int p1), .val (.int p2)] []))
  refine own_back (fun t_ q_ => XS.iinc X0.here hx rfl (hb hby d9_0) rfl (l' := #[.val (.int (p1 + (1 : Int32))), .val (.int p2)]) rfl q_) ?_
  show own_Gl _ _ _ _ (s₁.setTop (mkF m 3 #[.val (.int (p1 + (1 : Int32))), .val (.int p2)] []))
  refine own_back (fun t_ q_ => XS.iloadN X0.here hx rfl (hb hby d9_3) rfl q_) ?_
  show own_Gl _ _ _ _ (s₁.setTop (mkF m 4 #[.val (.int (p1 + (1 : Int32))), .val (.int p2)] [(.int (p1 + (1 : Int32)))]))
  refine own_back (fun t_ q_ => XS.iloadN X0.here hx rfl (hb hby d9_4) rfl q_) ?_
  show own_Gl _ _ _ _ (s₁.setTop (mkF m 5 #[.val (.int (p1 + (1 : Int32))), .val (.int p2)] [(.int p2), (.int (p1 + (1 : Int32)))]))
  refine own_back (fun t_ q_ => XS.icmpYes X0.here hx rfl (pc0 := 5) (pc' := 10) rfl (hb hby d9_5) rfl (tlt (h1 : (p1 + (1 : Int32)) < p2)).1 (by decide) (by decide) q_) ?_
  show own_Gl _ _ _ _ (s₁.setTop (mkF m 10 #[.val (.int (p1 + (1 : Int32))), .val (.int p2)] []))
  refine own_back (fun t_ q_ => XS.iloadN X0.here hx rfl (hb hby d9_10) rfl q_) ?_
  show own_Gl _ _ _ _ (s₁.setTop (mkF m 11 #[.val (.int (p1 + (1 : Int32))), .val (.int p2)] [(.int (p1 + (1 : Int32)))]))
  exact own_rI X0 hx hlk Bd.returns (hb hby d9_11) (by show Qrm9 p1 p2 h0 n0 _ s₁.heap _; rw [e0]; exact ⟨rfl, N0, rfl⟩) (by decide) (by decide)
theorem d13_0 : decode jdk_21_method_7_code 0 = .ok (.iinc 0 (-1), 3) := by decide +kernel
theorem d13_3 : decode jdk_21_method_7_code 3 = .ok (.iload_n 0, 1) := by decide +kernel
theorem d13_4 : decode jdk_21_method_7_code 4 = .ok (.ifCond .ge 7, 3) := by decide +kernel
theorem d13_7 : decode jdk_21_method_7_code 7 = .ok (.iload_n 1, 1) := by decide +kernel
theorem d13_8 : decode jdk_21_method_7_code 8 = .ok (.iconst 1, 1) := by decide +kernel
theorem d13_9 : decode jdk_21_method_7_code 9 = .ok (.isub, 1) := by decide +kernel
theorem d13_10 : decode jdk_21_method_7_code 10 = .ok (.istore_n 0, 1) := by decide +kernel
theorem d13_11 : decode jdk_21_method_7_code 11 = .ok (.iload_n 0, 1) := by decide +kernel
theorem d13_12 : decode jdk_21_method_7_code 12 = .ok (.ireturn, 1) := by decide +kernel
theorem pn_13 : plainFor (⟨"java/util/ArrayDeque", "dec", "(II)I"⟩ : MethodName) = true := plainFor_of_name (by first | (simp [plainName, overriddenIn]; done) | decide +kernel)
def Qrm13 (p1 p2 : Int32) (h0 : Heap) (n0 : Nat) (v : Option Value) (h : Heap) (L : List Loc) : Prop := v = some (.int (if (p1 + (-1 : Int32)) < (0 : Int32) then p2 - 1 else p1 + (-1 : Int32))) ∧ Fr n0 L ∧ h = h0
set_option maxRecDepth 65536 in
set_option maxHeartbeats 40000000 in
theorem rm13 (l : Launch) (Z : State) (a0 : Array Value) (hw : ∀ d ∈ tables_1, d.before a0 Z = true) (ws : List Jvm.Cond) (p1 : Int32) (p2 : Int32) (h0 : Heap) (n0 : Nat) (Z0 : n0 ≤ h0.size)  :
    MetFree l (⟨"java/util/ArrayDeque", "dec", "(II)I"⟩ : MethodName) (head1 (Jvm.Cond.code (⟨"java/util/ArrayDeque", "dec", "(II)I"⟩ : MethodName) jdk_21_method_7_code 2 (some .int) :: ws) ({ frames := 0, cells := 0, slots := 0, locals := 0 } : Room)) (fun a_ U_ => a_ = #[(.int p1), (.int p2)] ∧ Z.Warmed39 U_.vm ∧ U_.heap = h0) (fun _ _ _ _ _ => True) (fun _ U_ o_ U'_ => ∃ v_ L_, o_ = .returned v_ ∧ (Qrm13 p1 p2 h0 n0) v_ U'_.heap L_ ∧ FrameEnd U_ o_ U'_ L_ 0 0) := by
  refine MetFree.of_bodySF pn_13 hisR ?_
  intro p e s m args below meth c s₁ Bd hml0 hP hK
  obtain ⟨rfl, hZ, hh⟩ := hP
  have hx := Bd.exec
  have hby := Bd.bytes
  have hlk : meth.locks = false := Bd.notSynchronized
  have hml : c.maxLocals = 2 := hml0
  have hown : s.vm.findClass "java/util/ArrayDeque" = some m.cls := findClass_of_methodNamed Bd.named
  have hnm := (name_of_methodNamed Bd.named Bd.method).1
  have X0 : Stand p l e ({ frames := 0, cells := 0, slots := 0, locals := 0 } : Room) s m #[(.int p1), (.int p2)] below meth c s₁ [] 0 0 := Stand.of_body Bd
  have e0 : s₁.heap = h0 := by rw [← hh, Bd.state]; rfl
  have N0 := Fr.nil n0
  refine own_start (Q := Qrm13 p1 p2 h0 n0) (g' := (mkF m 0 #[.val (.int p1), .val (.int p2)] [])) (by first | (simp [entryFrame, mkF, argsToLocals, Value.category]; done) | rfl) ?_
  show own_Gl _ _ _ _ (s₁.setTop (mkF m 0 #[.val (.int p1), .val (.int p2)] []))
  refine own_back (fun t_ q_ => XS.iinc X0.here hx rfl (hb hby d13_0) rfl (l' := #[.val (.int (p1 + (-1 : Int32))), .val (.int p2)]) rfl q_) ?_
  show own_Gl _ _ _ _ (s₁.setTop (mkF m 3 #[.val (.int (p1 + (-1 : Int32))), .val (.int p2)] []))
  refine own_back (fun t_ q_ => XS.iloadN X0.here hx rfl (hb hby d13_3) rfl q_) ?_
  show own_Gl _ _ _ _ (s₁.setTop (mkF m 4 #[.val (.int (p1 + (-1 : Int32))), .val (.int p2)] [(.int (p1 + (-1 : Int32)))]))
  by_cases hc : (p1 + (-1 : Int32)) < (0 : Int32)
  · skip
    refine own_back (fun t_ q_ => XS.ifNo X0.here hx rfl (hb hby d13_4) rfl ((if0 _ _).trans (tlt (hc : (p1 + (-1 : Int32)) < (0 : Int32))).2.1) q_) ?_
    show own_Gl _ _ _ _ (s₁.setTop (mkF m 7 #[.val (.int (p1 + (-1 : Int32))), .val (.int p2)] []))
    refine own_back (fun t_ q_ => XS.iloadN X0.here hx rfl (hb hby d13_7) rfl q_) ?_
    show own_Gl _ _ _ _ (s₁.setTop (mkF m 8 #[.val (.int (p1 + (-1 : Int32))), .val (.int p2)] [(.int p2)]))
    refine own_back (fun t_ q_ => XS.iconst X0.here hx rfl (hb hby d13_8) q_) ?_
    show own_Gl _ _ _ _ (s₁.setTop (mkF m 9 #[.val (.int (p1 + (-1 : Int32))), .val (.int p2)] [(.int (1 : Int32)), (.int p2)]))
    refine own_back (fun t_ q_ => XS.isub X0.here hx rfl (hb hby d13_9) rfl q_) ?_
    show own_Gl _ _ _ _ (s₁.setTop (mkF m 10 #[.val (.int (p1 + (-1 : Int32))), .val (.int p2)] [(.int (p2 - (1 : Int32)))]))
    refine own_back (fun t_ q_ => XS.istoreN X0.here hx rfl (hb hby d13_10) rfl (l' := #[.val (.int (p2 - (1 : Int32))), .val (.int p2)]) rfl q_) ?_
    show own_Gl _ _ _ _ (s₁.setTop (mkF m 11 #[.val (.int (p2 - (1 : Int32))), .val (.int p2)] []))
    refine own_back (fun t_ q_ => XS.iloadN X0.here hx rfl (hb hby d13_11) rfl q_) ?_
    show own_Gl _ _ _ _ (s₁.setTop (mkF m 12 #[.val (.int (p2 - (1 : Int32))), .val (.int p2)] [(.int (p2 - (1 : Int32)))]))
    exact own_rI X0 hx hlk Bd.returns (hb hby d13_12) (by show Qrm13 p1 p2 h0 n0 _ s₁.heap _; rw [e0]; exact ⟨by rw [if_pos hc], N0, rfl⟩) (by decide) (by decide)
  · skip
    refine own_back (fun t_ q_ => XS.ifYes X0.here hx rfl (pc0 := 4) (pc' := 11) rfl (hb hby d13_4) rfl ((if0 _ _).trans (flt (hc : ¬ ((p1 + (-1 : Int32)) < (0 : Int32)))).2.1) (by decide) (by decide) q_) ?_
    show own_Gl _ _ _ _ (s₁.setTop (mkF m 11 #[.val (.int (p1 + (-1 : Int32))), .val (.int p2)] []))
    refine own_back (fun t_ q_ => XS.iloadN X0.here hx rfl (hb hby d13_11) rfl q_) ?_
    show own_Gl _ _ _ _ (s₁.setTop (mkF m 12 #[.val (.int (p1 + (-1 : Int32))), .val (.int p2)] [(.int (p1 + (-1 : Int32)))]))
    exact own_rI X0 hx hlk Bd.returns (hb hby d13_12) (by show Qrm13 p1 p2 h0 n0 _ s₁.heap _; rw [e0]; exact ⟨by rw [if_neg hc], N0, rfl⟩) (by decide) (by decide)
theorem d14_0 : decode jdk_21_method_10_code 0 = .ok (.aload_n 0, 1) := by decide +kernel
theorem d14_1 : decode jdk_21_method_10_code 1 = .ok (.iload_n 1, 1) := by decide +kernel
theorem d14_2 : decode jdk_21_method_10_code 2 = .ok (.aaload, 1) := by decide +kernel
theorem d14_3 : decode jdk_21_method_10_code 3 = .ok (.areturn, 1) := by decide +kernel
theorem pn_14 : plainFor (⟨"java/util/ArrayDeque", "elementAt", "([Ljava/lang/Object;I)Ljava/lang/Object;"⟩ : MethodName) = true := plainFor_of_name (by first | (simp [plainName, overriddenIn]; done) | decide +kernel)
def Qrm14 (u : Value) (h0 : Heap) (n0 : Nat) (v : Option Value) (h : Heap) (L : List Loc) : Prop := v = some u ∧ Fr n0 L ∧ h = h0
set_option maxRecDepth 65536 in
set_option maxHeartbeats 40000000 in
theorem rm14 (l : Launch) (Z : State) (a0 : Array Value) (hw : ∀ d ∈ tables_1, d.before a0 Z = true) (ws : List Jvm.Cond) (a1 : Addr) (p2 : Int32) (h0 : Heap) (n0 : Nat) (Z0 : n0 ≤ h0.size) (cl : Cell) (u : Value) (hu : u.isRef = true) (A : Arr Z h0 a1 cl (.object "java/lang/Object")) (hin : ¬ (p2 < 0 ∨ cl.slots.size ≤ p2.toNatClampNeg)) (hat : cl.slots[p2.toNatClampNeg]? = some u) :
    MetFree l (⟨"java/util/ArrayDeque", "elementAt", "([Ljava/lang/Object;I)Ljava/lang/Object;"⟩ : MethodName) (head1 (Jvm.Cond.code (⟨"java/util/ArrayDeque", "elementAt", "([Ljava/lang/Object;I)Ljava/lang/Object;"⟩ : MethodName) jdk_21_method_10_code 2 (some (.object "java/lang/Object")) :: ws) ({ frames := 0, cells := 0, slots := 0, locals := 0 } : Room)) (fun a_ U_ => a_ = #[(.ref a1), (.int p2)] ∧ Z.Warmed39 U_.vm ∧ U_.heap = h0) (fun _ _ _ _ _ => True) (fun _ U_ o_ U'_ => ∃ v_ L_, o_ = .returned v_ ∧ (Qrm14 u h0 n0) v_ U'_.heap L_ ∧ FrameEnd U_ o_ U'_ L_ 0 0) := by
  refine MetFree.of_bodySF pn_14 hisR ?_
  intro p e s m args below meth c s₁ Bd hml0 hP hK
  obtain ⟨rfl, hZ, hh⟩ := hP
  have hx := Bd.exec
  have hby := Bd.bytes
  have hlk : meth.locks = false := Bd.notSynchronized
  have hml : c.maxLocals = 2 := hml0
  have hown : s.vm.findClass "java/util/ArrayDeque" = some m.cls := findClass_of_methodNamed Bd.named
  have hnm := (name_of_methodNamed Bd.named Bd.method).1
  have X0 : Stand p l e ({ frames := 0, cells := 0, slots := 0, locals := 0 } : Room) s m #[(.ref a1), (.int p2)] below meth c s₁ [] 0 0 := Stand.of_body Bd
  have e0 : s₁.heap = h0 := by rw [← hh, Bd.state]; rfl
  have N0 := Fr.nil n0
  refine own_start (Q := Qrm14 u h0 n0) (g' := (mkF m 0 #[.val (.ref a1), .val (.int p2)] [])) (by first | (simp [entryFrame, mkF, argsToLocals, Value.category]; done) | rfl) ?_
  show own_Gl _ _ _ _ (s₁.setTop (mkF m 0 #[.val (.ref a1), .val (.int p2)] []))
  refine own_back (fun t_ q_ => XS.aloadN X0.here hx rfl (hb hby d14_0) rfl rfl q_) ?_
  show own_Gl _ _ _ _ (s₁.setTop (mkF m 1 #[.val (.ref a1), .val (.int p2)] [(.ref a1)]))
  refine own_back (fun t_ q_ => XS.iloadN X0.here hx rfl (hb hby d14_1) rfl q_) ?_
  show own_Gl _ _ _ _ (s₁.setTop (mkF m 2 #[.val (.ref a1), .val (.int p2)] [(.int p2), (.ref a1)]))
  refine own_back (fun t_ q_ => X0.aaload hx (j := p2) (v := u) (by rw [e0]; exact A.1) (State.isArrayOf_alike hZ.alike A.2.1) rfl A.2.2 hin hat (g := (mkF m 2 #[.val (.ref a1), .val (.int p2)] [(.int p2), (.ref a1)])) rfl rfl (hb hby d14_2) t_ q_) ?_
  show own_Gl _ _ _ _ (s₁.setTop (mkF m 3 #[.val (.ref a1), .val (.int p2)] [u]))
  exact own_rA X0 hx hlk Bd.returns rfl hu rfl (hb hby d14_3) (by show Qrm14 u h0 n0 _ s₁.heap _; rw [e0]; exact ⟨rfl, N0, rfl⟩) (by decide) (by decide)
theorem d6_0 : decode jdk_21_method_37_code 0 = .ok (.aload_n 0, 1) := by decide +kernel
theorem d6_1 : decode jdk_21_method_37_code 1 = .ok (.getfield 20, 3) := by decide +kernel
theorem d6_4 : decode jdk_21_method_37_code 4 = .ok (.aload_n 0, 1) := by decide +kernel
theorem d6_5 : decode jdk_21_method_37_code 5 = .ok (.getfield 24, 3) := by decide +kernel
theorem d6_8 : decode jdk_21_method_37_code 8 = .ok (.aload_n 0, 1) := by decide +kernel
theorem d6_9 : decode jdk_21_method_37_code 9 = .ok (.getfield 3, 3) := by decide +kernel
theorem d6_12 : decode jdk_21_method_37_code 12 = .ok (.arraylength, 1) := by decide +kernel
theorem d6_13 : decode jdk_21_method_37_code 13 = .ok (.invokestatic 127, 3) := by decide +kernel
theorem pd_0 : parseMethodDescriptor "(III)I" = some ⟨[.int, .int, .int], some .int⟩ := by decide +kernel
theorem d6_16 : decode jdk_21_method_37_code 16 = .ok (.ireturn, 1) := by decide +kernel
theorem pn_6 : plainFor (⟨"java/util/ArrayDeque", "size", "()I"⟩ : MethodName) = true := plainFor_of_name (by first | (simp [plainName, overriddenIn]; done) | decide +kernel)
def Qrm6 (vs : List Addr) (h0 : Heap) (n0 : Nat) (v : Option Value) (h : Heap) (L : List Loc) : Prop := v = some (.int (Int32.ofNat vs.length)) ∧ Fr n0 L ∧ h = h0
set_option maxRecDepth 65536 in
set_option maxHeartbeats 40000000 in
theorem rm6 (l : Launch) (Z : State) (a0 : Array Value) (hw : ∀ d ∈ tables_1, d.before a0 Z = true) (ws : List Jvm.Cond) (a1 : Addr) (h0 : Heap) (n0 : Nat) (Z0 : n0 ≤ h0.size) (es : Addr) (k : ClassId) (vs : List Addr) (D : own_D Z h0 a1 es k vs) :
    MetFree l (⟨"java/util/ArrayDeque", "size", "()I"⟩ : MethodName) (head1 (Jvm.Cond.code (⟨"java/util/ArrayDeque", "size", "()I"⟩ : MethodName) jdk_21_method_37_code 1 (some .int) :: ws) ({ frames := 1, cells := 0, slots := 0, locals := 14 } : Room)) (fun a_ U_ => a_ = #[(.ref a1)] ∧ Z.Warmed39 U_.vm ∧ U_.heap = h0) (fun _ _ _ _ _ => True) (fun _ U_ o_ U'_ => ∃ v_ L_, o_ = .returned v_ ∧ (Qrm6 vs h0 n0) v_ U'_.heap L_ ∧ FrameEnd U_ o_ U'_ L_ 0 0) := by
  refine MetFree.of_bodySF pn_6 hisR ?_
  intro p e s m args below meth c s₁ Bd hml0 hP hK
  obtain ⟨rfl, hZ, hh⟩ := hP
  have hx := Bd.exec
  have hby := Bd.bytes
  have hlk : meth.locks = false := Bd.notSynchronized
  have hml : c.maxLocals = 1 := hml0
  have hown : s.vm.findClass "java/util/ArrayDeque" = some m.cls := findClass_of_methodNamed Bd.named
  have hnm := (name_of_methodNamed Bd.named Bd.method).1
  have X0 : Stand p l e ({ frames := 1, cells := 0, slots := 0, locals := 14 } : Room) s m #[(.ref a1)] below meth c s₁ [] 0 0 := Stand.of_body Bd
  have e0 : s₁.heap = h0 := by rw [← hh, Bd.state]; rfl
  have N0 := Fr.nil n0
  refine own_start (Q := Qrm6 vs h0 n0) (g' := (mkF m 0 #[.val (.ref a1)] [])) (by first | (simp [entryFrame, mkF, argsToLocals, Value.category]; done) | rfl) ?_
  show own_Gl _ _ _ _ (s₁.setTop (mkF m 0 #[.val (.ref a1)] []))
  obtain ⟨d1, d2, d3, d4, -, ⟨cl, A, -, S, P, -, -⟩, -, d8⟩ := D
  obtain ⟨n1, n2, n3⟩ := own_nat (i := vs.length) (by omega)
  have e0' : Int32.ofNat vs.length - (0 : Int32) = Int32.ofNat vs.length := Int32.sub_zero _
  refine own_back (fun t_ q_ => XS.aloadN X0.here hx rfl (hb hby d6_0) rfl rfl q_) ?_
  show own_Gl _ _ _ _ (s₁.setTop (mkF m 1 #[.val (.ref a1)] [(.ref a1)]))
  obtain ⟨T1, X1, e1, st1⟩ := getF X0 hx hZ hown (host := "") (Or.inl (hw _ (List.mem_of_getElem? (i := 43) rfl))) Via.refl e0 d4 (g := (mkF m 1 #[.val (.ref a1)] [(.ref a1)])) rfl rfl (hb hby d6_1)
  refine own_back st1 ?_
  show own_Gl _ _ _ _ (T1.setTop (mkF m 4 #[.val (.ref a1)] [(.int (Int32.ofNat vs.length))]))
  refine own_back (fun t_ q_ => XS.aloadN X1.here hx rfl (hb hby d6_4) rfl rfl q_) ?_
  show own_Gl _ _ _ _ (T1.setTop (mkF m 5 #[.val (.ref a1)] [(.ref a1), (.int (Int32.ofNat vs.length))]))
  obtain ⟨T2, X2, e2, st2⟩ := getF X1 hx hZ hown (host := "") (Or.inl (hw _ (List.mem_of_getElem? (i := 45) rfl))) Via.refl e1 d3 (g := (mkF m 5 #[.val (.ref a1)] [(.ref a1), (.int (Int32.ofNat vs.length))])) rfl rfl (hb hby d6_5)
  refine own_back st2 ?_
  show own_Gl _ _ _ _ (T2.setTop (mkF m 8 #[.val (.ref a1)] [(.int (0 : Int32)), (.int (Int32.ofNat vs.length))]))
  refine own_back (fun t_ q_ => XS.aloadN X2.here hx rfl (hb hby d6_8) rfl rfl q_) ?_
  show own_Gl _ _ _ _ (T2.setTop (mkF m 9 #[.val (.ref a1)] [(.ref a1), (.int (0 : Int32)), (.int (Int32.ofNat vs.length))]))
  obtain ⟨T3, X3, e3, st3⟩ := getF X2 hx hZ hown (host := "") (Or.inl (hw _ (List.mem_of_getElem? (i := 24) rfl))) Via.refl e2 d2 (g := (mkF m 9 #[.val (.ref a1)] [(.ref a1), (.int (0 : Int32)), (.int (Int32.ofNat vs.length))])) rfl rfl (hb hby d6_9)
  refine own_back st3 ?_
  show own_Gl _ _ _ _ (T3.setTop (mkF m 12 #[.val (.ref a1)] [(.ref es), (.int (0 : Int32)), (.int (Int32.ofNat vs.length))]))
  refine own_back (fun t_ q_ => X3.arraylength hx (by rw [e3]; exact A.1) (State.isArrayOf_alike hZ.alike A.2.1) (g := (mkF m 12 #[.val (.ref a1)] [(.ref es), (.int (0 : Int32)), (.int (Int32.ofNat vs.length))])) rfl rfl (hb hby d6_12) t_ q_) ?_
  rw [len_of S P]
  show own_Gl _ _ _ _ (T3.setTop (mkF m 13 #[.val (.ref a1)] [(.int (17 : Int32)), (.int (0 : Int32)), (.int (Int32.ofNat vs.length))]))
  obtain ⟨_, _, ⟨T4, L4, k4, n4⟩, -, X4, ⟨Lc4, hQ4, l4, y4, z4⟩, st4⟩ := Jvm.LawKit.callS X3 hx (y := (⟨"java/util/ArrayDeque", "sub", "(III)I"⟩ : MethodName)) hown (mvT hZ (hw _ (List.mem_of_getElem? (i := 47) rfl))) (mvT hZ (hw _ (List.mem_of_getElem? (i := 48) rfl))) (mvT hZ (hw _ (List.mem_of_getElem? (i := 11) rfl))) (mvT hZ (hw _ (List.mem_of_getElem? (i := 49) rfl))) (by decide) (backOf (W := 0) (rm7 l Z a0 hw [] (Int32.ofNat vs.length) 0 17 h0 n0 Z0 (by rw [e0']; exact n1)) hZ (hw _ (List.mem_of_getElem? (i := 49) rfl)) (hw _ (List.mem_of_getElem? (i := 11) rfl)) (by decide) (by decide)) (g := (mkF m 13 #[.val (.ref a1)] [(.int (17 : Int32)), (.int (0 : Int32)), (.int (Int32.ofNat vs.length))])) rfl (by rw [hml]; rfl) (argsL := [(.int (Int32.ofNat vs.length)), (.int (0 : Int32)), (.int (17 : Int32))]) (rest := []) (lenOf pd_0 rfl) rfl (by show 2 * 0 + _ ≤ _; exact Nat.le_of_eq rfl) (hb hby d6_13) (fun _ _ => ⟨rfl, e3, (by decide : 0 + 0 ≤ _), (by decide : 0 + 0 ≤ _)⟩)
  dsimp only [Pt.U, Pt.locs, Pt.cells, Pt.slots] at X4 l4 y4 z4 st4 hQ4
  subst l4 y4 z4
  obtain ⟨rfl, M4, e4⟩ := hQ4
  have N4 := Fr.app N0 M4
  refine own_back st4 ?_
  show own_Gl _ _ _ _ (T4.setTop (mkF m 16 #[.val (.ref a1)] [(.int ((Int32.ofNat vs.length) - 0))]))
  rw [e0']
  show own_Gl _ _ _ _ (T4.setTop (mkF m 16 #[.val (.ref a1)] [(.int (Int32.ofNat vs.length))]))
  exact own_rI X4 hx hlk Bd.returns (hb hby d6_16) (by show Qrm6 vs h0 n0 _ T4.heap _; rw [e4]; exact ⟨rfl, N4, rfl⟩) (by decide) (by decide)
theorem d8_0 : decode jdk_21_method_13_code 0 = .ok (.aload_n 1, 1) := by decide +kernel
theorem d8_1 : decode jdk_21_method_13_code 1 = .ok (.ifnonnull 11, 3) := by decide +kernel
theorem d8_4 : decode jdk_21_method_13_code 4 = .ok (.new 65, 3) := by decide +kernel
theorem d8_7 : decode jdk_21_method_13_code 7 = .ok (.dup, 1) := by decide +kernel
theorem d8_8 : decode jdk_21_method_13_code 8 = .ok (.invokespecial 67, 3) := by decide +kernel
theorem d8_11 : decode jdk_21_method_13_code 11 = .ok (.athrow, 1) := by decide +kernel
theorem d8_12 : decode jdk_21_method_13_code 12 = .ok (.aload_n 0, 1) := by decide +kernel
theorem d8_13 : decode jdk_21_method_13_code 13 = .ok (.getfield 3, 3) := by decide +kernel
theorem d8_16 : decode jdk_21_method_13_code 16 = .ok (.astore_n 2, 1) := by decide +kernel
theorem d8_17 : decode jdk_21_method_13_code 17 = .ok (.aload_n 2, 1) := by decide +kernel
theorem d8_18 : decode jdk_21_method_13_code 18 = .ok (.aload_n 0, 1) := by decide +kernel
theorem d8_19 : decode jdk_21_method_13_code 19 = .ok (.getfield 20, 3) := by decide +kernel
theorem d8_22 : decode jdk_21_method_13_code 22 = .ok (.aload_n 1, 1) := by decide +kernel
theorem d8_23 : decode jdk_21_method_13_code 23 = .ok (.aastore, 1) := by decide +kernel
theorem d8_24 : decode jdk_21_method_13_code 24 = .ok (.aload_n 0, 1) := by decide +kernel
theorem d8_25 : decode jdk_21_method_13_code 25 = .ok (.getfield 24, 3) := by decide +kernel
theorem d8_28 : decode jdk_21_method_13_code 28 = .ok (.aload_n 0, 1) := by decide +kernel
theorem d8_29 : decode jdk_21_method_13_code 29 = .ok (.aload_n 0, 1) := by decide +kernel
theorem d8_30 : decode jdk_21_method_13_code 30 = .ok (.getfield 20, 3) := by decide +kernel
theorem d8_33 : decode jdk_21_method_13_code 33 = .ok (.aload_n 2, 1) := by decide +kernel
theorem d8_34 : decode jdk_21_method_13_code 34 = .ok (.arraylength, 1) := by decide +kernel
theorem d8_35 : decode jdk_21_method_13_code 35 = .ok (.invokestatic 74, 3) := by decide +kernel
theorem pd_1 : parseMethodDescriptor "(II)I" = some ⟨[.int, .int], some .int⟩ := by decide +kernel
theorem d8_38 : decode jdk_21_method_13_code 38 = .ok (.dup_x1, 1) := by decide +kernel
theorem d8_39 : decode jdk_21_method_13_code 39 = .ok (.putfield 20, 3) := by decide +kernel
theorem d8_42 : decode jdk_21_method_13_code 42 = .ok (.if_icmp .ne 8, 3) := by decide +kernel
theorem d8_45 : decode jdk_21_method_13_code 45 = .ok (.aload_n 0, 1) := by decide +kernel
theorem d8_46 : decode jdk_21_method_13_code 46 = .ok (.iconst 1, 1) := by decide +kernel
theorem d8_47 : decode jdk_21_method_13_code 47 = .ok (.invokevirtual 71, 3) := by decide +kernel
theorem d8_50 : decode jdk_21_method_13_code 50 = .ok (.return_, 1) := by decide +kernel
theorem pn_8 : plainFor (⟨"java/util/ArrayDeque", "addLast", "(Ljava/lang/Object;)V"⟩ : MethodName) = true := plainFor_of_name (by first | (simp [plainName, overriddenIn]; done) | decide +kernel)
def Qrm8 (Z : State) (a1 a2 es : Addr) (k : ClassId) (vs : List Addr) (h0 : Heap) (n0 : Nat) (v : Option Value) (h : Heap) (L : List Loc) : Prop := v = none ∧ Fr n0 L ∧ Keep h0 h [a1, es] ∧ own_D Z h a1 es k (vs ++ [a2])
set_option maxRecDepth 65536 in
set_option maxHeartbeats 40000000 in
theorem rm8 (l : Launch) (Z : State) (a0 : Array Value) (hw : ∀ d ∈ tables_1, d.before a0 Z = true) (ws : List Jvm.Cond) (a1 : Addr) (a2 : Addr) (h0 : Heap) (n0 : Nat) (Z0 : n0 ≤ h0.size) (es : Addr) (k : ClassId) (vs : List Addr) (D : own_D Z h0 a1 es k vs) (hv : vs.length ≤ 2) (Ex : Exa Z h0 a2 "[B") (g1 : n0 ≤ a1) (g2 : n0 ≤ es) :
    MetFree l (⟨"java/util/ArrayDeque", "addLast", "(Ljava/lang/Object;)V"⟩ : MethodName) (head1 (Jvm.Cond.code (⟨"java/util/ArrayDeque", "addLast", "(Ljava/lang/Object;)V"⟩ : MethodName) jdk_21_method_13_code 3 none :: ws) ({ frames := 1, cells := 0, slots := 0, locals := 15 } : Room)) (fun a_ U_ => a_ = #[(.ref a1), (.ref a2)] ∧ Z.Warmed39 U_.vm ∧ U_.heap = h0) (fun _ _ _ _ _ => True) (fun _ U_ o_ U'_ => ∃ v_ L_, o_ = .returned v_ ∧ (Qrm8 Z a1 a2 es k vs h0 n0) v_ U'_.heap L_ ∧ FrameEnd U_ o_ U'_ L_ 0 0) := by
  refine MetFree.of_bodySF pn_8 hisR ?_
  intro p e s m args below meth c s₁ Bd hml0 hP hK
  obtain ⟨rfl, hZ, hh⟩ := hP
  have hx := Bd.exec
  have hby := Bd.bytes
  have hlk : meth.locks = false := Bd.notSynchronized
  have hml : c.maxLocals = 3 := hml0
  have hown : s.vm.findClass "java/util/ArrayDeque" = some m.cls := findClass_of_methodNamed Bd.named
  have hnm := (name_of_methodNamed Bd.named Bd.method).1
  have X0 : Stand p l e ({ frames := 1, cells := 0, slots := 0, locals := 15 } : Room) s m #[(.ref a1), (.ref a2)] below meth c s₁ [] 0 0 := Stand.of_body Bd
  have e0 : s₁.heap = h0 := by rw [← hh, Bd.state]; rfl
  have N0 := Fr.nil n0
  refine own_start (Q := Qrm8 Z a1 a2 es k vs h0 n0) (g' := (mkF m 0 #[.val (.ref a1), .val (.ref a2), .unset] [])) (by first | (simp [entryFrame, mkF, argsToLocals, Value.category]; done) | rfl) ?_
  show own_Gl _ _ _ _ (s₁.setTop (mkF m 0 #[.val (.ref a1), .val (.ref a2), .unset] []))
  have ne1 := own_ne (hw _ (List.mem_of_getElem? (i := 10) rfl)) D
  obtain ⟨d1, d2, d3, d4, d5, d6, d7, d8⟩ := D
  obtain ⟨n1, n2, n3⟩ := own_nat (i := vs.length) (by omega)
  obtain ⟨cl, A, q1, S, P, H, G⟩ := d6.pad (pad_rep (vs.map Value.ref) .null 1)
  have S17 : cl.slots.size = 17 := S
  have hin : ¬ ((Int32.ofNat vs.length) < 0 ∨ cl.slots.size ≤ (Int32.ofNat vs.length).toNatClampNeg) := by rw [n2, S17]; exact fun q => q.elim n1 (by omega)
  refine own_back (fun t_ q_ => XS.aloadN X0.here hx rfl (hb hby d8_0) rfl rfl q_) ?_
  show own_Gl _ _ _ _ (s₁.setTop (mkF m 1 #[.val (.ref a1), .val (.ref a2), .unset] [(.ref a2)]))
  refine own_back (fun t_ q_ => XS.ifnonnullYes X0.here hx rfl (pc0 := 1) (pc' := 12) rfl (hb hby d8_1) rfl (by decide) (by decide) q_) ?_
  show own_Gl _ _ _ _ (s₁.setTop (mkF m 12 #[.val (.ref a1), .val (.ref a2), .unset] []))
  refine own_back (fun t_ q_ => XS.aloadN X0.here hx rfl (hb hby d8_12) rfl rfl q_) ?_
  show own_Gl _ _ _ _ (s₁.setTop (mkF m 13 #[.val (.ref a1), .val (.ref a2), .unset] [(.ref a1)]))
  obtain ⟨T5, X5, e5, st5⟩ := getF X0 hx hZ hown (host := "") (Or.inl (hw _ (List.mem_of_getElem? (i := 24) rfl))) Via.refl e0 d2 (g := (mkF m 13 #[.val (.ref a1), .val (.ref a2), .unset] [(.ref a1)])) rfl rfl (hb hby d8_13)
  refine own_back st5 ?_
  show own_Gl _ _ _ _ (T5.setTop (mkF m 16 #[.val (.ref a1), .val (.ref a2), .unset] [(.ref es)]))
  refine own_back (fun t_ q_ => XS.astoreN X5.here hx rfl (hb hby d8_16) rfl rfl (l' := #[.val (.ref a1), .val (.ref a2), .val (.ref es)]) rfl q_) ?_
  show own_Gl _ _ _ _ (T5.setTop (mkF m 17 #[.val (.ref a1), .val (.ref a2), .val (.ref es)] []))
  refine own_back (fun t_ q_ => XS.aloadN X5.here hx rfl (hb hby d8_17) rfl rfl q_) ?_
  show own_Gl _ _ _ _ (T5.setTop (mkF m 18 #[.val (.ref a1), .val (.ref a2), .val (.ref es)] [(.ref es)]))
  refine own_back (fun t_ q_ => XS.aloadN X5.here hx rfl (hb hby d8_18) rfl rfl q_) ?_
  show own_Gl _ _ _ _ (T5.setTop (mkF m 19 #[.val (.ref a1), .val (.ref a2), .val (.ref es)] [(.ref a1), (.ref es)]))
  obtain ⟨T6, X6, e6, st6⟩ := getF X5 hx hZ hown (host := "") (Or.inl (hw _ (List.mem_of_getElem? (i := 43) rfl))) Via.refl e5 d4 (g := (mkF m 19 #[.val (.ref a1), .val (.ref a2), .val (.ref es)] [(.ref a1), (.ref es)])) rfl rfl (hb hby d8_19)
  refine own_back st6 ?_
  show own_Gl _ _ _ _ (T6.setTop (mkF m 22 #[.val (.ref a1), .val (.ref a2), .val (.ref es)] [(.int (Int32.ofNat vs.length)), (.ref es)]))
  refine own_back (fun t_ q_ => XS.aloadN X6.here hx rfl (hb hby d8_22) rfl rfl q_) ?_
  show own_Gl _ _ _ _ (T6.setTop (mkF m 23 #[.val (.ref a1), .val (.ref a2), .val (.ref es)] [(.ref a2), (.int (Int32.ofNat vs.length)), (.ref es)]))
  obtain ⟨T7, h7, X7, e7, W7, st7⟩ := stR X6 hx hZ e6 A (j := (Int32.ofNat vs.length)) hin rfl (Sto.ofV A q1 d5 (Ins.of_exa Ex (hw _ (List.mem_of_getElem? (i := 55) rfl)))) (g := (mkF m 23 #[.val (.ref a1), .val (.ref a2), .val (.ref es)] [(.ref a2), (.int (Int32.ofNat vs.length)), (.ref es)])) rfl rfl (hb hby d8_23)
  refine own_back st7 ?_
  have N7 := Fr.snoc X7 N0 g2
  show own_Gl _ _ _ _ (T7.setTop (mkF m 24 #[.val (.ref a1), .val (.ref a2), .val (.ref es)] []))
  have V1 := Arv.set A q1 S P H G (v := .ref a2) rfl W7 vs.length n2 (by simp)
  have V2 : Arv Z h7 es k (.object "java/lang/Object") (17 : Int32) ((vs ++ [a2]).map Value.ref) .null := by
    have q := own_lset (vs.map Value.ref) .null (.ref a2)
    rw [List.length_map] at q
    have q' : ((vs ++ [a2]).map Value.ref) = (vs.map Value.ref ++ List.replicate 1 Value.null).set vs.length (.ref a2) := by rw [List.map_append]; exact q.symm
    rw [q']; exact V1
  have f2 := d2.other W7 (Or.inl ne1)
  have f3 := d3.other W7 (Or.inl ne1)
  have f4 := d4.other W7 (Or.inl ne1)
  have f1 := d1.wr W7
  have A2 := A.same W7
  have Z1 : n0 ≤ h7.size := by rw [W7.size]; exact Z0
  refine own_back (fun t_ q_ => XS.aloadN X7.here hx rfl (hb hby d8_24) rfl rfl q_) ?_
  show own_Gl _ _ _ _ (T7.setTop (mkF m 25 #[.val (.ref a1), .val (.ref a2), .val (.ref es)] [(.ref a1)]))
  obtain ⟨T8, X8, e8, st8⟩ := getF X7 hx hZ hown (host := "") (Or.inl (hw _ (List.mem_of_getElem? (i := 45) rfl))) Via.refl e7 f3 (g := (mkF m 25 #[.val (.ref a1), .val (.ref a2), .val (.ref es)] [(.ref a1)])) rfl rfl (hb hby d8_25)
  refine own_back st8 ?_
  show own_Gl _ _ _ _ (T8.setTop (mkF m 28 #[.val (.ref a1), .val (.ref a2), .val (.ref es)] [(.int (0 : Int32))]))
  refine own_back (fun t_ q_ => XS.aloadN X8.here hx rfl (hb hby d8_28) rfl rfl q_) ?_
  show own_Gl _ _ _ _ (T8.setTop (mkF m 29 #[.val (.ref a1), .val (.ref a2), .val (.ref es)] [(.ref a1), (.int (0 : Int32))]))
  refine own_back (fun t_ q_ => XS.aloadN X8.here hx rfl (hb hby d8_29) rfl rfl q_) ?_
  show own_Gl _ _ _ _ (T8.setTop (mkF m 30 #[.val (.ref a1), .val (.ref a2), .val (.ref es)] [(.ref a1), (.ref a1), (.int (0 : Int32))]))
  obtain ⟨T9, X9, e9, st9⟩ := getF X8 hx hZ hown (host := "") (Or.inl (hw _ (List.mem_of_getElem? (i := 43) rfl))) Via.refl e8 f4 (g := (mkF m 30 #[.val (.ref a1), .val (.ref a2), .val (.ref es)] [(.ref a1), (.ref a1), (.int (0 : Int32))])) rfl rfl (hb hby d8_30)
  refine own_back st9 ?_
  show own_Gl _ _ _ _ (T9.setTop (mkF m 33 #[.val (.ref a1), .val (.ref a2), .val (.ref es)] [(.int (Int32.ofNat vs.length)), (.ref a1), (.int (0 : Int32))]))
  refine own_back (fun t_ q_ => XS.aloadN X9.here hx rfl (hb hby d8_33) rfl rfl q_) ?_
  show own_Gl _ _ _ _ (T9.setTop (mkF m 34 #[.val (.ref a1), .val (.ref a2), .val (.ref es)] [(.ref es), (.int (Int32.ofNat vs.length)), (.ref a1), (.int (0 : Int32))]))
  refine own_back (fun t_ q_ => X9.arraylength hx (by rw [e9]; exact A2.1) (State.isArrayOf_alike hZ.alike A2.2.1) (g := (mkF m 34 #[.val (.ref a1), .val (.ref a2), .val (.ref es)] [(.ref es), (.int (Int32.ofNat vs.length)), (.ref a1), (.int (0 : Int32))])) rfl rfl (hb hby d8_34) t_ q_) ?_
  rw [(show (cl.setSlot (Int32.ofNat vs.length).toNatClampNeg (.ref a2)).slots.size.toInt32 = (17 : Int32) by rw [sz_set, S17] <;> rfl)]
  show own_Gl _ _ _ _ (T9.setTop (mkF m 35 #[.val (.ref a1), .val (.ref a2), .val (.ref es)] [(.int (17 : Int32)), (.int (Int32.ofNat vs.length)), (.ref a1), (.int (0 : Int32))]))
  have hlt : (Int32.ofNat vs.length + (1 : Int32)) < (17 : Int32) := by
    have z17 : (17 : Int32).toInt = 17 := by decide
    rw [own_addn (i := vs.length) (by omega), Int32.lt_iff_toInt_lt, (own_nat (i := vs.length + 1) (by omega)).2.2, z17]
    omega
  obtain ⟨_, _, ⟨T10, L10, k10, n10⟩, -, X10, ⟨Lc10, hQ10, l10, y10, z10⟩, st10⟩ := Jvm.LawKit.callS X9 hx (y := (⟨"java/util/ArrayDeque", "inc", "(II)I"⟩ : MethodName)) hown (mvT hZ (hw _ (List.mem_of_getElem? (i := 56) rfl))) (mvT hZ (hw _ (List.mem_of_getElem? (i := 57) rfl))) (mvT hZ (hw _ (List.mem_of_getElem? (i := 11) rfl))) (mvT hZ (hw _ (List.mem_of_getElem? (i := 58) rfl))) (by decide) (backOf (W := 2) (rm9 l Z a0 hw [] (Int32.ofNat vs.length) 17 h7 n0 Z1 hlt) hZ (hw _ (List.mem_of_getElem? (i := 58) rfl)) (hw _ (List.mem_of_getElem? (i := 11) rfl)) (by decide) (by decide)) (g := (mkF m 35 #[.val (.ref a1), .val (.ref a2), .val (.ref es)] [(.int (17 : Int32)), (.int (Int32.ofNat vs.length)), (.ref a1), (.int (0 : Int32))])) rfl (by rw [hml]; rfl) (argsL := [(.int (Int32.ofNat vs.length)), (.int (17 : Int32))]) (rest := [(.ref a1), (.int (0 : Int32))]) (lenOf pd_1 rfl) rfl (by show 2 * 0 + _ ≤ _; exact Nat.le_of_eq rfl) (hb hby d8_35) (fun _ _ => ⟨rfl, e9, (by decide : 0 + 0 ≤ _), (by decide : 0 + 0 ≤ _)⟩)
  dsimp only [Pt.U, Pt.locs, Pt.cells, Pt.slots] at X10 l10 y10 z10 st10 hQ10
  subst l10 y10 z10
  obtain ⟨rfl, M10, e10⟩ := hQ10
  have N10 := Fr.app N7 M10
  refine own_back st10 ?_
  show own_Gl _ _ _ _ (T10.setTop (mkF m 38 #[.val (.ref a1), .val (.ref a2), .val (.ref es)] [(.int ((Int32.ofNat vs.length) + 1)), (.ref a1), (.int (0 : Int32))]))
  rw [own_addn (i := vs.length) (by omega)]
  show own_Gl _ _ _ _ (T10.setTop (mkF m 38 #[.val (.ref a1), .val (.ref a2), .val (.ref es)] [(.int (Int32.ofNat (vs.length + 1))), (.ref a1), (.int (0 : Int32))]))
  refine own_back (fun t_ q_ => XS.dupX1 X10.here hx rfl (hb hby d8_38) rfl rfl rfl q_) ?_
  show own_Gl _ _ _ _ (T10.setTop (mkF m 39 #[.val (.ref a1), .val (.ref a2), .val (.ref es)] [(.int (Int32.ofNat (vs.length + 1))), (.ref a1), (.int (Int32.ofNat (vs.length + 1))), (.int (0 : Int32))]))
  obtain ⟨T11, h11, X11, e11, W11, st11⟩ := putF X10 hx hZ hown (host := "") (Or.inl (hw _ (List.mem_of_getElem? (i := 43) rfl))) Via.refl e10 f4 f1 (Or.inl (hw _ (List.mem_of_getElem? (i := 44) rfl))) (hw _ (List.mem_of_getElem? (i := 10) rfl)) (ty := .int) (by decide) rfl rfl (g := (mkF m 39 #[.val (.ref a1), .val (.ref a2), .val (.ref es)] [(.int (Int32.ofNat (vs.length + 1))), (.ref a1), (.int (Int32.ofNat (vs.length + 1))), (.int (0 : Int32))])) rfl rfl (hb hby d8_39)
  refine own_back st11 ?_
  have N11 := Fr.snoc X11 N10 g1
  show own_Gl _ _ _ _ (T11.setTop (mkF m 42 #[.val (.ref a1), .val (.ref a2), .val (.ref es)] [(.int (Int32.ofNat (vs.length + 1))), (.int (0 : Int32))]))
  refine own_back (fun t_ q_ => XS.icmpYes X11.here hx rfl (pc0 := 42) (pc' := 50) rfl (hb hby d8_42) rfl (feq (fun q => by
        have e := congrArg Int32.toInt q
        rw [(own_nat (i := vs.length + 1) (by omega)).2.2] at e
        have z0 : (0 : Int32).toInt = 0 := by decide
        omega : ¬ ((0 : Int32) = (Int32.ofNat (vs.length + 1))))).2 (by decide) (by decide) q_) ?_
  show own_Gl _ _ _ _ (T11.setTop (mkF m 50 #[.val (.ref a1), .val (.ref a2), .val (.ref es)] []))
  exact own_rV X11 hx hlk Bd.returns (hb hby d8_50) (by show Qrm8 Z a1 a2 es k vs h0 n0 _ T11.heap _; rw [e11]; exact ⟨rfl, N11, ((Keep.refl h0 [a1, es]).wr W7 (Or.inl (List.mem_cons_of_mem _ (List.mem_cons_self ..)))).wr W11 (Or.inl (List.mem_cons_self ..)), f1.wr W11, f2.other W11 (Or.inr (slot_ne (Or.inl (hw _ (List.mem_of_getElem? (i := 25) rfl))) (Or.inl (hw _ (List.mem_of_getElem? (i := 44) rfl))) (by decide) (t := (.array (.object "java/lang/Object"))) (t' := .int) (by decide) (by decide))), f3.other W11 (Or.inr (slot_ne (Or.inl (hw _ (List.mem_of_getElem? (i := 46) rfl))) (Or.inl (hw _ (List.mem_of_getElem? (i := 44) rfl))) (by decide) (t := .int) (t' := .int) (by decide) (by decide))), by rw [List.length_append]; exact f4.same W11, d5, V2.other W11 (Ne.symm ne1), fun x hx => ((List.mem_append.mp hx).elim (fun q => (d7 x q).wr W7) (fun q => by cases List.mem_singleton.mp q; exact Ex.wr W7)).wr W11, by rw [List.length_append]; exact Nat.succ_le_succ hv⟩) (by decide) (by decide)
theorem d12_0 : decode jdk_21_method_21_code 0 = .ok (.aload_n 0, 1) := by decide +kernel
theorem d12_1 : decode jdk_21_method_21_code 1 = .ok (.getfield 3, 3) := by decide +kernel
theorem d12_4 : decode jdk_21_method_21_code 4 = .ok (.dup, 1) := by decide +kernel
theorem d12_5 : decode jdk_21_method_21_code 5 = .ok (.astore_n 1, 1) := by decide +kernel
theorem d12_6 : decode jdk_21_method_21_code 6 = .ok (.aload_n 0, 1) := by decide +kernel
theorem d12_7 : decode jdk_21_method_21_code 7 = .ok (.getfield 20, 3) := by decide +kernel
theorem d12_10 : decode jdk_21_method_21_code 10 = .ok (.aload_n 1, 1) := by decide +kernel
theorem d12_11 : decode jdk_21_method_21_code 11 = .ok (.arraylength, 1) := by decide +kernel
theorem d12_12 : decode jdk_21_method_21_code 12 = .ok (.invokestatic 68, 3) := by decide +kernel
theorem d12_15 : decode jdk_21_method_21_code 15 = .ok (.dup, 1) := by decide +kernel
theorem d12_16 : decode jdk_21_method_21_code 16 = .ok (.istore_n 2, 1) := by decide +kernel
theorem d12_17 : decode jdk_21_method_21_code 17 = .ok (.invokestatic 103, 3) := by decide +kernel
theorem pd_2 : parseMethodDescriptor "([Ljava/lang/Object;I)Ljava/lang/Object;" = some ⟨[(.array (.object "java/lang/Object")), .int], some (.object "java/lang/Object")⟩ := by decide +kernel
theorem d12_20 : decode jdk_21_method_21_code 20 = .ok (.astore_n 3, 1) := by decide +kernel
theorem d12_21 : decode jdk_21_method_21_code 21 = .ok (.aload_n 3, 1) := by decide +kernel
theorem d12_22 : decode jdk_21_method_21_code 22 = .ok (.ifnull 12, 3) := by decide +kernel
theorem d12_25 : decode jdk_21_method_21_code 25 = .ok (.aload_n 1, 1) := by decide +kernel
theorem d12_26 : decode jdk_21_method_21_code 26 = .ok (.aload_n 0, 1) := by decide +kernel
theorem d12_27 : decode jdk_21_method_21_code 27 = .ok (.iload_n 2, 1) := by decide +kernel
theorem d12_28 : decode jdk_21_method_21_code 28 = .ok (.dup_x1, 1) := by decide +kernel
theorem d12_29 : decode jdk_21_method_21_code 29 = .ok (.putfield 20, 3) := by decide +kernel
theorem d12_32 : decode jdk_21_method_21_code 32 = .ok (.aconst_null, 1) := by decide +kernel
theorem d12_33 : decode jdk_21_method_21_code 33 = .ok (.aastore, 1) := by decide +kernel
theorem d12_34 : decode jdk_21_method_21_code 34 = .ok (.aload_n 3, 1) := by decide +kernel
theorem d12_35 : decode jdk_21_method_21_code 35 = .ok (.areturn, 1) := by decide +kernel
theorem pn_12 : plainFor (⟨"java/util/ArrayDeque", "pollLast", "()Ljava/lang/Object;"⟩ : MethodName) = true := plainFor_of_name (by first | (simp [plainName, overriddenIn]; done) | decide +kernel)
def Qrm12 (h0 : Heap) (n0 : Nat) (v : Option Value) (h : Heap) (L : List Loc) : Prop := v = some .null ∧ Fr n0 L ∧ h = h0
set_option maxRecDepth 65536 in
set_option maxHeartbeats 40000000 in
theorem rm12 (l : Launch) (Z : State) (a0 : Array Value) (hw : ∀ d ∈ tables_1, d.before a0 Z = true) (ws : List Jvm.Cond) (a1 : Addr) (h0 : Heap) (n0 : Nat) (Z0 : n0 ≤ h0.size) (es : Addr) (k : ClassId) (D : own_D Z h0 a1 es k []) :
    MetFree l (⟨"java/util/ArrayDeque", "pollLast", "()Ljava/lang/Object;"⟩ : MethodName) (head1 (Jvm.Cond.code (⟨"java/util/ArrayDeque", "pollLast", "()Ljava/lang/Object;"⟩ : MethodName) jdk_21_method_21_code 4 (some (.object "java/lang/Object")) :: ws) ({ frames := 1, cells := 0, slots := 0, locals := 14 } : Room)) (fun a_ U_ => a_ = #[(.ref a1)] ∧ Z.Warmed39 U_.vm ∧ U_.heap = h0) (fun _ _ _ _ _ => True) (fun _ U_ o_ U'_ => ∃ v_ L_, o_ = .returned v_ ∧ (Qrm12 h0 n0) v_ U'_.heap L_ ∧ FrameEnd U_ o_ U'_ L_ 0 0) := by
  refine MetFree.of_bodySF pn_12 hisR ?_
  intro p e s m args below meth c s₁ Bd hml0 hP hK
  obtain ⟨rfl, hZ, hh⟩ := hP
  have hx := Bd.exec
  have hby := Bd.bytes
  have hlk : meth.locks = false := Bd.notSynchronized
  have hml : c.maxLocals = 4 := hml0
  have hown : s.vm.findClass "java/util/ArrayDeque" = some m.cls := findClass_of_methodNamed Bd.named
  have hnm := (name_of_methodNamed Bd.named Bd.method).1
  have X0 : Stand p l e ({ frames := 1, cells := 0, slots := 0, locals := 14 } : Room) s m #[(.ref a1)] below meth c s₁ [] 0 0 := Stand.of_body Bd
  have e0 : s₁.heap = h0 := by rw [← hh, Bd.state]; rfl
  have N0 := Fr.nil n0
  refine own_start (Q := Qrm12 h0 n0) (g' := (mkF m 0 #[.val (.ref a1), .unset, .unset, .unset] [])) (by first | (simp [entryFrame, mkF, argsToLocals, Value.category]; done) | rfl) ?_
  show own_Gl _ _ _ _ (s₁.setTop (mkF m 0 #[.val (.ref a1), .unset, .unset, .unset] []))
  obtain ⟨d1, d2, d3, d4, d5, ⟨cl, A, q1, S, P, H, G⟩, d7, d8⟩ := D
  have S17 : cl.slots.size = 17 := S
  refine own_back (fun t_ q_ => XS.aloadN X0.here hx rfl (hb hby d12_0) rfl rfl q_) ?_
  show own_Gl _ _ _ _ (s₁.setTop (mkF m 1 #[.val (.ref a1), .unset, .unset, .unset] [(.ref a1)]))
  obtain ⟨T12, X12, e12, st12⟩ := getF X0 hx hZ hown (host := "") (Or.inl (hw _ (List.mem_of_getElem? (i := 24) rfl))) Via.refl e0 d2 (g := (mkF m 1 #[.val (.ref a1), .unset, .unset, .unset] [(.ref a1)])) rfl rfl (hb hby d12_1)
  refine own_back st12 ?_
  show own_Gl _ _ _ _ (T12.setTop (mkF m 4 #[.val (.ref a1), .unset, .unset, .unset] [(.ref es)]))
  refine own_back (fun t_ q_ => XS.dup X12.here hx rfl (hb hby d12_4) rfl rfl q_) ?_
  show own_Gl _ _ _ _ (T12.setTop (mkF m 5 #[.val (.ref a1), .unset, .unset, .unset] [(.ref es), (.ref es)]))
  refine own_back (fun t_ q_ => XS.astoreN X12.here hx rfl (hb hby d12_5) rfl rfl (l' := #[.val (.ref a1), .val (.ref es), .unset, .unset]) rfl q_) ?_
  show own_Gl _ _ _ _ (T12.setTop (mkF m 6 #[.val (.ref a1), .val (.ref es), .unset, .unset] [(.ref es)]))
  refine own_back (fun t_ q_ => XS.aloadN X12.here hx rfl (hb hby d12_6) rfl rfl q_) ?_
  show own_Gl _ _ _ _ (T12.setTop (mkF m 7 #[.val (.ref a1), .val (.ref es), .unset, .unset] [(.ref a1), (.ref es)]))
  obtain ⟨T13, X13, e13, st13⟩ := getF X12 hx hZ hown (host := "") (Or.inl (hw _ (List.mem_of_getElem? (i := 43) rfl))) Via.refl e12 d4 (g := (mkF m 7 #[.val (.ref a1), .val (.ref es), .unset, .unset] [(.ref a1), (.ref es)])) rfl rfl (hb hby d12_7)
  refine own_back st13 ?_
  show own_Gl _ _ _ _ (T13.setTop (mkF m 10 #[.val (.ref a1), .val (.ref es), .unset, .unset] [(.int (0 : Int32)), (.ref es)]))
  refine own_back (fun t_ q_ => XS.aloadN X13.here hx rfl (hb hby d12_10) rfl rfl q_) ?_
  show own_Gl _ _ _ _ (T13.setTop (mkF m 11 #[.val (.ref a1), .val (.ref es), .unset, .unset] [(.ref es), (.int (0 : Int32)), (.ref es)]))
  refine own_back (fun t_ q_ => X13.arraylength hx (by rw [e13]; exact A.1) (State.isArrayOf_alike hZ.alike A.2.1) (g := (mkF m 11 #[.val (.ref a1), .val (.ref es), .unset, .unset] [(.ref es), (.int (0 : Int32)), (.ref es)])) rfl rfl (hb hby d12_11) t_ q_) ?_
  rw [len_of S P]
  show own_Gl _ _ _ _ (T13.setTop (mkF m 12 #[.val (.ref a1), .val (.ref es), .unset, .unset] [(.int (17 : Int32)), (.int (0 : Int32)), (.ref es)]))
  obtain ⟨_, _, ⟨T14, L14, k14, n14⟩, -, X14, ⟨Lc14, hQ14, l14, y14, z14⟩, st14⟩ := Jvm.LawKit.callS X13 hx (y := (⟨"java/util/ArrayDeque", "dec", "(II)I"⟩ : MethodName)) hown (mvT hZ (hw _ (List.mem_of_getElem? (i := 73) rfl))) (mvT hZ (hw _ (List.mem_of_getElem? (i := 74) rfl))) (mvT hZ (hw _ (List.mem_of_getElem? (i := 11) rfl))) (mvT hZ (hw _ (List.mem_of_getElem? (i := 75) rfl))) (by decide) (backOf (W := 1) (rm13 l Z a0 hw [] 0 17 h0 n0 Z0) hZ (hw _ (List.mem_of_getElem? (i := 75) rfl)) (hw _ (List.mem_of_getElem? (i := 11) rfl)) (by decide) (by decide)) (g := (mkF m 12 #[.val (.ref a1), .val (.ref es), .unset, .unset] [(.int (17 : Int32)), (.int (0 : Int32)), (.ref es)])) rfl (by rw [hml]; rfl) (argsL := [(.int (0 : Int32)), (.int (17 : Int32))]) (rest := [(.ref es)]) (lenOf pd_1 rfl) rfl (by show 2 * 0 + _ ≤ _; exact Nat.le_of_eq rfl) (hb hby d12_12) (fun _ _ => ⟨rfl, e13, (by decide : 0 + 0 ≤ _), (by decide : 0 + 0 ≤ _)⟩)
  dsimp only [Pt.U, Pt.locs, Pt.cells, Pt.slots] at X14 l14 y14 z14 st14 hQ14
  subst l14 y14 z14
  obtain ⟨rfl, M14, e14⟩ := hQ14
  have N14 := Fr.app N0 M14
  refine own_back st14 ?_
  show own_Gl _ _ _ _ (T14.setTop (mkF m 15 #[.val (.ref a1), .val (.ref es), .unset, .unset] [(.int (if ((0 : Int32) + (-1 : Int32)) < (0 : Int32) then (17 : Int32) - 1 else (0 : Int32) + (-1 : Int32))), (.ref es)]))
  rw [show (if ((0 : Int32) + (-1 : Int32)) < (0 : Int32) then (17 : Int32) - 1 else (0 : Int32) + (-1 : Int32)) = (16 : Int32) by decide]
  show own_Gl _ _ _ _ (T14.setTop (mkF m 15 #[.val (.ref a1), .val (.ref es), .unset, .unset] [(.int (16 : Int32)), (.ref es)]))
  refine own_back (fun t_ q_ => XS.dup X14.here hx rfl (hb hby d12_15) rfl rfl q_) ?_
  show own_Gl _ _ _ _ (T14.setTop (mkF m 16 #[.val (.ref a1), .val (.ref es), .unset, .unset] [(.int (16 : Int32)), (.int (16 : Int32)), (.ref es)]))
  refine own_back (fun t_ q_ => XS.istoreN X14.here hx rfl (hb hby d12_16) rfl (l' := #[.val (.ref a1), .val (.ref es), .val (.int (16 : Int32)), .unset]) rfl q_) ?_
  show own_Gl _ _ _ _ (T14.setTop (mkF m 17 #[.val (.ref a1), .val (.ref es), .val (.int (16 : Int32)), .unset] [(.int (16 : Int32)), (.ref es)]))
  obtain ⟨_, _, ⟨T15, L15, k15, n15⟩, -, X15, ⟨Lc15, hQ15, l15, y15, z15⟩, st15⟩ := Jvm.LawKit.callS X14 hx (y := (⟨"java/util/ArrayDeque", "elementAt", "([Ljava/lang/Object;I)Ljava/lang/Object;"⟩ : MethodName)) hown (mvT hZ (hw _ (List.mem_of_getElem? (i := 76) rfl))) (mvT hZ (hw _ (List.mem_of_getElem? (i := 77) rfl))) (mvT hZ (hw _ (List.mem_of_getElem? (i := 11) rfl))) (mvT hZ (hw _ (List.mem_of_getElem? (i := 78) rfl))) (by decide) (backOf (W := 0) (rm14 l Z a0 hw [] es 16 h0 n0 Z0 cl .null rfl A (by rw [S17]; decide) (H 16 (by omega))) hZ (hw _ (List.mem_of_getElem? (i := 78) rfl)) (hw _ (List.mem_of_getElem? (i := 11) rfl)) (by decide) (by decide)) (g := (mkF m 17 #[.val (.ref a1), .val (.ref es), .val (.int (16 : Int32)), .unset] [(.int (16 : Int32)), (.ref es)])) rfl (by rw [hml]; rfl) (argsL := [(.ref es), (.int (16 : Int32))]) (rest := []) (lenOf pd_2 rfl) rfl (by show 2 * 0 + _ ≤ _; exact Nat.le_of_eq rfl) (hb hby d12_17) (fun _ _ => ⟨rfl, e14, (by decide : 0 + 0 ≤ _), (by decide : 0 + 0 ≤ _)⟩)
  dsimp only [Pt.U, Pt.locs, Pt.cells, Pt.slots] at X15 l15 y15 z15 st15 hQ15
  subst l15 y15 z15
  obtain ⟨rfl, M15, e15⟩ := hQ15
  have N15 := Fr.app N14 M15
  refine own_back st15 ?_
  show own_Gl _ _ _ _ (T15.setTop (mkF m 20 #[.val (.ref a1), .val (.ref es), .val (.int (16 : Int32)), .unset] [.null]))
  refine own_back (fun t_ q_ => XS.astoreN X15.here hx rfl (hb hby d12_20) rfl rfl (l' := #[.val (.ref a1), .val (.ref es), .val (.int (16 : Int32)), .val .null]) rfl q_) ?_
  show own_Gl _ _ _ _ (T15.setTop (mkF m 21 #[.val (.ref a1), .val (.ref es), .val (.int (16 : Int32)), .val .null] []))
  refine own_back (fun t_ q_ => XS.aloadN X15.here hx rfl (hb hby d12_21) rfl rfl q_) ?_
  show own_Gl _ _ _ _ (T15.setTop (mkF m 22 #[.val (.ref a1), .val (.ref es), .val (.int (16 : Int32)), .val .null] [.null]))
  refine own_back (fun t_ q_ => XS.ifnullYes X15.here hx rfl (pc0 := 22) (pc' := 34) rfl (hb hby d12_22) rfl (by decide) (by decide) q_) ?_
  show own_Gl _ _ _ _ (T15.setTop (mkF m 34 #[.val (.ref a1), .val (.ref es), .val (.int (16 : Int32)), .val .null] []))
  refine own_back (fun t_ q_ => XS.aloadN X15.here hx rfl (hb hby d12_34) rfl rfl q_) ?_
  show own_Gl _ _ _ _ (T15.setTop (mkF m 35 #[.val (.ref a1), .val (.ref es), .val (.int (16 : Int32)), .val .null] [.null]))
  exact own_rA X15 hx hlk Bd.returns rfl rfl rfl (hb hby d12_35) (by show Qrm12 h0 n0 _ T15.heap _; rw [e15]; exact ⟨rfl, N15, rfl⟩) (by decide) (by decide)
def Qrm12s (Z : State) (a1 es x : Addr) (k : ClassId) (us : List Addr) (h0 : Heap) (n0 : Nat) (v : Option Value) (h : Heap) (L : List Loc) : Prop := v = some (.ref x) ∧ Fr n0 L ∧ Keep h0 h [a1, es] ∧ own_D Z h a1 es k us
set_option maxRecDepth 65536 in
set_option maxHeartbeats 40000000 in
theorem rm12s (l : Launch) (Z : State) (a0 : Array Value) (hw : ∀ d ∈ tables_1, d.before a0 Z = true) (ws : List Jvm.Cond) (a1 : Addr) (h0 : Heap) (n0 : Nat) (Z0 : n0 ≤ h0.size) (es x : Addr) (k : ClassId) (us : List Addr) (D : own_D Z h0 a1 es k (us ++ [x])) (g1 : n0 ≤ a1) (g2 : n0 ≤ es) :
    MetFree l (⟨"java/util/ArrayDeque", "pollLast", "()Ljava/lang/Object;"⟩ : MethodName) (head1 (Jvm.Cond.code (⟨"java/util/ArrayDeque", "pollLast", "()Ljava/lang/Object;"⟩ : MethodName) jdk_21_method_21_code 4 (some (.object "java/lang/Object")) :: ws) ({ frames := 1, cells := 0, slots := 0, locals := 14 } : Room)) (fun a_ U_ => a_ = #[(.ref a1)] ∧ Z.Warmed39 U_.vm ∧ U_.heap = h0) (fun _ _ _ _ _ => True) (fun _ U_ o_ U'_ => ∃ v_ L_, o_ = .returned v_ ∧ (Qrm12s Z a1 es x k us h0 n0) v_ U'_.heap L_ ∧ FrameEnd U_ o_ U'_ L_ 0 0) := by
  refine MetFree.of_bodySF pn_12 hisR ?_
  intro p e s m args below meth c s₁ Bd hml0 hP hK
  obtain ⟨rfl, hZ, hh⟩ := hP
  have hx := Bd.exec
  have hby := Bd.bytes
  have hlk : meth.locks = false := Bd.notSynchronized
  have hml : c.maxLocals = 4 := hml0
  have hown : s.vm.findClass "java/util/ArrayDeque" = some m.cls := findClass_of_methodNamed Bd.named
  have hnm := (name_of_methodNamed Bd.named Bd.method).1
  have X0 : Stand p l e ({ frames := 1, cells := 0, slots := 0, locals := 14 } : Room) s m #[(.ref a1)] below meth c s₁ [] 0 0 := Stand.of_body Bd
  have e0 : s₁.heap = h0 := by rw [← hh, Bd.state]; rfl
  have N0 := Fr.nil n0
  refine own_start (Q := Qrm12s Z a1 es x k us h0 n0) (g' := (mkF m 0 #[.val (.ref a1), .unset, .unset, .unset] [])) (by first | (simp [entryFrame, mkF, argsToLocals, Value.category]; done) | rfl) ?_
  show own_Gl _ _ _ _ (s₁.setTop (mkF m 0 #[.val (.ref a1), .unset, .unset, .unset] []))
  have ne1 := own_ne (hw _ (List.mem_of_getElem? (i := 10) rfl)) D
  obtain ⟨d1, d2, d3, d4, d5, ⟨cl, A, q1, S, P, H, G⟩, d7, d8⟩ := D
  have S17 : cl.slots.size = 17 := S
  rw [List.length_append, List.length_singleton] at d4 d8
  obtain ⟨n1, n2, n3⟩ := own_nat (i := us.length) (by omega)
  have hin : ¬ ((Int32.ofNat us.length) < 0 ∨ cl.slots.size ≤ (Int32.ofNat us.length).toNatClampNeg) := by rw [n2, S17]; exact fun q => q.elim n1 (by omega)
  have hat : cl.slots[(Int32.ofNat us.length).toNatClampNeg]? = some (.ref x) := by
    rw [n2, H us.length (by omega), List.map_append]
    have q := own_lget (us.map Value.ref) (.ref x) .null
    rw [List.length_map] at q
    exact congrArg some q
  refine own_back (fun t_ q_ => XS.aloadN X0.here hx rfl (hb hby d12_0) rfl rfl q_) ?_
  show own_Gl _ _ _ _ (s₁.setTop (mkF m 1 #[.val (.ref a1), .unset, .unset, .unset] [(.ref a1)]))
  obtain ⟨T16, X16, e16, st16⟩ := getF X0 hx hZ hown (host := "") (Or.inl (hw _ (List.mem_of_getElem? (i := 24) rfl))) Via.refl e0 d2 (g := (mkF m 1 #[.val (.ref a1), .unset, .unset, .unset] [(.ref a1)])) rfl rfl (hb hby d12_1)
  refine own_back st16 ?_
  show own_Gl _ _ _ _ (T16.setTop (mkF m 4 #[.val (.ref a1), .unset, .unset, .unset] [(.ref es)]))
  refine own_back (fun t_ q_ => XS.dup X16.here hx rfl (hb hby d12_4) rfl rfl q_) ?_
  show own_Gl _ _ _ _ (T16.setTop (mkF m 5 #[.val (.ref a1), .unset, .unset, .unset] [(.ref es), (.ref es)]))
  refine own_back (fun t_ q_ => XS.astoreN X16.here hx rfl (hb hby d12_5) rfl rfl (l' := #[.val (.ref a1), .val (.ref es), .unset, .unset]) rfl q_) ?_
  show own_Gl _ _ _ _ (T16.setTop (mkF m 6 #[.val (.ref a1), .val (.ref es), .unset, .unset] [(.ref es)]))
  refine own_back (fun t_ q_ => XS.aloadN X16.here hx rfl (hb hby d12_6) rfl rfl q_) ?_
  show own_Gl _ _ _ _ (T16.setTop (mkF m 7 #[.val (.ref a1), .val (.ref es), .unset, .unset] [(.ref a1), (.ref es)]))
  obtain ⟨T17, X17, e17, st17⟩ := getF X16 hx hZ hown (host := "") (Or.inl (hw _ (List.mem_of_getElem? (i := 43) rfl))) Via.refl e16 d4 (g := (mkF m 7 #[.val (.ref a1), .val (.ref es), .unset, .unset] [(.ref a1), (.ref es)])) rfl rfl (hb hby d12_7)
  refine own_back st17 ?_
  show own_Gl _ _ _ _ (T17.setTop (mkF m 10 #[.val (.ref a1), .val (.ref es), .unset, .unset] [(.int (Int32.ofNat (us.length + 1))), (.ref es)]))
  refine own_back (fun t_ q_ => XS.aloadN X17.here hx rfl (hb hby d12_10) rfl rfl q_) ?_
  show own_Gl _ _ _ _ (T17.setTop (mkF m 11 #[.val (.ref a1), .val (.ref es), .unset, .unset] [(.ref es), (.int (Int32.ofNat (us.length + 1))), (.ref es)]))
  refine own_back (fun t_ q_ => X17.arraylength hx (by rw [e17]; exact A.1) (State.isArrayOf_alike hZ.alike A.2.1) (g := (mkF m 11 #[.val (.ref a1), .val (.ref es), .unset, .unset] [(.ref es), (.int (Int32.ofNat (us.length + 1))), (.ref es)])) rfl rfl (hb hby d12_11) t_ q_) ?_
  rw [len_of S P]
  show own_Gl _ _ _ _ (T17.setTop (mkF m 12 #[.val (.ref a1), .val (.ref es), .unset, .unset] [(.int (17 : Int32)), (.int (Int32.ofNat (us.length + 1))), (.ref es)]))
  obtain ⟨_, _, ⟨T18, L18, k18, n18⟩, -, X18, ⟨Lc18, hQ18, l18, y18, z18⟩, st18⟩ := Jvm.LawKit.callS X17 hx (y := (⟨"java/util/ArrayDeque", "dec", "(II)I"⟩ : MethodName)) hown (mvT hZ (hw _ (List.mem_of_getElem? (i := 73) rfl))) (mvT hZ (hw _ (List.mem_of_getElem? (i := 74) rfl))) (mvT hZ (hw _ (List.mem_of_getElem? (i := 11) rfl))) (mvT hZ (hw _ (List.mem_of_getElem? (i := 75) rfl))) (by decide) (backOf (W := 1) (rm13 l Z a0 hw [] (Int32.ofNat (us.length + 1)) 17 h0 n0 Z0) hZ (hw _ (List.mem_of_getElem? (i := 75) rfl)) (hw _ (List.mem_of_getElem? (i := 11) rfl)) (by decide) (by decide)) (g := (mkF m 12 #[.val (.ref a1), .val (.ref es), .unset, .unset] [(.int (17 : Int32)), (.int (Int32.ofNat (us.length + 1))), (.ref es)])) rfl (by rw [hml]; rfl) (argsL := [(.int (Int32.ofNat (us.length + 1))), (.int (17 : Int32))]) (rest := [(.ref es)]) (lenOf pd_1 rfl) rfl (by show 2 * 0 + _ ≤ _; exact Nat.le_of_eq rfl) (hb hby d12_12) (fun _ _ => ⟨rfl, e17, (by decide : 0 + 0 ≤ _), (by decide : 0 + 0 ≤ _)⟩)
  dsimp only [Pt.U, Pt.locs, Pt.cells, Pt.slots] at X18 l18 y18 z18 st18 hQ18
  subst l18 y18 z18
  obtain ⟨rfl, M18, e18⟩ := hQ18
  have N18 := Fr.app N0 M18
  refine own_back st18 ?_
  show own_Gl _ _ _ _ (T18.setTop (mkF m 15 #[.val (.ref a1), .val (.ref es), .unset, .unset] [(.int (if ((Int32.ofNat (us.length + 1)) + (-1 : Int32)) < (0 : Int32) then (17 : Int32) - 1 else (Int32.ofNat (us.length + 1)) + (-1 : Int32))), (.ref es)]))
  rw [own_decn (i := us.length) (by omega), if_neg n1]
  show own_Gl _ _ _ _ (T18.setTop (mkF m 15 #[.val (.ref a1), .val (.ref es), .unset, .unset] [(.int (Int32.ofNat us.length)), (.ref es)]))
  refine own_back (fun t_ q_ => XS.dup X18.here hx rfl (hb hby d12_15) rfl rfl q_) ?_
  show own_Gl _ _ _ _ (T18.setTop (mkF m 16 #[.val (.ref a1), .val (.ref es), .unset, .unset] [(.int (Int32.ofNat us.length)), (.int (Int32.ofNat us.length)), (.ref es)]))
  refine own_back (fun t_ q_ => XS.istoreN X18.here hx rfl (hb hby d12_16) rfl (l' := #[.val (.ref a1), .val (.ref es), .val (.int (Int32.ofNat us.length)), .unset]) rfl q_) ?_
  show own_Gl _ _ _ _ (T18.setTop (mkF m 17 #[.val (.ref a1), .val (.ref es), .val (.int (Int32.ofNat us.length)), .unset] [(.int (Int32.ofNat us.length)), (.ref es)]))
  obtain ⟨_, _, ⟨T19, L19, k19, n19⟩, -, X19, ⟨Lc19, hQ19, l19, y19, z19⟩, st19⟩ := Jvm.LawKit.callS X18 hx (y := (⟨"java/util/ArrayDeque", "elementAt", "([Ljava/lang/Object;I)Ljava/lang/Object;"⟩ : MethodName)) hown (mvT hZ (hw _ (List.mem_of_getElem? (i := 76) rfl))) (mvT hZ (hw _ (List.mem_of_getElem? (i := 77) rfl))) (mvT hZ (hw _ (List.mem_of_getElem? (i := 11) rfl))) (mvT hZ (hw _ (List.mem_of_getElem? (i := 78) rfl))) (by decide) (backOf (W := 0) (rm14 l Z a0 hw [] es (Int32.ofNat us.length) h0 n0 Z0 cl (.ref x) rfl A hin hat) hZ (hw _ (List.mem_of_getElem? (i := 78) rfl)) (hw _ (List.mem_of_getElem? (i := 11) rfl)) (by decide) (by decide)) (g := (mkF m 17 #[.val (.ref a1), .val (.ref es), .val (.int (Int32.ofNat us.length)), .unset] [(.int (Int32.ofNat us.length)), (.ref es)])) rfl (by rw [hml]; rfl) (argsL := [(.ref es), (.int (Int32.ofNat us.length))]) (rest := []) (lenOf pd_2 rfl) rfl (by show 2 * 0 + _ ≤ _; exact Nat.le_of_eq rfl) (hb hby d12_17) (fun _ _ => ⟨rfl, e18, (by decide : 0 + 0 ≤ _), (by decide : 0 + 0 ≤ _)⟩)
  dsimp only [Pt.U, Pt.locs, Pt.cells, Pt.slots] at X19 l19 y19 z19 st19 hQ19
  subst l19 y19 z19
  obtain ⟨rfl, M19, e19⟩ := hQ19
  have N19 := Fr.app N18 M19
  refine own_back st19 ?_
  show own_Gl _ _ _ _ (T19.setTop (mkF m 20 #[.val (.ref a1), .val (.ref es), .val (.int (Int32.ofNat us.length)), .unset] [(.ref x)]))
  refine own_back (fun t_ q_ => XS.astoreN X19.here hx rfl (hb hby d12_20) rfl rfl (l' := #[.val (.ref a1), .val (.ref es), .val (.int (Int32.ofNat us.length)), .val (.ref x)]) rfl q_) ?_
  show own_Gl _ _ _ _ (T19.setTop (mkF m 21 #[.val (.ref a1), .val (.ref es), .val (.int (Int32.ofNat us.length)), .val (.ref x)] []))
  refine own_back (fun t_ q_ => XS.aloadN X19.here hx rfl (hb hby d12_21) rfl rfl q_) ?_
  show own_Gl _ _ _ _ (T19.setTop (mkF m 22 #[.val (.ref a1), .val (.ref es), .val (.int (Int32.ofNat us.length)), .val (.ref x)] [(.ref x)]))
  refine own_back (fun t_ q_ => XS.ifnullNo X19.here hx rfl (hb hby d12_22) rfl q_) ?_
  show own_Gl _ _ _ _ (T19.setTop (mkF m 25 #[.val (.ref a1), .val (.ref es), .val (.int (Int32.ofNat us.length)), .val (.ref x)] []))
  refine own_back (fun t_ q_ => XS.aloadN X19.here hx rfl (hb hby d12_25) rfl rfl q_) ?_
  show own_Gl _ _ _ _ (T19.setTop (mkF m 26 #[.val (.ref a1), .val (.ref es), .val (.int (Int32.ofNat us.length)), .val (.ref x)] [(.ref es)]))
  refine own_back (fun t_ q_ => XS.aloadN X19.here hx rfl (hb hby d12_26) rfl rfl q_) ?_
  show own_Gl _ _ _ _ (T19.setTop (mkF m 27 #[.val (.ref a1), .val (.ref es), .val (.int (Int32.ofNat us.length)), .val (.ref x)] [(.ref a1), (.ref es)]))
  refine own_back (fun t_ q_ => XS.iloadN X19.here hx rfl (hb hby d12_27) rfl q_) ?_
  show own_Gl _ _ _ _ (T19.setTop (mkF m 28 #[.val (.ref a1), .val (.ref es), .val (.int (Int32.ofNat us.length)), .val (.ref x)] [(.int (Int32.ofNat us.length)), (.ref a1), (.ref es)]))
  refine own_back (fun t_ q_ => XS.dupX1 X19.here hx rfl (hb hby d12_28) rfl rfl rfl q_) ?_
  show own_Gl _ _ _ _ (T19.setTop (mkF m 29 #[.val (.ref a1), .val (.ref es), .val (.int (Int32.ofNat us.length)), .val (.ref x)] [(.int (Int32.ofNat us.length)), (.ref a1), (.int (Int32.ofNat us.length)), (.ref es)]))
  obtain ⟨T20, h20, X20, e20, W20, st20⟩ := putF X19 hx hZ hown (host := "") (Or.inl (hw _ (List.mem_of_getElem? (i := 43) rfl))) Via.refl e19 d4 d1 (Or.inl (hw _ (List.mem_of_getElem? (i := 44) rfl))) (hw _ (List.mem_of_getElem? (i := 10) rfl)) (ty := .int) (by decide) rfl rfl (g := (mkF m 29 #[.val (.ref a1), .val (.ref es), .val (.int (Int32.ofNat us.length)), .val (.ref x)] [(.int (Int32.ofNat us.length)), (.ref a1), (.int (Int32.ofNat us.length)), (.ref es)])) rfl rfl (hb hby d12_29)
  refine own_back st20 ?_
  have N20 := Fr.snoc X20 N19 g1
  show own_Gl _ _ _ _ (T20.setTop (mkF m 32 #[.val (.ref a1), .val (.ref es), .val (.int (Int32.ofNat us.length)), .val (.ref x)] [(.int (Int32.ofNat us.length)), (.ref es)]))
  have A2 := A.other W20 (Ne.symm ne1)
  refine own_back (fun t_ q_ => XS.aconstNull X20.here hx rfl (hb hby d12_32) q_) ?_
  show own_Gl _ _ _ _ (T20.setTop (mkF m 33 #[.val (.ref a1), .val (.ref es), .val (.int (Int32.ofNat us.length)), .val (.ref x)] [.null, (.int (Int32.ofNat us.length)), (.ref es)]))
  obtain ⟨T21, h21, X21, e21, W21, st21⟩ := stR X20 hx hZ e20 A2 (j := (Int32.ofNat us.length)) hin rfl (Or.inl rfl) (g := (mkF m 33 #[.val (.ref a1), .val (.ref es), .val (.int (Int32.ofNat us.length)), .val (.ref x)] [.null, (.int (Int32.ofNat us.length)), (.ref es)])) rfl rfl (hb hby d12_33)
  refine own_back st21 ?_
  have N21 := Fr.snoc X21 N20 g2
  show own_Gl _ _ _ _ (T21.setTop (mkF m 34 #[.val (.ref a1), .val (.ref es), .val (.int (Int32.ofNat us.length)), .val (.ref x)] []))
  refine own_back (fun t_ q_ => XS.aloadN X21.here hx rfl (hb hby d12_34) rfl rfl q_) ?_
  show own_Gl _ _ _ _ (T21.setTop (mkF m 35 #[.val (.ref a1), .val (.ref es), .val (.int (Int32.ofNat us.length)), .val (.ref x)] [(.ref x)]))
  have V1 := Arv.set A2 q1 S P H G (v := .null) rfl W21 us.length n2 (by simp)
  have V2 : Arv Z h21 es k (.object "java/lang/Object") (17 : Int32) (us.map Value.ref) .null := by
    have q := own_lset (us.map Value.ref) (.ref x) .null
    rw [List.length_map] at q
    rw [List.map_append] at V1
    have V3 : Arv Z h21 es k (.object "java/lang/Object") (17 : Int32) (us.map Value.ref ++ [.null]) .null := q ▸ V1
    exact V3.pad (fun i => (pad_rep (us.map Value.ref) .null 1 i).symm)
  exact own_rA X21 hx hlk Bd.returns rfl rfl rfl (hb hby d12_35) (by show Qrm12s Z a1 es x k us h0 n0 _ T21.heap _; rw [e21]; exact ⟨rfl, N21, ((Keep.refl h0 [a1, es]).wr W20 (Or.inl (List.mem_cons_self ..))).wr W21 (Or.inl (List.mem_cons_of_mem _ (List.mem_cons_self ..))), (d1.wr W20).wr W21, (d2.other W20 (Or.inr (slot_ne (Or.inl (hw _ (List.mem_of_getElem? (i := 25) rfl))) (Or.inl (hw _ (List.mem_of_getElem? (i := 44) rfl))) (by decide) (t := (.array (.object "java/lang/Object"))) (t' := .int) (by decide) (by decide)))).other W21 (Or.inl ne1), (d3.other W20 (Or.inr (slot_ne (Or.inl (hw _ (List.mem_of_getElem? (i := 46) rfl))) (Or.inl (hw _ (List.mem_of_getElem? (i := 44) rfl))) (by decide) (t := .int) (t' := .int) (by decide) (by decide)))).other W21 (Or.inl ne1), (d4.same W20).other W21 (Or.inl ne1), d5, V2, fun y hy => ((d7 y (List.mem_append_left _ hy)).wr W20).wr W21, by omega⟩) (by decide) (by decide)
theorem d4_0 : decode jdk_22_method_1_code 0 = .ok (.aload_n 0, 1) := by decide +kernel
theorem d4_1 : decode jdk_22_method_1_code 1 = .ok (.invokespecial 1, 3) := by decide +kernel
theorem pd_3 : parseMethodDescriptor "()V" = some ⟨[], none⟩ := by decide +kernel
theorem d4_4 : decode jdk_22_method_1_code 4 = .ok (.return_, 1) := by decide +kernel
theorem pn_4 : plainFor (⟨"java/util/AbstractCollection", "<init>", "()V"⟩ : MethodName) = true := plainFor_of_name (by first | (simp [plainName, overriddenIn]; done) | decide +kernel)
def Qrm4 (h0 : Heap) (n0 : Nat) (v : Option Value) (h : Heap) (L : List Loc) : Prop := v = none ∧ Fr n0 L ∧ h = h0
set_option maxRecDepth 65536 in
set_option maxHeartbeats 40000000 in
theorem rm4 (l : Launch) (Z : State) (a0 : Array Value) (hw : ∀ d ∈ tables_1, d.before a0 Z = true) (ws : List Jvm.Cond) (a1 : Addr) (h0 : Heap) (n0 : Nat) (Z0 : n0 ≤ h0.size)  :
    MetFree l (⟨"java/util/AbstractCollection", "<init>", "()V"⟩ : MethodName) (head1 (Jvm.Cond.code (⟨"java/util/AbstractCollection", "<init>", "()V"⟩ : MethodName) jdk_22_method_1_code 1 none :: ws) ({ frames := 1, cells := 0, slots := 0, locals := 12 } : Room)) (fun a_ U_ => a_ = #[(.ref a1)] ∧ Z.Warmed39 U_.vm ∧ U_.heap = h0) (fun _ _ _ _ _ => True) (fun _ U_ o_ U'_ => ∃ v_ L_, o_ = .returned v_ ∧ (Qrm4 h0 n0) v_ U'_.heap L_ ∧ FrameEnd U_ o_ U'_ L_ 0 0) := by
  refine MetFree.of_bodySF pn_4 hisR ?_
  intro p e s m args below meth c s₁ Bd hml0 hP hK
  obtain ⟨rfl, hZ, hh⟩ := hP
  have hx := Bd.exec
  have hby := Bd.bytes
  have hlk : meth.locks = false := Bd.notSynchronized
  have hml : c.maxLocals = 1 := hml0
  have hown : s.vm.findClass "java/util/AbstractCollection" = some m.cls := findClass_of_methodNamed Bd.named
  have hnm := (name_of_methodNamed Bd.named Bd.method).1
  have X0 : Stand p l e ({ frames := 1, cells := 0, slots := 0, locals := 12 } : Room) s m #[(.ref a1)] below meth c s₁ [] 0 0 := Stand.of_body Bd
  have e0 : s₁.heap = h0 := by rw [← hh, Bd.state]; rfl
  have N0 := Fr.nil n0
  refine own_start (Q := Qrm4 h0 n0) (g' := (mkF m 0 #[.val (.ref a1)] [])) (by first | (simp [entryFrame, mkF, argsToLocals, Value.category]; done) | rfl) ?_
  show own_Gl _ _ _ _ (s₁.setTop (mkF m 0 #[.val (.ref a1)] []))
  refine own_back (fun t_ q_ => XS.aloadN X0.here hx rfl (hb hby d4_0) rfl rfl q_) ?_
  show own_Gl _ _ _ _ (s₁.setTop (mkF m 1 #[.val (.ref a1)] [(.ref a1)]))
  obtain ⟨T22, X22, e22, st22⟩ := initO X0 hx hZ hown (hw _ (List.mem_of_getElem? (i := 21) rfl)) (hw _ (List.mem_of_getElem? (i := 7) rfl)) (hw _ (List.mem_of_getElem? (i := 8) rfl)) e0 (g := (mkF m 1 #[.val (.ref a1)] [(.ref a1)])) rfl (by rw [hml]; rfl) rfl (hb hby d4_1) (by decide) (W := 0) (by show 2 * 0 + _ ≤ _; exact Nat.le_of_eq rfl) (by decide)
  refine own_back st22 ?_
  show own_Gl _ _ _ _ (T22.setTop (mkF m 4 #[.val (.ref a1)] []))
  exact own_rV X22 hx hlk Bd.returns (hb hby d4_4) (by show Qrm4 h0 n0 _ T22.heap _; rw [e22]; exact ⟨rfl, N0, rfl⟩) (by decide) (by decide)
theorem d3_0 : decode jdk_21_method_3_code 0 = .ok (.aload_n 0, 1) := by decide +kernel
theorem d3_1 : decode jdk_21_method_3_code 1 = .ok (.invokespecial 42, 3) := by decide +kernel
theorem d3_4 : decode jdk_21_method_3_code 4 = .ok (.aload_n 0, 1) := by decide +kernel
theorem d3_5 : decode jdk_21_method_3_code 5 = .ok (.bipush 17, 2) := by decide +kernel
theorem d3_7 : decode jdk_21_method_3_code 7 = .ok (.anewarray 47, 3) := by decide +kernel
theorem d3_10 : decode jdk_21_method_3_code 10 = .ok (.putfield 3, 3) := by decide +kernel
theorem d3_13 : decode jdk_21_method_3_code 13 = .ok (.return_, 1) := by decide +kernel
theorem pn_3 : plainFor (⟨"java/util/ArrayDeque", "<init>", "()V"⟩ : MethodName) = true := plainFor_of_name (by first | (simp [plainName, overriddenIn]; done) | decide +kernel)
def Qrm3 (Z : State) (a1 : Addr) (h0 : Heap) (n0 : Nat) (v : Option Value) (h : Heap) (L : List Loc) : Prop := v = none ∧ Fr n0 L ∧ Keep h0 h [a1] ∧ ∃ es k, n0 ≤ es ∧ own_D Z h a1 es k []
set_option maxRecDepth 65536 in
set_option maxHeartbeats 40000000 in
theorem rm3 (l : Launch) (Z : State) (a0 : Array Value) (hw : ∀ d ∈ tables_1, d.before a0 Z = true) (ws : List Jvm.Cond) (a1 : Addr) (h0 : Heap) (n0 : Nat) (Z0 : n0 ≤ h0.size) (E1 : Exa Z h0 a1 "java/util/ArrayDeque") (F1 : Fld Z h0 a1 "java/util/ArrayDeque" "elements" "[Ljava/lang/Object;" .null) (F2 : Fld Z h0 a1 "java/util/ArrayDeque" "head" "I" (.int 0)) (F3 : Fld Z h0 a1 "java/util/ArrayDeque" "tail" "I" (.int 0)) (g1 : n0 ≤ a1) :
    MetFree l (⟨"java/util/ArrayDeque", "<init>", "()V"⟩ : MethodName) (head1 (Jvm.Cond.code (⟨"java/util/ArrayDeque", "<init>", "()V"⟩ : MethodName) jdk_21_method_3_code 1 none :: ws) ({ frames := 2, cells := 1, slots := 17, locals := 24 } : Room)) (fun a_ U_ => a_ = #[(.ref a1)] ∧ Z.Warmed39 U_.vm ∧ U_.heap = h0) (fun _ _ _ _ _ => True) (fun _ U_ o_ U'_ => ∃ v_ L_, o_ = .returned v_ ∧ (Qrm3 Z a1 h0 n0) v_ U'_.heap L_ ∧ FrameEnd U_ o_ U'_ L_ 1 17) := by
  refine MetFree.of_bodySF pn_3 hisR ?_
  intro p e s m args below meth c s₁ Bd hml0 hP hK
  obtain ⟨rfl, hZ, hh⟩ := hP
  have hx := Bd.exec
  have hby := Bd.bytes
  have hlk : meth.locks = false := Bd.notSynchronized
  have hml : c.maxLocals = 1 := hml0
  have hown : s.vm.findClass "java/util/ArrayDeque" = some m.cls := findClass_of_methodNamed Bd.named
  have hnm := (name_of_methodNamed Bd.named Bd.method).1
  have X0 : Stand p l e ({ frames := 2, cells := 1, slots := 17, locals := 24 } : Room) s m #[(.ref a1)] below meth c s₁ [] 0 0 := Stand.of_body Bd
  have e0 : s₁.heap = h0 := by rw [← hh, Bd.state]; rfl
  have N0 := Fr.nil n0
  refine own_start (Q := Qrm3 Z a1 h0 n0) (g' := (mkF m 0 #[.val (.ref a1)] [])) (by first | (simp [entryFrame, mkF, argsToLocals, Value.category]; done) | rfl) ?_
  show own_Gl _ _ _ _ (s₁.setTop (mkF m 0 #[.val (.ref a1)] []))
  refine own_back (fun t_ q_ => XS.aloadN X0.here hx rfl (hb hby d3_0) rfl rfl q_) ?_
  show own_Gl _ _ _ _ (s₁.setTop (mkF m 1 #[.val (.ref a1)] [(.ref a1)]))
  obtain ⟨_, _, ⟨T23, L23, k23, n23⟩, -, X23, ⟨Lc23, hQ23, l23, y23, z23⟩, st23⟩ := X0.specialBack hx (y := (⟨"java/util/AbstractCollection", "<init>", "()V"⟩ : MethodName)) rfl hown (mvT hZ (hw _ (List.mem_of_getElem? (i := 15) rfl))) (mvT hZ (hw _ (List.mem_of_getElem? (i := 16) rfl))) (mvT hZ (hw _ (List.mem_of_getElem? (i := 20) rfl))) (by decide) (backOf (W := 0) (rm4 l Z a0 hw [] a1 h0 n0 Z0) hZ (hw _ (List.mem_of_getElem? (i := 20) rfl)) (hw _ (List.mem_of_getElem? (i := 19) rfl)) (by decide) (by decide)) (g := (mkF m 1 #[.val (.ref a1)] [(.ref a1)])) rfl (by rw [hml]; rfl) (Steps.refl _) (a := a1) (argsL := []) (rest := []) (lenOf pd_3 rfl) rfl (by show 2 * 0 + _ ≤ _; exact Nat.le_of_eq rfl) (hb hby d3_1) (fun _ _ => ⟨rfl, e0, (by decide : 0 + 0 ≤ _), (by decide : 0 + 0 ≤ _)⟩)
  dsimp only [Pt.U, Pt.locs, Pt.cells, Pt.slots] at X23 l23 y23 z23 st23 hQ23
  subst l23 y23 z23
  obtain ⟨rfl, M23, e23⟩ := hQ23
  have N23 := Fr.app N0 M23
  refine own_trans st23 ?_
  show own_Gl _ _ _ _ (T23.setTop (mkF m 4 #[.val (.ref a1)] []))
  refine own_back (fun t_ q_ => XS.aloadN X23.here hx rfl (hb hby d3_4) rfl rfl q_) ?_
  show own_Gl _ _ _ _ (T23.setTop (mkF m 5 #[.val (.ref a1)] [(.ref a1)]))
  refine own_back (fun t_ q_ => XS.bipush X23.here hx rfl (hb hby d3_5) q_) ?_
  show own_Gl _ _ _ _ (T23.setTop (mkF m 7 #[.val (.ref a1)] [(.int (17 : Int32)), (.ref a1)]))
  obtain ⟨T24, h24, k24, X24, e24, E24, A24, O24, st24⟩ := newR X23 hx hZ hown (hw _ (List.mem_of_getElem? (i := 22) rfl)) (hw _ (List.mem_of_getElem? (i := 23) rfl)) e23 (g := (mkF m 7 #[.val (.ref a1)] [(.int (17 : Int32)), (.ref a1)])) rfl (hb hby d3_7) rfl (by decide) (cap := 17) (by decide) (by decide) (by decide) (by decide)
  obtain ⟨b24, g24⟩ : ∃ z, z = h0.size := ⟨_, rfl⟩
  rw [← g24] at A24 st24
  refine own_back st24 ?_
  show own_Gl _ _ _ _ (T24.setTop (mkF m 10 #[.val (.ref a1)] [(.ref b24), (.ref a1)]))
  have gb : n0 ≤ b24 := Nat.le_trans Z0 (Nat.le_of_eq g24.symm)
  have sb : h0.size ≤ b24 := Nat.le_of_eq g24.symm
  have ne1 : a1 ≠ b24 := Nat.ne_of_lt (Nat.lt_of_lt_of_le F1.lt sb)
  have V1 := Arv.new A24 (by decide)
  obtain ⟨T25, h25, X25, e25, W25, st25⟩ := putF X24 hx hZ hown (host := "") (Or.inl (hw _ (List.mem_of_getElem? (i := 24) rfl))) Via.refl e24 (F1.ext E24) (E1.ext E24) (Or.inl (hw _ (List.mem_of_getElem? (i := 25) rfl))) (hw _ (List.mem_of_getElem? (i := 10) rfl)) (ty := (.array (.object "java/lang/Object"))) (by decide) rfl rfl (g := (mkF m 10 #[.val (.ref a1)] [(.ref b24), (.ref a1)])) rfl rfl (hb hby d3_10)
  refine own_back st25 ?_
  have N25 := Fr.snoc X25 N23 g1
  show own_Gl _ _ _ _ (T25.setTop (mkF m 13 #[.val (.ref a1)] []))
  exact own_rV X25 hx hlk Bd.returns (hb hby d3_13) (by show Qrm3 Z a1 h0 n0 _ T25.heap _; rw [e25]; exact ⟨rfl, N25, ((Keep.refl h0 [a1]).ext E24).wr W25 (Or.inl (List.mem_singleton.mpr rfl)), b24, k24, gb, (E1.ext E24).wr W25, (F1.ext E24).same W25, (F2.ext E24).other W25 (Or.inr (slot_ne (Or.inl (hw _ (List.mem_of_getElem? (i := 46) rfl))) (Or.inl (hw _ (List.mem_of_getElem? (i := 25) rfl))) (by decide) (t := .int) (t' := (.array (.object "java/lang/Object"))) (by decide) (by decide))), (F3.ext E24).other W25 (Or.inr (slot_ne (Or.inl (hw _ (List.mem_of_getElem? (i := 44) rfl))) (Or.inl (hw _ (List.mem_of_getElem? (i := 25) rfl))) (by decide) (t := .int) (t' := (.array (.object "java/lang/Object"))) (by decide) (by decide))), O24, V1.other W25 (Ne.symm ne1), (fun x hx => nomatch hx), by decide⟩) (by decide) (by decide)
theorem d1_0 : decode prog_24_method_1_code 0 = .ok (.aload_n 0, 1) := by decide +kernel
theorem d1_1 : decode prog_24_method_1_code 1 = .ok (.invokespecial 1, 3) := by decide +kernel
theorem d1_4 : decode prog_24_method_1_code 4 = .ok (.aload_n 0, 1) := by decide +kernel
theorem d1_5 : decode prog_24_method_1_code 5 = .ok (.new 7, 3) := by decide +kernel
theorem d1_8 : decode prog_24_method_1_code 8 = .ok (.dup, 1) := by decide +kernel
theorem d1_9 : decode prog_24_method_1_code 9 = .ok (.invokespecial 9, 3) := by decide +kernel
theorem d1_12 : decode prog_24_method_1_code 12 = .ok (.putfield 10, 3) := by decide +kernel
theorem d1_15 : decode prog_24_method_1_code 15 = .ok (.aload_n 0, 1) := by decide +kernel
theorem d1_16 : decode prog_24_method_1_code 16 = .ok (.iload_n 1, 1) := by decide +kernel
theorem d1_17 : decode prog_24_method_1_code 17 = .ok (.putfield 16, 3) := by decide +kernel
theorem d1_20 : decode prog_24_method_1_code 20 = .ok (.aload_n 0, 1) := by decide +kernel
theorem d1_21 : decode prog_24_method_1_code 21 = .ok (.iload_n 2, 1) := by decide +kernel
theorem d1_22 : decode prog_24_method_1_code 22 = .ok (.putfield 20, 3) := by decide +kernel
theorem d1_25 : decode prog_24_method_1_code 25 = .ok (.return_, 1) := by decide +kernel
theorem pn_1 : plainFor (⟨"com/example/thermopylae/thermopylae/http/BufferPool", "<init>", "(II)V"⟩ : MethodName) = true := plainFor_of_name (by first | (simp [plainName, overriddenIn]; done) | decide +kernel)
def Qrm1 (Z : State) (a1 : Addr) (p2 p3 : Int32) (h0 : Heap) (n0 : Nat) (v : Option Value) (h : Heap) (L : List Loc) : Prop := v = none ∧ Fr n0 L ∧ Keep h0 h [a1] ∧ ∃ dq es k, n0 ≤ dq ∧ n0 ≤ es ∧ own_W Z h a1 dq es k p2 p3 []
set_option maxRecDepth 65536 in
set_option maxHeartbeats 40000000 in
theorem rm1 (l : Launch) (Z : State) (a0 : Array Value) (hw : ∀ d ∈ tables_1, d.before a0 Z = true) (ws : List Jvm.Cond) (a1 : Addr) (p2 : Int32) (p3 : Int32) (h0 : Heap) (n0 : Nat) (Z0 : n0 ≤ h0.size) (E1 : Exa Z h0 a1 "com/example/thermopylae/thermopylae/http/BufferPool") (F1 : Fld Z h0 a1 "com/example/thermopylae/thermopylae/http/BufferPool" "kept" "Ljava/util/ArrayDeque;" .null) (F2 : Fld Z h0 a1 "com/example/thermopylae/thermopylae/http/BufferPool" "bytes" "I" (.int 0)) (F3 : Fld Z h0 a1 "com/example/thermopylae/thermopylae/http/BufferPool" "most" "I" (.int 0)) (g1 : n0 ≤ a1) :
    MetFree l (⟨"com/example/thermopylae/thermopylae/http/BufferPool", "<init>", "(II)V"⟩ : MethodName) (head1 (Jvm.Cond.code (⟨"com/example/thermopylae/thermopylae/http/BufferPool", "<init>", "(II)V"⟩ : MethodName) prog_24_method_1_code 3 none :: ws) ({ frames := 3, cells := 2, slots := 20, locals := 38 } : Room)) (fun a_ U_ => a_ = #[(.ref a1), (.int p2), (.int p3)] ∧ Z.Warmed39 U_.vm ∧ U_.heap = h0) (fun _ _ _ _ _ => True) (fun _ U_ o_ U'_ => ∃ v_ L_, o_ = .returned v_ ∧ (Qrm1 Z a1 p2 p3 h0 n0) v_ U'_.heap L_ ∧ FrameEnd U_ o_ U'_ L_ 2 20) := by
  refine MetFree.of_bodySF pn_1 hisR ?_
  intro p e s m args below meth c s₁ Bd hml0 hP hK
  obtain ⟨rfl, hZ, hh⟩ := hP
  have hx := Bd.exec
  have hby := Bd.bytes
  have hlk : meth.locks = false := Bd.notSynchronized
  have hml : c.maxLocals = 3 := hml0
  have hown : s.vm.findClass "com/example/thermopylae/thermopylae/http/BufferPool" = some m.cls := findClass_of_methodNamed Bd.named
  have hnm := (name_of_methodNamed Bd.named Bd.method).1
  have X0 : Stand p l e ({ frames := 3, cells := 2, slots := 20, locals := 38 } : Room) s m #[(.ref a1), (.int p2), (.int p3)] below meth c s₁ [] 0 0 := Stand.of_body Bd
  have e0 : s₁.heap = h0 := by rw [← hh, Bd.state]; rfl
  have N0 := Fr.nil n0
  refine own_start (Q := Qrm1 Z a1 p2 p3 h0 n0) (g' := (mkF m 0 #[.val (.ref a1), .val (.int p2), .val (.int p3)] [])) (by first | (simp [entryFrame, mkF, argsToLocals, Value.category]; done) | rfl) ?_
  show own_Gl _ _ _ _ (s₁.setTop (mkF m 0 #[.val (.ref a1), .val (.int p2), .val (.int p3)] []))
  refine own_back (fun t_ q_ => XS.aloadN X0.here hx rfl (hb hby d1_0) rfl rfl q_) ?_
  show own_Gl _ _ _ _ (s₁.setTop (mkF m 1 #[.val (.ref a1), .val (.int p2), .val (.int p3)] [(.ref a1)]))
  obtain ⟨T26, X26, e26, st26⟩ := initO X0 hx hZ hown (hw _ (List.mem_of_getElem? (i := 6) rfl)) (hw _ (List.mem_of_getElem? (i := 7) rfl)) (hw _ (List.mem_of_getElem? (i := 8) rfl)) e0 (g := (mkF m 1 #[.val (.ref a1), .val (.int p2), .val (.int p3)] [(.ref a1)])) rfl (by rw [hml]; rfl) rfl (hb hby d1_1) (by decide) (W := 0) (by show 2 * 0 + _ ≤ _; exact Nat.le_of_eq rfl) (by decide)
  refine own_back st26 ?_
  show own_Gl _ _ _ _ (T26.setTop (mkF m 4 #[.val (.ref a1), .val (.int p2), .val (.int p3)] []))
  refine own_back (fun t_ q_ => XS.aloadN X26.here hx rfl (hb hby d1_4) rfl rfl q_) ?_
  show own_Gl _ _ _ _ (T26.setTop (mkF m 5 #[.val (.ref a1), .val (.int p2), .val (.int p3)] [(.ref a1)]))
  obtain ⟨T27, h27, X27, e27, E27, A27, D27, -, st27⟩ := newO X26 hx hZ hown (hw _ (List.mem_of_getElem? (i := 9) rfl)) (hw _ (List.mem_of_getElem? (i := 10) rfl)) (hw _ (List.mem_of_getElem? (i := 11) rfl)) e26 (g := (mkF m 5 #[.val (.ref a1), .val (.int p2), .val (.int p3)] [(.ref a1)])) rfl (hb hby d1_5) (by decide) (by decide)
  obtain ⟨b27, g27⟩ : ∃ z, z = h0.size := ⟨_, rfl⟩
  rw [← g27] at A27 D27 st27
  refine own_back st27 ?_
  show own_Gl _ _ _ _ (T27.setTop (mkF m 8 #[.val (.ref a1), .val (.int p2), .val (.int p3)] [(.ref b27), (.ref a1)]))
  refine own_back (fun t_ q_ => XS.dup X27.here hx rfl (hb hby d1_8) rfl rfl q_) ?_
  show own_Gl _ _ _ _ (T27.setTop (mkF m 9 #[.val (.ref a1), .val (.int p2), .val (.int p3)] [(.ref b27), (.ref b27), (.ref a1)]))
  have gb : n0 ≤ b27 := Nat.le_trans Z0 (Nat.le_of_eq g27.symm)
  have sb : h0.size ≤ b27 := Nat.le_of_eq g27.symm
  have ne1 : a1 ≠ b27 := Nat.ne_of_lt (Nat.lt_of_lt_of_le F1.lt sb)
  have Z1 : n0 ≤ h27.size := Nat.le_trans Z0 E27.1
  obtain ⟨_, _, ⟨T28, L28, k28, n28⟩, -, X28, ⟨Lc28, hQ28, l28, y28, z28⟩, st28⟩ := X27.specialBack hx (y := (⟨"java/util/ArrayDeque", "<init>", "()V"⟩ : MethodName)) rfl hown (mvT hZ (hw _ (List.mem_of_getElem? (i := 12) rfl))) (mvT hZ (hw _ (List.mem_of_getElem? (i := 13) rfl))) (mvT hZ (hw _ (List.mem_of_getElem? (i := 14) rfl))) (by decide) (backOf (W := 2) (rm3 l Z a0 hw [] b27 h27 n0 Z1 A27 (D27 (Or.inl (hw _ (List.mem_of_getElem? (i := 25) rfl))) (ty := (.array (.object "java/lang/Object"))) (by decide)) (D27 (Or.inl (hw _ (List.mem_of_getElem? (i := 46) rfl))) (ty := .int) (by decide)) (D27 (Or.inl (hw _ (List.mem_of_getElem? (i := 44) rfl))) (ty := .int) (by decide)) gb) hZ (hw _ (List.mem_of_getElem? (i := 14) rfl)) (hw _ (List.mem_of_getElem? (i := 11) rfl)) (by decide) (by decide)) (g := (mkF m 9 #[.val (.ref a1), .val (.int p2), .val (.int p3)] [(.ref b27), (.ref b27), (.ref a1)])) rfl (by rw [hml]; rfl) (Steps.refl _) (a := b27) (argsL := []) (rest := [(.ref b27), (.ref a1)]) (lenOf pd_3 rfl) rfl (by show 2 * 0 + _ ≤ _; exact Nat.le_of_eq rfl) (hb hby d1_9) (fun _ _ => ⟨rfl, e27, (by decide : 1 + 1 ≤ _), (by decide : 3 + 17 ≤ _)⟩)
  dsimp only [Pt.U, Pt.locs, Pt.cells, Pt.slots] at X28 l28 y28 z28 st28 hQ28
  subst l28 y28 z28
  obtain ⟨rfl, M28, K28, es, k, ge, D28⟩ := hQ28
  have N28 := Fr.app N0 M28
  refine own_trans st28 ?_
  show own_Gl _ _ _ _ (T28.setTop (mkF m 12 #[.val (.ref a1), .val (.int p2), .val (.int p3)] [(.ref b27), (.ref a1)]))
  have K0 : Keep h0 T28.heap [a1] := own_keepM ((own_keepE E27).trans K28 (fun x hx => Or.inr (by cases List.mem_singleton.mp hx; exact sb)))
  have E2 := (E1.ext E27).keep K28
  have P1 := (F1.ext E27).keep K28 (ninS ne1 nin0)
  have P2 := (F2.ext E27).keep K28 (ninS ne1 nin0)
  have P3 := (F3.ext E27).keep K28 (ninS ne1 nin0)
  obtain ⟨T29, h29, X29, e29, W29, st29⟩ := putF X28 hx hZ hown (host := "") (Or.inl (hw _ (List.mem_of_getElem? (i := 26) rfl))) Via.refl rfl P1 E2 (Or.inr ⟨(hw _ (List.mem_of_getElem? (i := 27) rfl)), rfl, hnm⟩) (hw _ (List.mem_of_getElem? (i := 1) rfl)) (ty := (.object "java/util/ArrayDeque")) (by decide) rfl rfl (g := (mkF m 12 #[.val (.ref a1), .val (.int p2), .val (.int p3)] [(.ref b27), (.ref a1)])) rfl rfl (hb hby d1_12)
  refine own_back st29 ?_
  have N29 := Fr.snoc X29 N28 g1
  show own_Gl _ _ _ _ (T29.setTop (mkF m 15 #[.val (.ref a1), .val (.int p2), .val (.int p3)] []))
  have E3 := E2.wr W29
  have R1 := P1.same W29
  have R2 := P2.other W29 (Or.inr (slot_ne (Or.inr (hw _ (List.mem_of_getElem? (i := 29) rfl))) (Or.inr (hw _ (List.mem_of_getElem? (i := 27) rfl))) (by decide) (t := .int) (t' := (.object "java/util/ArrayDeque")) (by decide) (by decide)))
  have R3 := P3.other W29 (Or.inr (slot_ne (Or.inr (hw _ (List.mem_of_getElem? (i := 31) rfl))) (Or.inr (hw _ (List.mem_of_getElem? (i := 27) rfl))) (by decide) (t := .int) (t' := (.object "java/util/ArrayDeque")) (by decide) (by decide)))
  refine own_back (fun t_ q_ => XS.aloadN X29.here hx rfl (hb hby d1_15) rfl rfl q_) ?_
  show own_Gl _ _ _ _ (T29.setTop (mkF m 16 #[.val (.ref a1), .val (.int p2), .val (.int p3)] [(.ref a1)]))
  refine own_back (fun t_ q_ => XS.iloadN X29.here hx rfl (hb hby d1_16) rfl q_) ?_
  show own_Gl _ _ _ _ (T29.setTop (mkF m 17 #[.val (.ref a1), .val (.int p2), .val (.int p3)] [(.int p2), (.ref a1)]))
  obtain ⟨T30, h30, X30, e30, W30, st30⟩ := putF X29 hx hZ hown (host := "") (Or.inl (hw _ (List.mem_of_getElem? (i := 28) rfl))) Via.refl e29 R2 E3 (Or.inr ⟨(hw _ (List.mem_of_getElem? (i := 29) rfl)), rfl, hnm⟩) (hw _ (List.mem_of_getElem? (i := 1) rfl)) (ty := .int) (by decide) rfl rfl (g := (mkF m 17 #[.val (.ref a1), .val (.int p2), .val (.int p3)] [(.int p2), (.ref a1)])) rfl rfl (hb hby d1_17)
  refine own_back st30 ?_
  have N30 := Fr.snoc X30 N29 g1
  show own_Gl _ _ _ _ (T30.setTop (mkF m 20 #[.val (.ref a1), .val (.int p2), .val (.int p3)] []))
  have E4 := E3.wr W30
  have S1 := R1.other W30 (Or.inr (slot_ne (Or.inr (hw _ (List.mem_of_getElem? (i := 27) rfl))) (Or.inr (hw _ (List.mem_of_getElem? (i := 29) rfl))) (by decide) (t := (.object "java/util/ArrayDeque")) (t' := .int) (by decide) (by decide)))
  have S2 := R2.same W30
  have S3 := R3.other W30 (Or.inr (slot_ne (Or.inr (hw _ (List.mem_of_getElem? (i := 31) rfl))) (Or.inr (hw _ (List.mem_of_getElem? (i := 29) rfl))) (by decide) (t := .int) (t' := .int) (by decide) (by decide)))
  refine own_back (fun t_ q_ => XS.aloadN X30.here hx rfl (hb hby d1_20) rfl rfl q_) ?_
  show own_Gl _ _ _ _ (T30.setTop (mkF m 21 #[.val (.ref a1), .val (.int p2), .val (.int p3)] [(.ref a1)]))
  refine own_back (fun t_ q_ => XS.iloadN X30.here hx rfl (hb hby d1_21) rfl q_) ?_
  show own_Gl _ _ _ _ (T30.setTop (mkF m 22 #[.val (.ref a1), .val (.int p2), .val (.int p3)] [(.int p3), (.ref a1)]))
  obtain ⟨T31, h31, X31, e31, W31, st31⟩ := putF X30 hx hZ hown (host := "") (Or.inl (hw _ (List.mem_of_getElem? (i := 30) rfl))) Via.refl e30 S3 E4 (Or.inr ⟨(hw _ (List.mem_of_getElem? (i := 31) rfl)), rfl, hnm⟩) (hw _ (List.mem_of_getElem? (i := 1) rfl)) (ty := .int) (by decide) rfl rfl (g := (mkF m 22 #[.val (.ref a1), .val (.int p2), .val (.int p3)] [(.int p3), (.ref a1)])) rfl rfl (hb hby d1_22)
  refine own_back st31 ?_
  have N31 := Fr.snoc X31 N30 g1
  show own_Gl _ _ _ _ (T31.setTop (mkF m 25 #[.val (.ref a1), .val (.int p2), .val (.int p3)] []))
  have KK := ((Keep.of_wr W29).trans (Keep.of_wr W30) (fun x hx => Or.inl hx)).trans (Keep.of_wr W31) (fun x hx => Or.inl hx)
  have ne2 : es ≠ a1 := by
    obtain ⟨-, -, -, -, -, ⟨c5, A5, -⟩, -⟩ := D28
    exact (ne_arr E2 (hw _ (List.mem_of_getElem? (i := 1) rfl)) A5).symm
  exact own_rV X31 hx hlk Bd.returns (hb hby d1_25) (by show Qrm1 Z a1 p2 p3 h0 n0 _ T31.heap _; rw [e31]; exact ⟨rfl, N31, K0.trans KK (fun x hx => Or.inl hx), b27, es, k, gb, ge, E4.wr W31, S1.other W31 (Or.inr (slot_ne (Or.inr (hw _ (List.mem_of_getElem? (i := 27) rfl))) (Or.inr (hw _ (List.mem_of_getElem? (i := 31) rfl))) (by decide) (t := (.object "java/util/ArrayDeque")) (t' := .int) (by decide) (by decide))), S2.other W31 (Or.inr (slot_ne (Or.inr (hw _ (List.mem_of_getElem? (i := 29) rfl))) (Or.inr (hw _ (List.mem_of_getElem? (i := 31) rfl))) (by decide) (t := .int) (t' := .int) (by decide) (by decide))), S3.same W31, D28.keep KK (ninS (Ne.symm ne1) nin0) (ninS ne2 nin0)⟩) (by decide) (by decide)
theorem d5_0 : decode prog_24_method_3_code 0 = .ok (.aload_n 0, 1) := by decide +kernel
theorem d5_1 : decode prog_24_method_3_code 1 = .ok (.getfield 10, 3) := by decide +kernel
theorem d5_4 : decode prog_24_method_3_code 4 = .ok (.invokevirtual 29, 3) := by decide +kernel
theorem pd_4 : parseMethodDescriptor "()I" = some ⟨[], some .int⟩ := by decide +kernel
theorem d5_7 : decode prog_24_method_3_code 7 = .ok (.aload_n 0, 1) := by decide +kernel
theorem d5_8 : decode prog_24_method_3_code 8 = .ok (.getfield 20, 3) := by decide +kernel
theorem d5_11 : decode prog_24_method_3_code 11 = .ok (.if_icmp .ge 11, 3) := by decide +kernel
theorem d5_14 : decode prog_24_method_3_code 14 = .ok (.aload_n 0, 1) := by decide +kernel
theorem d5_15 : decode prog_24_method_3_code 15 = .ok (.getfield 10, 3) := by decide +kernel
theorem d5_18 : decode prog_24_method_3_code 18 = .ok (.aload_n 1, 1) := by decide +kernel
theorem d5_19 : decode prog_24_method_3_code 19 = .ok (.invokevirtual 33, 3) := by decide +kernel
theorem pd_5 : parseMethodDescriptor "(Ljava/lang/Object;)V" = some ⟨[(.object "java/lang/Object")], none⟩ := by decide +kernel
theorem d5_22 : decode prog_24_method_3_code 22 = .ok (.return_, 1) := by decide +kernel
theorem pn_5 : plainFor (⟨"com/example/thermopylae/thermopylae/http/BufferPool", "give", "([B)V"⟩ : MethodName) = true := plainFor_of_name (by first | (simp [plainName, overriddenIn]; done) | decide +kernel)
def Qrm5 (Z : State) (a1 dq es : Addr) (k : ClassId) (bn mo : Int32) (vs' : List Addr) (h0 : Heap) (n0 : Nat) (v : Option Value) (h : Heap) (L : List Loc) : Prop := v = none ∧ Fr n0 L ∧ Keep h0 h [dq, es] ∧ own_W Z h a1 dq es k bn mo vs'
set_option maxRecDepth 65536 in
set_option maxHeartbeats 40000000 in
theorem rm5 (l : Launch) (Z : State) (a0 : Array Value) (hw : ∀ d ∈ tables_1, d.before a0 Z = true) (ws : List Jvm.Cond) (a1 : Addr) (a2 : Addr) (h0 : Heap) (n0 : Nat) (Z0 : n0 ≤ h0.size) (dq es : Addr) (k : ClassId) (bn mo : Int32) (vs vs' : List Addr) (D : own_W Z h0 a1 dq es k bn mo vs) (Ex : Exa Z h0 a2 "[B") (g1 : n0 ≤ dq) (g2 : n0 ≤ es) (hm : (Int32.ofNat vs.length) < mo → vs.length ≤ 2) (hv : vs' = if (Int32.ofNat vs.length) < mo then vs ++ [a2] else vs) :
    MetFree l (⟨"com/example/thermopylae/thermopylae/http/BufferPool", "give", "([B)V"⟩ : MethodName) (head1 (Jvm.Cond.code (⟨"com/example/thermopylae/thermopylae/http/BufferPool", "give", "([B)V"⟩ : MethodName) prog_24_method_3_code 2 none :: ws) ({ frames := 2, cells := 0, slots := 0, locals := 29 } : Room)) (fun a_ U_ => a_ = #[(.ref a1), (.ref a2)] ∧ Z.Warmed39 U_.vm ∧ U_.heap = h0) (fun _ _ _ _ _ => True) (fun _ U_ o_ U'_ => ∃ v_ L_, o_ = .returned v_ ∧ (Qrm5 Z a1 dq es k bn mo vs' h0 n0) v_ U'_.heap L_ ∧ FrameEnd U_ o_ U'_ L_ 0 0) := by
  refine MetFree.of_bodySF pn_5 hisR ?_
  intro p e s m args below meth c s₁ Bd hml0 hP hK
  obtain ⟨rfl, hZ, hh⟩ := hP
  have hx := Bd.exec
  have hby := Bd.bytes
  have hlk : meth.locks = false := Bd.notSynchronized
  have hml : c.maxLocals = 2 := hml0
  have hown : s.vm.findClass "com/example/thermopylae/thermopylae/http/BufferPool" = some m.cls := findClass_of_methodNamed Bd.named
  have hnm := (name_of_methodNamed Bd.named Bd.method).1
  have X0 : Stand p l e ({ frames := 2, cells := 0, slots := 0, locals := 29 } : Room) s m #[(.ref a1), (.ref a2)] below meth c s₁ [] 0 0 := Stand.of_body Bd
  have e0 : s₁.heap = h0 := by rw [← hh, Bd.state]; rfl
  have N0 := Fr.nil n0
  refine own_start (Q := Qrm5 Z a1 dq es k bn mo vs' h0 n0) (g' := (mkF m 0 #[.val (.ref a1), .val (.ref a2)] [])) (by first | (simp [entryFrame, mkF, argsToLocals, Value.category]; done) | rfl) ?_
  show own_Gl _ _ _ _ (s₁.setTop (mkF m 0 #[.val (.ref a1), .val (.ref a2)] []))
  obtain ⟨y1, y2, y3, y4, y5⟩ := own_neP (hw _ (List.mem_of_getElem? (i := 1) rfl)) D
  obtain ⟨w1, w2, w3, w4, w5⟩ := D
  refine own_back (fun t_ q_ => XS.aloadN X0.here hx rfl (hb hby d5_0) rfl rfl q_) ?_
  show own_Gl _ _ _ _ (s₁.setTop (mkF m 1 #[.val (.ref a1), .val (.ref a2)] [(.ref a1)]))
  obtain ⟨T32, X32, e32, st32⟩ := getF X0 hx hZ hown (host := "") (Or.inl (hw _ (List.mem_of_getElem? (i := 26) rfl))) Via.refl e0 w2 (g := (mkF m 1 #[.val (.ref a1), .val (.ref a2)] [(.ref a1)])) rfl rfl (hb hby d5_1)
  refine own_back st32 ?_
  show own_Gl _ _ _ _ (T32.setTop (mkF m 4 #[.val (.ref a1), .val (.ref a2)] [(.ref dq)]))
  obtain ⟨cq33, kq33, q33a, q33b, q33c⟩ := isOf hZ e32 w5.1
  obtain ⟨_, _, ⟨T33, L33, k33, n33⟩, -, X33, ⟨Lc33, hQ33, l33, y33, z33⟩, st33⟩ := X32.virtualBack hx (y := (⟨"java/util/ArrayDeque", "size", "()I"⟩ : MethodName)) (z := (⟨"java/util/ArrayDeque", "size", "()I"⟩ : MethodName)) hown (mvT hZ (hw _ (List.mem_of_getElem? (i := 38) rfl))) (mvT hZ (hw _ (List.mem_of_getElem? (i := 39) rfl))) (notFace_of_selects (args := #[]) (mvT hZ (hw _ (List.mem_of_getElem? (i := 41) rfl)))) (mvT hZ (hw _ (List.mem_of_getElem? (i := 41) rfl))) (mvT hZ (hw _ (List.mem_of_getElem? (i := 40) rfl))) (by decide) (backOf (W := 0) (rm6 l Z a0 hw [] dq h0 n0 Z0 es k vs w5) hZ (hw _ (List.mem_of_getElem? (i := 42) rfl)) (hw _ (List.mem_of_getElem? (i := 11) rfl)) (by decide) (by decide)) q33a q33c (g := (mkF m 4 #[.val (.ref a1), .val (.ref a2)] [(.ref dq)])) rfl (by rw [hml]; rfl) (Steps.refl _) (argsL := []) (rest := []) (lenOf pd_4 rfl) rfl (by show 2 * 0 + _ ≤ _; exact Nat.le_of_eq rfl) (hb hby d5_4) (fun _ _ => ⟨rfl, e32, (by decide : 0 + 0 ≤ _), (by decide : 0 + 0 ≤ _)⟩)
  dsimp only [Pt.U, Pt.locs, Pt.cells, Pt.slots] at X33 l33 y33 z33 st33 hQ33
  subst l33 y33 z33
  obtain ⟨rfl, M33, e33⟩ := hQ33
  have N33 := Fr.app N0 M33
  refine own_trans st33 ?_
  show own_Gl _ _ _ _ (T33.setTop (mkF m 7 #[.val (.ref a1), .val (.ref a2)] [(.int (Int32.ofNat vs.length))]))
  refine own_back (fun t_ q_ => XS.aloadN X33.here hx rfl (hb hby d5_7) rfl rfl q_) ?_
  show own_Gl _ _ _ _ (T33.setTop (mkF m 8 #[.val (.ref a1), .val (.ref a2)] [(.ref a1), (.int (Int32.ofNat vs.length))]))
  obtain ⟨T34, X34, e34, st34⟩ := getF X33 hx hZ hown (host := "") (Or.inl (hw _ (List.mem_of_getElem? (i := 30) rfl))) Via.refl e33 w4 (g := (mkF m 8 #[.val (.ref a1), .val (.ref a2)] [(.ref a1), (.int (Int32.ofNat vs.length))])) rfl rfl (hb hby d5_8)
  refine own_back st34 ?_
  show own_Gl _ _ _ _ (T34.setTop (mkF m 11 #[.val (.ref a1), .val (.ref a2)] [(.int mo), (.int (Int32.ofNat vs.length))]))
  by_cases hc : (Int32.ofNat vs.length) < mo
  · skip
    refine own_back (fun t_ q_ => XS.icmpNo X34.here hx rfl (hb hby d5_11) rfl (tlt (hc : (Int32.ofNat vs.length) < mo)).2.1 q_) ?_
    show own_Gl _ _ _ _ (T34.setTop (mkF m 14 #[.val (.ref a1), .val (.ref a2)] []))
    rw [if_pos hc] at hv
    subst hv
    refine own_back (fun t_ q_ => XS.aloadN X34.here hx rfl (hb hby d5_14) rfl rfl q_) ?_
    show own_Gl _ _ _ _ (T34.setTop (mkF m 15 #[.val (.ref a1), .val (.ref a2)] [(.ref a1)]))
    obtain ⟨T35, X35, e35, st35⟩ := getF X34 hx hZ hown (host := "") (Or.inl (hw _ (List.mem_of_getElem? (i := 26) rfl))) Via.refl e34 w2 (g := (mkF m 15 #[.val (.ref a1), .val (.ref a2)] [(.ref a1)])) rfl rfl (hb hby d5_15)
    refine own_back st35 ?_
    show own_Gl _ _ _ _ (T35.setTop (mkF m 18 #[.val (.ref a1), .val (.ref a2)] [(.ref dq)]))
    refine own_back (fun t_ q_ => XS.aloadN X35.here hx rfl (hb hby d5_18) rfl rfl q_) ?_
    show own_Gl _ _ _ _ (T35.setTop (mkF m 19 #[.val (.ref a1), .val (.ref a2)] [(.ref a2), (.ref dq)]))
    obtain ⟨cq36, kq36, q36a, q36b, q36c⟩ := isOf hZ e35 w5.1
    obtain ⟨_, _, ⟨T36, L36, k36, n36⟩, -, X36, ⟨Lc36, hQ36, l36, y36, z36⟩, st36⟩ := X35.virtualBack hx (y := (⟨"java/util/ArrayDeque", "addLast", "(Ljava/lang/Object;)V"⟩ : MethodName)) (z := (⟨"java/util/ArrayDeque", "addLast", "(Ljava/lang/Object;)V"⟩ : MethodName)) hown (mvT hZ (hw _ (List.mem_of_getElem? (i := 50) rfl))) (mvT hZ (hw _ (List.mem_of_getElem? (i := 51) rfl))) (notFace_of_selects (args := #[]) (mvT hZ (hw _ (List.mem_of_getElem? (i := 53) rfl)))) (mvT hZ (hw _ (List.mem_of_getElem? (i := 53) rfl))) (mvT hZ (hw _ (List.mem_of_getElem? (i := 52) rfl))) (by decide) (backOf (W := 0) (rm8 l Z a0 hw [] dq a2 h0 n0 Z0 es k vs w5 (hm hc) Ex g1 g2) hZ (hw _ (List.mem_of_getElem? (i := 54) rfl)) (hw _ (List.mem_of_getElem? (i := 11) rfl)) (by decide) (by decide)) q36a q36c (g := (mkF m 19 #[.val (.ref a1), .val (.ref a2)] [(.ref a2), (.ref dq)])) rfl (by rw [hml]; rfl) (Steps.refl _) (argsL := [(.ref a2)]) (rest := []) (lenOf pd_5 rfl) rfl (by show 2 * 0 + _ ≤ _; exact Nat.le_of_eq rfl) (hb hby d5_19) (fun _ _ => ⟨rfl, e35, (by decide : 0 + 0 ≤ _), (by decide : 0 + 0 ≤ _)⟩)
    dsimp only [Pt.U, Pt.locs, Pt.cells, Pt.slots] at X36 l36 y36 z36 st36 hQ36
    subst l36 y36 z36
    obtain ⟨rfl, M36, K36, D36⟩ := hQ36
    have N36 := Fr.app N33 M36
    refine own_trans st36 ?_
    show own_Gl _ _ _ _ (T36.setTop (mkF m 22 #[.val (.ref a1), .val (.ref a2)] []))
    exact own_rV X36 hx hlk Bd.returns (hb hby d5_22) (by show Qrm5 Z a1 dq es k bn mo (vs ++ [a2]) h0 n0 _ T36.heap _; exact ⟨rfl, N36, K36, w1.keep K36, w2.keep K36 (ninS y1 (ninS y2 nin0)), w3.keep K36 (ninS y1 (ninS y2 nin0)), w4.keep K36 (ninS y1 (ninS y2 nin0)), D36⟩) (by decide) (by decide)
  · skip
    refine own_back (fun t_ q_ => XS.icmpYes X34.here hx rfl (pc0 := 11) (pc' := 22) rfl (hb hby d5_11) rfl (flt (hc : ¬ ((Int32.ofNat vs.length) < mo))).2.1 (by decide) (by decide) q_) ?_
    show own_Gl _ _ _ _ (T34.setTop (mkF m 22 #[.val (.ref a1), .val (.ref a2)] []))
    rw [if_neg hc] at hv
    subst hv
    exact own_rV X34 hx hlk Bd.returns (hb hby d5_22) (by show Qrm5 Z a1 dq es k bn mo vs' h0 n0 _ T34.heap _; rw [e34]; exact ⟨rfl, N33, Keep.refl _ _, w1, w2, w3, w4, w5⟩) (by decide) (by decide)
theorem d11_0 : decode prog_24_method_2_code 0 = .ok (.aload_n 0, 1) := by decide +kernel
theorem d11_1 : decode prog_24_method_2_code 1 = .ok (.getfield 10, 3) := by decide +kernel
theorem d11_4 : decode prog_24_method_2_code 4 = .ok (.invokevirtual 23, 3) := by decide +kernel
theorem pd_6 : parseMethodDescriptor "()Ljava/lang/Object;" = some ⟨[], some (.object "java/lang/Object")⟩ := by decide +kernel
theorem d11_7 : decode prog_24_method_2_code 7 = .ok (.checkcast 27, 3) := by decide +kernel
theorem d11_10 : decode prog_24_method_2_code 10 = .ok (.astore_n 1, 1) := by decide +kernel
theorem d11_11 : decode prog_24_method_2_code 11 = .ok (.aload_n 1, 1) := by decide +kernel
theorem d11_12 : decode prog_24_method_2_code 12 = .ok (.ifnonnull 12, 3) := by decide +kernel
theorem d11_15 : decode prog_24_method_2_code 15 = .ok (.aload_n 0, 1) := by decide +kernel
theorem d11_16 : decode prog_24_method_2_code 16 = .ok (.getfield 16, 3) := by decide +kernel
theorem d11_19 : decode prog_24_method_2_code 19 = .ok (.newarray .byte, 2) := by decide +kernel
theorem d11_21 : decode prog_24_method_2_code 21 = .ok (.goto 4, 3) := by decide +kernel
theorem d11_24 : decode prog_24_method_2_code 24 = .ok (.aload_n 1, 1) := by decide +kernel
theorem d11_25 : decode prog_24_method_2_code 25 = .ok (.areturn, 1) := by decide +kernel
theorem pn_11 : plainFor (⟨"com/example/thermopylae/thermopylae/http/BufferPool", "take", "()[B"⟩ : MethodName) = true := plainFor_of_name (by first | (simp [plainName, overriddenIn]; done) | decide +kernel)
def Qrm11 (Z : State) (a1 dq es : Addr) (k : ClassId) (bn mo : Int32) (h0 : Heap) (n0 : Nat) (v : Option Value) (h : Heap) (L : List Loc) : Prop := ∃ r, v = some (.ref r) ∧ Fr n0 L ∧ Keep h0 h [] ∧ h0.size ≤ r ∧ Exa Z h r "[B" ∧ own_W Z h a1 dq es k bn mo [] ∧ ∃ cl, Arr Z h r cl .byte ∧ cl.slots.size.toInt32 = bn
set_option maxRecDepth 65536 in
set_option maxHeartbeats 40000000 in
theorem rm11 (l : Launch) (Z : State) (a0 : Array Value) (hw : ∀ d ∈ tables_1, d.before a0 Z = true) (ws : List Jvm.Cond) (a1 : Addr) (h0 : Heap) (n0 : Nat) (Z0 : n0 ≤ h0.size) (dq es : Addr) (k : ClassId) (bn mo : Int32) (D : own_W Z h0 a1 dq es k bn mo []) (b1 : ¬ bn < 0) (b2 : bn.toNatClampNeg ≤ 63) :
    MetFree l (⟨"com/example/thermopylae/thermopylae/http/BufferPool", "take", "()[B"⟩ : MethodName) (head1 (Jvm.Cond.code (⟨"com/example/thermopylae/thermopylae/http/BufferPool", "take", "()[B"⟩ : MethodName) prog_24_method_2_code 2 (some (.array .byte)) :: ws) ({ frames := 2, cells := 1, slots := 63, locals := 29 } : Room)) (fun a_ U_ => a_ = #[(.ref a1)] ∧ Z.Warmed39 U_.vm ∧ U_.heap = h0) (fun _ _ _ _ _ => True) (fun _ U_ o_ U'_ => ∃ v_ L_, o_ = .returned v_ ∧ (Qrm11 Z a1 dq es k bn mo h0 n0) v_ U'_.heap L_ ∧ FrameEnd U_ o_ U'_ L_ 1 63) := by
  refine MetFree.of_bodySF pn_11 hisR ?_
  intro p e s m args below meth c s₁ Bd hml0 hP hK
  obtain ⟨rfl, hZ, hh⟩ := hP
  have hx := Bd.exec
  have hby := Bd.bytes
  have hlk : meth.locks = false := Bd.notSynchronized
  have hml : c.maxLocals = 2 := hml0
  have hown : s.vm.findClass "com/example/thermopylae/thermopylae/http/BufferPool" = some m.cls := findClass_of_methodNamed Bd.named
  have hnm := (name_of_methodNamed Bd.named Bd.method).1
  have X0 : Stand p l e ({ frames := 2, cells := 1, slots := 63, locals := 29 } : Room) s m #[(.ref a1)] below meth c s₁ [] 0 0 := Stand.of_body Bd
  have e0 : s₁.heap = h0 := by rw [← hh, Bd.state]; rfl
  have N0 := Fr.nil n0
  refine own_start (Q := Qrm11 Z a1 dq es k bn mo h0 n0) (g' := (mkF m 0 #[.val (.ref a1), .unset] [])) (by first | (simp [entryFrame, mkF, argsToLocals, Value.category]; done) | rfl) ?_
  show own_Gl _ _ _ _ (s₁.setTop (mkF m 0 #[.val (.ref a1), .unset] []))
  obtain ⟨w1, w2, w3, w4, w5⟩ := D
  refine own_back (fun t_ q_ => XS.aloadN X0.here hx rfl (hb hby d11_0) rfl rfl q_) ?_
  show own_Gl _ _ _ _ (s₁.setTop (mkF m 1 #[.val (.ref a1), .unset] [(.ref a1)]))
  obtain ⟨T37, X37, e37, st37⟩ := getF X0 hx hZ hown (host := "") (Or.inl (hw _ (List.mem_of_getElem? (i := 26) rfl))) Via.refl e0 w2 (g := (mkF m 1 #[.val (.ref a1), .unset] [(.ref a1)])) rfl rfl (hb hby d11_1)
  refine own_back st37 ?_
  show own_Gl _ _ _ _ (T37.setTop (mkF m 4 #[.val (.ref a1), .unset] [(.ref dq)]))
  obtain ⟨cq38, kq38, q38a, q38b, q38c⟩ := isOf hZ e37 w5.1
  obtain ⟨_, _, ⟨T38, L38, k38, n38⟩, -, X38, ⟨Lc38, hQ38, l38, y38, z38⟩, st38⟩ := X37.virtualBack hx (y := (⟨"java/util/ArrayDeque", "pollLast", "()Ljava/lang/Object;"⟩ : MethodName)) (z := (⟨"java/util/ArrayDeque", "pollLast", "()Ljava/lang/Object;"⟩ : MethodName)) hown (mvT hZ (hw _ (List.mem_of_getElem? (i := 68) rfl))) (mvT hZ (hw _ (List.mem_of_getElem? (i := 69) rfl))) (notFace_of_selects (args := #[]) (mvT hZ (hw _ (List.mem_of_getElem? (i := 71) rfl)))) (mvT hZ (hw _ (List.mem_of_getElem? (i := 71) rfl))) (mvT hZ (hw _ (List.mem_of_getElem? (i := 70) rfl))) (by decide) (backOf (W := 0) (rm12 l Z a0 hw [] dq h0 n0 Z0 es k w5) hZ (hw _ (List.mem_of_getElem? (i := 72) rfl)) (hw _ (List.mem_of_getElem? (i := 11) rfl)) (by decide) (by decide)) q38a q38c (g := (mkF m 4 #[.val (.ref a1), .unset] [(.ref dq)])) rfl (by rw [hml]; rfl) (Steps.refl _) (argsL := []) (rest := []) (lenOf pd_6 rfl) rfl (by show 2 * 0 + _ ≤ _; exact Nat.le_of_eq rfl) (hb hby d11_4) (fun _ _ => ⟨rfl, e37, (by decide : 0 + 0 ≤ _), (by decide : 0 + 0 ≤ _)⟩)
  dsimp only [Pt.U, Pt.locs, Pt.cells, Pt.slots] at X38 l38 y38 z38 st38 hQ38
  subst l38 y38 z38
  obtain ⟨rfl, M38, e38⟩ := hQ38
  have N38 := Fr.app N0 M38
  refine own_trans st38 ?_
  show own_Gl _ _ _ _ (T38.setTop (mkF m 7 #[.val (.ref a1), .unset] [.null]))
  refine own_back (fun t_ q_ => X38.checkcastNull hx (g := (mkF m 7 #[.val (.ref a1), .unset] [.null])) rfl rfl (hb hby d11_7) t_ q_) ?_
  show own_Gl _ _ _ _ (T38.setTop (mkF m 10 #[.val (.ref a1), .unset] [.null]))
  refine own_back (fun t_ q_ => XS.astoreN X38.here hx rfl (hb hby d11_10) rfl rfl (l' := #[.val (.ref a1), .val .null]) rfl q_) ?_
  show own_Gl _ _ _ _ (T38.setTop (mkF m 11 #[.val (.ref a1), .val .null] []))
  refine own_back (fun t_ q_ => XS.aloadN X38.here hx rfl (hb hby d11_11) rfl rfl q_) ?_
  show own_Gl _ _ _ _ (T38.setTop (mkF m 12 #[.val (.ref a1), .val .null] [.null]))
  refine own_back (fun t_ q_ => XS.ifnonnullNo X38.here hx rfl (hb hby d11_12) rfl q_) ?_
  show own_Gl _ _ _ _ (T38.setTop (mkF m 15 #[.val (.ref a1), .val .null] []))
  refine own_back (fun t_ q_ => XS.aloadN X38.here hx rfl (hb hby d11_15) rfl rfl q_) ?_
  show own_Gl _ _ _ _ (T38.setTop (mkF m 16 #[.val (.ref a1), .val .null] [(.ref a1)]))
  obtain ⟨T39, X39, e39, st39⟩ := getF X38 hx hZ hown (host := "") (Or.inl (hw _ (List.mem_of_getElem? (i := 28) rfl))) Via.refl e38 w3 (g := (mkF m 16 #[.val (.ref a1), .val .null] [(.ref a1)])) rfl rfl (hb hby d11_16)
  refine own_back st39 ?_
  show own_Gl _ _ _ _ (T39.setTop (mkF m 19 #[.val (.ref a1), .val .null] [(.int bn)]))
  obtain ⟨T40, h40, k40, X40, e40, E40, A40, B40, st40⟩ := newPE X39 hx hZ (hw _ (List.mem_of_getElem? (i := 32) rfl)) e39 (g := (mkF m 19 #[.val (.ref a1), .val .null] [(.int bn)])) rfl (hb hby d11_19) rfl b1 (cap := 63) b2 (by decide) (by decide) (by decide) (ad := "[B") (by decide)
  obtain ⟨b40, g40⟩ : ∃ z, z = h0.size := ⟨_, rfl⟩
  rw [← g40] at A40 B40 st40
  refine own_back st40 ?_
  show own_Gl _ _ _ _ (T40.setTop (mkF m 21 #[.val (.ref a1), .val .null] [(.ref b40)]))
  refine own_back (fun t_ q_ => XS.goto X40.here hx rfl (pc0 := 21) (pc' := 25) rfl (hb hby d11_21) (by decide) (by decide) q_) ?_
  show own_Gl _ _ _ _ (T40.setTop (mkF m 25 #[.val (.ref a1), .val .null] [(.ref b40)]))
  have KK := own_keepE E40
  exact own_rA X40 hx hlk Bd.returns rfl rfl rfl (hb hby d11_25) (by show Qrm11 Z a1 dq es k bn mo h0 n0 _ T40.heap _; rw [e40]; exact ⟨b40, rfl, N38, KK, Nat.le_of_eq g40.symm, B40, own_W.keep ⟨w1, w2, w3, w4, w5⟩ KK nin0 nin0 nin0, _, A40, len_of (sz_new _ _ _) b1⟩) (by decide) (by decide)
def Qrm11s (Z : State) (a1 dq es x : Addr) (k : ClassId) (bn mo : Int32) (us : List Addr) (h0 : Heap) (n0 : Nat) (v : Option Value) (h : Heap) (L : List Loc) : Prop := v = some (.ref x) ∧ Fr n0 L ∧ Keep h0 h [dq, es] ∧ own_W Z h a1 dq es k bn mo us
set_option maxRecDepth 65536 in
set_option maxHeartbeats 40000000 in
theorem rm11s (l : Launch) (Z : State) (a0 : Array Value) (hw : ∀ d ∈ tables_1, d.before a0 Z = true) (ws : List Jvm.Cond) (a1 : Addr) (h0 : Heap) (n0 : Nat) (Z0 : n0 ≤ h0.size) (dq es x : Addr) (k : ClassId) (bn mo : Int32) (us : List Addr) (D : own_W Z h0 a1 dq es k bn mo (us ++ [x])) (g1 : n0 ≤ dq) (g2 : n0 ≤ es) :
    MetFree l (⟨"com/example/thermopylae/thermopylae/http/BufferPool", "take", "()[B"⟩ : MethodName) (head1 (Jvm.Cond.code (⟨"com/example/thermopylae/thermopylae/http/BufferPool", "take", "()[B"⟩ : MethodName) prog_24_method_2_code 2 (some (.array .byte)) :: ws) ({ frames := 2, cells := 1, slots := 63, locals := 29 } : Room)) (fun a_ U_ => a_ = #[(.ref a1)] ∧ Z.Warmed39 U_.vm ∧ U_.heap = h0) (fun _ _ _ _ _ => True) (fun _ U_ o_ U'_ => ∃ v_ L_, o_ = .returned v_ ∧ (Qrm11s Z a1 dq es x k bn mo us h0 n0) v_ U'_.heap L_ ∧ FrameEnd U_ o_ U'_ L_ 1 63) := by
  refine MetFree.of_bodySF pn_11 hisR ?_
  intro p e s m args below meth c s₁ Bd hml0 hP hK
  obtain ⟨rfl, hZ, hh⟩ := hP
  have hx := Bd.exec
  have hby := Bd.bytes
  have hlk : meth.locks = false := Bd.notSynchronized
  have hml : c.maxLocals = 2 := hml0
  have hown : s.vm.findClass "com/example/thermopylae/thermopylae/http/BufferPool" = some m.cls := findClass_of_methodNamed Bd.named
  have hnm := (name_of_methodNamed Bd.named Bd.method).1
  have X0 : Stand p l e ({ frames := 2, cells := 1, slots := 63, locals := 29 } : Room) s m #[(.ref a1)] below meth c s₁ [] 0 0 := Stand.of_body Bd
  have e0 : s₁.heap = h0 := by rw [← hh, Bd.state]; rfl
  have N0 := Fr.nil n0
  refine own_start (Q := Qrm11s Z a1 dq es x k bn mo us h0 n0) (g' := (mkF m 0 #[.val (.ref a1), .unset] [])) (by first | (simp [entryFrame, mkF, argsToLocals, Value.category]; done) | rfl) ?_
  show own_Gl _ _ _ _ (s₁.setTop (mkF m 0 #[.val (.ref a1), .unset] []))
  obtain ⟨y1, y2, y3, y4, y5⟩ := own_neP (hw _ (List.mem_of_getElem? (i := 1) rfl)) D
  obtain ⟨w1, w2, w3, w4, w5⟩ := D
  have hx_ := w5.2.2.2.2.2.2.1 x (List.mem_append_right _ (List.mem_singleton.mpr rfl))
  refine own_back (fun t_ q_ => XS.aloadN X0.here hx rfl (hb hby d11_0) rfl rfl q_) ?_
  show own_Gl _ _ _ _ (s₁.setTop (mkF m 1 #[.val (.ref a1), .unset] [(.ref a1)]))
  obtain ⟨T41, X41, e41, st41⟩ := getF X0 hx hZ hown (host := "") (Or.inl (hw _ (List.mem_of_getElem? (i := 26) rfl))) Via.refl e0 w2 (g := (mkF m 1 #[.val (.ref a1), .unset] [(.ref a1)])) rfl rfl (hb hby d11_1)
  refine own_back st41 ?_
  show own_Gl _ _ _ _ (T41.setTop (mkF m 4 #[.val (.ref a1), .unset] [(.ref dq)]))
  obtain ⟨cq42, kq42, q42a, q42b, q42c⟩ := isOf hZ e41 w5.1
  obtain ⟨_, _, ⟨T42, L42, k42, n42⟩, -, X42, ⟨Lc42, hQ42, l42, y42, z42⟩, st42⟩ := X41.virtualBack hx (y := (⟨"java/util/ArrayDeque", "pollLast", "()Ljava/lang/Object;"⟩ : MethodName)) (z := (⟨"java/util/ArrayDeque", "pollLast", "()Ljava/lang/Object;"⟩ : MethodName)) hown (mvT hZ (hw _ (List.mem_of_getElem? (i := 68) rfl))) (mvT hZ (hw _ (List.mem_of_getElem? (i := 69) rfl))) (notFace_of_selects (args := #[]) (mvT hZ (hw _ (List.mem_of_getElem? (i := 71) rfl)))) (mvT hZ (hw _ (List.mem_of_getElem? (i := 71) rfl))) (mvT hZ (hw _ (List.mem_of_getElem? (i := 70) rfl))) (by decide) (backOf (W := 0) (rm12s l Z a0 hw [] dq h0 n0 Z0 es x k us w5 g1 g2) hZ (hw _ (List.mem_of_getElem? (i := 72) rfl)) (hw _ (List.mem_of_getElem? (i := 11) rfl)) (by decide) (by decide)) q42a q42c (g := (mkF m 4 #[.val (.ref a1), .unset] [(.ref dq)])) rfl (by rw [hml]; rfl) (Steps.refl _) (argsL := []) (rest := []) (lenOf pd_6 rfl) rfl (by show 2 * 0 + _ ≤ _; exact Nat.le_of_eq rfl) (hb hby d11_4) (fun _ _ => ⟨rfl, e41, (by decide : 0 + 0 ≤ _), (by decide : 0 + 0 ≤ _)⟩)
  dsimp only [Pt.U, Pt.locs, Pt.cells, Pt.slots] at X42 l42 y42 z42 st42 hQ42
  subst l42 y42 z42
  obtain ⟨rfl, M42, K42, D42⟩ := hQ42
  have N42 := Fr.app N0 M42
  refine own_trans st42 ?_
  show own_Gl _ _ _ _ (T42.setTop (mkF m 7 #[.val (.ref a1), .unset] [(.ref x)]))
  obtain ⟨T43, X43, e43, st43⟩ := castY X42 hx hZ hown (hw _ (List.mem_of_getElem? (i := 79) rfl)) rfl (Ins.self (hx_.keep K42)) (g := (mkF m 7 #[.val (.ref a1), .unset] [(.ref x)])) rfl rfl (hb hby d11_7)
  refine own_back st43 ?_
  show own_Gl _ _ _ _ (T43.setTop (mkF m 10 #[.val (.ref a1), .unset] [(.ref x)]))
  refine own_back (fun t_ q_ => XS.astoreN X43.here hx rfl (hb hby d11_10) rfl rfl (l' := #[.val (.ref a1), .val (.ref x)]) rfl q_) ?_
  show own_Gl _ _ _ _ (T43.setTop (mkF m 11 #[.val (.ref a1), .val (.ref x)] []))
  refine own_back (fun t_ q_ => XS.aloadN X43.here hx rfl (hb hby d11_11) rfl rfl q_) ?_
  show own_Gl _ _ _ _ (T43.setTop (mkF m 12 #[.val (.ref a1), .val (.ref x)] [(.ref x)]))
  refine own_back (fun t_ q_ => XS.ifnonnullYes X43.here hx rfl (pc0 := 12) (pc' := 24) rfl (hb hby d11_12) rfl (by decide) (by decide) q_) ?_
  show own_Gl _ _ _ _ (T43.setTop (mkF m 24 #[.val (.ref a1), .val (.ref x)] []))
  refine own_back (fun t_ q_ => XS.aloadN X43.here hx rfl (hb hby d11_24) rfl rfl q_) ?_
  show own_Gl _ _ _ _ (T43.setTop (mkF m 25 #[.val (.ref a1), .val (.ref x)] [(.ref x)]))
  exact own_rA X43 hx hlk Bd.returns rfl rfl rfl (hb hby d11_25) (by show Qrm11s Z a1 dq es x k bn mo us h0 n0 _ T43.heap _; rw [e43]; exact ⟨rfl, N42, K42, w1.keep K42, w2.keep K42 (ninS y1 (ninS y2 nin0)), w3.keep K42 (ninS y1 (ninS y2 nin0)), w4.keep K42 (ninS y1 (ninS y2 nin0)), D42⟩) (by decide) (by decide)
theorem d15_0 : decode method_2_code 0 = .ok (.aload_n 0, 1) := by decide +kernel
theorem d15_1 : decode method_2_code 1 = .ok (.ifnonnull 5, 3) := by decide +kernel
theorem d15_4 : decode method_2_code 4 = .ok (.iconst 0, 1) := by decide +kernel
theorem d15_5 : decode method_2_code 5 = .ok (.ireturn, 1) := by decide +kernel
theorem d15_6 : decode method_2_code 6 = .ok (.iload_n 1, 1) := by decide +kernel
theorem d15_7 : decode method_2_code 7 = .ok (.iload_n 2, 1) := by decide +kernel
theorem d15_8 : decode method_2_code 8 = .ok (.if_icmp .ge 46, 3) := by decide +kernel
theorem d15_11 : decode method_2_code 11 = .ok (.iload_n 2, 1) := by decide +kernel
theorem d15_12 : decode method_2_code 12 = .ok (.iconst 1, 1) := by decide +kernel
theorem d15_13 : decode method_2_code 13 = .ok (.isub, 1) := by decide +kernel
theorem d15_14 : decode method_2_code 14 = .ok (.iload_n 1, 1) := by decide +kernel
theorem d15_15 : decode method_2_code 15 = .ok (.isub, 1) := by decide +kernel
theorem d15_16 : decode method_2_code 16 = .ok (.istore 7, 2) := by decide +kernel
theorem d15_18 : decode method_2_code 18 = .ok (.iload 7, 2) := by decide +kernel
theorem d15_20 : decode method_2_code 20 = .ok (.ifCond .ne 7, 3) := by decide +kernel
theorem d15_23 : decode method_2_code 23 = .ok (.aload_n 3, 1) := by decide +kernel
theorem d15_24 : decode method_2_code 24 = .ok (.goto 16, 3) := by decide +kernel
theorem d15_27 : decode method_2_code 27 = .ok (.iload 7, 2) := by decide +kernel
theorem d15_29 : decode method_2_code 29 = .ok (.iconst 1, 1) := by decide +kernel
theorem d15_30 : decode method_2_code 30 = .ok (.if_icmp .ne 8, 3) := by decide +kernel
theorem d15_33 : decode method_2_code 33 = .ok (.aload 4, 2) := by decide +kernel
theorem d15_35 : decode method_2_code 35 = .ok (.goto 5, 3) := by decide +kernel
theorem d15_38 : decode method_2_code 38 = .ok (.aload 5, 2) := by decide +kernel
theorem d15_40 : decode method_2_code 40 = .ok (.astore 8, 2) := by decide +kernel
theorem d15_42 : decode method_2_code 42 = .ok (.aload_n 0, 1) := by decide +kernel
theorem d15_43 : decode method_2_code 43 = .ok (.aload 8, 2) := by decide +kernel
theorem d15_45 : decode method_2_code 45 = .ok (.if_acmp .ne 7, 3) := by decide +kernel
theorem d15_48 : decode method_2_code 48 = .ok (.iconst 1, 1) := by decide +kernel
theorem d15_49 : decode method_2_code 49 = .ok (.goto 4, 3) := by decide +kernel
theorem d15_52 : decode method_2_code 52 = .ok (.iconst 0, 1) := by decide +kernel
theorem d15_53 : decode method_2_code 53 = .ok (.ireturn, 1) := by decide +kernel
theorem d15_54 : decode method_2_code 54 = .ok (.aload_n 0, 1) := by decide +kernel
theorem d15_55 : decode method_2_code 55 = .ok (.arraylength, 1) := by decide +kernel
theorem d15_56 : decode method_2_code 56 = .ok (.iload 6, 2) := by decide +kernel
theorem d15_58 : decode method_2_code 58 = .ok (.if_icmp .ne 24, 3) := by decide +kernel
theorem d15_61 : decode method_2_code 61 = .ok (.aload_n 0, 1) := by decide +kernel
theorem d15_62 : decode method_2_code 62 = .ok (.aload_n 3, 1) := by decide +kernel
theorem d15_63 : decode method_2_code 63 = .ok (.if_acmp .eq 19, 3) := by decide +kernel
theorem d15_66 : decode method_2_code 66 = .ok (.aload_n 0, 1) := by decide +kernel
theorem d15_67 : decode method_2_code 67 = .ok (.aload 4, 2) := by decide +kernel
theorem d15_69 : decode method_2_code 69 = .ok (.if_acmp .eq 13, 3) := by decide +kernel
theorem d15_72 : decode method_2_code 72 = .ok (.aload_n 0, 1) := by decide +kernel
theorem d15_73 : decode method_2_code 73 = .ok (.aload 5, 2) := by decide +kernel
theorem d15_75 : decode method_2_code 75 = .ok (.if_acmp .eq 7, 3) := by decide +kernel
theorem d15_78 : decode method_2_code 78 = .ok (.iconst 1, 1) := by decide +kernel
theorem d15_79 : decode method_2_code 79 = .ok (.goto 4, 3) := by decide +kernel
theorem d15_82 : decode method_2_code 82 = .ok (.iconst 0, 1) := by decide +kernel
theorem d15_83 : decode method_2_code 83 = .ok (.ireturn, 1) := by decide +kernel
theorem pn_15 : plainFor (⟨"com/example/thermopylae/thermopylae/http/BufferPoolTakePinLaw", "step", "([BII[B[B[BI)Z"⟩ : MethodName) = true := plainFor_of_name (by first | (simp [plainName, overriddenIn]; done) | decide +kernel)
def Qrm15 (h0 : Heap) (n0 : Nat) (v : Option Value) (h : Heap) (L : List Loc) : Prop := v = some (.int 1) ∧ Fr n0 L ∧ h = h0
set_option maxRecDepth 65536 in
set_option maxHeartbeats 40000000 in
theorem rm15 (l : Launch) (Z : State) (a0 : Array Value) (hw : ∀ d ∈ tables_1, d.before a0 Z = true) (ws : List Jvm.Cond) (a1 : Addr) (p2 : Int32) (p3 : Int32) (a4 : Addr) (a5 : Addr) (a6 : Addr) (p7 : Int32) (h0 : Heap) (n0 : Nat) (Z0 : n0 ≤ h0.size) (h1 : p2 < p3) (hj : (((p3 - 1) - p2) = 0 ∧ a1 = a4) ∨ (¬ ((p3 - 1) - p2) = 0 ∧ ((p3 - 1) - p2) = 1 ∧ a1 = a5) ∨ (¬ ((p3 - 1) - p2) = 0 ∧ ¬ ((p3 - 1) - p2) = 1 ∧ a1 = a6)) :
    MetFree l (⟨"com/example/thermopylae/thermopylae/http/BufferPoolTakePinLaw", "step", "([BII[B[B[BI)Z"⟩ : MethodName) (head1 (Jvm.Cond.code (⟨"com/example/thermopylae/thermopylae/http/BufferPoolTakePinLaw", "step", "([BII[B[B[BI)Z"⟩ : MethodName) method_2_code 9 (some .boolean) :: ws) ({ frames := 0, cells := 0, slots := 0, locals := 0 } : Room)) (fun a_ U_ => a_ = #[(.ref a1), (.int p2), (.int p3), (.ref a4), (.ref a5), (.ref a6), (.int p7)] ∧ Z.Warmed39 U_.vm ∧ U_.heap = h0) (fun _ _ _ _ _ => True) (fun _ U_ o_ U'_ => ∃ v_ L_, o_ = .returned v_ ∧ (Qrm15 h0 n0) v_ U'_.heap L_ ∧ FrameEnd U_ o_ U'_ L_ 0 0) := by
  refine MetFree.of_bodySF pn_15 hisR ?_
  intro p e s m args below meth c s₁ Bd hml0 hP hK
  obtain ⟨rfl, hZ, hh⟩ := hP
  have hx := Bd.exec
  have hby := Bd.bytes
  have hlk : meth.locks = false := Bd.notSynchronized
  have hml : c.maxLocals = 9 := hml0
  have hown : s.vm.findClass "com/example/thermopylae/thermopylae/http/BufferPoolTakePinLaw" = some m.cls := findClass_of_methodNamed Bd.named
  have hnm := (name_of_methodNamed Bd.named Bd.method).1
  have X0 : Stand p l e ({ frames := 0, cells := 0, slots := 0, locals := 0 } : Room) s m #[(.ref a1), (.int p2), (.int p3), (.ref a4), (.ref a5), (.ref a6), (.int p7)] below meth c s₁ [] 0 0 := Stand.of_body Bd
  have e0 : s₁.heap = h0 := by rw [← hh, Bd.state]; rfl
  have N0 := Fr.nil n0
  refine own_start (Q := Qrm15 h0 n0) (g' := (mkF m 0 #[.val (.ref a1), .val (.int p2), .val (.int p3), .val (.ref a4), .val (.ref a5), .val (.ref a6), .val (.int p7), .unset, .unset] [])) (by first | (simp [entryFrame, mkF, argsToLocals, Value.category]; done) | rfl) ?_
  show own_Gl _ _ _ _ (s₁.setTop (mkF m 0 #[.val (.ref a1), .val (.int p2), .val (.int p3), .val (.ref a4), .val (.ref a5), .val (.ref a6), .val (.int p7), .unset, .unset] []))
  refine own_back (fun t_ q_ => XS.aloadN X0.here hx rfl (hb hby d15_0) rfl rfl q_) ?_
  show own_Gl _ _ _ _ (s₁.setTop (mkF m 1 #[.val (.ref a1), .val (.int p2), .val (.int p3), .val (.ref a4), .val (.ref a5), .val (.ref a6), .val (.int p7), .unset, .unset] [(.ref a1)]))
  refine own_back (fun t_ q_ => XS.ifnonnullYes X0.here hx rfl (pc0 := 1) (pc' := 6) rfl (hb hby d15_1) rfl (by decide) (by decide) q_) ?_
  show own_Gl _ _ _ _ (s₁.setTop (mkF m 6 #[.val (.ref a1), .val (.int p2), .val (.int p3), .val (.ref a4), .val (.ref a5), .val (.ref a6), .val (.int p7), .unset, .unset] []))
  refine own_back (fun t_ q_ => XS.iloadN X0.here hx rfl (hb hby d15_6) rfl q_) ?_
  show own_Gl _ _ _ _ (s₁.setTop (mkF m 7 #[.val (.ref a1), .val (.int p2), .val (.int p3), .val (.ref a4), .val (.ref a5), .val (.ref a6), .val (.int p7), .unset, .unset] [(.int p2)]))
  refine own_back (fun t_ q_ => XS.iloadN X0.here hx rfl (hb hby d15_7) rfl q_) ?_
  show own_Gl _ _ _ _ (s₁.setTop (mkF m 8 #[.val (.ref a1), .val (.int p2), .val (.int p3), .val (.ref a4), .val (.ref a5), .val (.ref a6), .val (.int p7), .unset, .unset] [(.int p3), (.int p2)]))
  refine own_back (fun t_ q_ => XS.icmpNo X0.here hx rfl (hb hby d15_8) rfl (tlt (h1 : p2 < p3)).2.1 q_) ?_
  show own_Gl _ _ _ _ (s₁.setTop (mkF m 11 #[.val (.ref a1), .val (.int p2), .val (.int p3), .val (.ref a4), .val (.ref a5), .val (.ref a6), .val (.int p7), .unset, .unset] []))
  refine own_back (fun t_ q_ => XS.iloadN X0.here hx rfl (hb hby d15_11) rfl q_) ?_
  show own_Gl _ _ _ _ (s₁.setTop (mkF m 12 #[.val (.ref a1), .val (.int p2), .val (.int p3), .val (.ref a4), .val (.ref a5), .val (.ref a6), .val (.int p7), .unset, .unset] [(.int p3)]))
  refine own_back (fun t_ q_ => XS.iconst X0.here hx rfl (hb hby d15_12) q_) ?_
  show own_Gl _ _ _ _ (s₁.setTop (mkF m 13 #[.val (.ref a1), .val (.int p2), .val (.int p3), .val (.ref a4), .val (.ref a5), .val (.ref a6), .val (.int p7), .unset, .unset] [(.int (1 : Int32)), (.int p3)]))
  refine own_back (fun t_ q_ => XS.isub X0.here hx rfl (hb hby d15_13) rfl q_) ?_
  show own_Gl _ _ _ _ (s₁.setTop (mkF m 14 #[.val (.ref a1), .val (.int p2), .val (.int p3), .val (.ref a4), .val (.ref a5), .val (.ref a6), .val (.int p7), .unset, .unset] [(.int (p3 - (1 : Int32)))]))
  refine own_back (fun t_ q_ => XS.iloadN X0.here hx rfl (hb hby d15_14) rfl q_) ?_
  show own_Gl _ _ _ _ (s₁.setTop (mkF m 15 #[.val (.ref a1), .val (.int p2), .val (.int p3), .val (.ref a4), .val (.ref a5), .val (.ref a6), .val (.int p7), .unset, .unset] [(.int p2), (.int (p3 - (1 : Int32)))]))
  refine own_back (fun t_ q_ => XS.isub X0.here hx rfl (hb hby d15_15) rfl q_) ?_
  show own_Gl _ _ _ _ (s₁.setTop (mkF m 16 #[.val (.ref a1), .val (.int p2), .val (.int p3), .val (.ref a4), .val (.ref a5), .val (.ref a6), .val (.int p7), .unset, .unset] [(.int ((p3 - (1 : Int32)) - p2))]))
  refine own_back (fun t_ q_ => XS.istore X0.here hx rfl (hb hby d15_16) rfl (l' := #[.val (.ref a1), .val (.int p2), .val (.int p3), .val (.ref a4), .val (.ref a5), .val (.ref a6), .val (.int p7), .val (.int ((p3 - (1 : Int32)) - p2)), .unset]) rfl q_) ?_
  show own_Gl _ _ _ _ (s₁.setTop (mkF m 18 #[.val (.ref a1), .val (.int p2), .val (.int p3), .val (.ref a4), .val (.ref a5), .val (.ref a6), .val (.int p7), .val (.int ((p3 - (1 : Int32)) - p2)), .unset] []))
  refine own_back (fun t_ q_ => XS.iload X0.here hx rfl (hb hby d15_18) rfl q_) ?_
  show own_Gl _ _ _ _ (s₁.setTop (mkF m 20 #[.val (.ref a1), .val (.int p2), .val (.int p3), .val (.ref a4), .val (.ref a5), .val (.ref a6), .val (.int p7), .val (.int ((p3 - (1 : Int32)) - p2)), .unset] [(.int ((p3 - (1 : Int32)) - p2))]))
  rcases hj with ⟨j1, j2⟩ | ⟨j1, j2, j3⟩ | ⟨j1, j2, j3⟩
  · skip
    refine own_back (fun t_ q_ => XS.ifNo X0.here hx rfl (hb hby d15_20) rfl ((if0 _ _).trans (teq (j1 : ((p3 - (1 : Int32)) - p2) = (0 : Int32))).2) q_) ?_
    show own_Gl _ _ _ _ (s₁.setTop (mkF m 23 #[.val (.ref a1), .val (.int p2), .val (.int p3), .val (.ref a4), .val (.ref a5), .val (.ref a6), .val (.int p7), .val (.int ((p3 - (1 : Int32)) - p2)), .unset] []))
    refine own_back (fun t_ q_ => XS.aloadN X0.here hx rfl (hb hby d15_23) rfl rfl q_) ?_
    show own_Gl _ _ _ _ (s₁.setTop (mkF m 24 #[.val (.ref a1), .val (.int p2), .val (.int p3), .val (.ref a4), .val (.ref a5), .val (.ref a6), .val (.int p7), .val (.int ((p3 - (1 : Int32)) - p2)), .unset] [(.ref a4)]))
    refine own_back (fun t_ q_ => XS.goto X0.here hx rfl (pc0 := 24) (pc' := 40) rfl (hb hby d15_24) (by decide) (by decide) q_) ?_
    show own_Gl _ _ _ _ (s₁.setTop (mkF m 40 #[.val (.ref a1), .val (.int p2), .val (.int p3), .val (.ref a4), .val (.ref a5), .val (.ref a6), .val (.int p7), .val (.int ((p3 - (1 : Int32)) - p2)), .unset] [(.ref a4)]))
    refine own_back (fun t_ q_ => XS.astore X0.here hx rfl (hb hby d15_40) rfl rfl (l' := #[.val (.ref a1), .val (.int p2), .val (.int p3), .val (.ref a4), .val (.ref a5), .val (.ref a6), .val (.int p7), .val (.int ((p3 - (1 : Int32)) - p2)), .val (.ref a4)]) rfl q_) ?_
    show own_Gl _ _ _ _ (s₁.setTop (mkF m 42 #[.val (.ref a1), .val (.int p2), .val (.int p3), .val (.ref a4), .val (.ref a5), .val (.ref a6), .val (.int p7), .val (.int ((p3 - (1 : Int32)) - p2)), .val (.ref a4)] []))
    refine own_back (fun t_ q_ => XS.aloadN X0.here hx rfl (hb hby d15_42) rfl rfl q_) ?_
    show own_Gl _ _ _ _ (s₁.setTop (mkF m 43 #[.val (.ref a1), .val (.int p2), .val (.int p3), .val (.ref a4), .val (.ref a5), .val (.ref a6), .val (.int p7), .val (.int ((p3 - (1 : Int32)) - p2)), .val (.ref a4)] [(.ref a1)]))
    refine own_back (fun t_ q_ => XS.aload X0.here hx rfl (hb hby d15_43) rfl rfl q_) ?_
    show own_Gl _ _ _ _ (s₁.setTop (mkF m 45 #[.val (.ref a1), .val (.int p2), .val (.int p3), .val (.ref a4), .val (.ref a5), .val (.ref a6), .val (.int p7), .val (.int ((p3 - (1 : Int32)) - p2)), .val (.ref a4)] [(.ref a4), (.ref a1)]))
    refine own_back (fun t_ q_ => Jvm.RoadKit.acmp (g := (mkF m 45 #[.val (.ref a1), .val (.int p2), .val (.int p3), .val (.ref a4), .val (.ref a5), .val (.ref a6), .val (.int p7), .val (.int ((p3 - (1 : Int32)) - p2)), .val (.ref a4)] [(.ref a4), (.ref a1)])) X0 hx rfl rfl rfl (pc0 := 45) (pc' := 48) (same := true) rfl (hb hby d15_45) rfl (decide_eq_true (congrArg Value.ref (j2))) (by decide) (by decide) q_) ?_
    show own_Gl _ _ _ _ (s₁.setTop (mkF m 48 #[.val (.ref a1), .val (.int p2), .val (.int p3), .val (.ref a4), .val (.ref a5), .val (.ref a6), .val (.int p7), .val (.int ((p3 - (1 : Int32)) - p2)), .val (.ref a4)] []))
    refine own_back (fun t_ q_ => XS.iconst X0.here hx rfl (hb hby d15_48) q_) ?_
    show own_Gl _ _ _ _ (s₁.setTop (mkF m 49 #[.val (.ref a1), .val (.int p2), .val (.int p3), .val (.ref a4), .val (.ref a5), .val (.ref a6), .val (.int p7), .val (.int ((p3 - (1 : Int32)) - p2)), .val (.ref a4)] [(.int (1 : Int32))]))
    refine own_back (fun t_ q_ => XS.goto X0.here hx rfl (pc0 := 49) (pc' := 53) rfl (hb hby d15_49) (by decide) (by decide) q_) ?_
    show own_Gl _ _ _ _ (s₁.setTop (mkF m 53 #[.val (.ref a1), .val (.int p2), .val (.int p3), .val (.ref a4), .val (.ref a5), .val (.ref a6), .val (.int p7), .val (.int ((p3 - (1 : Int32)) - p2)), .val (.ref a4)] [(.int (1 : Int32))]))
    exact own_rZ X0 hx hlk Bd.returns (hb hby d15_53) (own_one rfl) (by show Qrm15 h0 n0 _ s₁.heap _; rw [e0]; exact ⟨rfl, N0, rfl⟩) (by decide) (by decide)
  · skip
    refine own_back (fun t_ q_ => XS.ifYes X0.here hx rfl (pc0 := 20) (pc' := 27) rfl (hb hby d15_20) rfl ((if0 _ _).trans (feq (j1 : ¬ (((p3 - (1 : Int32)) - p2) = (0 : Int32)))).2) (by decide) (by decide) q_) ?_
    show own_Gl _ _ _ _ (s₁.setTop (mkF m 27 #[.val (.ref a1), .val (.int p2), .val (.int p3), .val (.ref a4), .val (.ref a5), .val (.ref a6), .val (.int p7), .val (.int ((p3 - (1 : Int32)) - p2)), .unset] []))
    refine own_back (fun t_ q_ => XS.iload X0.here hx rfl (hb hby d15_27) rfl q_) ?_
    show own_Gl _ _ _ _ (s₁.setTop (mkF m 29 #[.val (.ref a1), .val (.int p2), .val (.int p3), .val (.ref a4), .val (.ref a5), .val (.ref a6), .val (.int p7), .val (.int ((p3 - (1 : Int32)) - p2)), .unset] [(.int ((p3 - (1 : Int32)) - p2))]))
    refine own_back (fun t_ q_ => XS.iconst X0.here hx rfl (hb hby d15_29) q_) ?_
    show own_Gl _ _ _ _ (s₁.setTop (mkF m 30 #[.val (.ref a1), .val (.int p2), .val (.int p3), .val (.ref a4), .val (.ref a5), .val (.ref a6), .val (.int p7), .val (.int ((p3 - (1 : Int32)) - p2)), .unset] [(.int (1 : Int32)), (.int ((p3 - (1 : Int32)) - p2))]))
    refine own_back (fun t_ q_ => XS.icmpNo X0.here hx rfl (hb hby d15_30) rfl (teq (j2 : ((p3 - (1 : Int32)) - p2) = (1 : Int32))).2 q_) ?_
    show own_Gl _ _ _ _ (s₁.setTop (mkF m 33 #[.val (.ref a1), .val (.int p2), .val (.int p3), .val (.ref a4), .val (.ref a5), .val (.ref a6), .val (.int p7), .val (.int ((p3 - (1 : Int32)) - p2)), .unset] []))
    refine own_back (fun t_ q_ => XS.aload X0.here hx rfl (hb hby d15_33) rfl rfl q_) ?_
    show own_Gl _ _ _ _ (s₁.setTop (mkF m 35 #[.val (.ref a1), .val (.int p2), .val (.int p3), .val (.ref a4), .val (.ref a5), .val (.ref a6), .val (.int p7), .val (.int ((p3 - (1 : Int32)) - p2)), .unset] [(.ref a5)]))
    refine own_back (fun t_ q_ => XS.goto X0.here hx rfl (pc0 := 35) (pc' := 40) rfl (hb hby d15_35) (by decide) (by decide) q_) ?_
    show own_Gl _ _ _ _ (s₁.setTop (mkF m 40 #[.val (.ref a1), .val (.int p2), .val (.int p3), .val (.ref a4), .val (.ref a5), .val (.ref a6), .val (.int p7), .val (.int ((p3 - (1 : Int32)) - p2)), .unset] [(.ref a5)]))
    refine own_back (fun t_ q_ => XS.astore X0.here hx rfl (hb hby d15_40) rfl rfl (l' := #[.val (.ref a1), .val (.int p2), .val (.int p3), .val (.ref a4), .val (.ref a5), .val (.ref a6), .val (.int p7), .val (.int ((p3 - (1 : Int32)) - p2)), .val (.ref a5)]) rfl q_) ?_
    show own_Gl _ _ _ _ (s₁.setTop (mkF m 42 #[.val (.ref a1), .val (.int p2), .val (.int p3), .val (.ref a4), .val (.ref a5), .val (.ref a6), .val (.int p7), .val (.int ((p3 - (1 : Int32)) - p2)), .val (.ref a5)] []))
    refine own_back (fun t_ q_ => XS.aloadN X0.here hx rfl (hb hby d15_42) rfl rfl q_) ?_
    show own_Gl _ _ _ _ (s₁.setTop (mkF m 43 #[.val (.ref a1), .val (.int p2), .val (.int p3), .val (.ref a4), .val (.ref a5), .val (.ref a6), .val (.int p7), .val (.int ((p3 - (1 : Int32)) - p2)), .val (.ref a5)] [(.ref a1)]))
    refine own_back (fun t_ q_ => XS.aload X0.here hx rfl (hb hby d15_43) rfl rfl q_) ?_
    show own_Gl _ _ _ _ (s₁.setTop (mkF m 45 #[.val (.ref a1), .val (.int p2), .val (.int p3), .val (.ref a4), .val (.ref a5), .val (.ref a6), .val (.int p7), .val (.int ((p3 - (1 : Int32)) - p2)), .val (.ref a5)] [(.ref a5), (.ref a1)]))
    refine own_back (fun t_ q_ => Jvm.RoadKit.acmp (g := (mkF m 45 #[.val (.ref a1), .val (.int p2), .val (.int p3), .val (.ref a4), .val (.ref a5), .val (.ref a6), .val (.int p7), .val (.int ((p3 - (1 : Int32)) - p2)), .val (.ref a5)] [(.ref a5), (.ref a1)])) X0 hx rfl rfl rfl (pc0 := 45) (pc' := 48) (same := true) rfl (hb hby d15_45) rfl (decide_eq_true (congrArg Value.ref (j3))) (by decide) (by decide) q_) ?_
    show own_Gl _ _ _ _ (s₁.setTop (mkF m 48 #[.val (.ref a1), .val (.int p2), .val (.int p3), .val (.ref a4), .val (.ref a5), .val (.ref a6), .val (.int p7), .val (.int ((p3 - (1 : Int32)) - p2)), .val (.ref a5)] []))
    refine own_back (fun t_ q_ => XS.iconst X0.here hx rfl (hb hby d15_48) q_) ?_
    show own_Gl _ _ _ _ (s₁.setTop (mkF m 49 #[.val (.ref a1), .val (.int p2), .val (.int p3), .val (.ref a4), .val (.ref a5), .val (.ref a6), .val (.int p7), .val (.int ((p3 - (1 : Int32)) - p2)), .val (.ref a5)] [(.int (1 : Int32))]))
    refine own_back (fun t_ q_ => XS.goto X0.here hx rfl (pc0 := 49) (pc' := 53) rfl (hb hby d15_49) (by decide) (by decide) q_) ?_
    show own_Gl _ _ _ _ (s₁.setTop (mkF m 53 #[.val (.ref a1), .val (.int p2), .val (.int p3), .val (.ref a4), .val (.ref a5), .val (.ref a6), .val (.int p7), .val (.int ((p3 - (1 : Int32)) - p2)), .val (.ref a5)] [(.int (1 : Int32))]))
    exact own_rZ X0 hx hlk Bd.returns (hb hby d15_53) (own_one rfl) (by show Qrm15 h0 n0 _ s₁.heap _; rw [e0]; exact ⟨rfl, N0, rfl⟩) (by decide) (by decide)
  · skip
    refine own_back (fun t_ q_ => XS.ifYes X0.here hx rfl (pc0 := 20) (pc' := 27) rfl (hb hby d15_20) rfl ((if0 _ _).trans (feq (j1 : ¬ (((p3 - (1 : Int32)) - p2) = (0 : Int32)))).2) (by decide) (by decide) q_) ?_
    show own_Gl _ _ _ _ (s₁.setTop (mkF m 27 #[.val (.ref a1), .val (.int p2), .val (.int p3), .val (.ref a4), .val (.ref a5), .val (.ref a6), .val (.int p7), .val (.int ((p3 - (1 : Int32)) - p2)), .unset] []))
    refine own_back (fun t_ q_ => XS.iload X0.here hx rfl (hb hby d15_27) rfl q_) ?_
    show own_Gl _ _ _ _ (s₁.setTop (mkF m 29 #[.val (.ref a1), .val (.int p2), .val (.int p3), .val (.ref a4), .val (.ref a5), .val (.ref a6), .val (.int p7), .val (.int ((p3 - (1 : Int32)) - p2)), .unset] [(.int ((p3 - (1 : Int32)) - p2))]))
    refine own_back (fun t_ q_ => XS.iconst X0.here hx rfl (hb hby d15_29) q_) ?_
    show own_Gl _ _ _ _ (s₁.setTop (mkF m 30 #[.val (.ref a1), .val (.int p2), .val (.int p3), .val (.ref a4), .val (.ref a5), .val (.ref a6), .val (.int p7), .val (.int ((p3 - (1 : Int32)) - p2)), .unset] [(.int (1 : Int32)), (.int ((p3 - (1 : Int32)) - p2))]))
    refine own_back (fun t_ q_ => XS.icmpYes X0.here hx rfl (pc0 := 30) (pc' := 38) rfl (hb hby d15_30) rfl (feq (j2 : ¬ (((p3 - (1 : Int32)) - p2) = (1 : Int32)))).2 (by decide) (by decide) q_) ?_
    show own_Gl _ _ _ _ (s₁.setTop (mkF m 38 #[.val (.ref a1), .val (.int p2), .val (.int p3), .val (.ref a4), .val (.ref a5), .val (.ref a6), .val (.int p7), .val (.int ((p3 - (1 : Int32)) - p2)), .unset] []))
    refine own_back (fun t_ q_ => XS.aload X0.here hx rfl (hb hby d15_38) rfl rfl q_) ?_
    show own_Gl _ _ _ _ (s₁.setTop (mkF m 40 #[.val (.ref a1), .val (.int p2), .val (.int p3), .val (.ref a4), .val (.ref a5), .val (.ref a6), .val (.int p7), .val (.int ((p3 - (1 : Int32)) - p2)), .unset] [(.ref a6)]))
    refine own_back (fun t_ q_ => XS.astore X0.here hx rfl (hb hby d15_40) rfl rfl (l' := #[.val (.ref a1), .val (.int p2), .val (.int p3), .val (.ref a4), .val (.ref a5), .val (.ref a6), .val (.int p7), .val (.int ((p3 - (1 : Int32)) - p2)), .val (.ref a6)]) rfl q_) ?_
    show own_Gl _ _ _ _ (s₁.setTop (mkF m 42 #[.val (.ref a1), .val (.int p2), .val (.int p3), .val (.ref a4), .val (.ref a5), .val (.ref a6), .val (.int p7), .val (.int ((p3 - (1 : Int32)) - p2)), .val (.ref a6)] []))
    refine own_back (fun t_ q_ => XS.aloadN X0.here hx rfl (hb hby d15_42) rfl rfl q_) ?_
    show own_Gl _ _ _ _ (s₁.setTop (mkF m 43 #[.val (.ref a1), .val (.int p2), .val (.int p3), .val (.ref a4), .val (.ref a5), .val (.ref a6), .val (.int p7), .val (.int ((p3 - (1 : Int32)) - p2)), .val (.ref a6)] [(.ref a1)]))
    refine own_back (fun t_ q_ => XS.aload X0.here hx rfl (hb hby d15_43) rfl rfl q_) ?_
    show own_Gl _ _ _ _ (s₁.setTop (mkF m 45 #[.val (.ref a1), .val (.int p2), .val (.int p3), .val (.ref a4), .val (.ref a5), .val (.ref a6), .val (.int p7), .val (.int ((p3 - (1 : Int32)) - p2)), .val (.ref a6)] [(.ref a6), (.ref a1)]))
    refine own_back (fun t_ q_ => Jvm.RoadKit.acmp (g := (mkF m 45 #[.val (.ref a1), .val (.int p2), .val (.int p3), .val (.ref a4), .val (.ref a5), .val (.ref a6), .val (.int p7), .val (.int ((p3 - (1 : Int32)) - p2)), .val (.ref a6)] [(.ref a6), (.ref a1)])) X0 hx rfl rfl rfl (pc0 := 45) (pc' := 48) (same := true) rfl (hb hby d15_45) rfl (decide_eq_true (congrArg Value.ref (j3))) (by decide) (by decide) q_) ?_
    show own_Gl _ _ _ _ (s₁.setTop (mkF m 48 #[.val (.ref a1), .val (.int p2), .val (.int p3), .val (.ref a4), .val (.ref a5), .val (.ref a6), .val (.int p7), .val (.int ((p3 - (1 : Int32)) - p2)), .val (.ref a6)] []))
    refine own_back (fun t_ q_ => XS.iconst X0.here hx rfl (hb hby d15_48) q_) ?_
    show own_Gl _ _ _ _ (s₁.setTop (mkF m 49 #[.val (.ref a1), .val (.int p2), .val (.int p3), .val (.ref a4), .val (.ref a5), .val (.ref a6), .val (.int p7), .val (.int ((p3 - (1 : Int32)) - p2)), .val (.ref a6)] [(.int (1 : Int32))]))
    refine own_back (fun t_ q_ => XS.goto X0.here hx rfl (pc0 := 49) (pc' := 53) rfl (hb hby d15_49) (by decide) (by decide) q_) ?_
    show own_Gl _ _ _ _ (s₁.setTop (mkF m 53 #[.val (.ref a1), .val (.int p2), .val (.int p3), .val (.ref a4), .val (.ref a5), .val (.ref a6), .val (.int p7), .val (.int ((p3 - (1 : Int32)) - p2)), .val (.ref a6)] [(.int (1 : Int32))]))
    exact own_rZ X0 hx hlk Bd.returns (hb hby d15_53) (own_one rfl) (by show Qrm15 h0 n0 _ s₁.heap _; rw [e0]; exact ⟨rfl, N0, rfl⟩) (by decide) (by decide)
def Qrm15n (h0 : Heap) (n0 : Nat) (v : Option Value) (h : Heap) (L : List Loc) : Prop := v = some (.int 1) ∧ Fr n0 L ∧ h = h0
set_option maxRecDepth 65536 in
set_option maxHeartbeats 40000000 in
theorem rm15n (l : Launch) (Z : State) (a0 : Array Value) (hw : ∀ d ∈ tables_1, d.before a0 Z = true) (ws : List Jvm.Cond) (a1 : Addr) (p2 : Int32) (p3 : Int32) (a4 : Addr) (a5 : Addr) (a6 : Addr) (p7 : Int32) (h0 : Heap) (n0 : Nat) (Z0 : n0 ≤ h0.size) (cl : Cell) (A : Arr Z h0 a1 cl .byte) (hl : cl.slots.size.toInt32 = p7) (h1 : ¬ p2 < p3) (e4 : a1 ≠ a4) (e5 : a1 ≠ a5) (e6 : a1 ≠ a6) :
    MetFree l (⟨"com/example/thermopylae/thermopylae/http/BufferPoolTakePinLaw", "step", "([BII[B[B[BI)Z"⟩ : MethodName) (head1 (Jvm.Cond.code (⟨"com/example/thermopylae/thermopylae/http/BufferPoolTakePinLaw", "step", "([BII[B[B[BI)Z"⟩ : MethodName) method_2_code 9 (some .boolean) :: ws) ({ frames := 0, cells := 0, slots := 0, locals := 0 } : Room)) (fun a_ U_ => a_ = #[(.ref a1), (.int p2), (.int p3), (.ref a4), (.ref a5), (.ref a6), (.int p7)] ∧ Z.Warmed39 U_.vm ∧ U_.heap = h0) (fun _ _ _ _ _ => True) (fun _ U_ o_ U'_ => ∃ v_ L_, o_ = .returned v_ ∧ (Qrm15n h0 n0) v_ U'_.heap L_ ∧ FrameEnd U_ o_ U'_ L_ 0 0) := by
  refine MetFree.of_bodySF pn_15 hisR ?_
  intro p e s m args below meth c s₁ Bd hml0 hP hK
  obtain ⟨rfl, hZ, hh⟩ := hP
  have hx := Bd.exec
  have hby := Bd.bytes
  have hlk : meth.locks = false := Bd.notSynchronized
  have hml : c.maxLocals = 9 := hml0
  have hown : s.vm.findClass "com/example/thermopylae/thermopylae/http/BufferPoolTakePinLaw" = some m.cls := findClass_of_methodNamed Bd.named
  have hnm := (name_of_methodNamed Bd.named Bd.method).1
  have X0 : Stand p l e ({ frames := 0, cells := 0, slots := 0, locals := 0 } : Room) s m #[(.ref a1), (.int p2), (.int p3), (.ref a4), (.ref a5), (.ref a6), (.int p7)] below meth c s₁ [] 0 0 := Stand.of_body Bd
  have e0 : s₁.heap = h0 := by rw [← hh, Bd.state]; rfl
  have N0 := Fr.nil n0
  refine own_start (Q := Qrm15n h0 n0) (g' := (mkF m 0 #[.val (.ref a1), .val (.int p2), .val (.int p3), .val (.ref a4), .val (.ref a5), .val (.ref a6), .val (.int p7), .unset, .unset] [])) (by first | (simp [entryFrame, mkF, argsToLocals, Value.category]; done) | rfl) ?_
  show own_Gl _ _ _ _ (s₁.setTop (mkF m 0 #[.val (.ref a1), .val (.int p2), .val (.int p3), .val (.ref a4), .val (.ref a5), .val (.ref a6), .val (.int p7), .unset, .unset] []))
  refine own_back (fun t_ q_ => XS.aloadN X0.here hx rfl (hb hby d15_0) rfl rfl q_) ?_
  show own_Gl _ _ _ _ (s₁.setTop (mkF m 1 #[.val (.ref a1), .val (.int p2), .val (.int p3), .val (.ref a4), .val (.ref a5), .val (.ref a6), .val (.int p7), .unset, .unset] [(.ref a1)]))
  refine own_back (fun t_ q_ => XS.ifnonnullYes X0.here hx rfl (pc0 := 1) (pc' := 6) rfl (hb hby d15_1) rfl (by decide) (by decide) q_) ?_
  show own_Gl _ _ _ _ (s₁.setTop (mkF m 6 #[.val (.ref a1), .val (.int p2), .val (.int p3), .val (.ref a4), .val (.ref a5), .val (.ref a6), .val (.int p7), .unset, .unset] []))
  refine own_back (fun t_ q_ => XS.iloadN X0.here hx rfl (hb hby d15_6) rfl q_) ?_
  show own_Gl _ _ _ _ (s₁.setTop (mkF m 7 #[.val (.ref a1), .val (.int p2), .val (.int p3), .val (.ref a4), .val (.ref a5), .val (.ref a6), .val (.int p7), .unset, .unset] [(.int p2)]))
  refine own_back (fun t_ q_ => XS.iloadN X0.here hx rfl (hb hby d15_7) rfl q_) ?_
  show own_Gl _ _ _ _ (s₁.setTop (mkF m 8 #[.val (.ref a1), .val (.int p2), .val (.int p3), .val (.ref a4), .val (.ref a5), .val (.ref a6), .val (.int p7), .unset, .unset] [(.int p3), (.int p2)]))
  refine own_back (fun t_ q_ => XS.icmpYes X0.here hx rfl (pc0 := 8) (pc' := 54) rfl (hb hby d15_8) rfl (flt (h1 : ¬ (p2 < p3))).2.1 (by decide) (by decide) q_) ?_
  show own_Gl _ _ _ _ (s₁.setTop (mkF m 54 #[.val (.ref a1), .val (.int p2), .val (.int p3), .val (.ref a4), .val (.ref a5), .val (.ref a6), .val (.int p7), .unset, .unset] []))
  refine own_back (fun t_ q_ => XS.aloadN X0.here hx rfl (hb hby d15_54) rfl rfl q_) ?_
  show own_Gl _ _ _ _ (s₁.setTop (mkF m 55 #[.val (.ref a1), .val (.int p2), .val (.int p3), .val (.ref a4), .val (.ref a5), .val (.ref a6), .val (.int p7), .unset, .unset] [(.ref a1)]))
  refine own_back (fun t_ q_ => X0.arraylength hx (by rw [e0]; exact A.1) (State.isArrayOf_alike hZ.alike A.2.1) (g := (mkF m 55 #[.val (.ref a1), .val (.int p2), .val (.int p3), .val (.ref a4), .val (.ref a5), .val (.ref a6), .val (.int p7), .unset, .unset] [(.ref a1)])) rfl rfl (hb hby d15_55) t_ q_) ?_
  rw [hl]
  show own_Gl _ _ _ _ (s₁.setTop (mkF m 56 #[.val (.ref a1), .val (.int p2), .val (.int p3), .val (.ref a4), .val (.ref a5), .val (.ref a6), .val (.int p7), .unset, .unset] [(.int p7)]))
  refine own_back (fun t_ q_ => XS.iload X0.here hx rfl (hb hby d15_56) rfl q_) ?_
  show own_Gl _ _ _ _ (s₁.setTop (mkF m 58 #[.val (.ref a1), .val (.int p2), .val (.int p3), .val (.ref a4), .val (.ref a5), .val (.ref a6), .val (.int p7), .unset, .unset] [(.int p7), (.int p7)]))
  refine own_back (fun t_ q_ => XS.icmpNo X0.here hx rfl (hb hby d15_58) rfl (teq (rfl : p7 = p7)).2 q_) ?_
  show own_Gl _ _ _ _ (s₁.setTop (mkF m 61 #[.val (.ref a1), .val (.int p2), .val (.int p3), .val (.ref a4), .val (.ref a5), .val (.ref a6), .val (.int p7), .unset, .unset] []))
  refine own_back (fun t_ q_ => XS.aloadN X0.here hx rfl (hb hby d15_61) rfl rfl q_) ?_
  show own_Gl _ _ _ _ (s₁.setTop (mkF m 62 #[.val (.ref a1), .val (.int p2), .val (.int p3), .val (.ref a4), .val (.ref a5), .val (.ref a6), .val (.int p7), .unset, .unset] [(.ref a1)]))
  refine own_back (fun t_ q_ => XS.aloadN X0.here hx rfl (hb hby d15_62) rfl rfl q_) ?_
  show own_Gl _ _ _ _ (s₁.setTop (mkF m 63 #[.val (.ref a1), .val (.int p2), .val (.int p3), .val (.ref a4), .val (.ref a5), .val (.ref a6), .val (.int p7), .unset, .unset] [(.ref a4), (.ref a1)]))
  refine own_back (fun t_ q_ => Jvm.RoadKit.acmp (g := (mkF m 63 #[.val (.ref a1), .val (.int p2), .val (.int p3), .val (.ref a4), .val (.ref a5), .val (.ref a6), .val (.int p7), .unset, .unset] [(.ref a4), (.ref a1)])) X0 hx rfl rfl rfl (pc0 := 63) (pc' := 66) (same := false) rfl (hb hby d15_63) rfl (decide_eq_false fun q => (e4) (Value.ref.inj q)) (by decide) (by decide) q_) ?_
  show own_Gl _ _ _ _ (s₁.setTop (mkF m 66 #[.val (.ref a1), .val (.int p2), .val (.int p3), .val (.ref a4), .val (.ref a5), .val (.ref a6), .val (.int p7), .unset, .unset] []))
  refine own_back (fun t_ q_ => XS.aloadN X0.here hx rfl (hb hby d15_66) rfl rfl q_) ?_
  show own_Gl _ _ _ _ (s₁.setTop (mkF m 67 #[.val (.ref a1), .val (.int p2), .val (.int p3), .val (.ref a4), .val (.ref a5), .val (.ref a6), .val (.int p7), .unset, .unset] [(.ref a1)]))
  refine own_back (fun t_ q_ => XS.aload X0.here hx rfl (hb hby d15_67) rfl rfl q_) ?_
  show own_Gl _ _ _ _ (s₁.setTop (mkF m 69 #[.val (.ref a1), .val (.int p2), .val (.int p3), .val (.ref a4), .val (.ref a5), .val (.ref a6), .val (.int p7), .unset, .unset] [(.ref a5), (.ref a1)]))
  refine own_back (fun t_ q_ => Jvm.RoadKit.acmp (g := (mkF m 69 #[.val (.ref a1), .val (.int p2), .val (.int p3), .val (.ref a4), .val (.ref a5), .val (.ref a6), .val (.int p7), .unset, .unset] [(.ref a5), (.ref a1)])) X0 hx rfl rfl rfl (pc0 := 69) (pc' := 72) (same := false) rfl (hb hby d15_69) rfl (decide_eq_false fun q => (e5) (Value.ref.inj q)) (by decide) (by decide) q_) ?_
  show own_Gl _ _ _ _ (s₁.setTop (mkF m 72 #[.val (.ref a1), .val (.int p2), .val (.int p3), .val (.ref a4), .val (.ref a5), .val (.ref a6), .val (.int p7), .unset, .unset] []))
  refine own_back (fun t_ q_ => XS.aloadN X0.here hx rfl (hb hby d15_72) rfl rfl q_) ?_
  show own_Gl _ _ _ _ (s₁.setTop (mkF m 73 #[.val (.ref a1), .val (.int p2), .val (.int p3), .val (.ref a4), .val (.ref a5), .val (.ref a6), .val (.int p7), .unset, .unset] [(.ref a1)]))
  refine own_back (fun t_ q_ => XS.aload X0.here hx rfl (hb hby d15_73) rfl rfl q_) ?_
  show own_Gl _ _ _ _ (s₁.setTop (mkF m 75 #[.val (.ref a1), .val (.int p2), .val (.int p3), .val (.ref a4), .val (.ref a5), .val (.ref a6), .val (.int p7), .unset, .unset] [(.ref a6), (.ref a1)]))
  refine own_back (fun t_ q_ => Jvm.RoadKit.acmp (g := (mkF m 75 #[.val (.ref a1), .val (.int p2), .val (.int p3), .val (.ref a4), .val (.ref a5), .val (.ref a6), .val (.int p7), .unset, .unset] [(.ref a6), (.ref a1)])) X0 hx rfl rfl rfl (pc0 := 75) (pc' := 78) (same := false) rfl (hb hby d15_75) rfl (decide_eq_false fun q => (e6) (Value.ref.inj q)) (by decide) (by decide) q_) ?_
  show own_Gl _ _ _ _ (s₁.setTop (mkF m 78 #[.val (.ref a1), .val (.int p2), .val (.int p3), .val (.ref a4), .val (.ref a5), .val (.ref a6), .val (.int p7), .unset, .unset] []))
  refine own_back (fun t_ q_ => XS.iconst X0.here hx rfl (hb hby d15_78) q_) ?_
  show own_Gl _ _ _ _ (s₁.setTop (mkF m 79 #[.val (.ref a1), .val (.int p2), .val (.int p3), .val (.ref a4), .val (.ref a5), .val (.ref a6), .val (.int p7), .unset, .unset] [(.int (1 : Int32))]))
  refine own_back (fun t_ q_ => XS.goto X0.here hx rfl (pc0 := 79) (pc' := 83) rfl (hb hby d15_79) (by decide) (by decide) q_) ?_
  show own_Gl _ _ _ _ (s₁.setTop (mkF m 83 #[.val (.ref a1), .val (.int p2), .val (.int p3), .val (.ref a4), .val (.ref a5), .val (.ref a6), .val (.int p7), .unset, .unset] [(.int (1 : Int32))]))
  exact own_rZ X0 hx hlk Bd.returns (hb hby d15_83) (own_one rfl) (by show Qrm15n h0 n0 _ s₁.heap _; rw [e0]; exact ⟨rfl, N0, rfl⟩) (by decide) (by decide)
theorem own_m3 (f j : Int32) (hj : j = f &&& (3 : Int32)) : ∃ k : Nat, k ≤ 3 ∧ j = Int32.ofNat k := by
  have e2 := c_mask f 3 2 (by decide) (by decide)
  rw [← hj] at e2
  refine ⟨j.toInt.toNat, by omega, Int32.toInt_inj.mp ?_⟩
  rw [(own_nat (i := j.toInt.toNat) (by omega)).2.2]; omega
theorem own_m63 (f j : Int32) (hj : j = f &&& (63 : Int32)) : ¬ j < 0 ∧ j.toNatClampNeg ≤ 63 := by
  have e2 := c_mask f 63 6 (by decide) (by decide)
  rw [← hj] at e2
  have e5 : j.toNatClampNeg = j.toInt.toNat := rfl
  have z0 : (0 : Int32).toInt = 0 := by decide
  refine ⟨fun q => ?_, by omega⟩
  rw [Int32.lt_iff_toInt_lt] at q; omega
theorem own_ltn {i j : Nat} (hi : i < 2147483648) (hj : j < 2147483648) : (Int32.ofNat i < Int32.ofNat j) ↔ i < j := by
  rw [Int32.lt_iff_toInt_lt, (own_nat hi).2.2, (own_nat hj).2.2]; omega
theorem own_give (a b d : Addr) (j n m : Nat) (hj : j ≤ 2) (hn : j + 1 ≤ n) (hn3 : n ≤ 3) (hm3 : m ≤ 3) : [a, b, d].take (min (j + 1) (min n m)) = if (Int32.ofNat ([a, b, d].take (min j (min n m))).length) < Int32.ofNat m then [a, b, d].take (min j (min n m)) ++ [[a, b, d].getD j 0] else [a, b, d].take (min j (min n m)) := by
  have hl : ([a, b, d].take (min j (min n m))).length = min j (min n m) := by rw [List.length_take]; show min _ 3 = _; omega
  rw [hl]
  by_cases q : j < m
  · rw [if_pos ((own_ltn (by omega) (by omega)).mpr (by omega))]
    rw [show min (j + 1) (min n m) = j + 1 by omega, show min j (min n m) = j by omega]
    have hj' : j = 0 ∨ j = 1 ∨ j = 2 := by omega
    rcases hj' with rfl | rfl | rfl <;> rfl
  · rw [if_neg (fun w => by have := (own_ltn (by omega) (by omega)).mp w; omega)]
    rw [show min (j + 1) (min n m) = min j (min n m) by omega]
theorem own_len (a b d : Addr) (j n m : Nat) (hj : j ≤ 2) : ([a, b, d].take (min j (min n m))).length ≤ 2 := by rw [List.length_take]; omega
theorem own_min (n m : Nat) (hn3 : n ≤ 3) (hm3 : m ≤ 3) : (if Int32.ofNat m < Int32.ofNat n then Int32.ofNat m else Int32.ofNat n) = Int32.ofNat (min n m) := by
  by_cases q : m < n
  · rw [if_pos ((own_ltn (by omega) (by omega)).mpr q), show min n m = m by omega]
  · rw [if_neg (fun w => q ((own_ltn (by omega) (by omega)).mp w)), show min n m = n by omega]
theorem pd_7 : parseMethodDescriptor "(II)V" = some ⟨[.int, .int], none⟩ := by decide +kernel
theorem pd_8 : parseMethodDescriptor "([B)V" = some ⟨[(.array .byte)], none⟩ := by decide +kernel
theorem pd_9 : parseMethodDescriptor "()[B" = some ⟨[], some (.array .byte)⟩ := by decide +kernel
theorem pd_10 : parseMethodDescriptor "([BII[B[B[BI)Z" = some ⟨[(.array .byte), .int, .int, (.array .byte), (.array .byte), (.array .byte), .int], some .boolean⟩ := by decide +kernel
theorem pn_0 : plainFor x = true := plainFor_of_name (by first | (simp [plainName, overriddenIn, x]; done) | decide +kernel)
def Qrm0 (h0 : Heap) (n0 : Nat) (v : Option Value) (h : Heap) (L : List Loc) : Prop := v = some (.int 1) ∧ Fr n0 L
set_option maxRecDepth 65536 in
set_option maxHeartbeats 40000000 in
theorem rm0 (l : Launch) (Z : State) (a0 : Array Value) (hw : ∀ d ∈ tables_1, d.before a0 Z = true) (ws : List Jvm.Cond) (sz : Int32) (mo : Int32) (cn : Int32) (h0 : Heap) (n0 : Nat) (Z0 : n0 ≤ h0.size)  :
    MetFree l x (head1 (Jvm.Cond.code x code maxLocals ret :: ws) room_1) (fun a_ U_ => a_ = #[(.int sz), (.int mo), (.int cn)] ∧ Z.Warmed39 U_.vm ∧ U_.heap = h0) (fun _ _ _ _ _ => True) (fun _ U_ o_ U'_ => ∃ v_ L_, o_ = .returned v_ ∧ (Qrm0 h0 n0) v_ U'_.heap L_ ∧ FrameEnd U_ o_ U'_ L_ 32 768) := by
  refine MetFree.of_bodySF pn_0 hisR ?_
  intro p e s m args below meth c s₁ Bd hml0 hP hK
  obtain ⟨rfl, hZ, hh⟩ := hP
  have hx := Bd.exec
  have hby := Bd.bytes
  have hlk : meth.locks = false := Bd.notSynchronized
  have hml : c.maxLocals = 18 := hml0
  have hown : s.vm.findClass "com/example/thermopylae/thermopylae/http/BufferPoolTakePinLaw" = some m.cls := findClass_of_methodNamed Bd.named
  have hnm := (name_of_methodNamed Bd.named Bd.method).1
  have X0 : Stand p l e room_1 s m #[(.int sz), (.int mo), (.int cn)] below meth c s₁ [] 0 0 := Stand.of_body Bd
  have e0 : s₁.heap = h0 := by rw [← hh, Bd.state]; rfl
  have N0 := Fr.nil n0
  refine own_start (Q := Qrm0 h0 n0) (g' := (mkF m 0 #[.val (.int sz), .val (.int mo), .val (.int cn), .unset, .unset, .unset, .unset, .unset, .unset, .unset, .unset, .unset, .unset, .unset, .unset, .unset, .unset, .unset] [])) (by first | (simp [entryFrame, mkF, argsToLocals, Value.category, maxLocals]; done) | rfl) ?_
  show own_Gl _ _ _ _ (s₁.setTop (mkF m 0 #[.val (.int sz), .val (.int mo), .val (.int cn), .unset, .unset, .unset, .unset, .unset, .unset, .unset, .unset, .unset, .unset, .unset, .unset, .unset, .unset, .unset] []))
  refine own_back (fun t_ q_ => XS.iloadN X0.here hx rfl (hb hby at_0) rfl q_) ?_
  show own_Gl _ _ _ _ (s₁.setTop (mkF m 1 #[.val (.int sz), .val (.int mo), .val (.int cn), .unset, .unset, .unset, .unset, .unset, .unset, .unset, .unset, .unset, .unset, .unset, .unset, .unset, .unset, .unset] [(.int sz)]))
  refine own_back (fun t_ q_ => XS.bipush X0.here hx rfl (hb hby at_1) q_) ?_
  show own_Gl _ _ _ _ (s₁.setTop (mkF m 3 #[.val (.int sz), .val (.int mo), .val (.int cn), .unset, .unset, .unset, .unset, .unset, .unset, .unset, .unset, .unset, .unset, .unset, .unset, .unset, .unset, .unset] [(.int (63 : Int32)), (.int sz)]))
  refine own_back (fun t_ q_ => XS.iand X0.here hx rfl (hb hby at_3) rfl q_) ?_
  show own_Gl _ _ _ _ (s₁.setTop (mkF m 4 #[.val (.int sz), .val (.int mo), .val (.int cn), .unset, .unset, .unset, .unset, .unset, .unset, .unset, .unset, .unset, .unset, .unset, .unset, .unset, .unset, .unset] [(.int (sz &&& (63 : Int32)))]))
  obtain ⟨bn, hbn⟩ : ∃ z, z = (sz &&& (63 : Int32)) := ⟨_, rfl⟩
  rw [← hbn]
  show own_Gl _ _ _ _ (s₁.setTop (mkF m 4 #[.val (.int sz), .val (.int mo), .val (.int cn), .unset, .unset, .unset, .unset, .unset, .unset, .unset, .unset, .unset, .unset, .unset, .unset, .unset, .unset, .unset] [(.int bn)]))
  obtain ⟨bn1, bn2⟩ := own_m63 sz bn hbn
  refine own_back (fun t_ q_ => XS.istoreN X0.here hx rfl (hb hby at_4) rfl (l' := #[.val (.int sz), .val (.int mo), .val (.int cn), .val (.int bn), .unset, .unset, .unset, .unset, .unset, .unset, .unset, .unset, .unset, .unset, .unset, .unset, .unset, .unset]) rfl q_) ?_
  show own_Gl _ _ _ _ (s₁.setTop (mkF m 5 #[.val (.int sz), .val (.int mo), .val (.int cn), .val (.int bn), .unset, .unset, .unset, .unset, .unset, .unset, .unset, .unset, .unset, .unset, .unset, .unset, .unset, .unset] []))
  refine own_back (fun t_ q_ => XS.iloadN X0.here hx rfl (hb hby at_5) rfl q_) ?_
  show own_Gl _ _ _ _ (s₁.setTop (mkF m 6 #[.val (.int sz), .val (.int mo), .val (.int cn), .val (.int bn), .unset, .unset, .unset, .unset, .unset, .unset, .unset, .unset, .unset, .unset, .unset, .unset, .unset, .unset] [(.int mo)]))
  refine own_back (fun t_ q_ => XS.iconst X0.here hx rfl (hb hby at_6) q_) ?_
  show own_Gl _ _ _ _ (s₁.setTop (mkF m 7 #[.val (.int sz), .val (.int mo), .val (.int cn), .val (.int bn), .unset, .unset, .unset, .unset, .unset, .unset, .unset, .unset, .unset, .unset, .unset, .unset, .unset, .unset] [(.int (3 : Int32)), (.int mo)]))
  refine own_back (fun t_ q_ => XS.iand X0.here hx rfl (hb hby at_7) rfl q_) ?_
  show own_Gl _ _ _ _ (s₁.setTop (mkF m 8 #[.val (.int sz), .val (.int mo), .val (.int cn), .val (.int bn), .unset, .unset, .unset, .unset, .unset, .unset, .unset, .unset, .unset, .unset, .unset, .unset, .unset, .unset] [(.int (mo &&& (3 : Int32)))]))
  obtain ⟨mm, hmm⟩ : ∃ z, z = (mo &&& (3 : Int32)) := ⟨_, rfl⟩
  rw [← hmm]
  show own_Gl _ _ _ _ (s₁.setTop (mkF m 8 #[.val (.int sz), .val (.int mo), .val (.int cn), .val (.int bn), .unset, .unset, .unset, .unset, .unset, .unset, .unset, .unset, .unset, .unset, .unset, .unset, .unset, .unset] [(.int mm)]))
  obtain ⟨mN, m3, rfl⟩ := own_m3 mo mm hmm
  show own_Gl _ _ _ _ (s₁.setTop (mkF m 8 #[.val (.int sz), .val (.int mo), .val (.int cn), .val (.int bn), .unset, .unset, .unset, .unset, .unset, .unset, .unset, .unset, .unset, .unset, .unset, .unset, .unset, .unset] [(.int (Int32.ofNat mN))]))
  refine own_back (fun t_ q_ => XS.istore X0.here hx rfl (hb hby at_8) rfl (l' := #[.val (.int sz), .val (.int mo), .val (.int cn), .val (.int bn), .val (.int (Int32.ofNat mN)), .unset, .unset, .unset, .unset, .unset, .unset, .unset, .unset, .unset, .unset, .unset, .unset, .unset]) rfl q_) ?_
  show own_Gl _ _ _ _ (s₁.setTop (mkF m 10 #[.val (.int sz), .val (.int mo), .val (.int cn), .val (.int bn), .val (.int (Int32.ofNat mN)), .unset, .unset, .unset, .unset, .unset, .unset, .unset, .unset, .unset, .unset, .unset, .unset, .unset] []))
  refine own_back (fun t_ q_ => XS.iloadN X0.here hx rfl (hb hby at_10) rfl q_) ?_
  show own_Gl _ _ _ _ (s₁.setTop (mkF m 11 #[.val (.int sz), .val (.int mo), .val (.int cn), .val (.int bn), .val (.int (Int32.ofNat mN)), .unset, .unset, .unset, .unset, .unset, .unset, .unset, .unset, .unset, .unset, .unset, .unset, .unset] [(.int cn)]))
  refine own_back (fun t_ q_ => XS.iconst X0.here hx rfl (hb hby at_11) q_) ?_
  show own_Gl _ _ _ _ (s₁.setTop (mkF m 12 #[.val (.int sz), .val (.int mo), .val (.int cn), .val (.int bn), .val (.int (Int32.ofNat mN)), .unset, .unset, .unset, .unset, .unset, .unset, .unset, .unset, .unset, .unset, .unset, .unset, .unset] [(.int (3 : Int32)), (.int cn)]))
  refine own_back (fun t_ q_ => XS.iand X0.here hx rfl (hb hby at_12) rfl q_) ?_
  show own_Gl _ _ _ _ (s₁.setTop (mkF m 13 #[.val (.int sz), .val (.int mo), .val (.int cn), .val (.int bn), .val (.int (Int32.ofNat mN)), .unset, .unset, .unset, .unset, .unset, .unset, .unset, .unset, .unset, .unset, .unset, .unset, .unset] [(.int (cn &&& (3 : Int32)))]))
  obtain ⟨nn, hnn⟩ : ∃ z, z = (cn &&& (3 : Int32)) := ⟨_, rfl⟩
  rw [← hnn]
  show own_Gl _ _ _ _ (s₁.setTop (mkF m 13 #[.val (.int sz), .val (.int mo), .val (.int cn), .val (.int bn), .val (.int (Int32.ofNat mN)), .unset, .unset, .unset, .unset, .unset, .unset, .unset, .unset, .unset, .unset, .unset, .unset, .unset] [(.int nn)]))
  obtain ⟨n, n3, rfl⟩ := own_m3 cn nn hnn
  show own_Gl _ _ _ _ (s₁.setTop (mkF m 13 #[.val (.int sz), .val (.int mo), .val (.int cn), .val (.int bn), .val (.int (Int32.ofNat mN)), .unset, .unset, .unset, .unset, .unset, .unset, .unset, .unset, .unset, .unset, .unset, .unset, .unset] [(.int (Int32.ofNat n))]))
  refine own_back (fun t_ q_ => XS.istore X0.here hx rfl (hb hby at_13) rfl (l' := #[.val (.int sz), .val (.int mo), .val (.int cn), .val (.int bn), .val (.int (Int32.ofNat mN)), .val (.int (Int32.ofNat n)), .unset, .unset, .unset, .unset, .unset, .unset, .unset, .unset, .unset, .unset, .unset, .unset]) rfl q_) ?_
  show own_Gl _ _ _ _ (s₁.setTop (mkF m 15 #[.val (.int sz), .val (.int mo), .val (.int cn), .val (.int bn), .val (.int (Int32.ofNat mN)), .val (.int (Int32.ofNat n)), .unset, .unset, .unset, .unset, .unset, .unset, .unset, .unset, .unset, .unset, .unset, .unset] []))
  obtain ⟨T44, h44, X44, e44, E44, A44, D44, -, st44⟩ := newO X0 hx hZ hown (hw _ (List.mem_of_getElem? (i := 0) rfl)) (hw _ (List.mem_of_getElem? (i := 1) rfl)) (hw _ (List.mem_of_getElem? (i := 2) rfl)) e0 (g := (mkF m 15 #[.val (.int sz), .val (.int mo), .val (.int cn), .val (.int bn), .val (.int (Int32.ofNat mN)), .val (.int (Int32.ofNat n)), .unset, .unset, .unset, .unset, .unset, .unset, .unset, .unset, .unset, .unset, .unset, .unset] [])) rfl (hb hby at_15) (by decide) (by decide)
  obtain ⟨b44, g44⟩ : ∃ z, z = h0.size := ⟨_, rfl⟩
  rw [← g44] at A44 D44 st44
  refine own_back st44 ?_
  show own_Gl _ _ _ _ (T44.setTop (mkF m 18 #[.val (.int sz), .val (.int mo), .val (.int cn), .val (.int bn), .val (.int (Int32.ofNat mN)), .val (.int (Int32.ofNat n)), .unset, .unset, .unset, .unset, .unset, .unset, .unset, .unset, .unset, .unset, .unset, .unset] [(.ref b44)]))
  refine own_back (fun t_ q_ => XS.dup X44.here hx rfl (hb hby at_18) rfl rfl q_) ?_
  show own_Gl _ _ _ _ (T44.setTop (mkF m 19 #[.val (.int sz), .val (.int mo), .val (.int cn), .val (.int bn), .val (.int (Int32.ofNat mN)), .val (.int (Int32.ofNat n)), .unset, .unset, .unset, .unset, .unset, .unset, .unset, .unset, .unset, .unset, .unset, .unset] [(.ref b44), (.ref b44)]))
  refine own_back (fun t_ q_ => XS.iloadN X44.here hx rfl (hb hby at_19) rfl q_) ?_
  show own_Gl _ _ _ _ (T44.setTop (mkF m 20 #[.val (.int sz), .val (.int mo), .val (.int cn), .val (.int bn), .val (.int (Int32.ofNat mN)), .val (.int (Int32.ofNat n)), .unset, .unset, .unset, .unset, .unset, .unset, .unset, .unset, .unset, .unset, .unset, .unset] [(.int bn), (.ref b44), (.ref b44)]))
  refine own_back (fun t_ q_ => XS.iload X44.here hx rfl (hb hby at_20) rfl q_) ?_
  show own_Gl _ _ _ _ (T44.setTop (mkF m 22 #[.val (.int sz), .val (.int mo), .val (.int cn), .val (.int bn), .val (.int (Int32.ofNat mN)), .val (.int (Int32.ofNat n)), .unset, .unset, .unset, .unset, .unset, .unset, .unset, .unset, .unset, .unset, .unset, .unset] [(.int (Int32.ofNat mN)), (.int bn), (.ref b44), (.ref b44)]))
  have gp : n0 ≤ b44 := Nat.le_trans Z0 (Nat.le_of_eq g44.symm)
  have Z1 : n0 ≤ h44.size := Nat.le_trans Z0 E44.1
  obtain ⟨_, _, ⟨T45, L45, k45, n45⟩, -, X45, ⟨Lc45, hQ45, l45, y45, z45⟩, st45⟩ := X44.specialBack hx (y := (⟨"com/example/thermopylae/thermopylae/http/BufferPool", "<init>", "(II)V"⟩ : MethodName)) rfl hown (mvT hZ (hw _ (List.mem_of_getElem? (i := 3) rfl))) (mvT hZ (hw _ (List.mem_of_getElem? (i := 4) rfl))) (mvT hZ (hw _ (List.mem_of_getElem? (i := 5) rfl))) (by decide) (backOf (W := 1) (rm1 l Z a0 hw [] b44 bn (Int32.ofNat mN) h44 n0 Z1 A44 (D44 (Or.inr (hw _ (List.mem_of_getElem? (i := 27) rfl))) (ty := (.object "java/util/ArrayDeque")) (by decide)) (D44 (Or.inr (hw _ (List.mem_of_getElem? (i := 29) rfl))) (ty := .int) (by decide)) (D44 (Or.inr (hw _ (List.mem_of_getElem? (i := 31) rfl))) (ty := .int) (by decide)) gp) hZ (hw _ (List.mem_of_getElem? (i := 5) rfl)) (hw _ (List.mem_of_getElem? (i := 2) rfl)) (by decide) (by decide)) (g := (mkF m 22 #[.val (.int sz), .val (.int mo), .val (.int cn), .val (.int bn), .val (.int (Int32.ofNat mN)), .val (.int (Int32.ofNat n)), .unset, .unset, .unset, .unset, .unset, .unset, .unset, .unset, .unset, .unset, .unset, .unset] [(.int (Int32.ofNat mN)), (.int bn), (.ref b44), (.ref b44)])) rfl (by rw [hml]; rfl) (Steps.refl _) (a := b44) (argsL := [(.int bn), (.int (Int32.ofNat mN))]) (rest := [(.ref b44)]) (lenOf pd_7 rfl) rfl (by show 2 * 0 + _ ≤ _; exact Nat.le_of_eq rfl) (hb hby at_22) (fun _ _ => ⟨rfl, e44, (by decide : 1 + 2 ≤ _), (by decide : 3 + 20 ≤ _)⟩)
  dsimp only [Pt.U, Pt.locs, Pt.cells, Pt.slots] at X45 l45 y45 z45 st45 hQ45
  subst l45 y45 z45
  obtain ⟨rfl, M45, K45, dq, es, k, gd, ge, W0⟩ := hQ45
  have N45 := Fr.app N0 M45
  refine own_trans st45 ?_
  show own_Gl _ _ _ _ (T45.setTop (mkF m 25 #[.val (.int sz), .val (.int mo), .val (.int cn), .val (.int bn), .val (.int (Int32.ofNat mN)), .val (.int (Int32.ofNat n)), .unset, .unset, .unset, .unset, .unset, .unset, .unset, .unset, .unset, .unset, .unset, .unset] [(.ref b44)]))
  have Z2 : n0 ≤ T45.heap.size := Nat.le_trans Z1 K45.1
  refine own_back (fun t_ q_ => XS.astore X45.here hx rfl (hb hby at_25) rfl rfl (l' := #[.val (.int sz), .val (.int mo), .val (.int cn), .val (.int bn), .val (.int (Int32.ofNat mN)), .val (.int (Int32.ofNat n)), .val (.ref b44), .unset, .unset, .unset, .unset, .unset, .unset, .unset, .unset, .unset, .unset, .unset]) rfl q_) ?_
  show own_Gl _ _ _ _ (T45.setTop (mkF m 27 #[.val (.int sz), .val (.int mo), .val (.int cn), .val (.int bn), .val (.int (Int32.ofNat mN)), .val (.int (Int32.ofNat n)), .val (.ref b44), .unset, .unset, .unset, .unset, .unset, .unset, .unset, .unset, .unset, .unset, .unset] []))
  refine own_back (fun t_ q_ => XS.iconst X45.here hx rfl (hb hby at_27) q_) ?_
  show own_Gl _ _ _ _ (T45.setTop (mkF m 28 #[.val (.int sz), .val (.int mo), .val (.int cn), .val (.int bn), .val (.int (Int32.ofNat mN)), .val (.int (Int32.ofNat n)), .val (.ref b44), .unset, .unset, .unset, .unset, .unset, .unset, .unset, .unset, .unset, .unset, .unset] [(.int (1 : Int32))]))
  obtain ⟨T46, h46, k46, X46, e46, E46, A46, B46, st46⟩ := newPE X45 hx hZ (hw _ (List.mem_of_getElem? (i := 32) rfl)) rfl (g := (mkF m 28 #[.val (.int sz), .val (.int mo), .val (.int cn), .val (.int bn), .val (.int (Int32.ofNat mN)), .val (.int (Int32.ofNat n)), .val (.ref b44), .unset, .unset, .unset, .unset, .unset, .unset, .unset, .unset, .unset, .unset, .unset] [(.int (1 : Int32))])) rfl (hb hby at_28) rfl (by decide) (cap := 1) (by decide) (by decide) (by decide) (by decide) (ad := "[B") (by decide)
  obtain ⟨b46, g46⟩ : ∃ z, z = T45.heap.size := ⟨_, rfl⟩
  rw [← g46] at A46 B46 st46
  refine own_back st46 ?_
  show own_Gl _ _ _ _ (T46.setTop (mkF m 30 #[.val (.int sz), .val (.int mo), .val (.int cn), .val (.int bn), .val (.int (Int32.ofNat mN)), .val (.int (Int32.ofNat n)), .val (.ref b44), .unset, .unset, .unset, .unset, .unset, .unset, .unset, .unset, .unset, .unset, .unset] [(.ref b46)]))
  have K46 := own_keepE E46
  have W1 := W0.keep K46 nin0 nin0 nin0
  have Z3 : n0 ≤ h46.size := Nat.le_trans Z2 E46.1
  have X0 := B46
  have ab0 : b46 = T45.heap.size := g46
  refine own_back (fun t_ q_ => XS.astore X46.here hx rfl (hb hby at_30) rfl rfl (l' := #[.val (.int sz), .val (.int mo), .val (.int cn), .val (.int bn), .val (.int (Int32.ofNat mN)), .val (.int (Int32.ofNat n)), .val (.ref b44), .val (.ref b46), .unset, .unset, .unset, .unset, .unset, .unset, .unset, .unset, .unset, .unset]) rfl q_) ?_
  show own_Gl _ _ _ _ (T46.setTop (mkF m 32 #[.val (.int sz), .val (.int mo), .val (.int cn), .val (.int bn), .val (.int (Int32.ofNat mN)), .val (.int (Int32.ofNat n)), .val (.ref b44), .val (.ref b46), .unset, .unset, .unset, .unset, .unset, .unset, .unset, .unset, .unset, .unset] []))
  refine own_back (fun t_ q_ => XS.iconst X46.here hx rfl (hb hby at_32) q_) ?_
  show own_Gl _ _ _ _ (T46.setTop (mkF m 33 #[.val (.int sz), .val (.int mo), .val (.int cn), .val (.int bn), .val (.int (Int32.ofNat mN)), .val (.int (Int32.ofNat n)), .val (.ref b44), .val (.ref b46), .unset, .unset, .unset, .unset, .unset, .unset, .unset, .unset, .unset, .unset] [(.int (2 : Int32))]))
  obtain ⟨T47, h47, k47, X47, e47, E47, A47, B47, st47⟩ := newPE X46 hx hZ (hw _ (List.mem_of_getElem? (i := 32) rfl)) e46 (g := (mkF m 33 #[.val (.int sz), .val (.int mo), .val (.int cn), .val (.int bn), .val (.int (Int32.ofNat mN)), .val (.int (Int32.ofNat n)), .val (.ref b44), .val (.ref b46), .unset, .unset, .unset, .unset, .unset, .unset, .unset, .unset, .unset, .unset] [(.int (2 : Int32))])) rfl (hb hby at_33) rfl (by decide) (cap := 2) (by decide) (by decide) (by decide) (by decide) (ad := "[B") (by decide)
  obtain ⟨b47, g47⟩ : ∃ z, z = h46.size := ⟨_, rfl⟩
  rw [← g47] at A47 B47 st47
  refine own_back st47 ?_
  show own_Gl _ _ _ _ (T47.setTop (mkF m 35 #[.val (.int sz), .val (.int mo), .val (.int cn), .val (.int bn), .val (.int (Int32.ofNat mN)), .val (.int (Int32.ofNat n)), .val (.ref b44), .val (.ref b46), .unset, .unset, .unset, .unset, .unset, .unset, .unset, .unset, .unset, .unset] [(.ref b47)]))
  have K47 := own_keepE E47
  have W2 := W1.keep K47 nin0 nin0 nin0
  have Z4 : n0 ≤ h47.size := Nat.le_trans Z3 E47.1
  have X0 := X0.ext E47
  have X1 := B47
  have ab1 : b47 = h46.size := g47
  refine own_back (fun t_ q_ => XS.astore X47.here hx rfl (hb hby at_35) rfl rfl (l' := #[.val (.int sz), .val (.int mo), .val (.int cn), .val (.int bn), .val (.int (Int32.ofNat mN)), .val (.int (Int32.ofNat n)), .val (.ref b44), .val (.ref b46), .val (.ref b47), .unset, .unset, .unset, .unset, .unset, .unset, .unset, .unset, .unset]) rfl q_) ?_
  show own_Gl _ _ _ _ (T47.setTop (mkF m 37 #[.val (.int sz), .val (.int mo), .val (.int cn), .val (.int bn), .val (.int (Int32.ofNat mN)), .val (.int (Int32.ofNat n)), .val (.ref b44), .val (.ref b46), .val (.ref b47), .unset, .unset, .unset, .unset, .unset, .unset, .unset, .unset, .unset] []))
  refine own_back (fun t_ q_ => XS.iconst X47.here hx rfl (hb hby at_37) q_) ?_
  show own_Gl _ _ _ _ (T47.setTop (mkF m 38 #[.val (.int sz), .val (.int mo), .val (.int cn), .val (.int bn), .val (.int (Int32.ofNat mN)), .val (.int (Int32.ofNat n)), .val (.ref b44), .val (.ref b46), .val (.ref b47), .unset, .unset, .unset, .unset, .unset, .unset, .unset, .unset, .unset] [(.int (3 : Int32))]))
  obtain ⟨T48, h48, k48, X48, e48, E48, A48, B48, st48⟩ := newPE X47 hx hZ (hw _ (List.mem_of_getElem? (i := 32) rfl)) e47 (g := (mkF m 38 #[.val (.int sz), .val (.int mo), .val (.int cn), .val (.int bn), .val (.int (Int32.ofNat mN)), .val (.int (Int32.ofNat n)), .val (.ref b44), .val (.ref b46), .val (.ref b47), .unset, .unset, .unset, .unset, .unset, .unset, .unset, .unset, .unset] [(.int (3 : Int32))])) rfl (hb hby at_38) rfl (by decide) (cap := 3) (by decide) (by decide) (by decide) (by decide) (ad := "[B") (by decide)
  obtain ⟨b48, g48⟩ : ∃ z, z = h47.size := ⟨_, rfl⟩
  rw [← g48] at A48 B48 st48
  refine own_back st48 ?_
  show own_Gl _ _ _ _ (T48.setTop (mkF m 40 #[.val (.int sz), .val (.int mo), .val (.int cn), .val (.int bn), .val (.int (Int32.ofNat mN)), .val (.int (Int32.ofNat n)), .val (.ref b44), .val (.ref b46), .val (.ref b47), .unset, .unset, .unset, .unset, .unset, .unset, .unset, .unset, .unset] [(.ref b48)]))
  have K48 := own_keepE E48
  have W3 := W2.keep K48 nin0 nin0 nin0
  have Z5 : n0 ≤ h48.size := Nat.le_trans Z4 E48.1
  have X0 := X0.ext E48
  have X1 := X1.ext E48
  have X2 := B48
  have ab2 : b48 = h47.size := g48
  have ne01 : b46 ≠ b47 := Nat.ne_of_lt (by rw [ab1]; exact B46.lt)
  have ne02 : b46 ≠ b48 := Nat.ne_of_lt (by rw [ab2]; exact (B46.ext E47).lt)
  have ne12 : b47 ≠ b48 := Nat.ne_of_lt (by rw [ab2]; exact B47.lt)
  refine own_back (fun t_ q_ => XS.astore X48.here hx rfl (hb hby at_40) rfl rfl (l' := #[.val (.int sz), .val (.int mo), .val (.int cn), .val (.int bn), .val (.int (Int32.ofNat mN)), .val (.int (Int32.ofNat n)), .val (.ref b44), .val (.ref b46), .val (.ref b47), .val (.ref b48), .unset, .unset, .unset, .unset, .unset, .unset, .unset, .unset]) rfl q_) ?_
  show own_Gl _ _ _ _ (T48.setTop (mkF m 42 #[.val (.int sz), .val (.int mo), .val (.int cn), .val (.int bn), .val (.int (Int32.ofNat mN)), .val (.int (Int32.ofNat n)), .val (.ref b44), .val (.ref b46), .val (.ref b47), .val (.ref b48), .unset, .unset, .unset, .unset, .unset, .unset, .unset, .unset] []))
  refine own_back (fun t_ q_ => XS.iload X48.here hx rfl (hb hby at_42) rfl q_) ?_
  show own_Gl _ _ _ _ (T48.setTop (mkF m 44 #[.val (.int sz), .val (.int mo), .val (.int cn), .val (.int bn), .val (.int (Int32.ofNat mN)), .val (.int (Int32.ofNat n)), .val (.ref b44), .val (.ref b46), .val (.ref b47), .val (.ref b48), .unset, .unset, .unset, .unset, .unset, .unset, .unset, .unset] [(.int (Int32.ofNat n))]))
  refine own_back (fun t_ q_ => XS.iconst X48.here hx rfl (hb hby at_44) q_) ?_
  show own_Gl _ _ _ _ (T48.setTop (mkF m 45 #[.val (.int sz), .val (.int mo), .val (.int cn), .val (.int bn), .val (.int (Int32.ofNat mN)), .val (.int (Int32.ofNat n)), .val (.ref b44), .val (.ref b46), .val (.ref b47), .val (.ref b48), .unset, .unset, .unset, .unset, .unset, .unset, .unset, .unset] [(.int (1 : Int32)), (.int (Int32.ofNat n))]))
  have C0 : n0 ≤ h48.size ∧ own_W Z h48 b44 dq es k bn (Int32.ofNat mN) ([b46, b47, b48].take (min 0 (min n mN))) ∧ Exa Z h48 b46 "[B" ∧ Exa Z h48 b47 "[B" ∧ Exa Z h48 b48 "[B" := ⟨Z5, W3, X0, X1, X2⟩
  refine own_join (α := State × Heap) (fun z => z.1.setTop (mkF m 55 #[.val (.int sz), .val (.int mo), .val (.int cn), .val (.int bn), .val (.int (Int32.ofNat mN)), .val (.int (Int32.ofNat n)), .val (.ref b44), .val (.ref b46), .val (.ref b47), .val (.ref b48), .unset, .unset, .unset, .unset, .unset, .unset, .unset, .unset] [])) (fun z => (∃ L, Stand p l e room_1 s m #[(.int sz), (.int mo), (.int cn)] below meth c z.1 L 6 29 ∧ Fr n0 L) ∧ z.1.heap = z.2 ∧ n0 ≤ z.2.size ∧ own_W Z z.2 b44 dq es k bn (Int32.ofNat mN) ([b46, b47, b48].take (min 1 (min n mN))) ∧ Exa Z z.2 b46 "[B" ∧ Exa Z z.2 b47 "[B" ∧ Exa Z z.2 b48 "[B") (fun z hz => ?_) (fun tail49 => ?_)
  · skip
    obtain ⟨T49, h49⟩ := z
    obtain ⟨⟨L49, X49, N49⟩, e49, hc49⟩ := hz
    have X49 : Stand p l e room_1 s m #[(.int sz), (.int mo), (.int cn)] below meth c T49 L49 6 29 := X49
    have e49 : T49.heap = h49 := e49
    have hc49 : n0 ≤ h49.size ∧ own_W Z h49 b44 dq es k bn (Int32.ofNat mN) ([b46, b47, b48].take (min 1 (min n mN))) ∧ Exa Z h49 b46 "[B" ∧ Exa Z h49 b47 "[B" ∧ Exa Z h49 b48 "[B" := hc49
    show own_Gl _ _ _ _ (T49.setTop (mkF m 55 #[.val (.int sz), .val (.int mo), .val (.int cn), .val (.int bn), .val (.int (Int32.ofNat mN)), .val (.int (Int32.ofNat n)), .val (.ref b44), .val (.ref b46), .val (.ref b47), .val (.ref b48), .unset, .unset, .unset, .unset, .unset, .unset, .unset, .unset] []))
    have C1 := hc49
    refine own_back (fun t_ q_ => XS.iload X49.here hx rfl (hb hby at_55) rfl q_) ?_
    show own_Gl _ _ _ _ (T49.setTop (mkF m 57 #[.val (.int sz), .val (.int mo), .val (.int cn), .val (.int bn), .val (.int (Int32.ofNat mN)), .val (.int (Int32.ofNat n)), .val (.ref b44), .val (.ref b46), .val (.ref b47), .val (.ref b48), .unset, .unset, .unset, .unset, .unset, .unset, .unset, .unset] [(.int (Int32.ofNat n))]))
    refine own_back (fun t_ q_ => XS.iconst X49.here hx rfl (hb hby at_57) q_) ?_
    show own_Gl _ _ _ _ (T49.setTop (mkF m 58 #[.val (.int sz), .val (.int mo), .val (.int cn), .val (.int bn), .val (.int (Int32.ofNat mN)), .val (.int (Int32.ofNat n)), .val (.ref b44), .val (.ref b46), .val (.ref b47), .val (.ref b48), .unset, .unset, .unset, .unset, .unset, .unset, .unset, .unset] [(.int (2 : Int32)), (.int (Int32.ofNat n))]))
    refine own_join (α := State × Heap) (fun z => z.1.setTop (mkF m 68 #[.val (.int sz), .val (.int mo), .val (.int cn), .val (.int bn), .val (.int (Int32.ofNat mN)), .val (.int (Int32.ofNat n)), .val (.ref b44), .val (.ref b46), .val (.ref b47), .val (.ref b48), .unset, .unset, .unset, .unset, .unset, .unset, .unset, .unset] [])) (fun z => (∃ L, Stand p l e room_1 s m #[(.int sz), (.int mo), (.int cn)] below meth c z.1 L 6 29 ∧ Fr n0 L) ∧ z.1.heap = z.2 ∧ n0 ≤ z.2.size ∧ own_W Z z.2 b44 dq es k bn (Int32.ofNat mN) ([b46, b47, b48].take (min 2 (min n mN))) ∧ Exa Z z.2 b46 "[B" ∧ Exa Z z.2 b47 "[B" ∧ Exa Z z.2 b48 "[B") (fun z hz => ?_) (fun tail50 => ?_)
    · skip
      obtain ⟨T50, h50⟩ := z
      obtain ⟨⟨L50, X50, N50⟩, e50, hc50⟩ := hz
      have X50 : Stand p l e room_1 s m #[(.int sz), (.int mo), (.int cn)] below meth c T50 L50 6 29 := X50
      have e50 : T50.heap = h50 := e50
      have hc50 : n0 ≤ h50.size ∧ own_W Z h50 b44 dq es k bn (Int32.ofNat mN) ([b46, b47, b48].take (min 2 (min n mN))) ∧ Exa Z h50 b46 "[B" ∧ Exa Z h50 b47 "[B" ∧ Exa Z h50 b48 "[B" := hc50
      show own_Gl _ _ _ _ (T50.setTop (mkF m 68 #[.val (.int sz), .val (.int mo), .val (.int cn), .val (.int bn), .val (.int (Int32.ofNat mN)), .val (.int (Int32.ofNat n)), .val (.ref b44), .val (.ref b46), .val (.ref b47), .val (.ref b48), .unset, .unset, .unset, .unset, .unset, .unset, .unset, .unset] []))
      have C2 := hc50
      refine own_back (fun t_ q_ => XS.iload X50.here hx rfl (hb hby at_68) rfl q_) ?_
      show own_Gl _ _ _ _ (T50.setTop (mkF m 70 #[.val (.int sz), .val (.int mo), .val (.int cn), .val (.int bn), .val (.int (Int32.ofNat mN)), .val (.int (Int32.ofNat n)), .val (.ref b44), .val (.ref b46), .val (.ref b47), .val (.ref b48), .unset, .unset, .unset, .unset, .unset, .unset, .unset, .unset] [(.int (Int32.ofNat n))]))
      refine own_back (fun t_ q_ => XS.iconst X50.here hx rfl (hb hby at_70) q_) ?_
      show own_Gl _ _ _ _ (T50.setTop (mkF m 71 #[.val (.int sz), .val (.int mo), .val (.int cn), .val (.int bn), .val (.int (Int32.ofNat mN)), .val (.int (Int32.ofNat n)), .val (.ref b44), .val (.ref b46), .val (.ref b47), .val (.ref b48), .unset, .unset, .unset, .unset, .unset, .unset, .unset, .unset] [(.int (3 : Int32)), (.int (Int32.ofNat n))]))
      refine own_join (α := State × Heap) (fun z => z.1.setTop (mkF m 81 #[.val (.int sz), .val (.int mo), .val (.int cn), .val (.int bn), .val (.int (Int32.ofNat mN)), .val (.int (Int32.ofNat n)), .val (.ref b44), .val (.ref b46), .val (.ref b47), .val (.ref b48), .unset, .unset, .unset, .unset, .unset, .unset, .unset, .unset] [])) (fun z => (∃ L, Stand p l e room_1 s m #[(.int sz), (.int mo), (.int cn)] below meth c z.1 L 6 29 ∧ Fr n0 L) ∧ z.1.heap = z.2 ∧ n0 ≤ z.2.size ∧ own_W Z z.2 b44 dq es k bn (Int32.ofNat mN) ([b46, b47, b48].take (min 3 (min n mN))) ∧ Exa Z z.2 b46 "[B" ∧ Exa Z z.2 b47 "[B" ∧ Exa Z z.2 b48 "[B") (fun z hz => ?_) (fun tail51 => ?_)
      · skip
        obtain ⟨T51, h51⟩ := z
        obtain ⟨⟨L51, X51, N51⟩, e51, hc51⟩ := hz
        have X51 : Stand p l e room_1 s m #[(.int sz), (.int mo), (.int cn)] below meth c T51 L51 6 29 := X51
        have e51 : T51.heap = h51 := e51
        have hc51 : n0 ≤ h51.size ∧ own_W Z h51 b44 dq es k bn (Int32.ofNat mN) ([b46, b47, b48].take (min 3 (min n mN))) ∧ Exa Z h51 b46 "[B" ∧ Exa Z h51 b47 "[B" ∧ Exa Z h51 b48 "[B" := hc51
        show own_Gl _ _ _ _ (T51.setTop (mkF m 81 #[.val (.int sz), .val (.int mo), .val (.int cn), .val (.int bn), .val (.int (Int32.ofNat mN)), .val (.int (Int32.ofNat n)), .val (.ref b44), .val (.ref b46), .val (.ref b47), .val (.ref b48), .unset, .unset, .unset, .unset, .unset, .unset, .unset, .unset] []))
        have C3 := hc51
        obtain ⟨Zc, Wc, Xa, Xb, Xd⟩ := C3
        refine own_back (fun t_ q_ => XS.iload X51.here hx rfl (hb hby at_81) rfl q_) ?_
        show own_Gl _ _ _ _ (T51.setTop (mkF m 83 #[.val (.int sz), .val (.int mo), .val (.int cn), .val (.int bn), .val (.int (Int32.ofNat mN)), .val (.int (Int32.ofNat n)), .val (.ref b44), .val (.ref b46), .val (.ref b47), .val (.ref b48), .unset, .unset, .unset, .unset, .unset, .unset, .unset, .unset] [(.int (Int32.ofNat n))]))
        refine own_back (fun t_ q_ => XS.iload X51.here hx rfl (hb hby at_83) rfl q_) ?_
        show own_Gl _ _ _ _ (T51.setTop (mkF m 85 #[.val (.int sz), .val (.int mo), .val (.int cn), .val (.int bn), .val (.int (Int32.ofNat mN)), .val (.int (Int32.ofNat n)), .val (.ref b44), .val (.ref b46), .val (.ref b47), .val (.ref b48), .unset, .unset, .unset, .unset, .unset, .unset, .unset, .unset] [(.int (Int32.ofNat mN)), (.int (Int32.ofNat n))]))
        obtain ⟨_, _, ⟨T52, L52, k52, n52⟩, -, X52, ⟨Lc52, hQ52, l52, y52, z52⟩, st52⟩ := Jvm.LawKit.callS X51 hx (y := (⟨"java/lang/Math", "min", "(II)I"⟩ : MethodName)) hown (mvT hZ (hw _ (List.mem_of_getElem? (i := 59) rfl))) (mvT hZ (hw _ (List.mem_of_getElem? (i := 60) rfl))) (mvT hZ (hw _ (List.mem_of_getElem? (i := 61) rfl))) (mvT hZ (hw _ (List.mem_of_getElem? (i := 62) rfl))) (by decide) (backOf (W := 0) (rm10 l Z a0 hw [] (Int32.ofNat n) (Int32.ofNat mN) h51 n0 Zc) hZ (hw _ (List.mem_of_getElem? (i := 62) rfl)) (hw _ (List.mem_of_getElem? (i := 61) rfl)) (by decide) (by decide)) (g := (mkF m 85 #[.val (.int sz), .val (.int mo), .val (.int cn), .val (.int bn), .val (.int (Int32.ofNat mN)), .val (.int (Int32.ofNat n)), .val (.ref b44), .val (.ref b46), .val (.ref b47), .val (.ref b48), .unset, .unset, .unset, .unset, .unset, .unset, .unset, .unset] [(.int (Int32.ofNat mN)), (.int (Int32.ofNat n))])) rfl (by rw [hml]; rfl) (argsL := [(.int (Int32.ofNat n)), (.int (Int32.ofNat mN))]) (rest := []) (lenOf pd_1 rfl) rfl (by show 2 * 0 + _ ≤ _; exact Nat.le_of_eq rfl) (hb hby at_85) (fun _ _ => ⟨rfl, e51, (by decide : 6 + 0 ≤ _), (by decide : 29 + 0 ≤ _)⟩)
        dsimp only [Pt.U, Pt.locs, Pt.cells, Pt.slots] at X52 l52 y52 z52 st52 hQ52
        subst l52 y52 z52
        obtain ⟨rfl, M52, e52⟩ := hQ52
        have N52 := Fr.app N51 M52
        refine own_back st52 ?_
        show own_Gl _ _ _ _ (T52.setTop (mkF m 88 #[.val (.int sz), .val (.int mo), .val (.int cn), .val (.int bn), .val (.int (Int32.ofNat mN)), .val (.int (Int32.ofNat n)), .val (.ref b44), .val (.ref b46), .val (.ref b47), .val (.ref b48), .unset, .unset, .unset, .unset, .unset, .unset, .unset, .unset] [(.int (if Int32.ofNat mN < Int32.ofNat n then Int32.ofNat mN else Int32.ofNat n))]))
        rw [own_min n mN n3 m3]
        show own_Gl _ _ _ _ (T52.setTop (mkF m 88 #[.val (.int sz), .val (.int mo), .val (.int cn), .val (.int bn), .val (.int (Int32.ofNat mN)), .val (.int (Int32.ofNat n)), .val (.ref b44), .val (.ref b46), .val (.ref b47), .val (.ref b48), .unset, .unset, .unset, .unset, .unset, .unset, .unset, .unset] [(.int (Int32.ofNat (min n mN)))]))
        refine own_back (fun t_ q_ => XS.istore X52.here hx rfl (hb hby at_88) rfl (l' := #[.val (.int sz), .val (.int mo), .val (.int cn), .val (.int bn), .val (.int (Int32.ofNat mN)), .val (.int (Int32.ofNat n)), .val (.ref b44), .val (.ref b46), .val (.ref b47), .val (.ref b48), .val (.int (Int32.ofNat (min n mN))), .unset, .unset, .unset, .unset, .unset, .unset, .unset]) rfl q_) ?_
        show own_Gl _ _ _ _ (T52.setTop (mkF m 90 #[.val (.int sz), .val (.int mo), .val (.int cn), .val (.int bn), .val (.int (Int32.ofNat mN)), .val (.int (Int32.ofNat n)), .val (.ref b44), .val (.ref b46), .val (.ref b47), .val (.ref b48), .val (.int (Int32.ofNat (min n mN))), .unset, .unset, .unset, .unset, .unset, .unset, .unset] []))
        refine own_join (α := State × Heap × Addr × Addr × Addr × Addr × Int32) (fun z => z.1.setTop (mkF m 204 #[.val (.int sz), .val (.int mo), .val (.int cn), .val (.int bn), .val (.int (Int32.ofNat mN)), .val (.int (Int32.ofNat n)), .val (.ref b44), .val (.ref b46), .val (.ref b47), .val (.ref b48), .val (.int z.2.2.2.2.2.2), .val (.ref z.2.2.1), .val (.ref z.2.2.2.1), .val (.ref z.2.2.2.2.1), .val (.ref z.2.2.2.2.2.1), .val (.int (1 : Int32)), .unset, .unset] [])) (fun z => (∃ L, Stand p l e room_1 s m #[(.int sz), (.int mo), (.int cn)] below meth c z.1 L 10 281 ∧ Fr n0 L) ∧ z.1.heap = z.2.1 ∧ n0 ≤ z.2.1.size ∧ own_W Z z.2.1 b44 dq es k bn (Int32.ofNat mN) ([]) ∧ Exa Z z.2.1 z.2.2.2.2.2.1 "[B" ∧ (z.2.2.1 < z.2.1.size ∧ z.2.2.2.1 < z.2.1.size ∧ z.2.2.2.2.1 < z.2.1.size) ∧ z.2.2.1 ≠ z.2.2.2.1 ∧ z.2.2.1 ≠ z.2.2.2.2.1 ∧ z.2.2.1 ≠ z.2.2.2.2.2.1 ∧ z.2.2.2.1 ≠ z.2.2.2.2.1 ∧ z.2.2.2.1 ≠ z.2.2.2.2.2.1 ∧ z.2.2.2.2.1 ≠ z.2.2.2.2.2.1) (fun z hz => ?_) (fun tail53 => ?_)
        · skip
          obtain ⟨T53, h53, t153, t253, t353, t453, k1053⟩ := z
          obtain ⟨⟨L53, X53, N53⟩, e53, hc53⟩ := hz
          have X53 : Stand p l e room_1 s m #[(.int sz), (.int mo), (.int cn)] below meth c T53 L53 10 281 := X53
          have e53 : T53.heap = h53 := e53
          have hc53 : n0 ≤ h53.size ∧ own_W Z h53 b44 dq es k bn (Int32.ofNat mN) ([]) ∧ Exa Z h53 t453 "[B" ∧ (t153 < h53.size ∧ t253 < h53.size ∧ t353 < h53.size) ∧ t153 ≠ t253 ∧ t153 ≠ t353 ∧ t153 ≠ t453 ∧ t253 ≠ t353 ∧ t253 ≠ t453 ∧ t353 ≠ t453 := hc53
          show own_Gl _ _ _ _ (T53.setTop (mkF m 204 #[.val (.int sz), .val (.int mo), .val (.int cn), .val (.int bn), .val (.int (Int32.ofNat mN)), .val (.int (Int32.ofNat n)), .val (.ref b44), .val (.ref b46), .val (.ref b47), .val (.ref b48), .val (.int k1053), .val (.ref t153), .val (.ref t253), .val (.ref t353), .val (.ref t453), .val (.int (1 : Int32)), .unset, .unset] []))
          obtain ⟨Zt, Wt, Xt, ⟨l1, l2, l3⟩, e12, e13, e14, e23, e24, e34⟩ := hc53
          have l4 := Xt.lt
          refine own_back (fun t_ q_ => XS.aload X53.here hx rfl (hb hby at_204) rfl rfl q_) ?_
          show own_Gl _ _ _ _ (T53.setTop (mkF m 206 #[.val (.int sz), .val (.int mo), .val (.int cn), .val (.int bn), .val (.int (Int32.ofNat mN)), .val (.int (Int32.ofNat n)), .val (.ref b44), .val (.ref b46), .val (.ref b47), .val (.ref b48), .val (.int k1053), .val (.ref t153), .val (.ref t253), .val (.ref t353), .val (.ref t453), .val (.int (1 : Int32)), .unset, .unset] [(.ref t153)]))
          refine own_back (fun t_ q_ => XS.aload X53.here hx rfl (hb hby at_206) rfl rfl q_) ?_
          show own_Gl _ _ _ _ (T53.setTop (mkF m 208 #[.val (.int sz), .val (.int mo), .val (.int cn), .val (.int bn), .val (.int (Int32.ofNat mN)), .val (.int (Int32.ofNat n)), .val (.ref b44), .val (.ref b46), .val (.ref b47), .val (.ref b48), .val (.int k1053), .val (.ref t153), .val (.ref t253), .val (.ref t353), .val (.ref t453), .val (.int (1 : Int32)), .unset, .unset] [(.ref t253), (.ref t153)]))
          refine own_back (fun t_ q_ => Jvm.RoadKit.acmp (g := (mkF m 208 #[.val (.int sz), .val (.int mo), .val (.int cn), .val (.int bn), .val (.int (Int32.ofNat mN)), .val (.int (Int32.ofNat n)), .val (.ref b44), .val (.ref b46), .val (.ref b47), .val (.ref b48), .val (.int k1053), .val (.ref t153), .val (.ref t253), .val (.ref t353), .val (.ref t453), .val (.int (1 : Int32)), .unset, .unset] [(.ref t253), (.ref t153)])) X53 hx rfl rfl rfl (pc0 := 208) (pc' := 211) (same := false) rfl (hb hby at_208) rfl (decide_eq_false fun q => (e12) (Value.ref.inj q)) (by decide) (by decide) q_) ?_
          show own_Gl _ _ _ _ (T53.setTop (mkF m 211 #[.val (.int sz), .val (.int mo), .val (.int cn), .val (.int bn), .val (.int (Int32.ofNat mN)), .val (.int (Int32.ofNat n)), .val (.ref b44), .val (.ref b46), .val (.ref b47), .val (.ref b48), .val (.int k1053), .val (.ref t153), .val (.ref t253), .val (.ref t353), .val (.ref t453), .val (.int (1 : Int32)), .unset, .unset] []))
          refine own_back (fun t_ q_ => XS.aload X53.here hx rfl (hb hby at_211) rfl rfl q_) ?_
          show own_Gl _ _ _ _ (T53.setTop (mkF m 213 #[.val (.int sz), .val (.int mo), .val (.int cn), .val (.int bn), .val (.int (Int32.ofNat mN)), .val (.int (Int32.ofNat n)), .val (.ref b44), .val (.ref b46), .val (.ref b47), .val (.ref b48), .val (.int k1053), .val (.ref t153), .val (.ref t253), .val (.ref t353), .val (.ref t453), .val (.int (1 : Int32)), .unset, .unset] [(.ref t153)]))
          refine own_back (fun t_ q_ => XS.aload X53.here hx rfl (hb hby at_213) rfl rfl q_) ?_
          show own_Gl _ _ _ _ (T53.setTop (mkF m 215 #[.val (.int sz), .val (.int mo), .val (.int cn), .val (.int bn), .val (.int (Int32.ofNat mN)), .val (.int (Int32.ofNat n)), .val (.ref b44), .val (.ref b46), .val (.ref b47), .val (.ref b48), .val (.int k1053), .val (.ref t153), .val (.ref t253), .val (.ref t353), .val (.ref t453), .val (.int (1 : Int32)), .unset, .unset] [(.ref t353), (.ref t153)]))
          refine own_back (fun t_ q_ => Jvm.RoadKit.acmp (g := (mkF m 215 #[.val (.int sz), .val (.int mo), .val (.int cn), .val (.int bn), .val (.int (Int32.ofNat mN)), .val (.int (Int32.ofNat n)), .val (.ref b44), .val (.ref b46), .val (.ref b47), .val (.ref b48), .val (.int k1053), .val (.ref t153), .val (.ref t253), .val (.ref t353), .val (.ref t453), .val (.int (1 : Int32)), .unset, .unset] [(.ref t353), (.ref t153)])) X53 hx rfl rfl rfl (pc0 := 215) (pc' := 218) (same := false) rfl (hb hby at_215) rfl (decide_eq_false fun q => (e13) (Value.ref.inj q)) (by decide) (by decide) q_) ?_
          show own_Gl _ _ _ _ (T53.setTop (mkF m 218 #[.val (.int sz), .val (.int mo), .val (.int cn), .val (.int bn), .val (.int (Int32.ofNat mN)), .val (.int (Int32.ofNat n)), .val (.ref b44), .val (.ref b46), .val (.ref b47), .val (.ref b48), .val (.int k1053), .val (.ref t153), .val (.ref t253), .val (.ref t353), .val (.ref t453), .val (.int (1 : Int32)), .unset, .unset] []))
          refine own_back (fun t_ q_ => XS.aload X53.here hx rfl (hb hby at_218) rfl rfl q_) ?_
          show own_Gl _ _ _ _ (T53.setTop (mkF m 220 #[.val (.int sz), .val (.int mo), .val (.int cn), .val (.int bn), .val (.int (Int32.ofNat mN)), .val (.int (Int32.ofNat n)), .val (.ref b44), .val (.ref b46), .val (.ref b47), .val (.ref b48), .val (.int k1053), .val (.ref t153), .val (.ref t253), .val (.ref t353), .val (.ref t453), .val (.int (1 : Int32)), .unset, .unset] [(.ref t153)]))
          refine own_back (fun t_ q_ => XS.aload X53.here hx rfl (hb hby at_220) rfl rfl q_) ?_
          show own_Gl _ _ _ _ (T53.setTop (mkF m 222 #[.val (.int sz), .val (.int mo), .val (.int cn), .val (.int bn), .val (.int (Int32.ofNat mN)), .val (.int (Int32.ofNat n)), .val (.ref b44), .val (.ref b46), .val (.ref b47), .val (.ref b48), .val (.int k1053), .val (.ref t153), .val (.ref t253), .val (.ref t353), .val (.ref t453), .val (.int (1 : Int32)), .unset, .unset] [(.ref t453), (.ref t153)]))
          refine own_back (fun t_ q_ => Jvm.RoadKit.acmp (g := (mkF m 222 #[.val (.int sz), .val (.int mo), .val (.int cn), .val (.int bn), .val (.int (Int32.ofNat mN)), .val (.int (Int32.ofNat n)), .val (.ref b44), .val (.ref b46), .val (.ref b47), .val (.ref b48), .val (.int k1053), .val (.ref t153), .val (.ref t253), .val (.ref t353), .val (.ref t453), .val (.int (1 : Int32)), .unset, .unset] [(.ref t453), (.ref t153)])) X53 hx rfl rfl rfl (pc0 := 222) (pc' := 225) (same := false) rfl (hb hby at_222) rfl (decide_eq_false fun q => (e14) (Value.ref.inj q)) (by decide) (by decide) q_) ?_
          show own_Gl _ _ _ _ (T53.setTop (mkF m 225 #[.val (.int sz), .val (.int mo), .val (.int cn), .val (.int bn), .val (.int (Int32.ofNat mN)), .val (.int (Int32.ofNat n)), .val (.ref b44), .val (.ref b46), .val (.ref b47), .val (.ref b48), .val (.int k1053), .val (.ref t153), .val (.ref t253), .val (.ref t353), .val (.ref t453), .val (.int (1 : Int32)), .unset, .unset] []))
          refine own_back (fun t_ q_ => XS.aload X53.here hx rfl (hb hby at_225) rfl rfl q_) ?_
          show own_Gl _ _ _ _ (T53.setTop (mkF m 227 #[.val (.int sz), .val (.int mo), .val (.int cn), .val (.int bn), .val (.int (Int32.ofNat mN)), .val (.int (Int32.ofNat n)), .val (.ref b44), .val (.ref b46), .val (.ref b47), .val (.ref b48), .val (.int k1053), .val (.ref t153), .val (.ref t253), .val (.ref t353), .val (.ref t453), .val (.int (1 : Int32)), .unset, .unset] [(.ref t253)]))
          refine own_back (fun t_ q_ => XS.aload X53.here hx rfl (hb hby at_227) rfl rfl q_) ?_
          show own_Gl _ _ _ _ (T53.setTop (mkF m 229 #[.val (.int sz), .val (.int mo), .val (.int cn), .val (.int bn), .val (.int (Int32.ofNat mN)), .val (.int (Int32.ofNat n)), .val (.ref b44), .val (.ref b46), .val (.ref b47), .val (.ref b48), .val (.int k1053), .val (.ref t153), .val (.ref t253), .val (.ref t353), .val (.ref t453), .val (.int (1 : Int32)), .unset, .unset] [(.ref t353), (.ref t253)]))
          refine own_back (fun t_ q_ => Jvm.RoadKit.acmp (g := (mkF m 229 #[.val (.int sz), .val (.int mo), .val (.int cn), .val (.int bn), .val (.int (Int32.ofNat mN)), .val (.int (Int32.ofNat n)), .val (.ref b44), .val (.ref b46), .val (.ref b47), .val (.ref b48), .val (.int k1053), .val (.ref t153), .val (.ref t253), .val (.ref t353), .val (.ref t453), .val (.int (1 : Int32)), .unset, .unset] [(.ref t353), (.ref t253)])) X53 hx rfl rfl rfl (pc0 := 229) (pc' := 232) (same := false) rfl (hb hby at_229) rfl (decide_eq_false fun q => (e23) (Value.ref.inj q)) (by decide) (by decide) q_) ?_
          show own_Gl _ _ _ _ (T53.setTop (mkF m 232 #[.val (.int sz), .val (.int mo), .val (.int cn), .val (.int bn), .val (.int (Int32.ofNat mN)), .val (.int (Int32.ofNat n)), .val (.ref b44), .val (.ref b46), .val (.ref b47), .val (.ref b48), .val (.int k1053), .val (.ref t153), .val (.ref t253), .val (.ref t353), .val (.ref t453), .val (.int (1 : Int32)), .unset, .unset] []))
          refine own_back (fun t_ q_ => XS.aload X53.here hx rfl (hb hby at_232) rfl rfl q_) ?_
          show own_Gl _ _ _ _ (T53.setTop (mkF m 234 #[.val (.int sz), .val (.int mo), .val (.int cn), .val (.int bn), .val (.int (Int32.ofNat mN)), .val (.int (Int32.ofNat n)), .val (.ref b44), .val (.ref b46), .val (.ref b47), .val (.ref b48), .val (.int k1053), .val (.ref t153), .val (.ref t253), .val (.ref t353), .val (.ref t453), .val (.int (1 : Int32)), .unset, .unset] [(.ref t253)]))
          refine own_back (fun t_ q_ => XS.aload X53.here hx rfl (hb hby at_234) rfl rfl q_) ?_
          show own_Gl _ _ _ _ (T53.setTop (mkF m 236 #[.val (.int sz), .val (.int mo), .val (.int cn), .val (.int bn), .val (.int (Int32.ofNat mN)), .val (.int (Int32.ofNat n)), .val (.ref b44), .val (.ref b46), .val (.ref b47), .val (.ref b48), .val (.int k1053), .val (.ref t153), .val (.ref t253), .val (.ref t353), .val (.ref t453), .val (.int (1 : Int32)), .unset, .unset] [(.ref t453), (.ref t253)]))
          refine own_back (fun t_ q_ => Jvm.RoadKit.acmp (g := (mkF m 236 #[.val (.int sz), .val (.int mo), .val (.int cn), .val (.int bn), .val (.int (Int32.ofNat mN)), .val (.int (Int32.ofNat n)), .val (.ref b44), .val (.ref b46), .val (.ref b47), .val (.ref b48), .val (.int k1053), .val (.ref t153), .val (.ref t253), .val (.ref t353), .val (.ref t453), .val (.int (1 : Int32)), .unset, .unset] [(.ref t453), (.ref t253)])) X53 hx rfl rfl rfl (pc0 := 236) (pc' := 239) (same := false) rfl (hb hby at_236) rfl (decide_eq_false fun q => (e24) (Value.ref.inj q)) (by decide) (by decide) q_) ?_
          show own_Gl _ _ _ _ (T53.setTop (mkF m 239 #[.val (.int sz), .val (.int mo), .val (.int cn), .val (.int bn), .val (.int (Int32.ofNat mN)), .val (.int (Int32.ofNat n)), .val (.ref b44), .val (.ref b46), .val (.ref b47), .val (.ref b48), .val (.int k1053), .val (.ref t153), .val (.ref t253), .val (.ref t353), .val (.ref t453), .val (.int (1 : Int32)), .unset, .unset] []))
          refine own_back (fun t_ q_ => XS.aload X53.here hx rfl (hb hby at_239) rfl rfl q_) ?_
          show own_Gl _ _ _ _ (T53.setTop (mkF m 241 #[.val (.int sz), .val (.int mo), .val (.int cn), .val (.int bn), .val (.int (Int32.ofNat mN)), .val (.int (Int32.ofNat n)), .val (.ref b44), .val (.ref b46), .val (.ref b47), .val (.ref b48), .val (.int k1053), .val (.ref t153), .val (.ref t253), .val (.ref t353), .val (.ref t453), .val (.int (1 : Int32)), .unset, .unset] [(.ref t353)]))
          refine own_back (fun t_ q_ => XS.aload X53.here hx rfl (hb hby at_241) rfl rfl q_) ?_
          show own_Gl _ _ _ _ (T53.setTop (mkF m 243 #[.val (.int sz), .val (.int mo), .val (.int cn), .val (.int bn), .val (.int (Int32.ofNat mN)), .val (.int (Int32.ofNat n)), .val (.ref b44), .val (.ref b46), .val (.ref b47), .val (.ref b48), .val (.int k1053), .val (.ref t153), .val (.ref t253), .val (.ref t353), .val (.ref t453), .val (.int (1 : Int32)), .unset, .unset] [(.ref t453), (.ref t353)]))
          refine own_back (fun t_ q_ => Jvm.RoadKit.acmp (g := (mkF m 243 #[.val (.int sz), .val (.int mo), .val (.int cn), .val (.int bn), .val (.int (Int32.ofNat mN)), .val (.int (Int32.ofNat n)), .val (.ref b44), .val (.ref b46), .val (.ref b47), .val (.ref b48), .val (.int k1053), .val (.ref t153), .val (.ref t253), .val (.ref t353), .val (.ref t453), .val (.int (1 : Int32)), .unset, .unset] [(.ref t453), (.ref t353)])) X53 hx rfl rfl rfl (pc0 := 243) (pc' := 246) (same := false) rfl (hb hby at_243) rfl (decide_eq_false fun q => (e34) (Value.ref.inj q)) (by decide) (by decide) q_) ?_
          show own_Gl _ _ _ _ (T53.setTop (mkF m 246 #[.val (.int sz), .val (.int mo), .val (.int cn), .val (.int bn), .val (.int (Int32.ofNat mN)), .val (.int (Int32.ofNat n)), .val (.ref b44), .val (.ref b46), .val (.ref b47), .val (.ref b48), .val (.int k1053), .val (.ref t153), .val (.ref t253), .val (.ref t353), .val (.ref t453), .val (.int (1 : Int32)), .unset, .unset] []))
          refine own_back (fun t_ q_ => XS.iconst X53.here hx rfl (hb hby at_246) q_) ?_
          show own_Gl _ _ _ _ (T53.setTop (mkF m 247 #[.val (.int sz), .val (.int mo), .val (.int cn), .val (.int bn), .val (.int (Int32.ofNat mN)), .val (.int (Int32.ofNat n)), .val (.ref b44), .val (.ref b46), .val (.ref b47), .val (.ref b48), .val (.int k1053), .val (.ref t153), .val (.ref t253), .val (.ref t353), .val (.ref t453), .val (.int (1 : Int32)), .unset, .unset] [(.int (1 : Int32))]))
          refine own_back (fun t_ q_ => XS.goto X53.here hx rfl (pc0 := 247) (pc' := 251) rfl (hb hby at_247) (by decide) (by decide) q_) ?_
          show own_Gl _ _ _ _ (T53.setTop (mkF m 251 #[.val (.int sz), .val (.int mo), .val (.int cn), .val (.int bn), .val (.int (Int32.ofNat mN)), .val (.int (Int32.ofNat n)), .val (.ref b44), .val (.ref b46), .val (.ref b47), .val (.ref b48), .val (.int k1053), .val (.ref t153), .val (.ref t253), .val (.ref t353), .val (.ref t453), .val (.int (1 : Int32)), .unset, .unset] [(.int (1 : Int32))]))
          refine own_back (fun t_ q_ => XS.istore X53.here hx rfl (hb hby at_251) rfl (l' := #[.val (.int sz), .val (.int mo), .val (.int cn), .val (.int bn), .val (.int (Int32.ofNat mN)), .val (.int (Int32.ofNat n)), .val (.ref b44), .val (.ref b46), .val (.ref b47), .val (.ref b48), .val (.int k1053), .val (.ref t153), .val (.ref t253), .val (.ref t353), .val (.ref t453), .val (.int (1 : Int32)), .val (.int (1 : Int32)), .unset]) rfl q_) ?_
          show own_Gl _ _ _ _ (T53.setTop (mkF m 253 #[.val (.int sz), .val (.int mo), .val (.int cn), .val (.int bn), .val (.int (Int32.ofNat mN)), .val (.int (Int32.ofNat n)), .val (.ref b44), .val (.ref b46), .val (.ref b47), .val (.ref b48), .val (.int k1053), .val (.ref t153), .val (.ref t253), .val (.ref t353), .val (.ref t453), .val (.int (1 : Int32)), .val (.int (1 : Int32)), .unset] []))
          refine own_back (fun t_ q_ => XS.iload X53.here hx rfl (hb hby at_253) rfl q_) ?_
          show own_Gl _ _ _ _ (T53.setTop (mkF m 255 #[.val (.int sz), .val (.int mo), .val (.int cn), .val (.int bn), .val (.int (Int32.ofNat mN)), .val (.int (Int32.ofNat n)), .val (.ref b44), .val (.ref b46), .val (.ref b47), .val (.ref b48), .val (.int k1053), .val (.ref t153), .val (.ref t253), .val (.ref t353), .val (.ref t453), .val (.int (1 : Int32)), .val (.int (1 : Int32)), .unset] [(.int (1 : Int32))]))
          refine own_back (fun t_ q_ => XS.ifYes X53.here hx rfl (pc0 := 255) (pc' := 260) rfl (hb hby at_255) rfl ((if0 _ _).trans (feq (by decide : ¬ ((1 : Int32) = (0 : Int32)))).2) (by decide) (by decide) q_) ?_
          show own_Gl _ _ _ _ (T53.setTop (mkF m 260 #[.val (.int sz), .val (.int mo), .val (.int cn), .val (.int bn), .val (.int (Int32.ofNat mN)), .val (.int (Int32.ofNat n)), .val (.ref b44), .val (.ref b46), .val (.ref b47), .val (.ref b48), .val (.int k1053), .val (.ref t153), .val (.ref t253), .val (.ref t353), .val (.ref t453), .val (.int (1 : Int32)), .val (.int (1 : Int32)), .unset] []))
          refine own_back (fun t_ q_ => XS.aload X53.here hx rfl (hb hby at_260) rfl rfl q_) ?_
          show own_Gl _ _ _ _ (T53.setTop (mkF m 262 #[.val (.int sz), .val (.int mo), .val (.int cn), .val (.int bn), .val (.int (Int32.ofNat mN)), .val (.int (Int32.ofNat n)), .val (.ref b44), .val (.ref b46), .val (.ref b47), .val (.ref b48), .val (.int k1053), .val (.ref t153), .val (.ref t253), .val (.ref t353), .val (.ref t453), .val (.int (1 : Int32)), .val (.int (1 : Int32)), .unset] [(.ref b44)]))
          refine own_back (fun t_ q_ => XS.aload X53.here hx rfl (hb hby at_262) rfl rfl q_) ?_
          show own_Gl _ _ _ _ (T53.setTop (mkF m 264 #[.val (.int sz), .val (.int mo), .val (.int cn), .val (.int bn), .val (.int (Int32.ofNat mN)), .val (.int (Int32.ofNat n)), .val (.ref b44), .val (.ref b46), .val (.ref b47), .val (.ref b48), .val (.int k1053), .val (.ref t153), .val (.ref t253), .val (.ref t353), .val (.ref t453), .val (.int (1 : Int32)), .val (.int (1 : Int32)), .unset] [(.ref t453), (.ref b44)]))
          by_cases hm : 0 < mN
          · skip
            have hq : ([t453] : List Addr) = if (Int32.ofNat ([] : List Addr).length) < Int32.ofNat mN then [] ++ [t453] else [] := by
              show _ = if Int32.ofNat 0 < Int32.ofNat mN then [] ++ [t453] else []
              rw [if_pos ((own_ltn (i := 0) (by omega) (by omega)).mpr hm)] <;> rfl
            obtain ⟨cq54, kq54, q54a, q54b, q54c⟩ := isOf hZ e53 Wt.1
            obtain ⟨_, _, ⟨T54, L54, k54, n54⟩, -, X54, ⟨Lc54, hQ54, l54, y54, z54⟩, st54⟩ := X53.virtualBack hx (y := (⟨"com/example/thermopylae/thermopylae/http/BufferPool", "give", "([B)V"⟩ : MethodName)) (z := (⟨"com/example/thermopylae/thermopylae/http/BufferPool", "give", "([B)V"⟩ : MethodName)) hown (mvT hZ (hw _ (List.mem_of_getElem? (i := 33) rfl))) (mvT hZ (hw _ (List.mem_of_getElem? (i := 34) rfl))) (notFace_of_selects (args := #[]) (mvT hZ (hw _ (List.mem_of_getElem? (i := 36) rfl)))) (mvT hZ (hw _ (List.mem_of_getElem? (i := 36) rfl))) (mvT hZ (hw _ (List.mem_of_getElem? (i := 35) rfl))) (by decide) (backOf (W := 0) (rm5 l Z a0 hw [] b44 t453 h53 n0 Zt dq es k bn (Int32.ofNat mN) [] [t453] Wt Xt gd ge (fun _ => by decide) hq) hZ (hw _ (List.mem_of_getElem? (i := 37) rfl)) (hw _ (List.mem_of_getElem? (i := 2) rfl)) (by decide) (by decide)) q54a q54c (g := (mkF m 264 #[.val (.int sz), .val (.int mo), .val (.int cn), .val (.int bn), .val (.int (Int32.ofNat mN)), .val (.int (Int32.ofNat n)), .val (.ref b44), .val (.ref b46), .val (.ref b47), .val (.ref b48), .val (.int k1053), .val (.ref t153), .val (.ref t253), .val (.ref t353), .val (.ref t453), .val (.int (1 : Int32)), .val (.int (1 : Int32)), .unset] [(.ref t453), (.ref b44)])) rfl (by rw [hml]; rfl) (Steps.refl _) (argsL := [(.ref t453)]) (rest := []) (lenOf pd_8 rfl) rfl (by show 2 * 0 + _ ≤ _; exact Nat.le_of_eq rfl) (hb hby at_264) (fun _ _ => ⟨rfl, e53, (by decide : 10 + 0 ≤ _), (by decide : 281 + 0 ≤ _)⟩)
            dsimp only [Pt.U, Pt.locs, Pt.cells, Pt.slots] at X54 l54 y54 z54 st54 hQ54
            subst l54 y54 z54
            obtain ⟨rfl, M54, K54, W54⟩ := hQ54
            have N54 := Fr.app N53 M54
            refine own_trans st54 ?_
            show own_Gl _ _ _ _ (T54.setTop (mkF m 267 #[.val (.int sz), .val (.int mo), .val (.int cn), .val (.int bn), .val (.int (Int32.ofNat mN)), .val (.int (Int32.ofNat n)), .val (.ref b44), .val (.ref b46), .val (.ref b47), .val (.ref b48), .val (.int k1053), .val (.ref t153), .val (.ref t253), .val (.ref t353), .val (.ref t453), .val (.int (1 : Int32)), .val (.int (1 : Int32)), .unset] []))
            have Zu : n0 ≤ T54.heap.size := Nat.le_trans Zt K54.1
            have Xu := Xt.keep K54
            refine own_back (fun t_ q_ => XS.aload X54.here hx rfl (hb hby at_267) rfl rfl q_) ?_
            show own_Gl _ _ _ _ (T54.setTop (mkF m 269 #[.val (.int sz), .val (.int mo), .val (.int cn), .val (.int bn), .val (.int (Int32.ofNat mN)), .val (.int (Int32.ofNat n)), .val (.ref b44), .val (.ref b46), .val (.ref b47), .val (.ref b48), .val (.int k1053), .val (.ref t153), .val (.ref t253), .val (.ref t353), .val (.ref t453), .val (.int (1 : Int32)), .val (.int (1 : Int32)), .unset] [(.ref b44)]))
            obtain ⟨cq55, kq55, q55a, q55b, q55c⟩ := isOf hZ rfl W54.1
            obtain ⟨_, _, ⟨T55, L55, k55, n55⟩, -, X55, ⟨Lc55, hQ55, l55, y55, z55⟩, st55⟩ := X54.virtualBack hx (y := (⟨"com/example/thermopylae/thermopylae/http/BufferPool", "take", "()[B"⟩ : MethodName)) (z := (⟨"com/example/thermopylae/thermopylae/http/BufferPool", "take", "()[B"⟩ : MethodName)) hown (mvT hZ (hw _ (List.mem_of_getElem? (i := 63) rfl))) (mvT hZ (hw _ (List.mem_of_getElem? (i := 64) rfl))) (notFace_of_selects (args := #[]) (mvT hZ (hw _ (List.mem_of_getElem? (i := 66) rfl)))) (mvT hZ (hw _ (List.mem_of_getElem? (i := 66) rfl))) (mvT hZ (hw _ (List.mem_of_getElem? (i := 65) rfl))) (by decide) (backOf (W := 0) (rm11s l Z a0 hw [] b44 T54.heap n0 Zu dq es t453 k bn (Int32.ofNat mN) [] W54 gd ge) hZ (hw _ (List.mem_of_getElem? (i := 67) rfl)) (hw _ (List.mem_of_getElem? (i := 2) rfl)) (by decide) (by decide)) q55a q55c (g := (mkF m 269 #[.val (.int sz), .val (.int mo), .val (.int cn), .val (.int bn), .val (.int (Int32.ofNat mN)), .val (.int (Int32.ofNat n)), .val (.ref b44), .val (.ref b46), .val (.ref b47), .val (.ref b48), .val (.int k1053), .val (.ref t153), .val (.ref t253), .val (.ref t353), .val (.ref t453), .val (.int (1 : Int32)), .val (.int (1 : Int32)), .unset] [(.ref b44)])) rfl (by rw [hml]; rfl) (Steps.refl _) (argsL := []) (rest := []) (lenOf pd_9 rfl) rfl (by show 2 * 0 + _ ≤ _; exact Nat.le_of_eq rfl) (hb hby at_269) (fun _ _ => ⟨rfl, rfl, (by decide : 10 + 1 ≤ _), (by decide : 281 + 63 ≤ _)⟩)
            dsimp only [Pt.U, Pt.locs, Pt.cells, Pt.slots] at X55 l55 y55 z55 st55 hQ55
            subst l55 y55 z55
            obtain ⟨rfl, M55, K55, V55⟩ := hQ55
            have N55 := Fr.app N54 M55
            refine own_trans st55 ?_
            show own_Gl _ _ _ _ (T55.setTop (mkF m 272 #[.val (.int sz), .val (.int mo), .val (.int cn), .val (.int bn), .val (.int (Int32.ofNat mN)), .val (.int (Int32.ofNat n)), .val (.ref b44), .val (.ref b46), .val (.ref b47), .val (.ref b48), .val (.int k1053), .val (.ref t153), .val (.ref t253), .val (.ref t353), .val (.ref t453), .val (.int (1 : Int32)), .val (.int (1 : Int32)), .unset] [(.ref t453)]))
            refine own_back (fun t_ q_ => XS.astore X55.here hx rfl (hb hby at_272) rfl rfl (l' := #[.val (.int sz), .val (.int mo), .val (.int cn), .val (.int bn), .val (.int (Int32.ofNat mN)), .val (.int (Int32.ofNat n)), .val (.ref b44), .val (.ref b46), .val (.ref b47), .val (.ref b48), .val (.int k1053), .val (.ref t153), .val (.ref t253), .val (.ref t353), .val (.ref t453), .val (.int (1 : Int32)), .val (.int (1 : Int32)), .val (.ref t453)]) rfl q_) ?_
            show own_Gl _ _ _ _ (T55.setTop (mkF m 274 #[.val (.int sz), .val (.int mo), .val (.int cn), .val (.int bn), .val (.int (Int32.ofNat mN)), .val (.int (Int32.ofNat n)), .val (.ref b44), .val (.ref b46), .val (.ref b47), .val (.ref b48), .val (.int k1053), .val (.ref t153), .val (.ref t253), .val (.ref t353), .val (.ref t453), .val (.int (1 : Int32)), .val (.int (1 : Int32)), .val (.ref t453)] []))
            refine own_back (fun t_ q_ => XS.aload X55.here hx rfl (hb hby at_274) rfl rfl q_) ?_
            show own_Gl _ _ _ _ (T55.setTop (mkF m 276 #[.val (.int sz), .val (.int mo), .val (.int cn), .val (.int bn), .val (.int (Int32.ofNat mN)), .val (.int (Int32.ofNat n)), .val (.ref b44), .val (.ref b46), .val (.ref b47), .val (.ref b48), .val (.int k1053), .val (.ref t153), .val (.ref t253), .val (.ref t353), .val (.ref t453), .val (.int (1 : Int32)), .val (.int (1 : Int32)), .val (.ref t453)] [(.ref t453)]))
            refine own_back (fun t_ q_ => XS.ifnonnullYes X55.here hx rfl (pc0 := 276) (pc' := 281) rfl (hb hby at_276) rfl (by decide) (by decide) q_) ?_
            show own_Gl _ _ _ _ (T55.setTop (mkF m 281 #[.val (.int sz), .val (.int mo), .val (.int cn), .val (.int bn), .val (.int (Int32.ofNat mN)), .val (.int (Int32.ofNat n)), .val (.ref b44), .val (.ref b46), .val (.ref b47), .val (.ref b48), .val (.int k1053), .val (.ref t153), .val (.ref t253), .val (.ref t353), .val (.ref t453), .val (.int (1 : Int32)), .val (.int (1 : Int32)), .val (.ref t453)] []))
            refine own_back (fun t_ q_ => XS.iload X55.here hx rfl (hb hby at_281) rfl q_) ?_
            show own_Gl _ _ _ _ (T55.setTop (mkF m 283 #[.val (.int sz), .val (.int mo), .val (.int cn), .val (.int bn), .val (.int (Int32.ofNat mN)), .val (.int (Int32.ofNat n)), .val (.ref b44), .val (.ref b46), .val (.ref b47), .val (.ref b48), .val (.int k1053), .val (.ref t153), .val (.ref t253), .val (.ref t353), .val (.ref t453), .val (.int (1 : Int32)), .val (.int (1 : Int32)), .val (.ref t453)] [(.int (Int32.ofNat mN))]))
            refine own_back (fun t_ q_ => XS.iconst X55.here hx rfl (hb hby at_283) q_) ?_
            show own_Gl _ _ _ _ (T55.setTop (mkF m 284 #[.val (.int sz), .val (.int mo), .val (.int cn), .val (.int bn), .val (.int (Int32.ofNat mN)), .val (.int (Int32.ofNat n)), .val (.ref b44), .val (.ref b46), .val (.ref b47), .val (.ref b48), .val (.int k1053), .val (.ref t153), .val (.ref t253), .val (.ref t353), .val (.ref t453), .val (.int (1 : Int32)), .val (.int (1 : Int32)), .val (.ref t453)] [(.int (1 : Int32)), (.int (Int32.ofNat mN))]))
            refine own_back (fun t_ q_ => XS.icmpNo X55.here hx rfl (hb hby at_284) rfl (flt (fun w => by have := (own_ltn (i := mN) (j := 1) (by omega) (by omega)).mp w; omega : ¬ ((Int32.ofNat mN) < (1 : Int32)))).1 q_) ?_
            show own_Gl _ _ _ _ (T55.setTop (mkF m 287 #[.val (.int sz), .val (.int mo), .val (.int cn), .val (.int bn), .val (.int (Int32.ofNat mN)), .val (.int (Int32.ofNat n)), .val (.ref b44), .val (.ref b46), .val (.ref b47), .val (.ref b48), .val (.int k1053), .val (.ref t153), .val (.ref t253), .val (.ref t353), .val (.ref t453), .val (.int (1 : Int32)), .val (.int (1 : Int32)), .val (.ref t453)] []))
            refine own_back (fun t_ q_ => XS.aload X55.here hx rfl (hb hby at_287) rfl rfl q_) ?_
            show own_Gl _ _ _ _ (T55.setTop (mkF m 289 #[.val (.int sz), .val (.int mo), .val (.int cn), .val (.int bn), .val (.int (Int32.ofNat mN)), .val (.int (Int32.ofNat n)), .val (.ref b44), .val (.ref b46), .val (.ref b47), .val (.ref b48), .val (.int k1053), .val (.ref t153), .val (.ref t253), .val (.ref t353), .val (.ref t453), .val (.int (1 : Int32)), .val (.int (1 : Int32)), .val (.ref t453)] [(.ref t453)]))
            refine own_back (fun t_ q_ => XS.aload X55.here hx rfl (hb hby at_289) rfl rfl q_) ?_
            show own_Gl _ _ _ _ (T55.setTop (mkF m 291 #[.val (.int sz), .val (.int mo), .val (.int cn), .val (.int bn), .val (.int (Int32.ofNat mN)), .val (.int (Int32.ofNat n)), .val (.ref b44), .val (.ref b46), .val (.ref b47), .val (.ref b48), .val (.int k1053), .val (.ref t153), .val (.ref t253), .val (.ref t353), .val (.ref t453), .val (.int (1 : Int32)), .val (.int (1 : Int32)), .val (.ref t453)] [(.ref t453), (.ref t453)]))
            refine own_back (fun t_ q_ => Jvm.RoadKit.acmp (g := (mkF m 291 #[.val (.int sz), .val (.int mo), .val (.int cn), .val (.int bn), .val (.int (Int32.ofNat mN)), .val (.int (Int32.ofNat n)), .val (.ref b44), .val (.ref b46), .val (.ref b47), .val (.ref b48), .val (.int k1053), .val (.ref t153), .val (.ref t253), .val (.ref t353), .val (.ref t453), .val (.int (1 : Int32)), .val (.int (1 : Int32)), .val (.ref t453)] [(.ref t453), (.ref t453)])) X55 hx rfl rfl rfl (pc0 := 291) (pc' := 294) (same := true) rfl (hb hby at_291) rfl (decide_eq_true (congrArg Value.ref (rfl))) (by decide) (by decide) q_) ?_
            show own_Gl _ _ _ _ (T55.setTop (mkF m 294 #[.val (.int sz), .val (.int mo), .val (.int cn), .val (.int bn), .val (.int (Int32.ofNat mN)), .val (.int (Int32.ofNat n)), .val (.ref b44), .val (.ref b46), .val (.ref b47), .val (.ref b48), .val (.int k1053), .val (.ref t153), .val (.ref t253), .val (.ref t353), .val (.ref t453), .val (.int (1 : Int32)), .val (.int (1 : Int32)), .val (.ref t453)] []))
            refine own_back (fun t_ q_ => XS.iconst X55.here hx rfl (hb hby at_294) q_) ?_
            show own_Gl _ _ _ _ (T55.setTop (mkF m 295 #[.val (.int sz), .val (.int mo), .val (.int cn), .val (.int bn), .val (.int (Int32.ofNat mN)), .val (.int (Int32.ofNat n)), .val (.ref b44), .val (.ref b46), .val (.ref b47), .val (.ref b48), .val (.int k1053), .val (.ref t153), .val (.ref t253), .val (.ref t353), .val (.ref t453), .val (.int (1 : Int32)), .val (.int (1 : Int32)), .val (.ref t453)] [(.int (1 : Int32))]))
            refine own_back (fun t_ q_ => XS.goto X55.here hx rfl (pc0 := 295) (pc' := 299) rfl (hb hby at_295) (by decide) (by decide) q_) ?_
            show own_Gl _ _ _ _ (T55.setTop (mkF m 299 #[.val (.int sz), .val (.int mo), .val (.int cn), .val (.int bn), .val (.int (Int32.ofNat mN)), .val (.int (Int32.ofNat n)), .val (.ref b44), .val (.ref b46), .val (.ref b47), .val (.ref b48), .val (.int k1053), .val (.ref t153), .val (.ref t253), .val (.ref t353), .val (.ref t453), .val (.int (1 : Int32)), .val (.int (1 : Int32)), .val (.ref t453)] [(.int (1 : Int32))]))
            exact own_rZ X55 hx hlk Bd.returns (hb hby at_299) (own_one rfl) (by show Qrm0 h0 n0 _ T55.heap _; exact ⟨rfl, N55⟩) (by decide) (by decide)
          · skip
            have hq : ([] : List Addr) = if (Int32.ofNat ([] : List Addr).length) < Int32.ofNat mN then [] ++ [t453] else [] := by
              show _ = if Int32.ofNat 0 < Int32.ofNat mN then [] ++ [t453] else []
              rw [if_neg (fun w => hm ((own_ltn (i := 0) (by omega) (by omega)).mp w))] <;> rfl
            obtain ⟨cq56, kq56, q56a, q56b, q56c⟩ := isOf hZ e53 Wt.1
            obtain ⟨_, _, ⟨T56, L56, k56, n56⟩, -, X56, ⟨Lc56, hQ56, l56, y56, z56⟩, st56⟩ := X53.virtualBack hx (y := (⟨"com/example/thermopylae/thermopylae/http/BufferPool", "give", "([B)V"⟩ : MethodName)) (z := (⟨"com/example/thermopylae/thermopylae/http/BufferPool", "give", "([B)V"⟩ : MethodName)) hown (mvT hZ (hw _ (List.mem_of_getElem? (i := 33) rfl))) (mvT hZ (hw _ (List.mem_of_getElem? (i := 34) rfl))) (notFace_of_selects (args := #[]) (mvT hZ (hw _ (List.mem_of_getElem? (i := 36) rfl)))) (mvT hZ (hw _ (List.mem_of_getElem? (i := 36) rfl))) (mvT hZ (hw _ (List.mem_of_getElem? (i := 35) rfl))) (by decide) (backOf (W := 0) (rm5 l Z a0 hw [] b44 t453 h53 n0 Zt dq es k bn (Int32.ofNat mN) [] [] Wt Xt gd ge (fun _ => by decide) hq) hZ (hw _ (List.mem_of_getElem? (i := 37) rfl)) (hw _ (List.mem_of_getElem? (i := 2) rfl)) (by decide) (by decide)) q56a q56c (g := (mkF m 264 #[.val (.int sz), .val (.int mo), .val (.int cn), .val (.int bn), .val (.int (Int32.ofNat mN)), .val (.int (Int32.ofNat n)), .val (.ref b44), .val (.ref b46), .val (.ref b47), .val (.ref b48), .val (.int k1053), .val (.ref t153), .val (.ref t253), .val (.ref t353), .val (.ref t453), .val (.int (1 : Int32)), .val (.int (1 : Int32)), .unset] [(.ref t453), (.ref b44)])) rfl (by rw [hml]; rfl) (Steps.refl _) (argsL := [(.ref t453)]) (rest := []) (lenOf pd_8 rfl) rfl (by show 2 * 0 + _ ≤ _; exact Nat.le_of_eq rfl) (hb hby at_264) (fun _ _ => ⟨rfl, e53, (by decide : 10 + 0 ≤ _), (by decide : 281 + 0 ≤ _)⟩)
            dsimp only [Pt.U, Pt.locs, Pt.cells, Pt.slots] at X56 l56 y56 z56 st56 hQ56
            subst l56 y56 z56
            obtain ⟨rfl, M56, K56, W56⟩ := hQ56
            have N56 := Fr.app N53 M56
            refine own_trans st56 ?_
            show own_Gl _ _ _ _ (T56.setTop (mkF m 267 #[.val (.int sz), .val (.int mo), .val (.int cn), .val (.int bn), .val (.int (Int32.ofNat mN)), .val (.int (Int32.ofNat n)), .val (.ref b44), .val (.ref b46), .val (.ref b47), .val (.ref b48), .val (.int k1053), .val (.ref t153), .val (.ref t253), .val (.ref t353), .val (.ref t453), .val (.int (1 : Int32)), .val (.int (1 : Int32)), .unset] []))
            have Zu : n0 ≤ T56.heap.size := Nat.le_trans Zt K56.1
            have Xu := Xt.keep K56
            refine own_back (fun t_ q_ => XS.aload X56.here hx rfl (hb hby at_267) rfl rfl q_) ?_
            show own_Gl _ _ _ _ (T56.setTop (mkF m 269 #[.val (.int sz), .val (.int mo), .val (.int cn), .val (.int bn), .val (.int (Int32.ofNat mN)), .val (.int (Int32.ofNat n)), .val (.ref b44), .val (.ref b46), .val (.ref b47), .val (.ref b48), .val (.int k1053), .val (.ref t153), .val (.ref t253), .val (.ref t353), .val (.ref t453), .val (.int (1 : Int32)), .val (.int (1 : Int32)), .unset] [(.ref b44)]))
            obtain ⟨cq57, kq57, q57a, q57b, q57c⟩ := isOf hZ rfl W56.1
            obtain ⟨_, _, ⟨T57, L57, k57, n57⟩, -, X57, ⟨Lc57, hQ57, l57, y57, z57⟩, st57⟩ := X56.virtualBack hx (y := (⟨"com/example/thermopylae/thermopylae/http/BufferPool", "take", "()[B"⟩ : MethodName)) (z := (⟨"com/example/thermopylae/thermopylae/http/BufferPool", "take", "()[B"⟩ : MethodName)) hown (mvT hZ (hw _ (List.mem_of_getElem? (i := 63) rfl))) (mvT hZ (hw _ (List.mem_of_getElem? (i := 64) rfl))) (notFace_of_selects (args := #[]) (mvT hZ (hw _ (List.mem_of_getElem? (i := 66) rfl)))) (mvT hZ (hw _ (List.mem_of_getElem? (i := 66) rfl))) (mvT hZ (hw _ (List.mem_of_getElem? (i := 65) rfl))) (by decide) (backOf (W := 0) (rm11 l Z a0 hw [] b44 T56.heap n0 Zu dq es k bn (Int32.ofNat mN) W56 bn1 bn2) hZ (hw _ (List.mem_of_getElem? (i := 67) rfl)) (hw _ (List.mem_of_getElem? (i := 2) rfl)) (by decide) (by decide)) q57a q57c (g := (mkF m 269 #[.val (.int sz), .val (.int mo), .val (.int cn), .val (.int bn), .val (.int (Int32.ofNat mN)), .val (.int (Int32.ofNat n)), .val (.ref b44), .val (.ref b46), .val (.ref b47), .val (.ref b48), .val (.int k1053), .val (.ref t153), .val (.ref t253), .val (.ref t353), .val (.ref t453), .val (.int (1 : Int32)), .val (.int (1 : Int32)), .unset] [(.ref b44)])) rfl (by rw [hml]; rfl) (Steps.refl _) (argsL := []) (rest := []) (lenOf pd_9 rfl) rfl (by show 2 * 0 + _ ≤ _; exact Nat.le_of_eq rfl) (hb hby at_269) (fun _ _ => ⟨rfl, rfl, (by decide : 10 + 1 ≤ _), (by decide : 281 + 63 ≤ _)⟩)
            dsimp only [Pt.U, Pt.locs, Pt.cells, Pt.slots] at X57 l57 y57 z57 st57 hQ57
            subst l57 y57 z57
            obtain ⟨r57, rfl, M57, K57, G57, B57, V57, cl57, A57, l57'⟩ := hQ57
            have N57 := Fr.app N56 M57
            refine own_trans st57 ?_
            show own_Gl _ _ _ _ (T57.setTop (mkF m 272 #[.val (.int sz), .val (.int mo), .val (.int cn), .val (.int bn), .val (.int (Int32.ofNat mN)), .val (.int (Int32.ofNat n)), .val (.ref b44), .val (.ref b46), .val (.ref b47), .val (.ref b48), .val (.int k1053), .val (.ref t153), .val (.ref t253), .val (.ref t353), .val (.ref t453), .val (.int (1 : Int32)), .val (.int (1 : Int32)), .unset] [(.ref r57)]))
            refine own_back (fun t_ q_ => XS.astore X57.here hx rfl (hb hby at_272) rfl rfl (l' := #[.val (.int sz), .val (.int mo), .val (.int cn), .val (.int bn), .val (.int (Int32.ofNat mN)), .val (.int (Int32.ofNat n)), .val (.ref b44), .val (.ref b46), .val (.ref b47), .val (.ref b48), .val (.int k1053), .val (.ref t153), .val (.ref t253), .val (.ref t353), .val (.ref t453), .val (.int (1 : Int32)), .val (.int (1 : Int32)), .val (.ref r57)]) rfl q_) ?_
            show own_Gl _ _ _ _ (T57.setTop (mkF m 274 #[.val (.int sz), .val (.int mo), .val (.int cn), .val (.int bn), .val (.int (Int32.ofNat mN)), .val (.int (Int32.ofNat n)), .val (.ref b44), .val (.ref b46), .val (.ref b47), .val (.ref b48), .val (.int k1053), .val (.ref t153), .val (.ref t253), .val (.ref t353), .val (.ref t453), .val (.int (1 : Int32)), .val (.int (1 : Int32)), .val (.ref r57)] []))
            refine own_back (fun t_ q_ => XS.aload X57.here hx rfl (hb hby at_274) rfl rfl q_) ?_
            show own_Gl _ _ _ _ (T57.setTop (mkF m 276 #[.val (.int sz), .val (.int mo), .val (.int cn), .val (.int bn), .val (.int (Int32.ofNat mN)), .val (.int (Int32.ofNat n)), .val (.ref b44), .val (.ref b46), .val (.ref b47), .val (.ref b48), .val (.int k1053), .val (.ref t153), .val (.ref t253), .val (.ref t353), .val (.ref t453), .val (.int (1 : Int32)), .val (.int (1 : Int32)), .val (.ref r57)] [(.ref r57)]))
            refine own_back (fun t_ q_ => XS.ifnonnullYes X57.here hx rfl (pc0 := 276) (pc' := 281) rfl (hb hby at_276) rfl (by decide) (by decide) q_) ?_
            show own_Gl _ _ _ _ (T57.setTop (mkF m 281 #[.val (.int sz), .val (.int mo), .val (.int cn), .val (.int bn), .val (.int (Int32.ofNat mN)), .val (.int (Int32.ofNat n)), .val (.ref b44), .val (.ref b46), .val (.ref b47), .val (.ref b48), .val (.int k1053), .val (.ref t153), .val (.ref t253), .val (.ref t353), .val (.ref t453), .val (.int (1 : Int32)), .val (.int (1 : Int32)), .val (.ref r57)] []))
            refine own_back (fun t_ q_ => XS.iload X57.here hx rfl (hb hby at_281) rfl q_) ?_
            show own_Gl _ _ _ _ (T57.setTop (mkF m 283 #[.val (.int sz), .val (.int mo), .val (.int cn), .val (.int bn), .val (.int (Int32.ofNat mN)), .val (.int (Int32.ofNat n)), .val (.ref b44), .val (.ref b46), .val (.ref b47), .val (.ref b48), .val (.int k1053), .val (.ref t153), .val (.ref t253), .val (.ref t353), .val (.ref t453), .val (.int (1 : Int32)), .val (.int (1 : Int32)), .val (.ref r57)] [(.int (Int32.ofNat mN))]))
            refine own_back (fun t_ q_ => XS.iconst X57.here hx rfl (hb hby at_283) q_) ?_
            show own_Gl _ _ _ _ (T57.setTop (mkF m 284 #[.val (.int sz), .val (.int mo), .val (.int cn), .val (.int bn), .val (.int (Int32.ofNat mN)), .val (.int (Int32.ofNat n)), .val (.ref b44), .val (.ref b46), .val (.ref b47), .val (.ref b48), .val (.int k1053), .val (.ref t153), .val (.ref t253), .val (.ref t353), .val (.ref t453), .val (.int (1 : Int32)), .val (.int (1 : Int32)), .val (.ref r57)] [(.int (1 : Int32)), (.int (Int32.ofNat mN))]))
            refine own_back (fun t_ q_ => XS.icmpYes X57.here hx rfl (pc0 := 284) (pc' := 300) rfl (hb hby at_284) rfl (tlt ((own_ltn (i := mN) (j := 1) (by omega) (by omega)).mpr (by omega) : (Int32.ofNat mN) < (1 : Int32))).1 (by decide) (by decide) q_) ?_
            show own_Gl _ _ _ _ (T57.setTop (mkF m 300 #[.val (.int sz), .val (.int mo), .val (.int cn), .val (.int bn), .val (.int (Int32.ofNat mN)), .val (.int (Int32.ofNat n)), .val (.ref b44), .val (.ref b46), .val (.ref b47), .val (.ref b48), .val (.int k1053), .val (.ref t153), .val (.ref t253), .val (.ref t353), .val (.ref t453), .val (.int (1 : Int32)), .val (.int (1 : Int32)), .val (.ref r57)] []))
            refine own_back (fun t_ q_ => XS.aload X57.here hx rfl (hb hby at_300) rfl rfl q_) ?_
            show own_Gl _ _ _ _ (T57.setTop (mkF m 302 #[.val (.int sz), .val (.int mo), .val (.int cn), .val (.int bn), .val (.int (Int32.ofNat mN)), .val (.int (Int32.ofNat n)), .val (.ref b44), .val (.ref b46), .val (.ref b47), .val (.ref b48), .val (.int k1053), .val (.ref t153), .val (.ref t253), .val (.ref t353), .val (.ref t453), .val (.int (1 : Int32)), .val (.int (1 : Int32)), .val (.ref r57)] [(.ref r57)]))
            refine own_back (fun t_ q_ => XS.aload X57.here hx rfl (hb hby at_302) rfl rfl q_) ?_
            show own_Gl _ _ _ _ (T57.setTop (mkF m 304 #[.val (.int sz), .val (.int mo), .val (.int cn), .val (.int bn), .val (.int (Int32.ofNat mN)), .val (.int (Int32.ofNat n)), .val (.ref b44), .val (.ref b46), .val (.ref b47), .val (.ref b48), .val (.int k1053), .val (.ref t153), .val (.ref t253), .val (.ref t353), .val (.ref t453), .val (.int (1 : Int32)), .val (.int (1 : Int32)), .val (.ref r57)] [(.ref t453), (.ref r57)]))
            refine own_back (fun t_ q_ => Jvm.RoadKit.acmp (g := (mkF m 304 #[.val (.int sz), .val (.int mo), .val (.int cn), .val (.int bn), .val (.int (Int32.ofNat mN)), .val (.int (Int32.ofNat n)), .val (.ref b44), .val (.ref b46), .val (.ref b47), .val (.ref b48), .val (.int k1053), .val (.ref t153), .val (.ref t253), .val (.ref t353), .val (.ref t453), .val (.int (1 : Int32)), .val (.int (1 : Int32)), .val (.ref r57)] [(.ref t453), (.ref r57)])) X57 hx rfl rfl rfl (pc0 := 304) (pc' := 307) (same := false) rfl (hb hby at_304) rfl (decide_eq_false fun q => (Nat.ne_of_gt (Nat.lt_of_lt_of_le l4 (Nat.le_trans K56.1 G57))) (Value.ref.inj q)) (by decide) (by decide) q_) ?_
            show own_Gl _ _ _ _ (T57.setTop (mkF m 307 #[.val (.int sz), .val (.int mo), .val (.int cn), .val (.int bn), .val (.int (Int32.ofNat mN)), .val (.int (Int32.ofNat n)), .val (.ref b44), .val (.ref b46), .val (.ref b47), .val (.ref b48), .val (.int k1053), .val (.ref t153), .val (.ref t253), .val (.ref t353), .val (.ref t453), .val (.int (1 : Int32)), .val (.int (1 : Int32)), .val (.ref r57)] []))
            refine own_back (fun t_ q_ => XS.aload X57.here hx rfl (hb hby at_307) rfl rfl q_) ?_
            show own_Gl _ _ _ _ (T57.setTop (mkF m 309 #[.val (.int sz), .val (.int mo), .val (.int cn), .val (.int bn), .val (.int (Int32.ofNat mN)), .val (.int (Int32.ofNat n)), .val (.ref b44), .val (.ref b46), .val (.ref b47), .val (.ref b48), .val (.int k1053), .val (.ref t153), .val (.ref t253), .val (.ref t353), .val (.ref t453), .val (.int (1 : Int32)), .val (.int (1 : Int32)), .val (.ref r57)] [(.ref r57)]))
            refine own_back (fun t_ q_ => XS.aload X57.here hx rfl (hb hby at_309) rfl rfl q_) ?_
            show own_Gl _ _ _ _ (T57.setTop (mkF m 311 #[.val (.int sz), .val (.int mo), .val (.int cn), .val (.int bn), .val (.int (Int32.ofNat mN)), .val (.int (Int32.ofNat n)), .val (.ref b44), .val (.ref b46), .val (.ref b47), .val (.ref b48), .val (.int k1053), .val (.ref t153), .val (.ref t253), .val (.ref t353), .val (.ref t453), .val (.int (1 : Int32)), .val (.int (1 : Int32)), .val (.ref r57)] [(.ref t153), (.ref r57)]))
            refine own_back (fun t_ q_ => Jvm.RoadKit.acmp (g := (mkF m 311 #[.val (.int sz), .val (.int mo), .val (.int cn), .val (.int bn), .val (.int (Int32.ofNat mN)), .val (.int (Int32.ofNat n)), .val (.ref b44), .val (.ref b46), .val (.ref b47), .val (.ref b48), .val (.int k1053), .val (.ref t153), .val (.ref t253), .val (.ref t353), .val (.ref t453), .val (.int (1 : Int32)), .val (.int (1 : Int32)), .val (.ref r57)] [(.ref t153), (.ref r57)])) X57 hx rfl rfl rfl (pc0 := 311) (pc' := 314) (same := false) rfl (hb hby at_311) rfl (decide_eq_false fun q => (Nat.ne_of_gt (Nat.lt_of_lt_of_le l1 (Nat.le_trans K56.1 G57))) (Value.ref.inj q)) (by decide) (by decide) q_) ?_
            show own_Gl _ _ _ _ (T57.setTop (mkF m 314 #[.val (.int sz), .val (.int mo), .val (.int cn), .val (.int bn), .val (.int (Int32.ofNat mN)), .val (.int (Int32.ofNat n)), .val (.ref b44), .val (.ref b46), .val (.ref b47), .val (.ref b48), .val (.int k1053), .val (.ref t153), .val (.ref t253), .val (.ref t353), .val (.ref t453), .val (.int (1 : Int32)), .val (.int (1 : Int32)), .val (.ref r57)] []))
            refine own_back (fun t_ q_ => XS.aload X57.here hx rfl (hb hby at_314) rfl rfl q_) ?_
            show own_Gl _ _ _ _ (T57.setTop (mkF m 316 #[.val (.int sz), .val (.int mo), .val (.int cn), .val (.int bn), .val (.int (Int32.ofNat mN)), .val (.int (Int32.ofNat n)), .val (.ref b44), .val (.ref b46), .val (.ref b47), .val (.ref b48), .val (.int k1053), .val (.ref t153), .val (.ref t253), .val (.ref t353), .val (.ref t453), .val (.int (1 : Int32)), .val (.int (1 : Int32)), .val (.ref r57)] [(.ref r57)]))
            refine own_back (fun t_ q_ => XS.aload X57.here hx rfl (hb hby at_316) rfl rfl q_) ?_
            show own_Gl _ _ _ _ (T57.setTop (mkF m 318 #[.val (.int sz), .val (.int mo), .val (.int cn), .val (.int bn), .val (.int (Int32.ofNat mN)), .val (.int (Int32.ofNat n)), .val (.ref b44), .val (.ref b46), .val (.ref b47), .val (.ref b48), .val (.int k1053), .val (.ref t153), .val (.ref t253), .val (.ref t353), .val (.ref t453), .val (.int (1 : Int32)), .val (.int (1 : Int32)), .val (.ref r57)] [(.ref t253), (.ref r57)]))
            refine own_back (fun t_ q_ => Jvm.RoadKit.acmp (g := (mkF m 318 #[.val (.int sz), .val (.int mo), .val (.int cn), .val (.int bn), .val (.int (Int32.ofNat mN)), .val (.int (Int32.ofNat n)), .val (.ref b44), .val (.ref b46), .val (.ref b47), .val (.ref b48), .val (.int k1053), .val (.ref t153), .val (.ref t253), .val (.ref t353), .val (.ref t453), .val (.int (1 : Int32)), .val (.int (1 : Int32)), .val (.ref r57)] [(.ref t253), (.ref r57)])) X57 hx rfl rfl rfl (pc0 := 318) (pc' := 321) (same := false) rfl (hb hby at_318) rfl (decide_eq_false fun q => (Nat.ne_of_gt (Nat.lt_of_lt_of_le l2 (Nat.le_trans K56.1 G57))) (Value.ref.inj q)) (by decide) (by decide) q_) ?_
            show own_Gl _ _ _ _ (T57.setTop (mkF m 321 #[.val (.int sz), .val (.int mo), .val (.int cn), .val (.int bn), .val (.int (Int32.ofNat mN)), .val (.int (Int32.ofNat n)), .val (.ref b44), .val (.ref b46), .val (.ref b47), .val (.ref b48), .val (.int k1053), .val (.ref t153), .val (.ref t253), .val (.ref t353), .val (.ref t453), .val (.int (1 : Int32)), .val (.int (1 : Int32)), .val (.ref r57)] []))
            refine own_back (fun t_ q_ => XS.aload X57.here hx rfl (hb hby at_321) rfl rfl q_) ?_
            show own_Gl _ _ _ _ (T57.setTop (mkF m 323 #[.val (.int sz), .val (.int mo), .val (.int cn), .val (.int bn), .val (.int (Int32.ofNat mN)), .val (.int (Int32.ofNat n)), .val (.ref b44), .val (.ref b46), .val (.ref b47), .val (.ref b48), .val (.int k1053), .val (.ref t153), .val (.ref t253), .val (.ref t353), .val (.ref t453), .val (.int (1 : Int32)), .val (.int (1 : Int32)), .val (.ref r57)] [(.ref r57)]))
            refine own_back (fun t_ q_ => XS.aload X57.here hx rfl (hb hby at_323) rfl rfl q_) ?_
            show own_Gl _ _ _ _ (T57.setTop (mkF m 325 #[.val (.int sz), .val (.int mo), .val (.int cn), .val (.int bn), .val (.int (Int32.ofNat mN)), .val (.int (Int32.ofNat n)), .val (.ref b44), .val (.ref b46), .val (.ref b47), .val (.ref b48), .val (.int k1053), .val (.ref t153), .val (.ref t253), .val (.ref t353), .val (.ref t453), .val (.int (1 : Int32)), .val (.int (1 : Int32)), .val (.ref r57)] [(.ref t353), (.ref r57)]))
            refine own_back (fun t_ q_ => Jvm.RoadKit.acmp (g := (mkF m 325 #[.val (.int sz), .val (.int mo), .val (.int cn), .val (.int bn), .val (.int (Int32.ofNat mN)), .val (.int (Int32.ofNat n)), .val (.ref b44), .val (.ref b46), .val (.ref b47), .val (.ref b48), .val (.int k1053), .val (.ref t153), .val (.ref t253), .val (.ref t353), .val (.ref t453), .val (.int (1 : Int32)), .val (.int (1 : Int32)), .val (.ref r57)] [(.ref t353), (.ref r57)])) X57 hx rfl rfl rfl (pc0 := 325) (pc' := 328) (same := false) rfl (hb hby at_325) rfl (decide_eq_false fun q => (Nat.ne_of_gt (Nat.lt_of_lt_of_le l3 (Nat.le_trans K56.1 G57))) (Value.ref.inj q)) (by decide) (by decide) q_) ?_
            show own_Gl _ _ _ _ (T57.setTop (mkF m 328 #[.val (.int sz), .val (.int mo), .val (.int cn), .val (.int bn), .val (.int (Int32.ofNat mN)), .val (.int (Int32.ofNat n)), .val (.ref b44), .val (.ref b46), .val (.ref b47), .val (.ref b48), .val (.int k1053), .val (.ref t153), .val (.ref t253), .val (.ref t353), .val (.ref t453), .val (.int (1 : Int32)), .val (.int (1 : Int32)), .val (.ref r57)] []))
            refine own_back (fun t_ q_ => XS.aload X57.here hx rfl (hb hby at_328) rfl rfl q_) ?_
            show own_Gl _ _ _ _ (T57.setTop (mkF m 330 #[.val (.int sz), .val (.int mo), .val (.int cn), .val (.int bn), .val (.int (Int32.ofNat mN)), .val (.int (Int32.ofNat n)), .val (.ref b44), .val (.ref b46), .val (.ref b47), .val (.ref b48), .val (.int k1053), .val (.ref t153), .val (.ref t253), .val (.ref t353), .val (.ref t453), .val (.int (1 : Int32)), .val (.int (1 : Int32)), .val (.ref r57)] [(.ref r57)]))
            refine own_back (fun t_ q_ => X57.arraylength hx A57.1 (State.isArrayOf_alike hZ.alike A57.2.1) (g := (mkF m 330 #[.val (.int sz), .val (.int mo), .val (.int cn), .val (.int bn), .val (.int (Int32.ofNat mN)), .val (.int (Int32.ofNat n)), .val (.ref b44), .val (.ref b46), .val (.ref b47), .val (.ref b48), .val (.int k1053), .val (.ref t153), .val (.ref t253), .val (.ref t353), .val (.ref t453), .val (.int (1 : Int32)), .val (.int (1 : Int32)), .val (.ref r57)] [(.ref r57)])) rfl rfl (hb hby at_330) t_ q_) ?_
            rw [l57']
            show own_Gl _ _ _ _ (T57.setTop (mkF m 331 #[.val (.int sz), .val (.int mo), .val (.int cn), .val (.int bn), .val (.int (Int32.ofNat mN)), .val (.int (Int32.ofNat n)), .val (.ref b44), .val (.ref b46), .val (.ref b47), .val (.ref b48), .val (.int k1053), .val (.ref t153), .val (.ref t253), .val (.ref t353), .val (.ref t453), .val (.int (1 : Int32)), .val (.int (1 : Int32)), .val (.ref r57)] [(.int bn)]))
            refine own_back (fun t_ q_ => XS.iloadN X57.here hx rfl (hb hby at_331) rfl q_) ?_
            show own_Gl _ _ _ _ (T57.setTop (mkF m 332 #[.val (.int sz), .val (.int mo), .val (.int cn), .val (.int bn), .val (.int (Int32.ofNat mN)), .val (.int (Int32.ofNat n)), .val (.ref b44), .val (.ref b46), .val (.ref b47), .val (.ref b48), .val (.int k1053), .val (.ref t153), .val (.ref t253), .val (.ref t353), .val (.ref t453), .val (.int (1 : Int32)), .val (.int (1 : Int32)), .val (.ref r57)] [(.int bn), (.int bn)]))
            refine own_back (fun t_ q_ => XS.icmpNo X57.here hx rfl (hb hby at_332) rfl (teq (rfl : bn = bn)).2 q_) ?_
            show own_Gl _ _ _ _ (T57.setTop (mkF m 335 #[.val (.int sz), .val (.int mo), .val (.int cn), .val (.int bn), .val (.int (Int32.ofNat mN)), .val (.int (Int32.ofNat n)), .val (.ref b44), .val (.ref b46), .val (.ref b47), .val (.ref b48), .val (.int k1053), .val (.ref t153), .val (.ref t253), .val (.ref t353), .val (.ref t453), .val (.int (1 : Int32)), .val (.int (1 : Int32)), .val (.ref r57)] []))
            refine own_back (fun t_ q_ => XS.iconst X57.here hx rfl (hb hby at_335) q_) ?_
            show own_Gl _ _ _ _ (T57.setTop (mkF m 336 #[.val (.int sz), .val (.int mo), .val (.int cn), .val (.int bn), .val (.int (Int32.ofNat mN)), .val (.int (Int32.ofNat n)), .val (.ref b44), .val (.ref b46), .val (.ref b47), .val (.ref b48), .val (.int k1053), .val (.ref t153), .val (.ref t253), .val (.ref t353), .val (.ref t453), .val (.int (1 : Int32)), .val (.int (1 : Int32)), .val (.ref r57)] [(.int (1 : Int32))]))
            refine own_back (fun t_ q_ => XS.goto X57.here hx rfl (pc0 := 336) (pc' := 340) rfl (hb hby at_336) (by decide) (by decide) q_) ?_
            show own_Gl _ _ _ _ (T57.setTop (mkF m 340 #[.val (.int sz), .val (.int mo), .val (.int cn), .val (.int bn), .val (.int (Int32.ofNat mN)), .val (.int (Int32.ofNat n)), .val (.ref b44), .val (.ref b46), .val (.ref b47), .val (.ref b48), .val (.int k1053), .val (.ref t153), .val (.ref t253), .val (.ref t353), .val (.ref t453), .val (.int (1 : Int32)), .val (.int (1 : Int32)), .val (.ref r57)] [(.int (1 : Int32))]))
            exact own_rZ X57 hx hlk Bd.returns (hb hby at_340) (own_one rfl) (by show Qrm0 h0 n0 _ T57.heap _; exact ⟨rfl, N57⟩) (by decide) (by decide)
        · skip
          obtain ⟨K, hK⟩ : ∃ K, K = min n mN := ⟨_, rfl⟩
          rw [← hK] at Wc ⊢
          have hK3 : K = 0 ∨ K = 1 ∨ K = 2 ∨ K = 3 := by omega
          rcases hK3 with h | h | h | h
          · skip
            rw [h] at Wc ⊢
            have V0 : own_W Z h51 b44 dq es k bn (Int32.ofNat mN) ([]) := Wc
            have Y0 := Zc
            show own_Gl _ _ _ _ (T52.setTop (mkF m 90 #[.val (.int sz), .val (.int mo), .val (.int cn), .val (.int bn), .val (.int (Int32.ofNat mN)), .val (.int (Int32.ofNat n)), .val (.ref b44), .val (.ref b46), .val (.ref b47), .val (.ref b48), .val (.int (0 : Int32)), .unset, .unset, .unset, .unset, .unset, .unset, .unset] []))
            obtain ⟨y1, y2, y3, y4, y5⟩ := own_neP (hw _ (List.mem_of_getElem? (i := 1) rfl)) V0
            have la := Xa.lt
            have lb := Xb.lt
            have ld := Xd.lt
            refine own_back (fun t_ q_ => XS.aload X52.here hx rfl (hb hby at_90) rfl rfl q_) ?_
            show own_Gl _ _ _ _ (T52.setTop (mkF m 92 #[.val (.int sz), .val (.int mo), .val (.int cn), .val (.int bn), .val (.int (Int32.ofNat mN)), .val (.int (Int32.ofNat n)), .val (.ref b44), .val (.ref b46), .val (.ref b47), .val (.ref b48), .val (.int (0 : Int32)), .unset, .unset, .unset, .unset, .unset, .unset, .unset] [(.ref b44)]))
            obtain ⟨cq58, kq58, q58a, q58b, q58c⟩ := isOf hZ e52 V0.1
            obtain ⟨_, _, ⟨T58, L58, k58, n58⟩, -, X58, ⟨Lc58, hQ58, l58, y58, z58⟩, st58⟩ := X52.virtualBack hx (y := (⟨"com/example/thermopylae/thermopylae/http/BufferPool", "take", "()[B"⟩ : MethodName)) (z := (⟨"com/example/thermopylae/thermopylae/http/BufferPool", "take", "()[B"⟩ : MethodName)) hown (mvT hZ (hw _ (List.mem_of_getElem? (i := 63) rfl))) (mvT hZ (hw _ (List.mem_of_getElem? (i := 64) rfl))) (notFace_of_selects (args := #[]) (mvT hZ (hw _ (List.mem_of_getElem? (i := 66) rfl)))) (mvT hZ (hw _ (List.mem_of_getElem? (i := 66) rfl))) (mvT hZ (hw _ (List.mem_of_getElem? (i := 65) rfl))) (by decide) (backOf (W := 0) (rm11 l Z a0 hw [] b44 h51 n0 Y0 dq es k bn (Int32.ofNat mN) V0 bn1 bn2) hZ (hw _ (List.mem_of_getElem? (i := 67) rfl)) (hw _ (List.mem_of_getElem? (i := 2) rfl)) (by decide) (by decide)) q58a q58c (g := (mkF m 92 #[.val (.int sz), .val (.int mo), .val (.int cn), .val (.int bn), .val (.int (Int32.ofNat mN)), .val (.int (Int32.ofNat n)), .val (.ref b44), .val (.ref b46), .val (.ref b47), .val (.ref b48), .val (.int (0 : Int32)), .unset, .unset, .unset, .unset, .unset, .unset, .unset] [(.ref b44)])) rfl (by rw [hml]; rfl) (Steps.refl _) (argsL := []) (rest := []) (lenOf pd_9 rfl) rfl (by show 2 * 0 + _ ≤ _; exact Nat.le_of_eq rfl) (hb hby at_92) (fun _ _ => ⟨rfl, e52, (by decide : 6 + 1 ≤ _), (by decide : 29 + 63 ≤ _)⟩)
            dsimp only [Pt.U, Pt.locs, Pt.cells, Pt.slots] at X58 l58 y58 z58 st58 hQ58
            subst l58 y58 z58
            obtain ⟨r58, rfl, M58, K58, G58, B58, V58, cl58, A58, l58'⟩ := hQ58
            have N58 := Fr.app N52 M58
            refine own_trans st58 ?_
            show own_Gl _ _ _ _ (T58.setTop (mkF m 95 #[.val (.int sz), .val (.int mo), .val (.int cn), .val (.int bn), .val (.int (Int32.ofNat mN)), .val (.int (Int32.ofNat n)), .val (.ref b44), .val (.ref b46), .val (.ref b47), .val (.ref b48), .val (.int (0 : Int32)), .unset, .unset, .unset, .unset, .unset, .unset, .unset] [(.ref r58)]))
            have V1 := V58
            have Y1 : n0 ≤ T58.heap.size := Nat.le_trans Y0 K58.1
            have Xa := Xa.keep K58
            have Xb := Xb.keep K58
            have Xd := Xd.keep K58
            have f58_b46 : r58 ≠ b46 := Nat.ne_of_gt (Nat.lt_of_lt_of_le la G58)
            have f58_b47 : r58 ≠ b47 := Nat.ne_of_gt (Nat.lt_of_lt_of_le lb G58)
            have f58_b48 : r58 ≠ b48 := Nat.ne_of_gt (Nat.lt_of_lt_of_le ld G58)
            have la := Xa.lt
            have lb := Xb.lt
            have ld := Xd.lt
            have lr58 := B58.lt
            refine own_back (fun t_ q_ => XS.astore X58.here hx rfl (hb hby at_95) rfl rfl (l' := #[.val (.int sz), .val (.int mo), .val (.int cn), .val (.int bn), .val (.int (Int32.ofNat mN)), .val (.int (Int32.ofNat n)), .val (.ref b44), .val (.ref b46), .val (.ref b47), .val (.ref b48), .val (.int (0 : Int32)), .val (.ref r58), .unset, .unset, .unset, .unset, .unset, .unset]) rfl q_) ?_
            show own_Gl _ _ _ _ (T58.setTop (mkF m 97 #[.val (.int sz), .val (.int mo), .val (.int cn), .val (.int bn), .val (.int (Int32.ofNat mN)), .val (.int (Int32.ofNat n)), .val (.ref b44), .val (.ref b46), .val (.ref b47), .val (.ref b48), .val (.int (0 : Int32)), .val (.ref r58), .unset, .unset, .unset, .unset, .unset, .unset] []))
            refine own_back (fun t_ q_ => XS.aload X58.here hx rfl (hb hby at_97) rfl rfl q_) ?_
            show own_Gl _ _ _ _ (T58.setTop (mkF m 99 #[.val (.int sz), .val (.int mo), .val (.int cn), .val (.int bn), .val (.int (Int32.ofNat mN)), .val (.int (Int32.ofNat n)), .val (.ref b44), .val (.ref b46), .val (.ref b47), .val (.ref b48), .val (.int (0 : Int32)), .val (.ref r58), .unset, .unset, .unset, .unset, .unset, .unset] [(.ref b44)]))
            obtain ⟨cq59, kq59, q59a, q59b, q59c⟩ := isOf hZ rfl V1.1
            obtain ⟨_, _, ⟨T59, L59, k59, n59⟩, -, X59, ⟨Lc59, hQ59, l59, y59, z59⟩, st59⟩ := X58.virtualBack hx (y := (⟨"com/example/thermopylae/thermopylae/http/BufferPool", "take", "()[B"⟩ : MethodName)) (z := (⟨"com/example/thermopylae/thermopylae/http/BufferPool", "take", "()[B"⟩ : MethodName)) hown (mvT hZ (hw _ (List.mem_of_getElem? (i := 63) rfl))) (mvT hZ (hw _ (List.mem_of_getElem? (i := 64) rfl))) (notFace_of_selects (args := #[]) (mvT hZ (hw _ (List.mem_of_getElem? (i := 66) rfl)))) (mvT hZ (hw _ (List.mem_of_getElem? (i := 66) rfl))) (mvT hZ (hw _ (List.mem_of_getElem? (i := 65) rfl))) (by decide) (backOf (W := 0) (rm11 l Z a0 hw [] b44 T58.heap n0 Y1 dq es k bn (Int32.ofNat mN) V1 bn1 bn2) hZ (hw _ (List.mem_of_getElem? (i := 67) rfl)) (hw _ (List.mem_of_getElem? (i := 2) rfl)) (by decide) (by decide)) q59a q59c (g := (mkF m 99 #[.val (.int sz), .val (.int mo), .val (.int cn), .val (.int bn), .val (.int (Int32.ofNat mN)), .val (.int (Int32.ofNat n)), .val (.ref b44), .val (.ref b46), .val (.ref b47), .val (.ref b48), .val (.int (0 : Int32)), .val (.ref r58), .unset, .unset, .unset, .unset, .unset, .unset] [(.ref b44)])) rfl (by rw [hml]; rfl) (Steps.refl _) (argsL := []) (rest := []) (lenOf pd_9 rfl) rfl (by show 2 * 0 + _ ≤ _; exact Nat.le_of_eq rfl) (hb hby at_99) (fun _ _ => ⟨rfl, rfl, (by decide : 7 + 1 ≤ _), (by decide : 92 + 63 ≤ _)⟩)
            dsimp only [Pt.U, Pt.locs, Pt.cells, Pt.slots] at X59 l59 y59 z59 st59 hQ59
            subst l59 y59 z59
            obtain ⟨r59, rfl, M59, K59, G59, B59, V59, cl59, A59, l59'⟩ := hQ59
            have N59 := Fr.app N58 M59
            refine own_trans st59 ?_
            show own_Gl _ _ _ _ (T59.setTop (mkF m 102 #[.val (.int sz), .val (.int mo), .val (.int cn), .val (.int bn), .val (.int (Int32.ofNat mN)), .val (.int (Int32.ofNat n)), .val (.ref b44), .val (.ref b46), .val (.ref b47), .val (.ref b48), .val (.int (0 : Int32)), .val (.ref r58), .unset, .unset, .unset, .unset, .unset, .unset] [(.ref r59)]))
            have V2 := V59
            have Y2 : n0 ≤ T59.heap.size := Nat.le_trans Y1 K59.1
            have Xa := Xa.keep K59
            have Xb := Xb.keep K59
            have Xd := Xd.keep K59
            have B58 := B58.keep K59
            have A58 : Arr Z T59.heap r58 cl58 .byte := ⟨K59.2.1 _ _ A58.1 nin0, A58.2⟩
            have f59_b46 : r59 ≠ b46 := Nat.ne_of_gt (Nat.lt_of_lt_of_le la G59)
            have f59_b47 : r59 ≠ b47 := Nat.ne_of_gt (Nat.lt_of_lt_of_le lb G59)
            have f59_b48 : r59 ≠ b48 := Nat.ne_of_gt (Nat.lt_of_lt_of_le ld G59)
            have f59_r58 : r59 ≠ r58 := Nat.ne_of_gt (Nat.lt_of_lt_of_le lr58 G59)
            have la := Xa.lt
            have lb := Xb.lt
            have ld := Xd.lt
            have lr58 := B58.lt
            have lr59 := B59.lt
            refine own_back (fun t_ q_ => XS.astore X59.here hx rfl (hb hby at_102) rfl rfl (l' := #[.val (.int sz), .val (.int mo), .val (.int cn), .val (.int bn), .val (.int (Int32.ofNat mN)), .val (.int (Int32.ofNat n)), .val (.ref b44), .val (.ref b46), .val (.ref b47), .val (.ref b48), .val (.int (0 : Int32)), .val (.ref r58), .val (.ref r59), .unset, .unset, .unset, .unset, .unset]) rfl q_) ?_
            show own_Gl _ _ _ _ (T59.setTop (mkF m 104 #[.val (.int sz), .val (.int mo), .val (.int cn), .val (.int bn), .val (.int (Int32.ofNat mN)), .val (.int (Int32.ofNat n)), .val (.ref b44), .val (.ref b46), .val (.ref b47), .val (.ref b48), .val (.int (0 : Int32)), .val (.ref r58), .val (.ref r59), .unset, .unset, .unset, .unset, .unset] []))
            refine own_back (fun t_ q_ => XS.aload X59.here hx rfl (hb hby at_104) rfl rfl q_) ?_
            show own_Gl _ _ _ _ (T59.setTop (mkF m 106 #[.val (.int sz), .val (.int mo), .val (.int cn), .val (.int bn), .val (.int (Int32.ofNat mN)), .val (.int (Int32.ofNat n)), .val (.ref b44), .val (.ref b46), .val (.ref b47), .val (.ref b48), .val (.int (0 : Int32)), .val (.ref r58), .val (.ref r59), .unset, .unset, .unset, .unset, .unset] [(.ref b44)]))
            obtain ⟨cq60, kq60, q60a, q60b, q60c⟩ := isOf hZ rfl V2.1
            obtain ⟨_, _, ⟨T60, L60, k60, n60⟩, -, X60, ⟨Lc60, hQ60, l60, y60, z60⟩, st60⟩ := X59.virtualBack hx (y := (⟨"com/example/thermopylae/thermopylae/http/BufferPool", "take", "()[B"⟩ : MethodName)) (z := (⟨"com/example/thermopylae/thermopylae/http/BufferPool", "take", "()[B"⟩ : MethodName)) hown (mvT hZ (hw _ (List.mem_of_getElem? (i := 63) rfl))) (mvT hZ (hw _ (List.mem_of_getElem? (i := 64) rfl))) (notFace_of_selects (args := #[]) (mvT hZ (hw _ (List.mem_of_getElem? (i := 66) rfl)))) (mvT hZ (hw _ (List.mem_of_getElem? (i := 66) rfl))) (mvT hZ (hw _ (List.mem_of_getElem? (i := 65) rfl))) (by decide) (backOf (W := 0) (rm11 l Z a0 hw [] b44 T59.heap n0 Y2 dq es k bn (Int32.ofNat mN) V2 bn1 bn2) hZ (hw _ (List.mem_of_getElem? (i := 67) rfl)) (hw _ (List.mem_of_getElem? (i := 2) rfl)) (by decide) (by decide)) q60a q60c (g := (mkF m 106 #[.val (.int sz), .val (.int mo), .val (.int cn), .val (.int bn), .val (.int (Int32.ofNat mN)), .val (.int (Int32.ofNat n)), .val (.ref b44), .val (.ref b46), .val (.ref b47), .val (.ref b48), .val (.int (0 : Int32)), .val (.ref r58), .val (.ref r59), .unset, .unset, .unset, .unset, .unset] [(.ref b44)])) rfl (by rw [hml]; rfl) (Steps.refl _) (argsL := []) (rest := []) (lenOf pd_9 rfl) rfl (by show 2 * 0 + _ ≤ _; exact Nat.le_of_eq rfl) (hb hby at_106) (fun _ _ => ⟨rfl, rfl, (by decide : 8 + 1 ≤ _), (by decide : 155 + 63 ≤ _)⟩)
            dsimp only [Pt.U, Pt.locs, Pt.cells, Pt.slots] at X60 l60 y60 z60 st60 hQ60
            subst l60 y60 z60
            obtain ⟨r60, rfl, M60, K60, G60, B60, V60, cl60, A60, l60'⟩ := hQ60
            have N60 := Fr.app N59 M60
            refine own_trans st60 ?_
            show own_Gl _ _ _ _ (T60.setTop (mkF m 109 #[.val (.int sz), .val (.int mo), .val (.int cn), .val (.int bn), .val (.int (Int32.ofNat mN)), .val (.int (Int32.ofNat n)), .val (.ref b44), .val (.ref b46), .val (.ref b47), .val (.ref b48), .val (.int (0 : Int32)), .val (.ref r58), .val (.ref r59), .unset, .unset, .unset, .unset, .unset] [(.ref r60)]))
            have V3 := V60
            have Y3 : n0 ≤ T60.heap.size := Nat.le_trans Y2 K60.1
            have Xa := Xa.keep K60
            have Xb := Xb.keep K60
            have Xd := Xd.keep K60
            have B58 := B58.keep K60
            have A58 : Arr Z T60.heap r58 cl58 .byte := ⟨K60.2.1 _ _ A58.1 nin0, A58.2⟩
            have B59 := B59.keep K60
            have A59 : Arr Z T60.heap r59 cl59 .byte := ⟨K60.2.1 _ _ A59.1 nin0, A59.2⟩
            have f60_b46 : r60 ≠ b46 := Nat.ne_of_gt (Nat.lt_of_lt_of_le la G60)
            have f60_b47 : r60 ≠ b47 := Nat.ne_of_gt (Nat.lt_of_lt_of_le lb G60)
            have f60_b48 : r60 ≠ b48 := Nat.ne_of_gt (Nat.lt_of_lt_of_le ld G60)
            have f60_r58 : r60 ≠ r58 := Nat.ne_of_gt (Nat.lt_of_lt_of_le lr58 G60)
            have f60_r59 : r60 ≠ r59 := Nat.ne_of_gt (Nat.lt_of_lt_of_le lr59 G60)
            have la := Xa.lt
            have lb := Xb.lt
            have ld := Xd.lt
            have lr58 := B58.lt
            have lr59 := B59.lt
            have lr60 := B60.lt
            refine own_back (fun t_ q_ => XS.astore X60.here hx rfl (hb hby at_109) rfl rfl (l' := #[.val (.int sz), .val (.int mo), .val (.int cn), .val (.int bn), .val (.int (Int32.ofNat mN)), .val (.int (Int32.ofNat n)), .val (.ref b44), .val (.ref b46), .val (.ref b47), .val (.ref b48), .val (.int (0 : Int32)), .val (.ref r58), .val (.ref r59), .val (.ref r60), .unset, .unset, .unset, .unset]) rfl q_) ?_
            show own_Gl _ _ _ _ (T60.setTop (mkF m 111 #[.val (.int sz), .val (.int mo), .val (.int cn), .val (.int bn), .val (.int (Int32.ofNat mN)), .val (.int (Int32.ofNat n)), .val (.ref b44), .val (.ref b46), .val (.ref b47), .val (.ref b48), .val (.int (0 : Int32)), .val (.ref r58), .val (.ref r59), .val (.ref r60), .unset, .unset, .unset, .unset] []))
            refine own_back (fun t_ q_ => XS.aload X60.here hx rfl (hb hby at_111) rfl rfl q_) ?_
            show own_Gl _ _ _ _ (T60.setTop (mkF m 113 #[.val (.int sz), .val (.int mo), .val (.int cn), .val (.int bn), .val (.int (Int32.ofNat mN)), .val (.int (Int32.ofNat n)), .val (.ref b44), .val (.ref b46), .val (.ref b47), .val (.ref b48), .val (.int (0 : Int32)), .val (.ref r58), .val (.ref r59), .val (.ref r60), .unset, .unset, .unset, .unset] [(.ref b44)]))
            obtain ⟨cq61, kq61, q61a, q61b, q61c⟩ := isOf hZ rfl V3.1
            obtain ⟨_, _, ⟨T61, L61, k61, n61⟩, -, X61, ⟨Lc61, hQ61, l61, y61, z61⟩, st61⟩ := X60.virtualBack hx (y := (⟨"com/example/thermopylae/thermopylae/http/BufferPool", "take", "()[B"⟩ : MethodName)) (z := (⟨"com/example/thermopylae/thermopylae/http/BufferPool", "take", "()[B"⟩ : MethodName)) hown (mvT hZ (hw _ (List.mem_of_getElem? (i := 63) rfl))) (mvT hZ (hw _ (List.mem_of_getElem? (i := 64) rfl))) (notFace_of_selects (args := #[]) (mvT hZ (hw _ (List.mem_of_getElem? (i := 66) rfl)))) (mvT hZ (hw _ (List.mem_of_getElem? (i := 66) rfl))) (mvT hZ (hw _ (List.mem_of_getElem? (i := 65) rfl))) (by decide) (backOf (W := 0) (rm11 l Z a0 hw [] b44 T60.heap n0 Y3 dq es k bn (Int32.ofNat mN) V3 bn1 bn2) hZ (hw _ (List.mem_of_getElem? (i := 67) rfl)) (hw _ (List.mem_of_getElem? (i := 2) rfl)) (by decide) (by decide)) q61a q61c (g := (mkF m 113 #[.val (.int sz), .val (.int mo), .val (.int cn), .val (.int bn), .val (.int (Int32.ofNat mN)), .val (.int (Int32.ofNat n)), .val (.ref b44), .val (.ref b46), .val (.ref b47), .val (.ref b48), .val (.int (0 : Int32)), .val (.ref r58), .val (.ref r59), .val (.ref r60), .unset, .unset, .unset, .unset] [(.ref b44)])) rfl (by rw [hml]; rfl) (Steps.refl _) (argsL := []) (rest := []) (lenOf pd_9 rfl) rfl (by show 2 * 0 + _ ≤ _; exact Nat.le_of_eq rfl) (hb hby at_113) (fun _ _ => ⟨rfl, rfl, (by decide : 9 + 1 ≤ _), (by decide : 218 + 63 ≤ _)⟩)
            dsimp only [Pt.U, Pt.locs, Pt.cells, Pt.slots] at X61 l61 y61 z61 st61 hQ61
            subst l61 y61 z61
            obtain ⟨r61, rfl, M61, K61, G61, B61, V61, cl61, A61, l61'⟩ := hQ61
            have N61 := Fr.app N60 M61
            refine own_trans st61 ?_
            show own_Gl _ _ _ _ (T61.setTop (mkF m 116 #[.val (.int sz), .val (.int mo), .val (.int cn), .val (.int bn), .val (.int (Int32.ofNat mN)), .val (.int (Int32.ofNat n)), .val (.ref b44), .val (.ref b46), .val (.ref b47), .val (.ref b48), .val (.int (0 : Int32)), .val (.ref r58), .val (.ref r59), .val (.ref r60), .unset, .unset, .unset, .unset] [(.ref r61)]))
            have V4 := V61
            have Y4 : n0 ≤ T61.heap.size := Nat.le_trans Y3 K61.1
            have Xa := Xa.keep K61
            have Xb := Xb.keep K61
            have Xd := Xd.keep K61
            have B58 := B58.keep K61
            have A58 : Arr Z T61.heap r58 cl58 .byte := ⟨K61.2.1 _ _ A58.1 nin0, A58.2⟩
            have B59 := B59.keep K61
            have A59 : Arr Z T61.heap r59 cl59 .byte := ⟨K61.2.1 _ _ A59.1 nin0, A59.2⟩
            have B60 := B60.keep K61
            have A60 : Arr Z T61.heap r60 cl60 .byte := ⟨K61.2.1 _ _ A60.1 nin0, A60.2⟩
            have f61_b46 : r61 ≠ b46 := Nat.ne_of_gt (Nat.lt_of_lt_of_le la G61)
            have f61_b47 : r61 ≠ b47 := Nat.ne_of_gt (Nat.lt_of_lt_of_le lb G61)
            have f61_b48 : r61 ≠ b48 := Nat.ne_of_gt (Nat.lt_of_lt_of_le ld G61)
            have f61_r58 : r61 ≠ r58 := Nat.ne_of_gt (Nat.lt_of_lt_of_le lr58 G61)
            have f61_r59 : r61 ≠ r59 := Nat.ne_of_gt (Nat.lt_of_lt_of_le lr59 G61)
            have f61_r60 : r61 ≠ r60 := Nat.ne_of_gt (Nat.lt_of_lt_of_le lr60 G61)
            have la := Xa.lt
            have lb := Xb.lt
            have ld := Xd.lt
            have lr58 := B58.lt
            have lr59 := B59.lt
            have lr60 := B60.lt
            have lr61 := B61.lt
            refine own_back (fun t_ q_ => XS.astore X61.here hx rfl (hb hby at_116) rfl rfl (l' := #[.val (.int sz), .val (.int mo), .val (.int cn), .val (.int bn), .val (.int (Int32.ofNat mN)), .val (.int (Int32.ofNat n)), .val (.ref b44), .val (.ref b46), .val (.ref b47), .val (.ref b48), .val (.int (0 : Int32)), .val (.ref r58), .val (.ref r59), .val (.ref r60), .val (.ref r61), .unset, .unset, .unset]) rfl q_) ?_
            show own_Gl _ _ _ _ (T61.setTop (mkF m 118 #[.val (.int sz), .val (.int mo), .val (.int cn), .val (.int bn), .val (.int (Int32.ofNat mN)), .val (.int (Int32.ofNat n)), .val (.ref b44), .val (.ref b46), .val (.ref b47), .val (.ref b48), .val (.int (0 : Int32)), .val (.ref r58), .val (.ref r59), .val (.ref r60), .val (.ref r61), .unset, .unset, .unset] []))
            refine own_back (fun t_ q_ => XS.aload X61.here hx rfl (hb hby at_118) rfl rfl q_) ?_
            show own_Gl _ _ _ _ (T61.setTop (mkF m 120 #[.val (.int sz), .val (.int mo), .val (.int cn), .val (.int bn), .val (.int (Int32.ofNat mN)), .val (.int (Int32.ofNat n)), .val (.ref b44), .val (.ref b46), .val (.ref b47), .val (.ref b48), .val (.int (0 : Int32)), .val (.ref r58), .val (.ref r59), .val (.ref r60), .val (.ref r61), .unset, .unset, .unset] [(.ref r58)]))
            refine own_back (fun t_ q_ => XS.iconst X61.here hx rfl (hb hby at_120) q_) ?_
            show own_Gl _ _ _ _ (T61.setTop (mkF m 121 #[.val (.int sz), .val (.int mo), .val (.int cn), .val (.int bn), .val (.int (Int32.ofNat mN)), .val (.int (Int32.ofNat n)), .val (.ref b44), .val (.ref b46), .val (.ref b47), .val (.ref b48), .val (.int (0 : Int32)), .val (.ref r58), .val (.ref r59), .val (.ref r60), .val (.ref r61), .unset, .unset, .unset] [(.int (0 : Int32)), (.ref r58)]))
            refine own_back (fun t_ q_ => XS.iload X61.here hx rfl (hb hby at_121) rfl q_) ?_
            show own_Gl _ _ _ _ (T61.setTop (mkF m 123 #[.val (.int sz), .val (.int mo), .val (.int cn), .val (.int bn), .val (.int (Int32.ofNat mN)), .val (.int (Int32.ofNat n)), .val (.ref b44), .val (.ref b46), .val (.ref b47), .val (.ref b48), .val (.int (0 : Int32)), .val (.ref r58), .val (.ref r59), .val (.ref r60), .val (.ref r61), .unset, .unset, .unset] [(.int (0 : Int32)), (.int (0 : Int32)), (.ref r58)]))
            refine own_back (fun t_ q_ => XS.aload X61.here hx rfl (hb hby at_123) rfl rfl q_) ?_
            show own_Gl _ _ _ _ (T61.setTop (mkF m 125 #[.val (.int sz), .val (.int mo), .val (.int cn), .val (.int bn), .val (.int (Int32.ofNat mN)), .val (.int (Int32.ofNat n)), .val (.ref b44), .val (.ref b46), .val (.ref b47), .val (.ref b48), .val (.int (0 : Int32)), .val (.ref r58), .val (.ref r59), .val (.ref r60), .val (.ref r61), .unset, .unset, .unset] [(.ref b46), (.int (0 : Int32)), (.int (0 : Int32)), (.ref r58)]))
            refine own_back (fun t_ q_ => XS.aload X61.here hx rfl (hb hby at_125) rfl rfl q_) ?_
            show own_Gl _ _ _ _ (T61.setTop (mkF m 127 #[.val (.int sz), .val (.int mo), .val (.int cn), .val (.int bn), .val (.int (Int32.ofNat mN)), .val (.int (Int32.ofNat n)), .val (.ref b44), .val (.ref b46), .val (.ref b47), .val (.ref b48), .val (.int (0 : Int32)), .val (.ref r58), .val (.ref r59), .val (.ref r60), .val (.ref r61), .unset, .unset, .unset] [(.ref b47), (.ref b46), (.int (0 : Int32)), (.int (0 : Int32)), (.ref r58)]))
            refine own_back (fun t_ q_ => XS.aload X61.here hx rfl (hb hby at_127) rfl rfl q_) ?_
            show own_Gl _ _ _ _ (T61.setTop (mkF m 129 #[.val (.int sz), .val (.int mo), .val (.int cn), .val (.int bn), .val (.int (Int32.ofNat mN)), .val (.int (Int32.ofNat n)), .val (.ref b44), .val (.ref b46), .val (.ref b47), .val (.ref b48), .val (.int (0 : Int32)), .val (.ref r58), .val (.ref r59), .val (.ref r60), .val (.ref r61), .unset, .unset, .unset] [(.ref b48), (.ref b47), (.ref b46), (.int (0 : Int32)), (.int (0 : Int32)), (.ref r58)]))
            refine own_back (fun t_ q_ => XS.iloadN X61.here hx rfl (hb hby at_129) rfl q_) ?_
            show own_Gl _ _ _ _ (T61.setTop (mkF m 130 #[.val (.int sz), .val (.int mo), .val (.int cn), .val (.int bn), .val (.int (Int32.ofNat mN)), .val (.int (Int32.ofNat n)), .val (.ref b44), .val (.ref b46), .val (.ref b47), .val (.ref b48), .val (.int (0 : Int32)), .val (.ref r58), .val (.ref r59), .val (.ref r60), .val (.ref r61), .unset, .unset, .unset] [(.int bn), (.ref b48), (.ref b47), (.ref b46), (.int (0 : Int32)), (.int (0 : Int32)), (.ref r58)]))
            obtain ⟨_, _, ⟨T62, L62, k62, n62⟩, -, X62, ⟨Lc62, hQ62, l62, y62, z62⟩, st62⟩ := Jvm.LawKit.callS X61 hx (y := (⟨"com/example/thermopylae/thermopylae/http/BufferPoolTakePinLaw", "step", "([BII[B[B[BI)Z"⟩ : MethodName)) hown (mvT hZ (hw _ (List.mem_of_getElem? (i := 81) rfl))) (mvT hZ (hw _ (List.mem_of_getElem? (i := 82) rfl))) (mvT hZ (hw _ (List.mem_of_getElem? (i := 83) rfl))) (mvT hZ (hw _ (List.mem_of_getElem? (i := 84) rfl))) (by decide) (backOf (W := 0) (rm15n l Z a0 hw [] r58 0 0 b46 b47 b48 bn T61.heap n0 Y4 cl58 A58 l58' (by decide) f58_b46 f58_b47 f58_b48) hZ (hw _ (List.mem_of_getElem? (i := 84) rfl)) (hw _ (List.mem_of_getElem? (i := 83) rfl)) (by decide) (by decide)) (g := (mkF m 130 #[.val (.int sz), .val (.int mo), .val (.int cn), .val (.int bn), .val (.int (Int32.ofNat mN)), .val (.int (Int32.ofNat n)), .val (.ref b44), .val (.ref b46), .val (.ref b47), .val (.ref b48), .val (.int (0 : Int32)), .val (.ref r58), .val (.ref r59), .val (.ref r60), .val (.ref r61), .unset, .unset, .unset] [(.int bn), (.ref b48), (.ref b47), (.ref b46), (.int (0 : Int32)), (.int (0 : Int32)), (.ref r58)])) rfl (by rw [hml]; rfl) (argsL := [(.ref r58), (.int (0 : Int32)), (.int (0 : Int32)), (.ref b46), (.ref b47), (.ref b48), (.int bn)]) (rest := []) (lenOf pd_10 rfl) rfl (by show 2 * 0 + _ ≤ _; exact Nat.le_of_eq rfl) (hb hby at_130) (fun _ _ => ⟨rfl, rfl, (by decide : 10 + 0 ≤ _), (by decide : 281 + 0 ≤ _)⟩)
            dsimp only [Pt.U, Pt.locs, Pt.cells, Pt.slots] at X62 l62 y62 z62 st62 hQ62
            subst l62 y62 z62
            obtain ⟨rfl, M62, e62⟩ := hQ62
            have N62 := Fr.app N61 M62
            refine own_back st62 ?_
            show own_Gl _ _ _ _ (T62.setTop (mkF m 133 #[.val (.int sz), .val (.int mo), .val (.int cn), .val (.int bn), .val (.int (Int32.ofNat mN)), .val (.int (Int32.ofNat n)), .val (.ref b44), .val (.ref b46), .val (.ref b47), .val (.ref b48), .val (.int (0 : Int32)), .val (.ref r58), .val (.ref r59), .val (.ref r60), .val (.ref r61), .unset, .unset, .unset] [(.int (1 : Int32))]))
            refine own_back (fun t_ q_ => XS.ifNo X62.here hx rfl (hb hby at_133) rfl ((if0 _ _).trans (feq (by decide : ¬ ((1 : Int32) = (0 : Int32)))).1) q_) ?_
            show own_Gl _ _ _ _ (T62.setTop (mkF m 136 #[.val (.int sz), .val (.int mo), .val (.int cn), .val (.int bn), .val (.int (Int32.ofNat mN)), .val (.int (Int32.ofNat n)), .val (.ref b44), .val (.ref b46), .val (.ref b47), .val (.ref b48), .val (.int (0 : Int32)), .val (.ref r58), .val (.ref r59), .val (.ref r60), .val (.ref r61), .unset, .unset, .unset] []))
            refine own_back (fun t_ q_ => XS.aload X62.here hx rfl (hb hby at_136) rfl rfl q_) ?_
            show own_Gl _ _ _ _ (T62.setTop (mkF m 138 #[.val (.int sz), .val (.int mo), .val (.int cn), .val (.int bn), .val (.int (Int32.ofNat mN)), .val (.int (Int32.ofNat n)), .val (.ref b44), .val (.ref b46), .val (.ref b47), .val (.ref b48), .val (.int (0 : Int32)), .val (.ref r58), .val (.ref r59), .val (.ref r60), .val (.ref r61), .unset, .unset, .unset] [(.ref r59)]))
            refine own_back (fun t_ q_ => XS.iconst X62.here hx rfl (hb hby at_138) q_) ?_
            show own_Gl _ _ _ _ (T62.setTop (mkF m 139 #[.val (.int sz), .val (.int mo), .val (.int cn), .val (.int bn), .val (.int (Int32.ofNat mN)), .val (.int (Int32.ofNat n)), .val (.ref b44), .val (.ref b46), .val (.ref b47), .val (.ref b48), .val (.int (0 : Int32)), .val (.ref r58), .val (.ref r59), .val (.ref r60), .val (.ref r61), .unset, .unset, .unset] [(.int (1 : Int32)), (.ref r59)]))
            refine own_back (fun t_ q_ => XS.iload X62.here hx rfl (hb hby at_139) rfl q_) ?_
            show own_Gl _ _ _ _ (T62.setTop (mkF m 141 #[.val (.int sz), .val (.int mo), .val (.int cn), .val (.int bn), .val (.int (Int32.ofNat mN)), .val (.int (Int32.ofNat n)), .val (.ref b44), .val (.ref b46), .val (.ref b47), .val (.ref b48), .val (.int (0 : Int32)), .val (.ref r58), .val (.ref r59), .val (.ref r60), .val (.ref r61), .unset, .unset, .unset] [(.int (0 : Int32)), (.int (1 : Int32)), (.ref r59)]))
            refine own_back (fun t_ q_ => XS.aload X62.here hx rfl (hb hby at_141) rfl rfl q_) ?_
            show own_Gl _ _ _ _ (T62.setTop (mkF m 143 #[.val (.int sz), .val (.int mo), .val (.int cn), .val (.int bn), .val (.int (Int32.ofNat mN)), .val (.int (Int32.ofNat n)), .val (.ref b44), .val (.ref b46), .val (.ref b47), .val (.ref b48), .val (.int (0 : Int32)), .val (.ref r58), .val (.ref r59), .val (.ref r60), .val (.ref r61), .unset, .unset, .unset] [(.ref b46), (.int (0 : Int32)), (.int (1 : Int32)), (.ref r59)]))
            refine own_back (fun t_ q_ => XS.aload X62.here hx rfl (hb hby at_143) rfl rfl q_) ?_
            show own_Gl _ _ _ _ (T62.setTop (mkF m 145 #[.val (.int sz), .val (.int mo), .val (.int cn), .val (.int bn), .val (.int (Int32.ofNat mN)), .val (.int (Int32.ofNat n)), .val (.ref b44), .val (.ref b46), .val (.ref b47), .val (.ref b48), .val (.int (0 : Int32)), .val (.ref r58), .val (.ref r59), .val (.ref r60), .val (.ref r61), .unset, .unset, .unset] [(.ref b47), (.ref b46), (.int (0 : Int32)), (.int (1 : Int32)), (.ref r59)]))
            refine own_back (fun t_ q_ => XS.aload X62.here hx rfl (hb hby at_145) rfl rfl q_) ?_
            show own_Gl _ _ _ _ (T62.setTop (mkF m 147 #[.val (.int sz), .val (.int mo), .val (.int cn), .val (.int bn), .val (.int (Int32.ofNat mN)), .val (.int (Int32.ofNat n)), .val (.ref b44), .val (.ref b46), .val (.ref b47), .val (.ref b48), .val (.int (0 : Int32)), .val (.ref r58), .val (.ref r59), .val (.ref r60), .val (.ref r61), .unset, .unset, .unset] [(.ref b48), (.ref b47), (.ref b46), (.int (0 : Int32)), (.int (1 : Int32)), (.ref r59)]))
            refine own_back (fun t_ q_ => XS.iloadN X62.here hx rfl (hb hby at_147) rfl q_) ?_
            show own_Gl _ _ _ _ (T62.setTop (mkF m 148 #[.val (.int sz), .val (.int mo), .val (.int cn), .val (.int bn), .val (.int (Int32.ofNat mN)), .val (.int (Int32.ofNat n)), .val (.ref b44), .val (.ref b46), .val (.ref b47), .val (.ref b48), .val (.int (0 : Int32)), .val (.ref r58), .val (.ref r59), .val (.ref r60), .val (.ref r61), .unset, .unset, .unset] [(.int bn), (.ref b48), (.ref b47), (.ref b46), (.int (0 : Int32)), (.int (1 : Int32)), (.ref r59)]))
            obtain ⟨_, _, ⟨T63, L63, k63, n63⟩, -, X63, ⟨Lc63, hQ63, l63, y63, z63⟩, st63⟩ := Jvm.LawKit.callS X62 hx (y := (⟨"com/example/thermopylae/thermopylae/http/BufferPoolTakePinLaw", "step", "([BII[B[B[BI)Z"⟩ : MethodName)) hown (mvT hZ (hw _ (List.mem_of_getElem? (i := 81) rfl))) (mvT hZ (hw _ (List.mem_of_getElem? (i := 82) rfl))) (mvT hZ (hw _ (List.mem_of_getElem? (i := 83) rfl))) (mvT hZ (hw _ (List.mem_of_getElem? (i := 84) rfl))) (by decide) (backOf (W := 0) (rm15n l Z a0 hw [] r59 1 0 b46 b47 b48 bn T61.heap n0 Y4 cl59 A59 l59' (by decide) f59_b46 f59_b47 f59_b48) hZ (hw _ (List.mem_of_getElem? (i := 84) rfl)) (hw _ (List.mem_of_getElem? (i := 83) rfl)) (by decide) (by decide)) (g := (mkF m 148 #[.val (.int sz), .val (.int mo), .val (.int cn), .val (.int bn), .val (.int (Int32.ofNat mN)), .val (.int (Int32.ofNat n)), .val (.ref b44), .val (.ref b46), .val (.ref b47), .val (.ref b48), .val (.int (0 : Int32)), .val (.ref r58), .val (.ref r59), .val (.ref r60), .val (.ref r61), .unset, .unset, .unset] [(.int bn), (.ref b48), (.ref b47), (.ref b46), (.int (0 : Int32)), (.int (1 : Int32)), (.ref r59)])) rfl (by rw [hml]; rfl) (argsL := [(.ref r59), (.int (1 : Int32)), (.int (0 : Int32)), (.ref b46), (.ref b47), (.ref b48), (.int bn)]) (rest := []) (lenOf pd_10 rfl) rfl (by show 2 * 0 + _ ≤ _; exact Nat.le_of_eq rfl) (hb hby at_148) (fun _ _ => ⟨rfl, e62, (by decide : 10 + 0 ≤ _), (by decide : 281 + 0 ≤ _)⟩)
            dsimp only [Pt.U, Pt.locs, Pt.cells, Pt.slots] at X63 l63 y63 z63 st63 hQ63
            subst l63 y63 z63
            obtain ⟨rfl, M63, e63⟩ := hQ63
            have N63 := Fr.app N62 M63
            refine own_back st63 ?_
            show own_Gl _ _ _ _ (T63.setTop (mkF m 151 #[.val (.int sz), .val (.int mo), .val (.int cn), .val (.int bn), .val (.int (Int32.ofNat mN)), .val (.int (Int32.ofNat n)), .val (.ref b44), .val (.ref b46), .val (.ref b47), .val (.ref b48), .val (.int (0 : Int32)), .val (.ref r58), .val (.ref r59), .val (.ref r60), .val (.ref r61), .unset, .unset, .unset] [(.int (1 : Int32))]))
            refine own_back (fun t_ q_ => XS.ifNo X63.here hx rfl (hb hby at_151) rfl ((if0 _ _).trans (feq (by decide : ¬ ((1 : Int32) = (0 : Int32)))).1) q_) ?_
            show own_Gl _ _ _ _ (T63.setTop (mkF m 154 #[.val (.int sz), .val (.int mo), .val (.int cn), .val (.int bn), .val (.int (Int32.ofNat mN)), .val (.int (Int32.ofNat n)), .val (.ref b44), .val (.ref b46), .val (.ref b47), .val (.ref b48), .val (.int (0 : Int32)), .val (.ref r58), .val (.ref r59), .val (.ref r60), .val (.ref r61), .unset, .unset, .unset] []))
            refine own_back (fun t_ q_ => XS.aload X63.here hx rfl (hb hby at_154) rfl rfl q_) ?_
            show own_Gl _ _ _ _ (T63.setTop (mkF m 156 #[.val (.int sz), .val (.int mo), .val (.int cn), .val (.int bn), .val (.int (Int32.ofNat mN)), .val (.int (Int32.ofNat n)), .val (.ref b44), .val (.ref b46), .val (.ref b47), .val (.ref b48), .val (.int (0 : Int32)), .val (.ref r58), .val (.ref r59), .val (.ref r60), .val (.ref r61), .unset, .unset, .unset] [(.ref r60)]))
            refine own_back (fun t_ q_ => XS.iconst X63.here hx rfl (hb hby at_156) q_) ?_
            show own_Gl _ _ _ _ (T63.setTop (mkF m 157 #[.val (.int sz), .val (.int mo), .val (.int cn), .val (.int bn), .val (.int (Int32.ofNat mN)), .val (.int (Int32.ofNat n)), .val (.ref b44), .val (.ref b46), .val (.ref b47), .val (.ref b48), .val (.int (0 : Int32)), .val (.ref r58), .val (.ref r59), .val (.ref r60), .val (.ref r61), .unset, .unset, .unset] [(.int (2 : Int32)), (.ref r60)]))
            refine own_back (fun t_ q_ => XS.iload X63.here hx rfl (hb hby at_157) rfl q_) ?_
            show own_Gl _ _ _ _ (T63.setTop (mkF m 159 #[.val (.int sz), .val (.int mo), .val (.int cn), .val (.int bn), .val (.int (Int32.ofNat mN)), .val (.int (Int32.ofNat n)), .val (.ref b44), .val (.ref b46), .val (.ref b47), .val (.ref b48), .val (.int (0 : Int32)), .val (.ref r58), .val (.ref r59), .val (.ref r60), .val (.ref r61), .unset, .unset, .unset] [(.int (0 : Int32)), (.int (2 : Int32)), (.ref r60)]))
            refine own_back (fun t_ q_ => XS.aload X63.here hx rfl (hb hby at_159) rfl rfl q_) ?_
            show own_Gl _ _ _ _ (T63.setTop (mkF m 161 #[.val (.int sz), .val (.int mo), .val (.int cn), .val (.int bn), .val (.int (Int32.ofNat mN)), .val (.int (Int32.ofNat n)), .val (.ref b44), .val (.ref b46), .val (.ref b47), .val (.ref b48), .val (.int (0 : Int32)), .val (.ref r58), .val (.ref r59), .val (.ref r60), .val (.ref r61), .unset, .unset, .unset] [(.ref b46), (.int (0 : Int32)), (.int (2 : Int32)), (.ref r60)]))
            refine own_back (fun t_ q_ => XS.aload X63.here hx rfl (hb hby at_161) rfl rfl q_) ?_
            show own_Gl _ _ _ _ (T63.setTop (mkF m 163 #[.val (.int sz), .val (.int mo), .val (.int cn), .val (.int bn), .val (.int (Int32.ofNat mN)), .val (.int (Int32.ofNat n)), .val (.ref b44), .val (.ref b46), .val (.ref b47), .val (.ref b48), .val (.int (0 : Int32)), .val (.ref r58), .val (.ref r59), .val (.ref r60), .val (.ref r61), .unset, .unset, .unset] [(.ref b47), (.ref b46), (.int (0 : Int32)), (.int (2 : Int32)), (.ref r60)]))
            refine own_back (fun t_ q_ => XS.aload X63.here hx rfl (hb hby at_163) rfl rfl q_) ?_
            show own_Gl _ _ _ _ (T63.setTop (mkF m 165 #[.val (.int sz), .val (.int mo), .val (.int cn), .val (.int bn), .val (.int (Int32.ofNat mN)), .val (.int (Int32.ofNat n)), .val (.ref b44), .val (.ref b46), .val (.ref b47), .val (.ref b48), .val (.int (0 : Int32)), .val (.ref r58), .val (.ref r59), .val (.ref r60), .val (.ref r61), .unset, .unset, .unset] [(.ref b48), (.ref b47), (.ref b46), (.int (0 : Int32)), (.int (2 : Int32)), (.ref r60)]))
            refine own_back (fun t_ q_ => XS.iloadN X63.here hx rfl (hb hby at_165) rfl q_) ?_
            show own_Gl _ _ _ _ (T63.setTop (mkF m 166 #[.val (.int sz), .val (.int mo), .val (.int cn), .val (.int bn), .val (.int (Int32.ofNat mN)), .val (.int (Int32.ofNat n)), .val (.ref b44), .val (.ref b46), .val (.ref b47), .val (.ref b48), .val (.int (0 : Int32)), .val (.ref r58), .val (.ref r59), .val (.ref r60), .val (.ref r61), .unset, .unset, .unset] [(.int bn), (.ref b48), (.ref b47), (.ref b46), (.int (0 : Int32)), (.int (2 : Int32)), (.ref r60)]))
            obtain ⟨_, _, ⟨T64, L64, k64, n64⟩, -, X64, ⟨Lc64, hQ64, l64, y64, z64⟩, st64⟩ := Jvm.LawKit.callS X63 hx (y := (⟨"com/example/thermopylae/thermopylae/http/BufferPoolTakePinLaw", "step", "([BII[B[B[BI)Z"⟩ : MethodName)) hown (mvT hZ (hw _ (List.mem_of_getElem? (i := 81) rfl))) (mvT hZ (hw _ (List.mem_of_getElem? (i := 82) rfl))) (mvT hZ (hw _ (List.mem_of_getElem? (i := 83) rfl))) (mvT hZ (hw _ (List.mem_of_getElem? (i := 84) rfl))) (by decide) (backOf (W := 0) (rm15n l Z a0 hw [] r60 2 0 b46 b47 b48 bn T61.heap n0 Y4 cl60 A60 l60' (by decide) f60_b46 f60_b47 f60_b48) hZ (hw _ (List.mem_of_getElem? (i := 84) rfl)) (hw _ (List.mem_of_getElem? (i := 83) rfl)) (by decide) (by decide)) (g := (mkF m 166 #[.val (.int sz), .val (.int mo), .val (.int cn), .val (.int bn), .val (.int (Int32.ofNat mN)), .val (.int (Int32.ofNat n)), .val (.ref b44), .val (.ref b46), .val (.ref b47), .val (.ref b48), .val (.int (0 : Int32)), .val (.ref r58), .val (.ref r59), .val (.ref r60), .val (.ref r61), .unset, .unset, .unset] [(.int bn), (.ref b48), (.ref b47), (.ref b46), (.int (0 : Int32)), (.int (2 : Int32)), (.ref r60)])) rfl (by rw [hml]; rfl) (argsL := [(.ref r60), (.int (2 : Int32)), (.int (0 : Int32)), (.ref b46), (.ref b47), (.ref b48), (.int bn)]) (rest := []) (lenOf pd_10 rfl) rfl (by show 2 * 0 + _ ≤ _; exact Nat.le_of_eq rfl) (hb hby at_166) (fun _ _ => ⟨rfl, e63, (by decide : 10 + 0 ≤ _), (by decide : 281 + 0 ≤ _)⟩)
            dsimp only [Pt.U, Pt.locs, Pt.cells, Pt.slots] at X64 l64 y64 z64 st64 hQ64
            subst l64 y64 z64
            obtain ⟨rfl, M64, e64⟩ := hQ64
            have N64 := Fr.app N63 M64
            refine own_back st64 ?_
            show own_Gl _ _ _ _ (T64.setTop (mkF m 169 #[.val (.int sz), .val (.int mo), .val (.int cn), .val (.int bn), .val (.int (Int32.ofNat mN)), .val (.int (Int32.ofNat n)), .val (.ref b44), .val (.ref b46), .val (.ref b47), .val (.ref b48), .val (.int (0 : Int32)), .val (.ref r58), .val (.ref r59), .val (.ref r60), .val (.ref r61), .unset, .unset, .unset] [(.int (1 : Int32))]))
            refine own_back (fun t_ q_ => XS.ifNo X64.here hx rfl (hb hby at_169) rfl ((if0 _ _).trans (feq (by decide : ¬ ((1 : Int32) = (0 : Int32)))).1) q_) ?_
            show own_Gl _ _ _ _ (T64.setTop (mkF m 172 #[.val (.int sz), .val (.int mo), .val (.int cn), .val (.int bn), .val (.int (Int32.ofNat mN)), .val (.int (Int32.ofNat n)), .val (.ref b44), .val (.ref b46), .val (.ref b47), .val (.ref b48), .val (.int (0 : Int32)), .val (.ref r58), .val (.ref r59), .val (.ref r60), .val (.ref r61), .unset, .unset, .unset] []))
            refine own_back (fun t_ q_ => XS.aload X64.here hx rfl (hb hby at_172) rfl rfl q_) ?_
            show own_Gl _ _ _ _ (T64.setTop (mkF m 174 #[.val (.int sz), .val (.int mo), .val (.int cn), .val (.int bn), .val (.int (Int32.ofNat mN)), .val (.int (Int32.ofNat n)), .val (.ref b44), .val (.ref b46), .val (.ref b47), .val (.ref b48), .val (.int (0 : Int32)), .val (.ref r58), .val (.ref r59), .val (.ref r60), .val (.ref r61), .unset, .unset, .unset] [(.ref r61)]))
            refine own_back (fun t_ q_ => XS.iconst X64.here hx rfl (hb hby at_174) q_) ?_
            show own_Gl _ _ _ _ (T64.setTop (mkF m 175 #[.val (.int sz), .val (.int mo), .val (.int cn), .val (.int bn), .val (.int (Int32.ofNat mN)), .val (.int (Int32.ofNat n)), .val (.ref b44), .val (.ref b46), .val (.ref b47), .val (.ref b48), .val (.int (0 : Int32)), .val (.ref r58), .val (.ref r59), .val (.ref r60), .val (.ref r61), .unset, .unset, .unset] [(.int (3 : Int32)), (.ref r61)]))
            refine own_back (fun t_ q_ => XS.iload X64.here hx rfl (hb hby at_175) rfl q_) ?_
            show own_Gl _ _ _ _ (T64.setTop (mkF m 177 #[.val (.int sz), .val (.int mo), .val (.int cn), .val (.int bn), .val (.int (Int32.ofNat mN)), .val (.int (Int32.ofNat n)), .val (.ref b44), .val (.ref b46), .val (.ref b47), .val (.ref b48), .val (.int (0 : Int32)), .val (.ref r58), .val (.ref r59), .val (.ref r60), .val (.ref r61), .unset, .unset, .unset] [(.int (0 : Int32)), (.int (3 : Int32)), (.ref r61)]))
            refine own_back (fun t_ q_ => XS.aload X64.here hx rfl (hb hby at_177) rfl rfl q_) ?_
            show own_Gl _ _ _ _ (T64.setTop (mkF m 179 #[.val (.int sz), .val (.int mo), .val (.int cn), .val (.int bn), .val (.int (Int32.ofNat mN)), .val (.int (Int32.ofNat n)), .val (.ref b44), .val (.ref b46), .val (.ref b47), .val (.ref b48), .val (.int (0 : Int32)), .val (.ref r58), .val (.ref r59), .val (.ref r60), .val (.ref r61), .unset, .unset, .unset] [(.ref b46), (.int (0 : Int32)), (.int (3 : Int32)), (.ref r61)]))
            refine own_back (fun t_ q_ => XS.aload X64.here hx rfl (hb hby at_179) rfl rfl q_) ?_
            show own_Gl _ _ _ _ (T64.setTop (mkF m 181 #[.val (.int sz), .val (.int mo), .val (.int cn), .val (.int bn), .val (.int (Int32.ofNat mN)), .val (.int (Int32.ofNat n)), .val (.ref b44), .val (.ref b46), .val (.ref b47), .val (.ref b48), .val (.int (0 : Int32)), .val (.ref r58), .val (.ref r59), .val (.ref r60), .val (.ref r61), .unset, .unset, .unset] [(.ref b47), (.ref b46), (.int (0 : Int32)), (.int (3 : Int32)), (.ref r61)]))
            refine own_back (fun t_ q_ => XS.aload X64.here hx rfl (hb hby at_181) rfl rfl q_) ?_
            show own_Gl _ _ _ _ (T64.setTop (mkF m 183 #[.val (.int sz), .val (.int mo), .val (.int cn), .val (.int bn), .val (.int (Int32.ofNat mN)), .val (.int (Int32.ofNat n)), .val (.ref b44), .val (.ref b46), .val (.ref b47), .val (.ref b48), .val (.int (0 : Int32)), .val (.ref r58), .val (.ref r59), .val (.ref r60), .val (.ref r61), .unset, .unset, .unset] [(.ref b48), (.ref b47), (.ref b46), (.int (0 : Int32)), (.int (3 : Int32)), (.ref r61)]))
            refine own_back (fun t_ q_ => XS.iloadN X64.here hx rfl (hb hby at_183) rfl q_) ?_
            show own_Gl _ _ _ _ (T64.setTop (mkF m 184 #[.val (.int sz), .val (.int mo), .val (.int cn), .val (.int bn), .val (.int (Int32.ofNat mN)), .val (.int (Int32.ofNat n)), .val (.ref b44), .val (.ref b46), .val (.ref b47), .val (.ref b48), .val (.int (0 : Int32)), .val (.ref r58), .val (.ref r59), .val (.ref r60), .val (.ref r61), .unset, .unset, .unset] [(.int bn), (.ref b48), (.ref b47), (.ref b46), (.int (0 : Int32)), (.int (3 : Int32)), (.ref r61)]))
            obtain ⟨_, _, ⟨T65, L65, k65, n65⟩, -, X65, ⟨Lc65, hQ65, l65, y65, z65⟩, st65⟩ := Jvm.LawKit.callS X64 hx (y := (⟨"com/example/thermopylae/thermopylae/http/BufferPoolTakePinLaw", "step", "([BII[B[B[BI)Z"⟩ : MethodName)) hown (mvT hZ (hw _ (List.mem_of_getElem? (i := 81) rfl))) (mvT hZ (hw _ (List.mem_of_getElem? (i := 82) rfl))) (mvT hZ (hw _ (List.mem_of_getElem? (i := 83) rfl))) (mvT hZ (hw _ (List.mem_of_getElem? (i := 84) rfl))) (by decide) (backOf (W := 0) (rm15n l Z a0 hw [] r61 3 0 b46 b47 b48 bn T61.heap n0 Y4 cl61 A61 l61' (by decide) f61_b46 f61_b47 f61_b48) hZ (hw _ (List.mem_of_getElem? (i := 84) rfl)) (hw _ (List.mem_of_getElem? (i := 83) rfl)) (by decide) (by decide)) (g := (mkF m 184 #[.val (.int sz), .val (.int mo), .val (.int cn), .val (.int bn), .val (.int (Int32.ofNat mN)), .val (.int (Int32.ofNat n)), .val (.ref b44), .val (.ref b46), .val (.ref b47), .val (.ref b48), .val (.int (0 : Int32)), .val (.ref r58), .val (.ref r59), .val (.ref r60), .val (.ref r61), .unset, .unset, .unset] [(.int bn), (.ref b48), (.ref b47), (.ref b46), (.int (0 : Int32)), (.int (3 : Int32)), (.ref r61)])) rfl (by rw [hml]; rfl) (argsL := [(.ref r61), (.int (3 : Int32)), (.int (0 : Int32)), (.ref b46), (.ref b47), (.ref b48), (.int bn)]) (rest := []) (lenOf pd_10 rfl) rfl (by show 2 * 0 + _ ≤ _; exact Nat.le_of_eq rfl) (hb hby at_184) (fun _ _ => ⟨rfl, e64, (by decide : 10 + 0 ≤ _), (by decide : 281 + 0 ≤ _)⟩)
            dsimp only [Pt.U, Pt.locs, Pt.cells, Pt.slots] at X65 l65 y65 z65 st65 hQ65
            subst l65 y65 z65
            obtain ⟨rfl, M65, e65⟩ := hQ65
            have N65 := Fr.app N64 M65
            refine own_back st65 ?_
            show own_Gl _ _ _ _ (T65.setTop (mkF m 187 #[.val (.int sz), .val (.int mo), .val (.int cn), .val (.int bn), .val (.int (Int32.ofNat mN)), .val (.int (Int32.ofNat n)), .val (.ref b44), .val (.ref b46), .val (.ref b47), .val (.ref b48), .val (.int (0 : Int32)), .val (.ref r58), .val (.ref r59), .val (.ref r60), .val (.ref r61), .unset, .unset, .unset] [(.int (1 : Int32))]))
            refine own_back (fun t_ q_ => XS.ifNo X65.here hx rfl (hb hby at_187) rfl ((if0 _ _).trans (feq (by decide : ¬ ((1 : Int32) = (0 : Int32)))).1) q_) ?_
            show own_Gl _ _ _ _ (T65.setTop (mkF m 190 #[.val (.int sz), .val (.int mo), .val (.int cn), .val (.int bn), .val (.int (Int32.ofNat mN)), .val (.int (Int32.ofNat n)), .val (.ref b44), .val (.ref b46), .val (.ref b47), .val (.ref b48), .val (.int (0 : Int32)), .val (.ref r58), .val (.ref r59), .val (.ref r60), .val (.ref r61), .unset, .unset, .unset] []))
            refine own_back (fun t_ q_ => XS.iconst X65.here hx rfl (hb hby at_190) q_) ?_
            show own_Gl _ _ _ _ (T65.setTop (mkF m 191 #[.val (.int sz), .val (.int mo), .val (.int cn), .val (.int bn), .val (.int (Int32.ofNat mN)), .val (.int (Int32.ofNat n)), .val (.ref b44), .val (.ref b46), .val (.ref b47), .val (.ref b48), .val (.int (0 : Int32)), .val (.ref r58), .val (.ref r59), .val (.ref r60), .val (.ref r61), .unset, .unset, .unset] [(.int (1 : Int32))]))
            refine own_back (fun t_ q_ => XS.goto X65.here hx rfl (pc0 := 191) (pc' := 195) rfl (hb hby at_191) (by decide) (by decide) q_) ?_
            show own_Gl _ _ _ _ (T65.setTop (mkF m 195 #[.val (.int sz), .val (.int mo), .val (.int cn), .val (.int bn), .val (.int (Int32.ofNat mN)), .val (.int (Int32.ofNat n)), .val (.ref b44), .val (.ref b46), .val (.ref b47), .val (.ref b48), .val (.int (0 : Int32)), .val (.ref r58), .val (.ref r59), .val (.ref r60), .val (.ref r61), .unset, .unset, .unset] [(.int (1 : Int32))]))
            refine own_back (fun t_ q_ => XS.istore X65.here hx rfl (hb hby at_195) rfl (l' := #[.val (.int sz), .val (.int mo), .val (.int cn), .val (.int bn), .val (.int (Int32.ofNat mN)), .val (.int (Int32.ofNat n)), .val (.ref b44), .val (.ref b46), .val (.ref b47), .val (.ref b48), .val (.int (0 : Int32)), .val (.ref r58), .val (.ref r59), .val (.ref r60), .val (.ref r61), .val (.int (1 : Int32)), .unset, .unset]) rfl q_) ?_
            show own_Gl _ _ _ _ (T65.setTop (mkF m 197 #[.val (.int sz), .val (.int mo), .val (.int cn), .val (.int bn), .val (.int (Int32.ofNat mN)), .val (.int (Int32.ofNat n)), .val (.ref b44), .val (.ref b46), .val (.ref b47), .val (.ref b48), .val (.int (0 : Int32)), .val (.ref r58), .val (.ref r59), .val (.ref r60), .val (.ref r61), .val (.int (1 : Int32)), .unset, .unset] []))
            refine own_back (fun t_ q_ => XS.iload X65.here hx rfl (hb hby at_197) rfl q_) ?_
            show own_Gl _ _ _ _ (T65.setTop (mkF m 199 #[.val (.int sz), .val (.int mo), .val (.int cn), .val (.int bn), .val (.int (Int32.ofNat mN)), .val (.int (Int32.ofNat n)), .val (.ref b44), .val (.ref b46), .val (.ref b47), .val (.ref b48), .val (.int (0 : Int32)), .val (.ref r58), .val (.ref r59), .val (.ref r60), .val (.ref r61), .val (.int (1 : Int32)), .unset, .unset] [(.int (1 : Int32))]))
            refine own_back (fun t_ q_ => XS.ifYes X65.here hx rfl (pc0 := 199) (pc' := 204) rfl (hb hby at_199) rfl ((if0 _ _).trans (feq (by decide : ¬ ((1 : Int32) = (0 : Int32)))).2) (by decide) (by decide) q_) ?_
            show own_Gl _ _ _ _ (T65.setTop (mkF m 204 #[.val (.int sz), .val (.int mo), .val (.int cn), .val (.int bn), .val (.int (Int32.ofNat mN)), .val (.int (Int32.ofNat n)), .val (.ref b44), .val (.ref b46), .val (.ref b47), .val (.ref b48), .val (.int (0 : Int32)), .val (.ref r58), .val (.ref r59), .val (.ref r60), .val (.ref r61), .val (.int (1 : Int32)), .unset, .unset] []))
            exact tail53 (T65, T61.heap, r58, r59, r60, r61, (0 : Int32)) ⟨⟨_, X65, N65⟩, e65, ⟨Y4, V4, B61, ⟨lr58, lr59, lr60⟩, f59_r58.symm, f60_r58.symm, f61_r58.symm, f60_r59.symm, f61_r59.symm, f61_r60.symm⟩⟩
          · skip
            rw [h] at Wc ⊢
            have V0 : own_W Z h51 b44 dq es k bn (Int32.ofNat mN) ([b46]) := Wc
            have Y0 := Zc
            show own_Gl _ _ _ _ (T52.setTop (mkF m 90 #[.val (.int sz), .val (.int mo), .val (.int cn), .val (.int bn), .val (.int (Int32.ofNat mN)), .val (.int (Int32.ofNat n)), .val (.ref b44), .val (.ref b46), .val (.ref b47), .val (.ref b48), .val (.int (1 : Int32)), .unset, .unset, .unset, .unset, .unset, .unset, .unset] []))
            obtain ⟨y1, y2, y3, y4, y5⟩ := own_neP (hw _ (List.mem_of_getElem? (i := 1) rfl)) V0
            have la := Xa.lt
            have lb := Xb.lt
            have ld := Xd.lt
            refine own_back (fun t_ q_ => XS.aload X52.here hx rfl (hb hby at_90) rfl rfl q_) ?_
            show own_Gl _ _ _ _ (T52.setTop (mkF m 92 #[.val (.int sz), .val (.int mo), .val (.int cn), .val (.int bn), .val (.int (Int32.ofNat mN)), .val (.int (Int32.ofNat n)), .val (.ref b44), .val (.ref b46), .val (.ref b47), .val (.ref b48), .val (.int (1 : Int32)), .unset, .unset, .unset, .unset, .unset, .unset, .unset] [(.ref b44)]))
            obtain ⟨cq66, kq66, q66a, q66b, q66c⟩ := isOf hZ e52 V0.1
            obtain ⟨_, _, ⟨T66, L66, k66, n66⟩, -, X66, ⟨Lc66, hQ66, l66, y66, z66⟩, st66⟩ := X52.virtualBack hx (y := (⟨"com/example/thermopylae/thermopylae/http/BufferPool", "take", "()[B"⟩ : MethodName)) (z := (⟨"com/example/thermopylae/thermopylae/http/BufferPool", "take", "()[B"⟩ : MethodName)) hown (mvT hZ (hw _ (List.mem_of_getElem? (i := 63) rfl))) (mvT hZ (hw _ (List.mem_of_getElem? (i := 64) rfl))) (notFace_of_selects (args := #[]) (mvT hZ (hw _ (List.mem_of_getElem? (i := 66) rfl)))) (mvT hZ (hw _ (List.mem_of_getElem? (i := 66) rfl))) (mvT hZ (hw _ (List.mem_of_getElem? (i := 65) rfl))) (by decide) (backOf (W := 0) (rm11s l Z a0 hw [] b44 h51 n0 Y0 dq es b46 k bn (Int32.ofNat mN) [] V0 gd ge) hZ (hw _ (List.mem_of_getElem? (i := 67) rfl)) (hw _ (List.mem_of_getElem? (i := 2) rfl)) (by decide) (by decide)) q66a q66c (g := (mkF m 92 #[.val (.int sz), .val (.int mo), .val (.int cn), .val (.int bn), .val (.int (Int32.ofNat mN)), .val (.int (Int32.ofNat n)), .val (.ref b44), .val (.ref b46), .val (.ref b47), .val (.ref b48), .val (.int (1 : Int32)), .unset, .unset, .unset, .unset, .unset, .unset, .unset] [(.ref b44)])) rfl (by rw [hml]; rfl) (Steps.refl _) (argsL := []) (rest := []) (lenOf pd_9 rfl) rfl (by show 2 * 0 + _ ≤ _; exact Nat.le_of_eq rfl) (hb hby at_92) (fun _ _ => ⟨rfl, e52, (by decide : 6 + 1 ≤ _), (by decide : 29 + 63 ≤ _)⟩)
            dsimp only [Pt.U, Pt.locs, Pt.cells, Pt.slots] at X66 l66 y66 z66 st66 hQ66
            subst l66 y66 z66
            obtain ⟨rfl, M66, K66, V66⟩ := hQ66
            have N66 := Fr.app N52 M66
            refine own_trans st66 ?_
            show own_Gl _ _ _ _ (T66.setTop (mkF m 95 #[.val (.int sz), .val (.int mo), .val (.int cn), .val (.int bn), .val (.int (Int32.ofNat mN)), .val (.int (Int32.ofNat n)), .val (.ref b44), .val (.ref b46), .val (.ref b47), .val (.ref b48), .val (.int (1 : Int32)), .unset, .unset, .unset, .unset, .unset, .unset, .unset] [(.ref b46)]))
            have V1 := V66
            have Y1 : n0 ≤ T66.heap.size := Nat.le_trans Y0 K66.1
            have Xa := Xa.keep K66
            have Xb := Xb.keep K66
            have Xd := Xd.keep K66
            have la := Xa.lt
            have lb := Xb.lt
            have ld := Xd.lt
            refine own_back (fun t_ q_ => XS.astore X66.here hx rfl (hb hby at_95) rfl rfl (l' := #[.val (.int sz), .val (.int mo), .val (.int cn), .val (.int bn), .val (.int (Int32.ofNat mN)), .val (.int (Int32.ofNat n)), .val (.ref b44), .val (.ref b46), .val (.ref b47), .val (.ref b48), .val (.int (1 : Int32)), .val (.ref b46), .unset, .unset, .unset, .unset, .unset, .unset]) rfl q_) ?_
            show own_Gl _ _ _ _ (T66.setTop (mkF m 97 #[.val (.int sz), .val (.int mo), .val (.int cn), .val (.int bn), .val (.int (Int32.ofNat mN)), .val (.int (Int32.ofNat n)), .val (.ref b44), .val (.ref b46), .val (.ref b47), .val (.ref b48), .val (.int (1 : Int32)), .val (.ref b46), .unset, .unset, .unset, .unset, .unset, .unset] []))
            refine own_back (fun t_ q_ => XS.aload X66.here hx rfl (hb hby at_97) rfl rfl q_) ?_
            show own_Gl _ _ _ _ (T66.setTop (mkF m 99 #[.val (.int sz), .val (.int mo), .val (.int cn), .val (.int bn), .val (.int (Int32.ofNat mN)), .val (.int (Int32.ofNat n)), .val (.ref b44), .val (.ref b46), .val (.ref b47), .val (.ref b48), .val (.int (1 : Int32)), .val (.ref b46), .unset, .unset, .unset, .unset, .unset, .unset] [(.ref b44)]))
            obtain ⟨cq67, kq67, q67a, q67b, q67c⟩ := isOf hZ rfl V1.1
            obtain ⟨_, _, ⟨T67, L67, k67, n67⟩, -, X67, ⟨Lc67, hQ67, l67, y67, z67⟩, st67⟩ := X66.virtualBack hx (y := (⟨"com/example/thermopylae/thermopylae/http/BufferPool", "take", "()[B"⟩ : MethodName)) (z := (⟨"com/example/thermopylae/thermopylae/http/BufferPool", "take", "()[B"⟩ : MethodName)) hown (mvT hZ (hw _ (List.mem_of_getElem? (i := 63) rfl))) (mvT hZ (hw _ (List.mem_of_getElem? (i := 64) rfl))) (notFace_of_selects (args := #[]) (mvT hZ (hw _ (List.mem_of_getElem? (i := 66) rfl)))) (mvT hZ (hw _ (List.mem_of_getElem? (i := 66) rfl))) (mvT hZ (hw _ (List.mem_of_getElem? (i := 65) rfl))) (by decide) (backOf (W := 0) (rm11 l Z a0 hw [] b44 T66.heap n0 Y1 dq es k bn (Int32.ofNat mN) V1 bn1 bn2) hZ (hw _ (List.mem_of_getElem? (i := 67) rfl)) (hw _ (List.mem_of_getElem? (i := 2) rfl)) (by decide) (by decide)) q67a q67c (g := (mkF m 99 #[.val (.int sz), .val (.int mo), .val (.int cn), .val (.int bn), .val (.int (Int32.ofNat mN)), .val (.int (Int32.ofNat n)), .val (.ref b44), .val (.ref b46), .val (.ref b47), .val (.ref b48), .val (.int (1 : Int32)), .val (.ref b46), .unset, .unset, .unset, .unset, .unset, .unset] [(.ref b44)])) rfl (by rw [hml]; rfl) (Steps.refl _) (argsL := []) (rest := []) (lenOf pd_9 rfl) rfl (by show 2 * 0 + _ ≤ _; exact Nat.le_of_eq rfl) (hb hby at_99) (fun _ _ => ⟨rfl, rfl, (by decide : 7 + 1 ≤ _), (by decide : 92 + 63 ≤ _)⟩)
            dsimp only [Pt.U, Pt.locs, Pt.cells, Pt.slots] at X67 l67 y67 z67 st67 hQ67
            subst l67 y67 z67
            obtain ⟨r67, rfl, M67, K67, G67, B67, V67, cl67, A67, l67'⟩ := hQ67
            have N67 := Fr.app N66 M67
            refine own_trans st67 ?_
            show own_Gl _ _ _ _ (T67.setTop (mkF m 102 #[.val (.int sz), .val (.int mo), .val (.int cn), .val (.int bn), .val (.int (Int32.ofNat mN)), .val (.int (Int32.ofNat n)), .val (.ref b44), .val (.ref b46), .val (.ref b47), .val (.ref b48), .val (.int (1 : Int32)), .val (.ref b46), .unset, .unset, .unset, .unset, .unset, .unset] [(.ref r67)]))
            have V2 := V67
            have Y2 : n0 ≤ T67.heap.size := Nat.le_trans Y1 K67.1
            have Xa := Xa.keep K67
            have Xb := Xb.keep K67
            have Xd := Xd.keep K67
            have f67_b46 : r67 ≠ b46 := Nat.ne_of_gt (Nat.lt_of_lt_of_le la G67)
            have f67_b47 : r67 ≠ b47 := Nat.ne_of_gt (Nat.lt_of_lt_of_le lb G67)
            have f67_b48 : r67 ≠ b48 := Nat.ne_of_gt (Nat.lt_of_lt_of_le ld G67)
            have la := Xa.lt
            have lb := Xb.lt
            have ld := Xd.lt
            have lr67 := B67.lt
            refine own_back (fun t_ q_ => XS.astore X67.here hx rfl (hb hby at_102) rfl rfl (l' := #[.val (.int sz), .val (.int mo), .val (.int cn), .val (.int bn), .val (.int (Int32.ofNat mN)), .val (.int (Int32.ofNat n)), .val (.ref b44), .val (.ref b46), .val (.ref b47), .val (.ref b48), .val (.int (1 : Int32)), .val (.ref b46), .val (.ref r67), .unset, .unset, .unset, .unset, .unset]) rfl q_) ?_
            show own_Gl _ _ _ _ (T67.setTop (mkF m 104 #[.val (.int sz), .val (.int mo), .val (.int cn), .val (.int bn), .val (.int (Int32.ofNat mN)), .val (.int (Int32.ofNat n)), .val (.ref b44), .val (.ref b46), .val (.ref b47), .val (.ref b48), .val (.int (1 : Int32)), .val (.ref b46), .val (.ref r67), .unset, .unset, .unset, .unset, .unset] []))
            refine own_back (fun t_ q_ => XS.aload X67.here hx rfl (hb hby at_104) rfl rfl q_) ?_
            show own_Gl _ _ _ _ (T67.setTop (mkF m 106 #[.val (.int sz), .val (.int mo), .val (.int cn), .val (.int bn), .val (.int (Int32.ofNat mN)), .val (.int (Int32.ofNat n)), .val (.ref b44), .val (.ref b46), .val (.ref b47), .val (.ref b48), .val (.int (1 : Int32)), .val (.ref b46), .val (.ref r67), .unset, .unset, .unset, .unset, .unset] [(.ref b44)]))
            obtain ⟨cq68, kq68, q68a, q68b, q68c⟩ := isOf hZ rfl V2.1
            obtain ⟨_, _, ⟨T68, L68, k68, n68⟩, -, X68, ⟨Lc68, hQ68, l68, y68, z68⟩, st68⟩ := X67.virtualBack hx (y := (⟨"com/example/thermopylae/thermopylae/http/BufferPool", "take", "()[B"⟩ : MethodName)) (z := (⟨"com/example/thermopylae/thermopylae/http/BufferPool", "take", "()[B"⟩ : MethodName)) hown (mvT hZ (hw _ (List.mem_of_getElem? (i := 63) rfl))) (mvT hZ (hw _ (List.mem_of_getElem? (i := 64) rfl))) (notFace_of_selects (args := #[]) (mvT hZ (hw _ (List.mem_of_getElem? (i := 66) rfl)))) (mvT hZ (hw _ (List.mem_of_getElem? (i := 66) rfl))) (mvT hZ (hw _ (List.mem_of_getElem? (i := 65) rfl))) (by decide) (backOf (W := 0) (rm11 l Z a0 hw [] b44 T67.heap n0 Y2 dq es k bn (Int32.ofNat mN) V2 bn1 bn2) hZ (hw _ (List.mem_of_getElem? (i := 67) rfl)) (hw _ (List.mem_of_getElem? (i := 2) rfl)) (by decide) (by decide)) q68a q68c (g := (mkF m 106 #[.val (.int sz), .val (.int mo), .val (.int cn), .val (.int bn), .val (.int (Int32.ofNat mN)), .val (.int (Int32.ofNat n)), .val (.ref b44), .val (.ref b46), .val (.ref b47), .val (.ref b48), .val (.int (1 : Int32)), .val (.ref b46), .val (.ref r67), .unset, .unset, .unset, .unset, .unset] [(.ref b44)])) rfl (by rw [hml]; rfl) (Steps.refl _) (argsL := []) (rest := []) (lenOf pd_9 rfl) rfl (by show 2 * 0 + _ ≤ _; exact Nat.le_of_eq rfl) (hb hby at_106) (fun _ _ => ⟨rfl, rfl, (by decide : 8 + 1 ≤ _), (by decide : 155 + 63 ≤ _)⟩)
            dsimp only [Pt.U, Pt.locs, Pt.cells, Pt.slots] at X68 l68 y68 z68 st68 hQ68
            subst l68 y68 z68
            obtain ⟨r68, rfl, M68, K68, G68, B68, V68, cl68, A68, l68'⟩ := hQ68
            have N68 := Fr.app N67 M68
            refine own_trans st68 ?_
            show own_Gl _ _ _ _ (T68.setTop (mkF m 109 #[.val (.int sz), .val (.int mo), .val (.int cn), .val (.int bn), .val (.int (Int32.ofNat mN)), .val (.int (Int32.ofNat n)), .val (.ref b44), .val (.ref b46), .val (.ref b47), .val (.ref b48), .val (.int (1 : Int32)), .val (.ref b46), .val (.ref r67), .unset, .unset, .unset, .unset, .unset] [(.ref r68)]))
            have V3 := V68
            have Y3 : n0 ≤ T68.heap.size := Nat.le_trans Y2 K68.1
            have Xa := Xa.keep K68
            have Xb := Xb.keep K68
            have Xd := Xd.keep K68
            have B67 := B67.keep K68
            have A67 : Arr Z T68.heap r67 cl67 .byte := ⟨K68.2.1 _ _ A67.1 nin0, A67.2⟩
            have f68_b46 : r68 ≠ b46 := Nat.ne_of_gt (Nat.lt_of_lt_of_le la G68)
            have f68_b47 : r68 ≠ b47 := Nat.ne_of_gt (Nat.lt_of_lt_of_le lb G68)
            have f68_b48 : r68 ≠ b48 := Nat.ne_of_gt (Nat.lt_of_lt_of_le ld G68)
            have f68_r67 : r68 ≠ r67 := Nat.ne_of_gt (Nat.lt_of_lt_of_le lr67 G68)
            have la := Xa.lt
            have lb := Xb.lt
            have ld := Xd.lt
            have lr67 := B67.lt
            have lr68 := B68.lt
            refine own_back (fun t_ q_ => XS.astore X68.here hx rfl (hb hby at_109) rfl rfl (l' := #[.val (.int sz), .val (.int mo), .val (.int cn), .val (.int bn), .val (.int (Int32.ofNat mN)), .val (.int (Int32.ofNat n)), .val (.ref b44), .val (.ref b46), .val (.ref b47), .val (.ref b48), .val (.int (1 : Int32)), .val (.ref b46), .val (.ref r67), .val (.ref r68), .unset, .unset, .unset, .unset]) rfl q_) ?_
            show own_Gl _ _ _ _ (T68.setTop (mkF m 111 #[.val (.int sz), .val (.int mo), .val (.int cn), .val (.int bn), .val (.int (Int32.ofNat mN)), .val (.int (Int32.ofNat n)), .val (.ref b44), .val (.ref b46), .val (.ref b47), .val (.ref b48), .val (.int (1 : Int32)), .val (.ref b46), .val (.ref r67), .val (.ref r68), .unset, .unset, .unset, .unset] []))
            refine own_back (fun t_ q_ => XS.aload X68.here hx rfl (hb hby at_111) rfl rfl q_) ?_
            show own_Gl _ _ _ _ (T68.setTop (mkF m 113 #[.val (.int sz), .val (.int mo), .val (.int cn), .val (.int bn), .val (.int (Int32.ofNat mN)), .val (.int (Int32.ofNat n)), .val (.ref b44), .val (.ref b46), .val (.ref b47), .val (.ref b48), .val (.int (1 : Int32)), .val (.ref b46), .val (.ref r67), .val (.ref r68), .unset, .unset, .unset, .unset] [(.ref b44)]))
            obtain ⟨cq69, kq69, q69a, q69b, q69c⟩ := isOf hZ rfl V3.1
            obtain ⟨_, _, ⟨T69, L69, k69, n69⟩, -, X69, ⟨Lc69, hQ69, l69, y69, z69⟩, st69⟩ := X68.virtualBack hx (y := (⟨"com/example/thermopylae/thermopylae/http/BufferPool", "take", "()[B"⟩ : MethodName)) (z := (⟨"com/example/thermopylae/thermopylae/http/BufferPool", "take", "()[B"⟩ : MethodName)) hown (mvT hZ (hw _ (List.mem_of_getElem? (i := 63) rfl))) (mvT hZ (hw _ (List.mem_of_getElem? (i := 64) rfl))) (notFace_of_selects (args := #[]) (mvT hZ (hw _ (List.mem_of_getElem? (i := 66) rfl)))) (mvT hZ (hw _ (List.mem_of_getElem? (i := 66) rfl))) (mvT hZ (hw _ (List.mem_of_getElem? (i := 65) rfl))) (by decide) (backOf (W := 0) (rm11 l Z a0 hw [] b44 T68.heap n0 Y3 dq es k bn (Int32.ofNat mN) V3 bn1 bn2) hZ (hw _ (List.mem_of_getElem? (i := 67) rfl)) (hw _ (List.mem_of_getElem? (i := 2) rfl)) (by decide) (by decide)) q69a q69c (g := (mkF m 113 #[.val (.int sz), .val (.int mo), .val (.int cn), .val (.int bn), .val (.int (Int32.ofNat mN)), .val (.int (Int32.ofNat n)), .val (.ref b44), .val (.ref b46), .val (.ref b47), .val (.ref b48), .val (.int (1 : Int32)), .val (.ref b46), .val (.ref r67), .val (.ref r68), .unset, .unset, .unset, .unset] [(.ref b44)])) rfl (by rw [hml]; rfl) (Steps.refl _) (argsL := []) (rest := []) (lenOf pd_9 rfl) rfl (by show 2 * 0 + _ ≤ _; exact Nat.le_of_eq rfl) (hb hby at_113) (fun _ _ => ⟨rfl, rfl, (by decide : 9 + 1 ≤ _), (by decide : 218 + 63 ≤ _)⟩)
            dsimp only [Pt.U, Pt.locs, Pt.cells, Pt.slots] at X69 l69 y69 z69 st69 hQ69
            subst l69 y69 z69
            obtain ⟨r69, rfl, M69, K69, G69, B69, V69, cl69, A69, l69'⟩ := hQ69
            have N69 := Fr.app N68 M69
            refine own_trans st69 ?_
            show own_Gl _ _ _ _ (T69.setTop (mkF m 116 #[.val (.int sz), .val (.int mo), .val (.int cn), .val (.int bn), .val (.int (Int32.ofNat mN)), .val (.int (Int32.ofNat n)), .val (.ref b44), .val (.ref b46), .val (.ref b47), .val (.ref b48), .val (.int (1 : Int32)), .val (.ref b46), .val (.ref r67), .val (.ref r68), .unset, .unset, .unset, .unset] [(.ref r69)]))
            have V4 := V69
            have Y4 : n0 ≤ T69.heap.size := Nat.le_trans Y3 K69.1
            have Xa := Xa.keep K69
            have Xb := Xb.keep K69
            have Xd := Xd.keep K69
            have B67 := B67.keep K69
            have A67 : Arr Z T69.heap r67 cl67 .byte := ⟨K69.2.1 _ _ A67.1 nin0, A67.2⟩
            have B68 := B68.keep K69
            have A68 : Arr Z T69.heap r68 cl68 .byte := ⟨K69.2.1 _ _ A68.1 nin0, A68.2⟩
            have f69_b46 : r69 ≠ b46 := Nat.ne_of_gt (Nat.lt_of_lt_of_le la G69)
            have f69_b47 : r69 ≠ b47 := Nat.ne_of_gt (Nat.lt_of_lt_of_le lb G69)
            have f69_b48 : r69 ≠ b48 := Nat.ne_of_gt (Nat.lt_of_lt_of_le ld G69)
            have f69_r67 : r69 ≠ r67 := Nat.ne_of_gt (Nat.lt_of_lt_of_le lr67 G69)
            have f69_r68 : r69 ≠ r68 := Nat.ne_of_gt (Nat.lt_of_lt_of_le lr68 G69)
            have la := Xa.lt
            have lb := Xb.lt
            have ld := Xd.lt
            have lr67 := B67.lt
            have lr68 := B68.lt
            have lr69 := B69.lt
            refine own_back (fun t_ q_ => XS.astore X69.here hx rfl (hb hby at_116) rfl rfl (l' := #[.val (.int sz), .val (.int mo), .val (.int cn), .val (.int bn), .val (.int (Int32.ofNat mN)), .val (.int (Int32.ofNat n)), .val (.ref b44), .val (.ref b46), .val (.ref b47), .val (.ref b48), .val (.int (1 : Int32)), .val (.ref b46), .val (.ref r67), .val (.ref r68), .val (.ref r69), .unset, .unset, .unset]) rfl q_) ?_
            show own_Gl _ _ _ _ (T69.setTop (mkF m 118 #[.val (.int sz), .val (.int mo), .val (.int cn), .val (.int bn), .val (.int (Int32.ofNat mN)), .val (.int (Int32.ofNat n)), .val (.ref b44), .val (.ref b46), .val (.ref b47), .val (.ref b48), .val (.int (1 : Int32)), .val (.ref b46), .val (.ref r67), .val (.ref r68), .val (.ref r69), .unset, .unset, .unset] []))
            refine own_back (fun t_ q_ => XS.aload X69.here hx rfl (hb hby at_118) rfl rfl q_) ?_
            show own_Gl _ _ _ _ (T69.setTop (mkF m 120 #[.val (.int sz), .val (.int mo), .val (.int cn), .val (.int bn), .val (.int (Int32.ofNat mN)), .val (.int (Int32.ofNat n)), .val (.ref b44), .val (.ref b46), .val (.ref b47), .val (.ref b48), .val (.int (1 : Int32)), .val (.ref b46), .val (.ref r67), .val (.ref r68), .val (.ref r69), .unset, .unset, .unset] [(.ref b46)]))
            refine own_back (fun t_ q_ => XS.iconst X69.here hx rfl (hb hby at_120) q_) ?_
            show own_Gl _ _ _ _ (T69.setTop (mkF m 121 #[.val (.int sz), .val (.int mo), .val (.int cn), .val (.int bn), .val (.int (Int32.ofNat mN)), .val (.int (Int32.ofNat n)), .val (.ref b44), .val (.ref b46), .val (.ref b47), .val (.ref b48), .val (.int (1 : Int32)), .val (.ref b46), .val (.ref r67), .val (.ref r68), .val (.ref r69), .unset, .unset, .unset] [(.int (0 : Int32)), (.ref b46)]))
            refine own_back (fun t_ q_ => XS.iload X69.here hx rfl (hb hby at_121) rfl q_) ?_
            show own_Gl _ _ _ _ (T69.setTop (mkF m 123 #[.val (.int sz), .val (.int mo), .val (.int cn), .val (.int bn), .val (.int (Int32.ofNat mN)), .val (.int (Int32.ofNat n)), .val (.ref b44), .val (.ref b46), .val (.ref b47), .val (.ref b48), .val (.int (1 : Int32)), .val (.ref b46), .val (.ref r67), .val (.ref r68), .val (.ref r69), .unset, .unset, .unset] [(.int (1 : Int32)), (.int (0 : Int32)), (.ref b46)]))
            refine own_back (fun t_ q_ => XS.aload X69.here hx rfl (hb hby at_123) rfl rfl q_) ?_
            show own_Gl _ _ _ _ (T69.setTop (mkF m 125 #[.val (.int sz), .val (.int mo), .val (.int cn), .val (.int bn), .val (.int (Int32.ofNat mN)), .val (.int (Int32.ofNat n)), .val (.ref b44), .val (.ref b46), .val (.ref b47), .val (.ref b48), .val (.int (1 : Int32)), .val (.ref b46), .val (.ref r67), .val (.ref r68), .val (.ref r69), .unset, .unset, .unset] [(.ref b46), (.int (1 : Int32)), (.int (0 : Int32)), (.ref b46)]))
            refine own_back (fun t_ q_ => XS.aload X69.here hx rfl (hb hby at_125) rfl rfl q_) ?_
            show own_Gl _ _ _ _ (T69.setTop (mkF m 127 #[.val (.int sz), .val (.int mo), .val (.int cn), .val (.int bn), .val (.int (Int32.ofNat mN)), .val (.int (Int32.ofNat n)), .val (.ref b44), .val (.ref b46), .val (.ref b47), .val (.ref b48), .val (.int (1 : Int32)), .val (.ref b46), .val (.ref r67), .val (.ref r68), .val (.ref r69), .unset, .unset, .unset] [(.ref b47), (.ref b46), (.int (1 : Int32)), (.int (0 : Int32)), (.ref b46)]))
            refine own_back (fun t_ q_ => XS.aload X69.here hx rfl (hb hby at_127) rfl rfl q_) ?_
            show own_Gl _ _ _ _ (T69.setTop (mkF m 129 #[.val (.int sz), .val (.int mo), .val (.int cn), .val (.int bn), .val (.int (Int32.ofNat mN)), .val (.int (Int32.ofNat n)), .val (.ref b44), .val (.ref b46), .val (.ref b47), .val (.ref b48), .val (.int (1 : Int32)), .val (.ref b46), .val (.ref r67), .val (.ref r68), .val (.ref r69), .unset, .unset, .unset] [(.ref b48), (.ref b47), (.ref b46), (.int (1 : Int32)), (.int (0 : Int32)), (.ref b46)]))
            refine own_back (fun t_ q_ => XS.iloadN X69.here hx rfl (hb hby at_129) rfl q_) ?_
            show own_Gl _ _ _ _ (T69.setTop (mkF m 130 #[.val (.int sz), .val (.int mo), .val (.int cn), .val (.int bn), .val (.int (Int32.ofNat mN)), .val (.int (Int32.ofNat n)), .val (.ref b44), .val (.ref b46), .val (.ref b47), .val (.ref b48), .val (.int (1 : Int32)), .val (.ref b46), .val (.ref r67), .val (.ref r68), .val (.ref r69), .unset, .unset, .unset] [(.int bn), (.ref b48), (.ref b47), (.ref b46), (.int (1 : Int32)), (.int (0 : Int32)), (.ref b46)]))
            obtain ⟨_, _, ⟨T70, L70, k70, n70⟩, -, X70, ⟨Lc70, hQ70, l70, y70, z70⟩, st70⟩ := Jvm.LawKit.callS X69 hx (y := (⟨"com/example/thermopylae/thermopylae/http/BufferPoolTakePinLaw", "step", "([BII[B[B[BI)Z"⟩ : MethodName)) hown (mvT hZ (hw _ (List.mem_of_getElem? (i := 81) rfl))) (mvT hZ (hw _ (List.mem_of_getElem? (i := 82) rfl))) (mvT hZ (hw _ (List.mem_of_getElem? (i := 83) rfl))) (mvT hZ (hw _ (List.mem_of_getElem? (i := 84) rfl))) (by decide) (backOf (W := 0) (rm15 l Z a0 hw [] b46 0 1 b46 b47 b48 bn T69.heap n0 Y4 (by decide) (Or.inl ⟨by decide, rfl⟩)) hZ (hw _ (List.mem_of_getElem? (i := 84) rfl)) (hw _ (List.mem_of_getElem? (i := 83) rfl)) (by decide) (by decide)) (g := (mkF m 130 #[.val (.int sz), .val (.int mo), .val (.int cn), .val (.int bn), .val (.int (Int32.ofNat mN)), .val (.int (Int32.ofNat n)), .val (.ref b44), .val (.ref b46), .val (.ref b47), .val (.ref b48), .val (.int (1 : Int32)), .val (.ref b46), .val (.ref r67), .val (.ref r68), .val (.ref r69), .unset, .unset, .unset] [(.int bn), (.ref b48), (.ref b47), (.ref b46), (.int (1 : Int32)), (.int (0 : Int32)), (.ref b46)])) rfl (by rw [hml]; rfl) (argsL := [(.ref b46), (.int (0 : Int32)), (.int (1 : Int32)), (.ref b46), (.ref b47), (.ref b48), (.int bn)]) (rest := []) (lenOf pd_10 rfl) rfl (by show 2 * 0 + _ ≤ _; exact Nat.le_of_eq rfl) (hb hby at_130) (fun _ _ => ⟨rfl, rfl, (by decide : 10 + 0 ≤ _), (by decide : 281 + 0 ≤ _)⟩)
            dsimp only [Pt.U, Pt.locs, Pt.cells, Pt.slots] at X70 l70 y70 z70 st70 hQ70
            subst l70 y70 z70
            obtain ⟨rfl, M70, e70⟩ := hQ70
            have N70 := Fr.app N69 M70
            refine own_back st70 ?_
            show own_Gl _ _ _ _ (T70.setTop (mkF m 133 #[.val (.int sz), .val (.int mo), .val (.int cn), .val (.int bn), .val (.int (Int32.ofNat mN)), .val (.int (Int32.ofNat n)), .val (.ref b44), .val (.ref b46), .val (.ref b47), .val (.ref b48), .val (.int (1 : Int32)), .val (.ref b46), .val (.ref r67), .val (.ref r68), .val (.ref r69), .unset, .unset, .unset] [(.int (1 : Int32))]))
            refine own_back (fun t_ q_ => XS.ifNo X70.here hx rfl (hb hby at_133) rfl ((if0 _ _).trans (feq (by decide : ¬ ((1 : Int32) = (0 : Int32)))).1) q_) ?_
            show own_Gl _ _ _ _ (T70.setTop (mkF m 136 #[.val (.int sz), .val (.int mo), .val (.int cn), .val (.int bn), .val (.int (Int32.ofNat mN)), .val (.int (Int32.ofNat n)), .val (.ref b44), .val (.ref b46), .val (.ref b47), .val (.ref b48), .val (.int (1 : Int32)), .val (.ref b46), .val (.ref r67), .val (.ref r68), .val (.ref r69), .unset, .unset, .unset] []))
            refine own_back (fun t_ q_ => XS.aload X70.here hx rfl (hb hby at_136) rfl rfl q_) ?_
            show own_Gl _ _ _ _ (T70.setTop (mkF m 138 #[.val (.int sz), .val (.int mo), .val (.int cn), .val (.int bn), .val (.int (Int32.ofNat mN)), .val (.int (Int32.ofNat n)), .val (.ref b44), .val (.ref b46), .val (.ref b47), .val (.ref b48), .val (.int (1 : Int32)), .val (.ref b46), .val (.ref r67), .val (.ref r68), .val (.ref r69), .unset, .unset, .unset] [(.ref r67)]))
            refine own_back (fun t_ q_ => XS.iconst X70.here hx rfl (hb hby at_138) q_) ?_
            show own_Gl _ _ _ _ (T70.setTop (mkF m 139 #[.val (.int sz), .val (.int mo), .val (.int cn), .val (.int bn), .val (.int (Int32.ofNat mN)), .val (.int (Int32.ofNat n)), .val (.ref b44), .val (.ref b46), .val (.ref b47), .val (.ref b48), .val (.int (1 : Int32)), .val (.ref b46), .val (.ref r67), .val (.ref r68), .val (.ref r69), .unset, .unset, .unset] [(.int (1 : Int32)), (.ref r67)]))
            refine own_back (fun t_ q_ => XS.iload X70.here hx rfl (hb hby at_139) rfl q_) ?_
            show own_Gl _ _ _ _ (T70.setTop (mkF m 141 #[.val (.int sz), .val (.int mo), .val (.int cn), .val (.int bn), .val (.int (Int32.ofNat mN)), .val (.int (Int32.ofNat n)), .val (.ref b44), .val (.ref b46), .val (.ref b47), .val (.ref b48), .val (.int (1 : Int32)), .val (.ref b46), .val (.ref r67), .val (.ref r68), .val (.ref r69), .unset, .unset, .unset] [(.int (1 : Int32)), (.int (1 : Int32)), (.ref r67)]))
            refine own_back (fun t_ q_ => XS.aload X70.here hx rfl (hb hby at_141) rfl rfl q_) ?_
            show own_Gl _ _ _ _ (T70.setTop (mkF m 143 #[.val (.int sz), .val (.int mo), .val (.int cn), .val (.int bn), .val (.int (Int32.ofNat mN)), .val (.int (Int32.ofNat n)), .val (.ref b44), .val (.ref b46), .val (.ref b47), .val (.ref b48), .val (.int (1 : Int32)), .val (.ref b46), .val (.ref r67), .val (.ref r68), .val (.ref r69), .unset, .unset, .unset] [(.ref b46), (.int (1 : Int32)), (.int (1 : Int32)), (.ref r67)]))
            refine own_back (fun t_ q_ => XS.aload X70.here hx rfl (hb hby at_143) rfl rfl q_) ?_
            show own_Gl _ _ _ _ (T70.setTop (mkF m 145 #[.val (.int sz), .val (.int mo), .val (.int cn), .val (.int bn), .val (.int (Int32.ofNat mN)), .val (.int (Int32.ofNat n)), .val (.ref b44), .val (.ref b46), .val (.ref b47), .val (.ref b48), .val (.int (1 : Int32)), .val (.ref b46), .val (.ref r67), .val (.ref r68), .val (.ref r69), .unset, .unset, .unset] [(.ref b47), (.ref b46), (.int (1 : Int32)), (.int (1 : Int32)), (.ref r67)]))
            refine own_back (fun t_ q_ => XS.aload X70.here hx rfl (hb hby at_145) rfl rfl q_) ?_
            show own_Gl _ _ _ _ (T70.setTop (mkF m 147 #[.val (.int sz), .val (.int mo), .val (.int cn), .val (.int bn), .val (.int (Int32.ofNat mN)), .val (.int (Int32.ofNat n)), .val (.ref b44), .val (.ref b46), .val (.ref b47), .val (.ref b48), .val (.int (1 : Int32)), .val (.ref b46), .val (.ref r67), .val (.ref r68), .val (.ref r69), .unset, .unset, .unset] [(.ref b48), (.ref b47), (.ref b46), (.int (1 : Int32)), (.int (1 : Int32)), (.ref r67)]))
            refine own_back (fun t_ q_ => XS.iloadN X70.here hx rfl (hb hby at_147) rfl q_) ?_
            show own_Gl _ _ _ _ (T70.setTop (mkF m 148 #[.val (.int sz), .val (.int mo), .val (.int cn), .val (.int bn), .val (.int (Int32.ofNat mN)), .val (.int (Int32.ofNat n)), .val (.ref b44), .val (.ref b46), .val (.ref b47), .val (.ref b48), .val (.int (1 : Int32)), .val (.ref b46), .val (.ref r67), .val (.ref r68), .val (.ref r69), .unset, .unset, .unset] [(.int bn), (.ref b48), (.ref b47), (.ref b46), (.int (1 : Int32)), (.int (1 : Int32)), (.ref r67)]))
            obtain ⟨_, _, ⟨T71, L71, k71, n71⟩, -, X71, ⟨Lc71, hQ71, l71, y71, z71⟩, st71⟩ := Jvm.LawKit.callS X70 hx (y := (⟨"com/example/thermopylae/thermopylae/http/BufferPoolTakePinLaw", "step", "([BII[B[B[BI)Z"⟩ : MethodName)) hown (mvT hZ (hw _ (List.mem_of_getElem? (i := 81) rfl))) (mvT hZ (hw _ (List.mem_of_getElem? (i := 82) rfl))) (mvT hZ (hw _ (List.mem_of_getElem? (i := 83) rfl))) (mvT hZ (hw _ (List.mem_of_getElem? (i := 84) rfl))) (by decide) (backOf (W := 0) (rm15n l Z a0 hw [] r67 1 1 b46 b47 b48 bn T69.heap n0 Y4 cl67 A67 l67' (by decide) f67_b46 f67_b47 f67_b48) hZ (hw _ (List.mem_of_getElem? (i := 84) rfl)) (hw _ (List.mem_of_getElem? (i := 83) rfl)) (by decide) (by decide)) (g := (mkF m 148 #[.val (.int sz), .val (.int mo), .val (.int cn), .val (.int bn), .val (.int (Int32.ofNat mN)), .val (.int (Int32.ofNat n)), .val (.ref b44), .val (.ref b46), .val (.ref b47), .val (.ref b48), .val (.int (1 : Int32)), .val (.ref b46), .val (.ref r67), .val (.ref r68), .val (.ref r69), .unset, .unset, .unset] [(.int bn), (.ref b48), (.ref b47), (.ref b46), (.int (1 : Int32)), (.int (1 : Int32)), (.ref r67)])) rfl (by rw [hml]; rfl) (argsL := [(.ref r67), (.int (1 : Int32)), (.int (1 : Int32)), (.ref b46), (.ref b47), (.ref b48), (.int bn)]) (rest := []) (lenOf pd_10 rfl) rfl (by show 2 * 0 + _ ≤ _; exact Nat.le_of_eq rfl) (hb hby at_148) (fun _ _ => ⟨rfl, e70, (by decide : 10 + 0 ≤ _), (by decide : 281 + 0 ≤ _)⟩)
            dsimp only [Pt.U, Pt.locs, Pt.cells, Pt.slots] at X71 l71 y71 z71 st71 hQ71
            subst l71 y71 z71
            obtain ⟨rfl, M71, e71⟩ := hQ71
            have N71 := Fr.app N70 M71
            refine own_back st71 ?_
            show own_Gl _ _ _ _ (T71.setTop (mkF m 151 #[.val (.int sz), .val (.int mo), .val (.int cn), .val (.int bn), .val (.int (Int32.ofNat mN)), .val (.int (Int32.ofNat n)), .val (.ref b44), .val (.ref b46), .val (.ref b47), .val (.ref b48), .val (.int (1 : Int32)), .val (.ref b46), .val (.ref r67), .val (.ref r68), .val (.ref r69), .unset, .unset, .unset] [(.int (1 : Int32))]))
            refine own_back (fun t_ q_ => XS.ifNo X71.here hx rfl (hb hby at_151) rfl ((if0 _ _).trans (feq (by decide : ¬ ((1 : Int32) = (0 : Int32)))).1) q_) ?_
            show own_Gl _ _ _ _ (T71.setTop (mkF m 154 #[.val (.int sz), .val (.int mo), .val (.int cn), .val (.int bn), .val (.int (Int32.ofNat mN)), .val (.int (Int32.ofNat n)), .val (.ref b44), .val (.ref b46), .val (.ref b47), .val (.ref b48), .val (.int (1 : Int32)), .val (.ref b46), .val (.ref r67), .val (.ref r68), .val (.ref r69), .unset, .unset, .unset] []))
            refine own_back (fun t_ q_ => XS.aload X71.here hx rfl (hb hby at_154) rfl rfl q_) ?_
            show own_Gl _ _ _ _ (T71.setTop (mkF m 156 #[.val (.int sz), .val (.int mo), .val (.int cn), .val (.int bn), .val (.int (Int32.ofNat mN)), .val (.int (Int32.ofNat n)), .val (.ref b44), .val (.ref b46), .val (.ref b47), .val (.ref b48), .val (.int (1 : Int32)), .val (.ref b46), .val (.ref r67), .val (.ref r68), .val (.ref r69), .unset, .unset, .unset] [(.ref r68)]))
            refine own_back (fun t_ q_ => XS.iconst X71.here hx rfl (hb hby at_156) q_) ?_
            show own_Gl _ _ _ _ (T71.setTop (mkF m 157 #[.val (.int sz), .val (.int mo), .val (.int cn), .val (.int bn), .val (.int (Int32.ofNat mN)), .val (.int (Int32.ofNat n)), .val (.ref b44), .val (.ref b46), .val (.ref b47), .val (.ref b48), .val (.int (1 : Int32)), .val (.ref b46), .val (.ref r67), .val (.ref r68), .val (.ref r69), .unset, .unset, .unset] [(.int (2 : Int32)), (.ref r68)]))
            refine own_back (fun t_ q_ => XS.iload X71.here hx rfl (hb hby at_157) rfl q_) ?_
            show own_Gl _ _ _ _ (T71.setTop (mkF m 159 #[.val (.int sz), .val (.int mo), .val (.int cn), .val (.int bn), .val (.int (Int32.ofNat mN)), .val (.int (Int32.ofNat n)), .val (.ref b44), .val (.ref b46), .val (.ref b47), .val (.ref b48), .val (.int (1 : Int32)), .val (.ref b46), .val (.ref r67), .val (.ref r68), .val (.ref r69), .unset, .unset, .unset] [(.int (1 : Int32)), (.int (2 : Int32)), (.ref r68)]))
            refine own_back (fun t_ q_ => XS.aload X71.here hx rfl (hb hby at_159) rfl rfl q_) ?_
            show own_Gl _ _ _ _ (T71.setTop (mkF m 161 #[.val (.int sz), .val (.int mo), .val (.int cn), .val (.int bn), .val (.int (Int32.ofNat mN)), .val (.int (Int32.ofNat n)), .val (.ref b44), .val (.ref b46), .val (.ref b47), .val (.ref b48), .val (.int (1 : Int32)), .val (.ref b46), .val (.ref r67), .val (.ref r68), .val (.ref r69), .unset, .unset, .unset] [(.ref b46), (.int (1 : Int32)), (.int (2 : Int32)), (.ref r68)]))
            refine own_back (fun t_ q_ => XS.aload X71.here hx rfl (hb hby at_161) rfl rfl q_) ?_
            show own_Gl _ _ _ _ (T71.setTop (mkF m 163 #[.val (.int sz), .val (.int mo), .val (.int cn), .val (.int bn), .val (.int (Int32.ofNat mN)), .val (.int (Int32.ofNat n)), .val (.ref b44), .val (.ref b46), .val (.ref b47), .val (.ref b48), .val (.int (1 : Int32)), .val (.ref b46), .val (.ref r67), .val (.ref r68), .val (.ref r69), .unset, .unset, .unset] [(.ref b47), (.ref b46), (.int (1 : Int32)), (.int (2 : Int32)), (.ref r68)]))
            refine own_back (fun t_ q_ => XS.aload X71.here hx rfl (hb hby at_163) rfl rfl q_) ?_
            show own_Gl _ _ _ _ (T71.setTop (mkF m 165 #[.val (.int sz), .val (.int mo), .val (.int cn), .val (.int bn), .val (.int (Int32.ofNat mN)), .val (.int (Int32.ofNat n)), .val (.ref b44), .val (.ref b46), .val (.ref b47), .val (.ref b48), .val (.int (1 : Int32)), .val (.ref b46), .val (.ref r67), .val (.ref r68), .val (.ref r69), .unset, .unset, .unset] [(.ref b48), (.ref b47), (.ref b46), (.int (1 : Int32)), (.int (2 : Int32)), (.ref r68)]))
            refine own_back (fun t_ q_ => XS.iloadN X71.here hx rfl (hb hby at_165) rfl q_) ?_
            show own_Gl _ _ _ _ (T71.setTop (mkF m 166 #[.val (.int sz), .val (.int mo), .val (.int cn), .val (.int bn), .val (.int (Int32.ofNat mN)), .val (.int (Int32.ofNat n)), .val (.ref b44), .val (.ref b46), .val (.ref b47), .val (.ref b48), .val (.int (1 : Int32)), .val (.ref b46), .val (.ref r67), .val (.ref r68), .val (.ref r69), .unset, .unset, .unset] [(.int bn), (.ref b48), (.ref b47), (.ref b46), (.int (1 : Int32)), (.int (2 : Int32)), (.ref r68)]))
            obtain ⟨_, _, ⟨T72, L72, k72, n72⟩, -, X72, ⟨Lc72, hQ72, l72, y72, z72⟩, st72⟩ := Jvm.LawKit.callS X71 hx (y := (⟨"com/example/thermopylae/thermopylae/http/BufferPoolTakePinLaw", "step", "([BII[B[B[BI)Z"⟩ : MethodName)) hown (mvT hZ (hw _ (List.mem_of_getElem? (i := 81) rfl))) (mvT hZ (hw _ (List.mem_of_getElem? (i := 82) rfl))) (mvT hZ (hw _ (List.mem_of_getElem? (i := 83) rfl))) (mvT hZ (hw _ (List.mem_of_getElem? (i := 84) rfl))) (by decide) (backOf (W := 0) (rm15n l Z a0 hw [] r68 2 1 b46 b47 b48 bn T69.heap n0 Y4 cl68 A68 l68' (by decide) f68_b46 f68_b47 f68_b48) hZ (hw _ (List.mem_of_getElem? (i := 84) rfl)) (hw _ (List.mem_of_getElem? (i := 83) rfl)) (by decide) (by decide)) (g := (mkF m 166 #[.val (.int sz), .val (.int mo), .val (.int cn), .val (.int bn), .val (.int (Int32.ofNat mN)), .val (.int (Int32.ofNat n)), .val (.ref b44), .val (.ref b46), .val (.ref b47), .val (.ref b48), .val (.int (1 : Int32)), .val (.ref b46), .val (.ref r67), .val (.ref r68), .val (.ref r69), .unset, .unset, .unset] [(.int bn), (.ref b48), (.ref b47), (.ref b46), (.int (1 : Int32)), (.int (2 : Int32)), (.ref r68)])) rfl (by rw [hml]; rfl) (argsL := [(.ref r68), (.int (2 : Int32)), (.int (1 : Int32)), (.ref b46), (.ref b47), (.ref b48), (.int bn)]) (rest := []) (lenOf pd_10 rfl) rfl (by show 2 * 0 + _ ≤ _; exact Nat.le_of_eq rfl) (hb hby at_166) (fun _ _ => ⟨rfl, e71, (by decide : 10 + 0 ≤ _), (by decide : 281 + 0 ≤ _)⟩)
            dsimp only [Pt.U, Pt.locs, Pt.cells, Pt.slots] at X72 l72 y72 z72 st72 hQ72
            subst l72 y72 z72
            obtain ⟨rfl, M72, e72⟩ := hQ72
            have N72 := Fr.app N71 M72
            refine own_back st72 ?_
            show own_Gl _ _ _ _ (T72.setTop (mkF m 169 #[.val (.int sz), .val (.int mo), .val (.int cn), .val (.int bn), .val (.int (Int32.ofNat mN)), .val (.int (Int32.ofNat n)), .val (.ref b44), .val (.ref b46), .val (.ref b47), .val (.ref b48), .val (.int (1 : Int32)), .val (.ref b46), .val (.ref r67), .val (.ref r68), .val (.ref r69), .unset, .unset, .unset] [(.int (1 : Int32))]))
            refine own_back (fun t_ q_ => XS.ifNo X72.here hx rfl (hb hby at_169) rfl ((if0 _ _).trans (feq (by decide : ¬ ((1 : Int32) = (0 : Int32)))).1) q_) ?_
            show own_Gl _ _ _ _ (T72.setTop (mkF m 172 #[.val (.int sz), .val (.int mo), .val (.int cn), .val (.int bn), .val (.int (Int32.ofNat mN)), .val (.int (Int32.ofNat n)), .val (.ref b44), .val (.ref b46), .val (.ref b47), .val (.ref b48), .val (.int (1 : Int32)), .val (.ref b46), .val (.ref r67), .val (.ref r68), .val (.ref r69), .unset, .unset, .unset] []))
            refine own_back (fun t_ q_ => XS.aload X72.here hx rfl (hb hby at_172) rfl rfl q_) ?_
            show own_Gl _ _ _ _ (T72.setTop (mkF m 174 #[.val (.int sz), .val (.int mo), .val (.int cn), .val (.int bn), .val (.int (Int32.ofNat mN)), .val (.int (Int32.ofNat n)), .val (.ref b44), .val (.ref b46), .val (.ref b47), .val (.ref b48), .val (.int (1 : Int32)), .val (.ref b46), .val (.ref r67), .val (.ref r68), .val (.ref r69), .unset, .unset, .unset] [(.ref r69)]))
            refine own_back (fun t_ q_ => XS.iconst X72.here hx rfl (hb hby at_174) q_) ?_
            show own_Gl _ _ _ _ (T72.setTop (mkF m 175 #[.val (.int sz), .val (.int mo), .val (.int cn), .val (.int bn), .val (.int (Int32.ofNat mN)), .val (.int (Int32.ofNat n)), .val (.ref b44), .val (.ref b46), .val (.ref b47), .val (.ref b48), .val (.int (1 : Int32)), .val (.ref b46), .val (.ref r67), .val (.ref r68), .val (.ref r69), .unset, .unset, .unset] [(.int (3 : Int32)), (.ref r69)]))
            refine own_back (fun t_ q_ => XS.iload X72.here hx rfl (hb hby at_175) rfl q_) ?_
            show own_Gl _ _ _ _ (T72.setTop (mkF m 177 #[.val (.int sz), .val (.int mo), .val (.int cn), .val (.int bn), .val (.int (Int32.ofNat mN)), .val (.int (Int32.ofNat n)), .val (.ref b44), .val (.ref b46), .val (.ref b47), .val (.ref b48), .val (.int (1 : Int32)), .val (.ref b46), .val (.ref r67), .val (.ref r68), .val (.ref r69), .unset, .unset, .unset] [(.int (1 : Int32)), (.int (3 : Int32)), (.ref r69)]))
            refine own_back (fun t_ q_ => XS.aload X72.here hx rfl (hb hby at_177) rfl rfl q_) ?_
            show own_Gl _ _ _ _ (T72.setTop (mkF m 179 #[.val (.int sz), .val (.int mo), .val (.int cn), .val (.int bn), .val (.int (Int32.ofNat mN)), .val (.int (Int32.ofNat n)), .val (.ref b44), .val (.ref b46), .val (.ref b47), .val (.ref b48), .val (.int (1 : Int32)), .val (.ref b46), .val (.ref r67), .val (.ref r68), .val (.ref r69), .unset, .unset, .unset] [(.ref b46), (.int (1 : Int32)), (.int (3 : Int32)), (.ref r69)]))
            refine own_back (fun t_ q_ => XS.aload X72.here hx rfl (hb hby at_179) rfl rfl q_) ?_
            show own_Gl _ _ _ _ (T72.setTop (mkF m 181 #[.val (.int sz), .val (.int mo), .val (.int cn), .val (.int bn), .val (.int (Int32.ofNat mN)), .val (.int (Int32.ofNat n)), .val (.ref b44), .val (.ref b46), .val (.ref b47), .val (.ref b48), .val (.int (1 : Int32)), .val (.ref b46), .val (.ref r67), .val (.ref r68), .val (.ref r69), .unset, .unset, .unset] [(.ref b47), (.ref b46), (.int (1 : Int32)), (.int (3 : Int32)), (.ref r69)]))
            refine own_back (fun t_ q_ => XS.aload X72.here hx rfl (hb hby at_181) rfl rfl q_) ?_
            show own_Gl _ _ _ _ (T72.setTop (mkF m 183 #[.val (.int sz), .val (.int mo), .val (.int cn), .val (.int bn), .val (.int (Int32.ofNat mN)), .val (.int (Int32.ofNat n)), .val (.ref b44), .val (.ref b46), .val (.ref b47), .val (.ref b48), .val (.int (1 : Int32)), .val (.ref b46), .val (.ref r67), .val (.ref r68), .val (.ref r69), .unset, .unset, .unset] [(.ref b48), (.ref b47), (.ref b46), (.int (1 : Int32)), (.int (3 : Int32)), (.ref r69)]))
            refine own_back (fun t_ q_ => XS.iloadN X72.here hx rfl (hb hby at_183) rfl q_) ?_
            show own_Gl _ _ _ _ (T72.setTop (mkF m 184 #[.val (.int sz), .val (.int mo), .val (.int cn), .val (.int bn), .val (.int (Int32.ofNat mN)), .val (.int (Int32.ofNat n)), .val (.ref b44), .val (.ref b46), .val (.ref b47), .val (.ref b48), .val (.int (1 : Int32)), .val (.ref b46), .val (.ref r67), .val (.ref r68), .val (.ref r69), .unset, .unset, .unset] [(.int bn), (.ref b48), (.ref b47), (.ref b46), (.int (1 : Int32)), (.int (3 : Int32)), (.ref r69)]))
            obtain ⟨_, _, ⟨T73, L73, k73, n73⟩, -, X73, ⟨Lc73, hQ73, l73, y73, z73⟩, st73⟩ := Jvm.LawKit.callS X72 hx (y := (⟨"com/example/thermopylae/thermopylae/http/BufferPoolTakePinLaw", "step", "([BII[B[B[BI)Z"⟩ : MethodName)) hown (mvT hZ (hw _ (List.mem_of_getElem? (i := 81) rfl))) (mvT hZ (hw _ (List.mem_of_getElem? (i := 82) rfl))) (mvT hZ (hw _ (List.mem_of_getElem? (i := 83) rfl))) (mvT hZ (hw _ (List.mem_of_getElem? (i := 84) rfl))) (by decide) (backOf (W := 0) (rm15n l Z a0 hw [] r69 3 1 b46 b47 b48 bn T69.heap n0 Y4 cl69 A69 l69' (by decide) f69_b46 f69_b47 f69_b48) hZ (hw _ (List.mem_of_getElem? (i := 84) rfl)) (hw _ (List.mem_of_getElem? (i := 83) rfl)) (by decide) (by decide)) (g := (mkF m 184 #[.val (.int sz), .val (.int mo), .val (.int cn), .val (.int bn), .val (.int (Int32.ofNat mN)), .val (.int (Int32.ofNat n)), .val (.ref b44), .val (.ref b46), .val (.ref b47), .val (.ref b48), .val (.int (1 : Int32)), .val (.ref b46), .val (.ref r67), .val (.ref r68), .val (.ref r69), .unset, .unset, .unset] [(.int bn), (.ref b48), (.ref b47), (.ref b46), (.int (1 : Int32)), (.int (3 : Int32)), (.ref r69)])) rfl (by rw [hml]; rfl) (argsL := [(.ref r69), (.int (3 : Int32)), (.int (1 : Int32)), (.ref b46), (.ref b47), (.ref b48), (.int bn)]) (rest := []) (lenOf pd_10 rfl) rfl (by show 2 * 0 + _ ≤ _; exact Nat.le_of_eq rfl) (hb hby at_184) (fun _ _ => ⟨rfl, e72, (by decide : 10 + 0 ≤ _), (by decide : 281 + 0 ≤ _)⟩)
            dsimp only [Pt.U, Pt.locs, Pt.cells, Pt.slots] at X73 l73 y73 z73 st73 hQ73
            subst l73 y73 z73
            obtain ⟨rfl, M73, e73⟩ := hQ73
            have N73 := Fr.app N72 M73
            refine own_back st73 ?_
            show own_Gl _ _ _ _ (T73.setTop (mkF m 187 #[.val (.int sz), .val (.int mo), .val (.int cn), .val (.int bn), .val (.int (Int32.ofNat mN)), .val (.int (Int32.ofNat n)), .val (.ref b44), .val (.ref b46), .val (.ref b47), .val (.ref b48), .val (.int (1 : Int32)), .val (.ref b46), .val (.ref r67), .val (.ref r68), .val (.ref r69), .unset, .unset, .unset] [(.int (1 : Int32))]))
            refine own_back (fun t_ q_ => XS.ifNo X73.here hx rfl (hb hby at_187) rfl ((if0 _ _).trans (feq (by decide : ¬ ((1 : Int32) = (0 : Int32)))).1) q_) ?_
            show own_Gl _ _ _ _ (T73.setTop (mkF m 190 #[.val (.int sz), .val (.int mo), .val (.int cn), .val (.int bn), .val (.int (Int32.ofNat mN)), .val (.int (Int32.ofNat n)), .val (.ref b44), .val (.ref b46), .val (.ref b47), .val (.ref b48), .val (.int (1 : Int32)), .val (.ref b46), .val (.ref r67), .val (.ref r68), .val (.ref r69), .unset, .unset, .unset] []))
            refine own_back (fun t_ q_ => XS.iconst X73.here hx rfl (hb hby at_190) q_) ?_
            show own_Gl _ _ _ _ (T73.setTop (mkF m 191 #[.val (.int sz), .val (.int mo), .val (.int cn), .val (.int bn), .val (.int (Int32.ofNat mN)), .val (.int (Int32.ofNat n)), .val (.ref b44), .val (.ref b46), .val (.ref b47), .val (.ref b48), .val (.int (1 : Int32)), .val (.ref b46), .val (.ref r67), .val (.ref r68), .val (.ref r69), .unset, .unset, .unset] [(.int (1 : Int32))]))
            refine own_back (fun t_ q_ => XS.goto X73.here hx rfl (pc0 := 191) (pc' := 195) rfl (hb hby at_191) (by decide) (by decide) q_) ?_
            show own_Gl _ _ _ _ (T73.setTop (mkF m 195 #[.val (.int sz), .val (.int mo), .val (.int cn), .val (.int bn), .val (.int (Int32.ofNat mN)), .val (.int (Int32.ofNat n)), .val (.ref b44), .val (.ref b46), .val (.ref b47), .val (.ref b48), .val (.int (1 : Int32)), .val (.ref b46), .val (.ref r67), .val (.ref r68), .val (.ref r69), .unset, .unset, .unset] [(.int (1 : Int32))]))
            refine own_back (fun t_ q_ => XS.istore X73.here hx rfl (hb hby at_195) rfl (l' := #[.val (.int sz), .val (.int mo), .val (.int cn), .val (.int bn), .val (.int (Int32.ofNat mN)), .val (.int (Int32.ofNat n)), .val (.ref b44), .val (.ref b46), .val (.ref b47), .val (.ref b48), .val (.int (1 : Int32)), .val (.ref b46), .val (.ref r67), .val (.ref r68), .val (.ref r69), .val (.int (1 : Int32)), .unset, .unset]) rfl q_) ?_
            show own_Gl _ _ _ _ (T73.setTop (mkF m 197 #[.val (.int sz), .val (.int mo), .val (.int cn), .val (.int bn), .val (.int (Int32.ofNat mN)), .val (.int (Int32.ofNat n)), .val (.ref b44), .val (.ref b46), .val (.ref b47), .val (.ref b48), .val (.int (1 : Int32)), .val (.ref b46), .val (.ref r67), .val (.ref r68), .val (.ref r69), .val (.int (1 : Int32)), .unset, .unset] []))
            refine own_back (fun t_ q_ => XS.iload X73.here hx rfl (hb hby at_197) rfl q_) ?_
            show own_Gl _ _ _ _ (T73.setTop (mkF m 199 #[.val (.int sz), .val (.int mo), .val (.int cn), .val (.int bn), .val (.int (Int32.ofNat mN)), .val (.int (Int32.ofNat n)), .val (.ref b44), .val (.ref b46), .val (.ref b47), .val (.ref b48), .val (.int (1 : Int32)), .val (.ref b46), .val (.ref r67), .val (.ref r68), .val (.ref r69), .val (.int (1 : Int32)), .unset, .unset] [(.int (1 : Int32))]))
            refine own_back (fun t_ q_ => XS.ifYes X73.here hx rfl (pc0 := 199) (pc' := 204) rfl (hb hby at_199) rfl ((if0 _ _).trans (feq (by decide : ¬ ((1 : Int32) = (0 : Int32)))).2) (by decide) (by decide) q_) ?_
            show own_Gl _ _ _ _ (T73.setTop (mkF m 204 #[.val (.int sz), .val (.int mo), .val (.int cn), .val (.int bn), .val (.int (Int32.ofNat mN)), .val (.int (Int32.ofNat n)), .val (.ref b44), .val (.ref b46), .val (.ref b47), .val (.ref b48), .val (.int (1 : Int32)), .val (.ref b46), .val (.ref r67), .val (.ref r68), .val (.ref r69), .val (.int (1 : Int32)), .unset, .unset] []))
            exact tail53 (T73, T69.heap, b46, r67, r68, r69, (1 : Int32)) ⟨⟨_, X73, N73⟩, e73, ⟨Y4, V4, B69, ⟨la, lr67, lr68⟩, f67_b46.symm, f68_b46.symm, f69_b46.symm, f68_r67.symm, f69_r67.symm, f69_r68.symm⟩⟩
          · skip
            rw [h] at Wc ⊢
            have V0 : own_W Z h51 b44 dq es k bn (Int32.ofNat mN) ([b46, b47]) := Wc
            have Y0 := Zc
            show own_Gl _ _ _ _ (T52.setTop (mkF m 90 #[.val (.int sz), .val (.int mo), .val (.int cn), .val (.int bn), .val (.int (Int32.ofNat mN)), .val (.int (Int32.ofNat n)), .val (.ref b44), .val (.ref b46), .val (.ref b47), .val (.ref b48), .val (.int (2 : Int32)), .unset, .unset, .unset, .unset, .unset, .unset, .unset] []))
            obtain ⟨y1, y2, y3, y4, y5⟩ := own_neP (hw _ (List.mem_of_getElem? (i := 1) rfl)) V0
            have la := Xa.lt
            have lb := Xb.lt
            have ld := Xd.lt
            refine own_back (fun t_ q_ => XS.aload X52.here hx rfl (hb hby at_90) rfl rfl q_) ?_
            show own_Gl _ _ _ _ (T52.setTop (mkF m 92 #[.val (.int sz), .val (.int mo), .val (.int cn), .val (.int bn), .val (.int (Int32.ofNat mN)), .val (.int (Int32.ofNat n)), .val (.ref b44), .val (.ref b46), .val (.ref b47), .val (.ref b48), .val (.int (2 : Int32)), .unset, .unset, .unset, .unset, .unset, .unset, .unset] [(.ref b44)]))
            obtain ⟨cq74, kq74, q74a, q74b, q74c⟩ := isOf hZ e52 V0.1
            obtain ⟨_, _, ⟨T74, L74, k74, n74⟩, -, X74, ⟨Lc74, hQ74, l74, y74, z74⟩, st74⟩ := X52.virtualBack hx (y := (⟨"com/example/thermopylae/thermopylae/http/BufferPool", "take", "()[B"⟩ : MethodName)) (z := (⟨"com/example/thermopylae/thermopylae/http/BufferPool", "take", "()[B"⟩ : MethodName)) hown (mvT hZ (hw _ (List.mem_of_getElem? (i := 63) rfl))) (mvT hZ (hw _ (List.mem_of_getElem? (i := 64) rfl))) (notFace_of_selects (args := #[]) (mvT hZ (hw _ (List.mem_of_getElem? (i := 66) rfl)))) (mvT hZ (hw _ (List.mem_of_getElem? (i := 66) rfl))) (mvT hZ (hw _ (List.mem_of_getElem? (i := 65) rfl))) (by decide) (backOf (W := 0) (rm11s l Z a0 hw [] b44 h51 n0 Y0 dq es b47 k bn (Int32.ofNat mN) [b46] V0 gd ge) hZ (hw _ (List.mem_of_getElem? (i := 67) rfl)) (hw _ (List.mem_of_getElem? (i := 2) rfl)) (by decide) (by decide)) q74a q74c (g := (mkF m 92 #[.val (.int sz), .val (.int mo), .val (.int cn), .val (.int bn), .val (.int (Int32.ofNat mN)), .val (.int (Int32.ofNat n)), .val (.ref b44), .val (.ref b46), .val (.ref b47), .val (.ref b48), .val (.int (2 : Int32)), .unset, .unset, .unset, .unset, .unset, .unset, .unset] [(.ref b44)])) rfl (by rw [hml]; rfl) (Steps.refl _) (argsL := []) (rest := []) (lenOf pd_9 rfl) rfl (by show 2 * 0 + _ ≤ _; exact Nat.le_of_eq rfl) (hb hby at_92) (fun _ _ => ⟨rfl, e52, (by decide : 6 + 1 ≤ _), (by decide : 29 + 63 ≤ _)⟩)
            dsimp only [Pt.U, Pt.locs, Pt.cells, Pt.slots] at X74 l74 y74 z74 st74 hQ74
            subst l74 y74 z74
            obtain ⟨rfl, M74, K74, V74⟩ := hQ74
            have N74 := Fr.app N52 M74
            refine own_trans st74 ?_
            show own_Gl _ _ _ _ (T74.setTop (mkF m 95 #[.val (.int sz), .val (.int mo), .val (.int cn), .val (.int bn), .val (.int (Int32.ofNat mN)), .val (.int (Int32.ofNat n)), .val (.ref b44), .val (.ref b46), .val (.ref b47), .val (.ref b48), .val (.int (2 : Int32)), .unset, .unset, .unset, .unset, .unset, .unset, .unset] [(.ref b47)]))
            have V1 := V74
            have Y1 : n0 ≤ T74.heap.size := Nat.le_trans Y0 K74.1
            have Xa := Xa.keep K74
            have Xb := Xb.keep K74
            have Xd := Xd.keep K74
            have la := Xa.lt
            have lb := Xb.lt
            have ld := Xd.lt
            refine own_back (fun t_ q_ => XS.astore X74.here hx rfl (hb hby at_95) rfl rfl (l' := #[.val (.int sz), .val (.int mo), .val (.int cn), .val (.int bn), .val (.int (Int32.ofNat mN)), .val (.int (Int32.ofNat n)), .val (.ref b44), .val (.ref b46), .val (.ref b47), .val (.ref b48), .val (.int (2 : Int32)), .val (.ref b47), .unset, .unset, .unset, .unset, .unset, .unset]) rfl q_) ?_
            show own_Gl _ _ _ _ (T74.setTop (mkF m 97 #[.val (.int sz), .val (.int mo), .val (.int cn), .val (.int bn), .val (.int (Int32.ofNat mN)), .val (.int (Int32.ofNat n)), .val (.ref b44), .val (.ref b46), .val (.ref b47), .val (.ref b48), .val (.int (2 : Int32)), .val (.ref b47), .unset, .unset, .unset, .unset, .unset, .unset] []))
            refine own_back (fun t_ q_ => XS.aload X74.here hx rfl (hb hby at_97) rfl rfl q_) ?_
            show own_Gl _ _ _ _ (T74.setTop (mkF m 99 #[.val (.int sz), .val (.int mo), .val (.int cn), .val (.int bn), .val (.int (Int32.ofNat mN)), .val (.int (Int32.ofNat n)), .val (.ref b44), .val (.ref b46), .val (.ref b47), .val (.ref b48), .val (.int (2 : Int32)), .val (.ref b47), .unset, .unset, .unset, .unset, .unset, .unset] [(.ref b44)]))
            obtain ⟨cq75, kq75, q75a, q75b, q75c⟩ := isOf hZ rfl V1.1
            obtain ⟨_, _, ⟨T75, L75, k75, n75⟩, -, X75, ⟨Lc75, hQ75, l75, y75, z75⟩, st75⟩ := X74.virtualBack hx (y := (⟨"com/example/thermopylae/thermopylae/http/BufferPool", "take", "()[B"⟩ : MethodName)) (z := (⟨"com/example/thermopylae/thermopylae/http/BufferPool", "take", "()[B"⟩ : MethodName)) hown (mvT hZ (hw _ (List.mem_of_getElem? (i := 63) rfl))) (mvT hZ (hw _ (List.mem_of_getElem? (i := 64) rfl))) (notFace_of_selects (args := #[]) (mvT hZ (hw _ (List.mem_of_getElem? (i := 66) rfl)))) (mvT hZ (hw _ (List.mem_of_getElem? (i := 66) rfl))) (mvT hZ (hw _ (List.mem_of_getElem? (i := 65) rfl))) (by decide) (backOf (W := 0) (rm11s l Z a0 hw [] b44 T74.heap n0 Y1 dq es b46 k bn (Int32.ofNat mN) [] V1 gd ge) hZ (hw _ (List.mem_of_getElem? (i := 67) rfl)) (hw _ (List.mem_of_getElem? (i := 2) rfl)) (by decide) (by decide)) q75a q75c (g := (mkF m 99 #[.val (.int sz), .val (.int mo), .val (.int cn), .val (.int bn), .val (.int (Int32.ofNat mN)), .val (.int (Int32.ofNat n)), .val (.ref b44), .val (.ref b46), .val (.ref b47), .val (.ref b48), .val (.int (2 : Int32)), .val (.ref b47), .unset, .unset, .unset, .unset, .unset, .unset] [(.ref b44)])) rfl (by rw [hml]; rfl) (Steps.refl _) (argsL := []) (rest := []) (lenOf pd_9 rfl) rfl (by show 2 * 0 + _ ≤ _; exact Nat.le_of_eq rfl) (hb hby at_99) (fun _ _ => ⟨rfl, rfl, (by decide : 7 + 1 ≤ _), (by decide : 92 + 63 ≤ _)⟩)
            dsimp only [Pt.U, Pt.locs, Pt.cells, Pt.slots] at X75 l75 y75 z75 st75 hQ75
            subst l75 y75 z75
            obtain ⟨rfl, M75, K75, V75⟩ := hQ75
            have N75 := Fr.app N74 M75
            refine own_trans st75 ?_
            show own_Gl _ _ _ _ (T75.setTop (mkF m 102 #[.val (.int sz), .val (.int mo), .val (.int cn), .val (.int bn), .val (.int (Int32.ofNat mN)), .val (.int (Int32.ofNat n)), .val (.ref b44), .val (.ref b46), .val (.ref b47), .val (.ref b48), .val (.int (2 : Int32)), .val (.ref b47), .unset, .unset, .unset, .unset, .unset, .unset] [(.ref b46)]))
            have V2 := V75
            have Y2 : n0 ≤ T75.heap.size := Nat.le_trans Y1 K75.1
            have Xa := Xa.keep K75
            have Xb := Xb.keep K75
            have Xd := Xd.keep K75
            have la := Xa.lt
            have lb := Xb.lt
            have ld := Xd.lt
            refine own_back (fun t_ q_ => XS.astore X75.here hx rfl (hb hby at_102) rfl rfl (l' := #[.val (.int sz), .val (.int mo), .val (.int cn), .val (.int bn), .val (.int (Int32.ofNat mN)), .val (.int (Int32.ofNat n)), .val (.ref b44), .val (.ref b46), .val (.ref b47), .val (.ref b48), .val (.int (2 : Int32)), .val (.ref b47), .val (.ref b46), .unset, .unset, .unset, .unset, .unset]) rfl q_) ?_
            show own_Gl _ _ _ _ (T75.setTop (mkF m 104 #[.val (.int sz), .val (.int mo), .val (.int cn), .val (.int bn), .val (.int (Int32.ofNat mN)), .val (.int (Int32.ofNat n)), .val (.ref b44), .val (.ref b46), .val (.ref b47), .val (.ref b48), .val (.int (2 : Int32)), .val (.ref b47), .val (.ref b46), .unset, .unset, .unset, .unset, .unset] []))
            refine own_back (fun t_ q_ => XS.aload X75.here hx rfl (hb hby at_104) rfl rfl q_) ?_
            show own_Gl _ _ _ _ (T75.setTop (mkF m 106 #[.val (.int sz), .val (.int mo), .val (.int cn), .val (.int bn), .val (.int (Int32.ofNat mN)), .val (.int (Int32.ofNat n)), .val (.ref b44), .val (.ref b46), .val (.ref b47), .val (.ref b48), .val (.int (2 : Int32)), .val (.ref b47), .val (.ref b46), .unset, .unset, .unset, .unset, .unset] [(.ref b44)]))
            obtain ⟨cq76, kq76, q76a, q76b, q76c⟩ := isOf hZ rfl V2.1
            obtain ⟨_, _, ⟨T76, L76, k76, n76⟩, -, X76, ⟨Lc76, hQ76, l76, y76, z76⟩, st76⟩ := X75.virtualBack hx (y := (⟨"com/example/thermopylae/thermopylae/http/BufferPool", "take", "()[B"⟩ : MethodName)) (z := (⟨"com/example/thermopylae/thermopylae/http/BufferPool", "take", "()[B"⟩ : MethodName)) hown (mvT hZ (hw _ (List.mem_of_getElem? (i := 63) rfl))) (mvT hZ (hw _ (List.mem_of_getElem? (i := 64) rfl))) (notFace_of_selects (args := #[]) (mvT hZ (hw _ (List.mem_of_getElem? (i := 66) rfl)))) (mvT hZ (hw _ (List.mem_of_getElem? (i := 66) rfl))) (mvT hZ (hw _ (List.mem_of_getElem? (i := 65) rfl))) (by decide) (backOf (W := 0) (rm11 l Z a0 hw [] b44 T75.heap n0 Y2 dq es k bn (Int32.ofNat mN) V2 bn1 bn2) hZ (hw _ (List.mem_of_getElem? (i := 67) rfl)) (hw _ (List.mem_of_getElem? (i := 2) rfl)) (by decide) (by decide)) q76a q76c (g := (mkF m 106 #[.val (.int sz), .val (.int mo), .val (.int cn), .val (.int bn), .val (.int (Int32.ofNat mN)), .val (.int (Int32.ofNat n)), .val (.ref b44), .val (.ref b46), .val (.ref b47), .val (.ref b48), .val (.int (2 : Int32)), .val (.ref b47), .val (.ref b46), .unset, .unset, .unset, .unset, .unset] [(.ref b44)])) rfl (by rw [hml]; rfl) (Steps.refl _) (argsL := []) (rest := []) (lenOf pd_9 rfl) rfl (by show 2 * 0 + _ ≤ _; exact Nat.le_of_eq rfl) (hb hby at_106) (fun _ _ => ⟨rfl, rfl, (by decide : 8 + 1 ≤ _), (by decide : 155 + 63 ≤ _)⟩)
            dsimp only [Pt.U, Pt.locs, Pt.cells, Pt.slots] at X76 l76 y76 z76 st76 hQ76
            subst l76 y76 z76
            obtain ⟨r76, rfl, M76, K76, G76, B76, V76, cl76, A76, l76'⟩ := hQ76
            have N76 := Fr.app N75 M76
            refine own_trans st76 ?_
            show own_Gl _ _ _ _ (T76.setTop (mkF m 109 #[.val (.int sz), .val (.int mo), .val (.int cn), .val (.int bn), .val (.int (Int32.ofNat mN)), .val (.int (Int32.ofNat n)), .val (.ref b44), .val (.ref b46), .val (.ref b47), .val (.ref b48), .val (.int (2 : Int32)), .val (.ref b47), .val (.ref b46), .unset, .unset, .unset, .unset, .unset] [(.ref r76)]))
            have V3 := V76
            have Y3 : n0 ≤ T76.heap.size := Nat.le_trans Y2 K76.1
            have Xa := Xa.keep K76
            have Xb := Xb.keep K76
            have Xd := Xd.keep K76
            have f76_b46 : r76 ≠ b46 := Nat.ne_of_gt (Nat.lt_of_lt_of_le la G76)
            have f76_b47 : r76 ≠ b47 := Nat.ne_of_gt (Nat.lt_of_lt_of_le lb G76)
            have f76_b48 : r76 ≠ b48 := Nat.ne_of_gt (Nat.lt_of_lt_of_le ld G76)
            have la := Xa.lt
            have lb := Xb.lt
            have ld := Xd.lt
            have lr76 := B76.lt
            refine own_back (fun t_ q_ => XS.astore X76.here hx rfl (hb hby at_109) rfl rfl (l' := #[.val (.int sz), .val (.int mo), .val (.int cn), .val (.int bn), .val (.int (Int32.ofNat mN)), .val (.int (Int32.ofNat n)), .val (.ref b44), .val (.ref b46), .val (.ref b47), .val (.ref b48), .val (.int (2 : Int32)), .val (.ref b47), .val (.ref b46), .val (.ref r76), .unset, .unset, .unset, .unset]) rfl q_) ?_
            show own_Gl _ _ _ _ (T76.setTop (mkF m 111 #[.val (.int sz), .val (.int mo), .val (.int cn), .val (.int bn), .val (.int (Int32.ofNat mN)), .val (.int (Int32.ofNat n)), .val (.ref b44), .val (.ref b46), .val (.ref b47), .val (.ref b48), .val (.int (2 : Int32)), .val (.ref b47), .val (.ref b46), .val (.ref r76), .unset, .unset, .unset, .unset] []))
            refine own_back (fun t_ q_ => XS.aload X76.here hx rfl (hb hby at_111) rfl rfl q_) ?_
            show own_Gl _ _ _ _ (T76.setTop (mkF m 113 #[.val (.int sz), .val (.int mo), .val (.int cn), .val (.int bn), .val (.int (Int32.ofNat mN)), .val (.int (Int32.ofNat n)), .val (.ref b44), .val (.ref b46), .val (.ref b47), .val (.ref b48), .val (.int (2 : Int32)), .val (.ref b47), .val (.ref b46), .val (.ref r76), .unset, .unset, .unset, .unset] [(.ref b44)]))
            obtain ⟨cq77, kq77, q77a, q77b, q77c⟩ := isOf hZ rfl V3.1
            obtain ⟨_, _, ⟨T77, L77, k77, n77⟩, -, X77, ⟨Lc77, hQ77, l77, y77, z77⟩, st77⟩ := X76.virtualBack hx (y := (⟨"com/example/thermopylae/thermopylae/http/BufferPool", "take", "()[B"⟩ : MethodName)) (z := (⟨"com/example/thermopylae/thermopylae/http/BufferPool", "take", "()[B"⟩ : MethodName)) hown (mvT hZ (hw _ (List.mem_of_getElem? (i := 63) rfl))) (mvT hZ (hw _ (List.mem_of_getElem? (i := 64) rfl))) (notFace_of_selects (args := #[]) (mvT hZ (hw _ (List.mem_of_getElem? (i := 66) rfl)))) (mvT hZ (hw _ (List.mem_of_getElem? (i := 66) rfl))) (mvT hZ (hw _ (List.mem_of_getElem? (i := 65) rfl))) (by decide) (backOf (W := 0) (rm11 l Z a0 hw [] b44 T76.heap n0 Y3 dq es k bn (Int32.ofNat mN) V3 bn1 bn2) hZ (hw _ (List.mem_of_getElem? (i := 67) rfl)) (hw _ (List.mem_of_getElem? (i := 2) rfl)) (by decide) (by decide)) q77a q77c (g := (mkF m 113 #[.val (.int sz), .val (.int mo), .val (.int cn), .val (.int bn), .val (.int (Int32.ofNat mN)), .val (.int (Int32.ofNat n)), .val (.ref b44), .val (.ref b46), .val (.ref b47), .val (.ref b48), .val (.int (2 : Int32)), .val (.ref b47), .val (.ref b46), .val (.ref r76), .unset, .unset, .unset, .unset] [(.ref b44)])) rfl (by rw [hml]; rfl) (Steps.refl _) (argsL := []) (rest := []) (lenOf pd_9 rfl) rfl (by show 2 * 0 + _ ≤ _; exact Nat.le_of_eq rfl) (hb hby at_113) (fun _ _ => ⟨rfl, rfl, (by decide : 9 + 1 ≤ _), (by decide : 218 + 63 ≤ _)⟩)
            dsimp only [Pt.U, Pt.locs, Pt.cells, Pt.slots] at X77 l77 y77 z77 st77 hQ77
            subst l77 y77 z77
            obtain ⟨r77, rfl, M77, K77, G77, B77, V77, cl77, A77, l77'⟩ := hQ77
            have N77 := Fr.app N76 M77
            refine own_trans st77 ?_
            show own_Gl _ _ _ _ (T77.setTop (mkF m 116 #[.val (.int sz), .val (.int mo), .val (.int cn), .val (.int bn), .val (.int (Int32.ofNat mN)), .val (.int (Int32.ofNat n)), .val (.ref b44), .val (.ref b46), .val (.ref b47), .val (.ref b48), .val (.int (2 : Int32)), .val (.ref b47), .val (.ref b46), .val (.ref r76), .unset, .unset, .unset, .unset] [(.ref r77)]))
            have V4 := V77
            have Y4 : n0 ≤ T77.heap.size := Nat.le_trans Y3 K77.1
            have Xa := Xa.keep K77
            have Xb := Xb.keep K77
            have Xd := Xd.keep K77
            have B76 := B76.keep K77
            have A76 : Arr Z T77.heap r76 cl76 .byte := ⟨K77.2.1 _ _ A76.1 nin0, A76.2⟩
            have f77_b46 : r77 ≠ b46 := Nat.ne_of_gt (Nat.lt_of_lt_of_le la G77)
            have f77_b47 : r77 ≠ b47 := Nat.ne_of_gt (Nat.lt_of_lt_of_le lb G77)
            have f77_b48 : r77 ≠ b48 := Nat.ne_of_gt (Nat.lt_of_lt_of_le ld G77)
            have f77_r76 : r77 ≠ r76 := Nat.ne_of_gt (Nat.lt_of_lt_of_le lr76 G77)
            have la := Xa.lt
            have lb := Xb.lt
            have ld := Xd.lt
            have lr76 := B76.lt
            have lr77 := B77.lt
            refine own_back (fun t_ q_ => XS.astore X77.here hx rfl (hb hby at_116) rfl rfl (l' := #[.val (.int sz), .val (.int mo), .val (.int cn), .val (.int bn), .val (.int (Int32.ofNat mN)), .val (.int (Int32.ofNat n)), .val (.ref b44), .val (.ref b46), .val (.ref b47), .val (.ref b48), .val (.int (2 : Int32)), .val (.ref b47), .val (.ref b46), .val (.ref r76), .val (.ref r77), .unset, .unset, .unset]) rfl q_) ?_
            show own_Gl _ _ _ _ (T77.setTop (mkF m 118 #[.val (.int sz), .val (.int mo), .val (.int cn), .val (.int bn), .val (.int (Int32.ofNat mN)), .val (.int (Int32.ofNat n)), .val (.ref b44), .val (.ref b46), .val (.ref b47), .val (.ref b48), .val (.int (2 : Int32)), .val (.ref b47), .val (.ref b46), .val (.ref r76), .val (.ref r77), .unset, .unset, .unset] []))
            refine own_back (fun t_ q_ => XS.aload X77.here hx rfl (hb hby at_118) rfl rfl q_) ?_
            show own_Gl _ _ _ _ (T77.setTop (mkF m 120 #[.val (.int sz), .val (.int mo), .val (.int cn), .val (.int bn), .val (.int (Int32.ofNat mN)), .val (.int (Int32.ofNat n)), .val (.ref b44), .val (.ref b46), .val (.ref b47), .val (.ref b48), .val (.int (2 : Int32)), .val (.ref b47), .val (.ref b46), .val (.ref r76), .val (.ref r77), .unset, .unset, .unset] [(.ref b47)]))
            refine own_back (fun t_ q_ => XS.iconst X77.here hx rfl (hb hby at_120) q_) ?_
            show own_Gl _ _ _ _ (T77.setTop (mkF m 121 #[.val (.int sz), .val (.int mo), .val (.int cn), .val (.int bn), .val (.int (Int32.ofNat mN)), .val (.int (Int32.ofNat n)), .val (.ref b44), .val (.ref b46), .val (.ref b47), .val (.ref b48), .val (.int (2 : Int32)), .val (.ref b47), .val (.ref b46), .val (.ref r76), .val (.ref r77), .unset, .unset, .unset] [(.int (0 : Int32)), (.ref b47)]))
            refine own_back (fun t_ q_ => XS.iload X77.here hx rfl (hb hby at_121) rfl q_) ?_
            show own_Gl _ _ _ _ (T77.setTop (mkF m 123 #[.val (.int sz), .val (.int mo), .val (.int cn), .val (.int bn), .val (.int (Int32.ofNat mN)), .val (.int (Int32.ofNat n)), .val (.ref b44), .val (.ref b46), .val (.ref b47), .val (.ref b48), .val (.int (2 : Int32)), .val (.ref b47), .val (.ref b46), .val (.ref r76), .val (.ref r77), .unset, .unset, .unset] [(.int (2 : Int32)), (.int (0 : Int32)), (.ref b47)]))
            refine own_back (fun t_ q_ => XS.aload X77.here hx rfl (hb hby at_123) rfl rfl q_) ?_
            show own_Gl _ _ _ _ (T77.setTop (mkF m 125 #[.val (.int sz), .val (.int mo), .val (.int cn), .val (.int bn), .val (.int (Int32.ofNat mN)), .val (.int (Int32.ofNat n)), .val (.ref b44), .val (.ref b46), .val (.ref b47), .val (.ref b48), .val (.int (2 : Int32)), .val (.ref b47), .val (.ref b46), .val (.ref r76), .val (.ref r77), .unset, .unset, .unset] [(.ref b46), (.int (2 : Int32)), (.int (0 : Int32)), (.ref b47)]))
            refine own_back (fun t_ q_ => XS.aload X77.here hx rfl (hb hby at_125) rfl rfl q_) ?_
            show own_Gl _ _ _ _ (T77.setTop (mkF m 127 #[.val (.int sz), .val (.int mo), .val (.int cn), .val (.int bn), .val (.int (Int32.ofNat mN)), .val (.int (Int32.ofNat n)), .val (.ref b44), .val (.ref b46), .val (.ref b47), .val (.ref b48), .val (.int (2 : Int32)), .val (.ref b47), .val (.ref b46), .val (.ref r76), .val (.ref r77), .unset, .unset, .unset] [(.ref b47), (.ref b46), (.int (2 : Int32)), (.int (0 : Int32)), (.ref b47)]))
            refine own_back (fun t_ q_ => XS.aload X77.here hx rfl (hb hby at_127) rfl rfl q_) ?_
            show own_Gl _ _ _ _ (T77.setTop (mkF m 129 #[.val (.int sz), .val (.int mo), .val (.int cn), .val (.int bn), .val (.int (Int32.ofNat mN)), .val (.int (Int32.ofNat n)), .val (.ref b44), .val (.ref b46), .val (.ref b47), .val (.ref b48), .val (.int (2 : Int32)), .val (.ref b47), .val (.ref b46), .val (.ref r76), .val (.ref r77), .unset, .unset, .unset] [(.ref b48), (.ref b47), (.ref b46), (.int (2 : Int32)), (.int (0 : Int32)), (.ref b47)]))
            refine own_back (fun t_ q_ => XS.iloadN X77.here hx rfl (hb hby at_129) rfl q_) ?_
            show own_Gl _ _ _ _ (T77.setTop (mkF m 130 #[.val (.int sz), .val (.int mo), .val (.int cn), .val (.int bn), .val (.int (Int32.ofNat mN)), .val (.int (Int32.ofNat n)), .val (.ref b44), .val (.ref b46), .val (.ref b47), .val (.ref b48), .val (.int (2 : Int32)), .val (.ref b47), .val (.ref b46), .val (.ref r76), .val (.ref r77), .unset, .unset, .unset] [(.int bn), (.ref b48), (.ref b47), (.ref b46), (.int (2 : Int32)), (.int (0 : Int32)), (.ref b47)]))
            obtain ⟨_, _, ⟨T78, L78, k78, n78⟩, -, X78, ⟨Lc78, hQ78, l78, y78, z78⟩, st78⟩ := Jvm.LawKit.callS X77 hx (y := (⟨"com/example/thermopylae/thermopylae/http/BufferPoolTakePinLaw", "step", "([BII[B[B[BI)Z"⟩ : MethodName)) hown (mvT hZ (hw _ (List.mem_of_getElem? (i := 81) rfl))) (mvT hZ (hw _ (List.mem_of_getElem? (i := 82) rfl))) (mvT hZ (hw _ (List.mem_of_getElem? (i := 83) rfl))) (mvT hZ (hw _ (List.mem_of_getElem? (i := 84) rfl))) (by decide) (backOf (W := 0) (rm15 l Z a0 hw [] b47 0 2 b46 b47 b48 bn T77.heap n0 Y4 (by decide) (Or.inr (Or.inl ⟨by decide, by decide, rfl⟩))) hZ (hw _ (List.mem_of_getElem? (i := 84) rfl)) (hw _ (List.mem_of_getElem? (i := 83) rfl)) (by decide) (by decide)) (g := (mkF m 130 #[.val (.int sz), .val (.int mo), .val (.int cn), .val (.int bn), .val (.int (Int32.ofNat mN)), .val (.int (Int32.ofNat n)), .val (.ref b44), .val (.ref b46), .val (.ref b47), .val (.ref b48), .val (.int (2 : Int32)), .val (.ref b47), .val (.ref b46), .val (.ref r76), .val (.ref r77), .unset, .unset, .unset] [(.int bn), (.ref b48), (.ref b47), (.ref b46), (.int (2 : Int32)), (.int (0 : Int32)), (.ref b47)])) rfl (by rw [hml]; rfl) (argsL := [(.ref b47), (.int (0 : Int32)), (.int (2 : Int32)), (.ref b46), (.ref b47), (.ref b48), (.int bn)]) (rest := []) (lenOf pd_10 rfl) rfl (by show 2 * 0 + _ ≤ _; exact Nat.le_of_eq rfl) (hb hby at_130) (fun _ _ => ⟨rfl, rfl, (by decide : 10 + 0 ≤ _), (by decide : 281 + 0 ≤ _)⟩)
            dsimp only [Pt.U, Pt.locs, Pt.cells, Pt.slots] at X78 l78 y78 z78 st78 hQ78
            subst l78 y78 z78
            obtain ⟨rfl, M78, e78⟩ := hQ78
            have N78 := Fr.app N77 M78
            refine own_back st78 ?_
            show own_Gl _ _ _ _ (T78.setTop (mkF m 133 #[.val (.int sz), .val (.int mo), .val (.int cn), .val (.int bn), .val (.int (Int32.ofNat mN)), .val (.int (Int32.ofNat n)), .val (.ref b44), .val (.ref b46), .val (.ref b47), .val (.ref b48), .val (.int (2 : Int32)), .val (.ref b47), .val (.ref b46), .val (.ref r76), .val (.ref r77), .unset, .unset, .unset] [(.int (1 : Int32))]))
            refine own_back (fun t_ q_ => XS.ifNo X78.here hx rfl (hb hby at_133) rfl ((if0 _ _).trans (feq (by decide : ¬ ((1 : Int32) = (0 : Int32)))).1) q_) ?_
            show own_Gl _ _ _ _ (T78.setTop (mkF m 136 #[.val (.int sz), .val (.int mo), .val (.int cn), .val (.int bn), .val (.int (Int32.ofNat mN)), .val (.int (Int32.ofNat n)), .val (.ref b44), .val (.ref b46), .val (.ref b47), .val (.ref b48), .val (.int (2 : Int32)), .val (.ref b47), .val (.ref b46), .val (.ref r76), .val (.ref r77), .unset, .unset, .unset] []))
            refine own_back (fun t_ q_ => XS.aload X78.here hx rfl (hb hby at_136) rfl rfl q_) ?_
            show own_Gl _ _ _ _ (T78.setTop (mkF m 138 #[.val (.int sz), .val (.int mo), .val (.int cn), .val (.int bn), .val (.int (Int32.ofNat mN)), .val (.int (Int32.ofNat n)), .val (.ref b44), .val (.ref b46), .val (.ref b47), .val (.ref b48), .val (.int (2 : Int32)), .val (.ref b47), .val (.ref b46), .val (.ref r76), .val (.ref r77), .unset, .unset, .unset] [(.ref b46)]))
            refine own_back (fun t_ q_ => XS.iconst X78.here hx rfl (hb hby at_138) q_) ?_
            show own_Gl _ _ _ _ (T78.setTop (mkF m 139 #[.val (.int sz), .val (.int mo), .val (.int cn), .val (.int bn), .val (.int (Int32.ofNat mN)), .val (.int (Int32.ofNat n)), .val (.ref b44), .val (.ref b46), .val (.ref b47), .val (.ref b48), .val (.int (2 : Int32)), .val (.ref b47), .val (.ref b46), .val (.ref r76), .val (.ref r77), .unset, .unset, .unset] [(.int (1 : Int32)), (.ref b46)]))
            refine own_back (fun t_ q_ => XS.iload X78.here hx rfl (hb hby at_139) rfl q_) ?_
            show own_Gl _ _ _ _ (T78.setTop (mkF m 141 #[.val (.int sz), .val (.int mo), .val (.int cn), .val (.int bn), .val (.int (Int32.ofNat mN)), .val (.int (Int32.ofNat n)), .val (.ref b44), .val (.ref b46), .val (.ref b47), .val (.ref b48), .val (.int (2 : Int32)), .val (.ref b47), .val (.ref b46), .val (.ref r76), .val (.ref r77), .unset, .unset, .unset] [(.int (2 : Int32)), (.int (1 : Int32)), (.ref b46)]))
            refine own_back (fun t_ q_ => XS.aload X78.here hx rfl (hb hby at_141) rfl rfl q_) ?_
            show own_Gl _ _ _ _ (T78.setTop (mkF m 143 #[.val (.int sz), .val (.int mo), .val (.int cn), .val (.int bn), .val (.int (Int32.ofNat mN)), .val (.int (Int32.ofNat n)), .val (.ref b44), .val (.ref b46), .val (.ref b47), .val (.ref b48), .val (.int (2 : Int32)), .val (.ref b47), .val (.ref b46), .val (.ref r76), .val (.ref r77), .unset, .unset, .unset] [(.ref b46), (.int (2 : Int32)), (.int (1 : Int32)), (.ref b46)]))
            refine own_back (fun t_ q_ => XS.aload X78.here hx rfl (hb hby at_143) rfl rfl q_) ?_
            show own_Gl _ _ _ _ (T78.setTop (mkF m 145 #[.val (.int sz), .val (.int mo), .val (.int cn), .val (.int bn), .val (.int (Int32.ofNat mN)), .val (.int (Int32.ofNat n)), .val (.ref b44), .val (.ref b46), .val (.ref b47), .val (.ref b48), .val (.int (2 : Int32)), .val (.ref b47), .val (.ref b46), .val (.ref r76), .val (.ref r77), .unset, .unset, .unset] [(.ref b47), (.ref b46), (.int (2 : Int32)), (.int (1 : Int32)), (.ref b46)]))
            refine own_back (fun t_ q_ => XS.aload X78.here hx rfl (hb hby at_145) rfl rfl q_) ?_
            show own_Gl _ _ _ _ (T78.setTop (mkF m 147 #[.val (.int sz), .val (.int mo), .val (.int cn), .val (.int bn), .val (.int (Int32.ofNat mN)), .val (.int (Int32.ofNat n)), .val (.ref b44), .val (.ref b46), .val (.ref b47), .val (.ref b48), .val (.int (2 : Int32)), .val (.ref b47), .val (.ref b46), .val (.ref r76), .val (.ref r77), .unset, .unset, .unset] [(.ref b48), (.ref b47), (.ref b46), (.int (2 : Int32)), (.int (1 : Int32)), (.ref b46)]))
            refine own_back (fun t_ q_ => XS.iloadN X78.here hx rfl (hb hby at_147) rfl q_) ?_
            show own_Gl _ _ _ _ (T78.setTop (mkF m 148 #[.val (.int sz), .val (.int mo), .val (.int cn), .val (.int bn), .val (.int (Int32.ofNat mN)), .val (.int (Int32.ofNat n)), .val (.ref b44), .val (.ref b46), .val (.ref b47), .val (.ref b48), .val (.int (2 : Int32)), .val (.ref b47), .val (.ref b46), .val (.ref r76), .val (.ref r77), .unset, .unset, .unset] [(.int bn), (.ref b48), (.ref b47), (.ref b46), (.int (2 : Int32)), (.int (1 : Int32)), (.ref b46)]))
            obtain ⟨_, _, ⟨T79, L79, k79, n79⟩, -, X79, ⟨Lc79, hQ79, l79, y79, z79⟩, st79⟩ := Jvm.LawKit.callS X78 hx (y := (⟨"com/example/thermopylae/thermopylae/http/BufferPoolTakePinLaw", "step", "([BII[B[B[BI)Z"⟩ : MethodName)) hown (mvT hZ (hw _ (List.mem_of_getElem? (i := 81) rfl))) (mvT hZ (hw _ (List.mem_of_getElem? (i := 82) rfl))) (mvT hZ (hw _ (List.mem_of_getElem? (i := 83) rfl))) (mvT hZ (hw _ (List.mem_of_getElem? (i := 84) rfl))) (by decide) (backOf (W := 0) (rm15 l Z a0 hw [] b46 1 2 b46 b47 b48 bn T77.heap n0 Y4 (by decide) (Or.inl ⟨by decide, rfl⟩)) hZ (hw _ (List.mem_of_getElem? (i := 84) rfl)) (hw _ (List.mem_of_getElem? (i := 83) rfl)) (by decide) (by decide)) (g := (mkF m 148 #[.val (.int sz), .val (.int mo), .val (.int cn), .val (.int bn), .val (.int (Int32.ofNat mN)), .val (.int (Int32.ofNat n)), .val (.ref b44), .val (.ref b46), .val (.ref b47), .val (.ref b48), .val (.int (2 : Int32)), .val (.ref b47), .val (.ref b46), .val (.ref r76), .val (.ref r77), .unset, .unset, .unset] [(.int bn), (.ref b48), (.ref b47), (.ref b46), (.int (2 : Int32)), (.int (1 : Int32)), (.ref b46)])) rfl (by rw [hml]; rfl) (argsL := [(.ref b46), (.int (1 : Int32)), (.int (2 : Int32)), (.ref b46), (.ref b47), (.ref b48), (.int bn)]) (rest := []) (lenOf pd_10 rfl) rfl (by show 2 * 0 + _ ≤ _; exact Nat.le_of_eq rfl) (hb hby at_148) (fun _ _ => ⟨rfl, e78, (by decide : 10 + 0 ≤ _), (by decide : 281 + 0 ≤ _)⟩)
            dsimp only [Pt.U, Pt.locs, Pt.cells, Pt.slots] at X79 l79 y79 z79 st79 hQ79
            subst l79 y79 z79
            obtain ⟨rfl, M79, e79⟩ := hQ79
            have N79 := Fr.app N78 M79
            refine own_back st79 ?_
            show own_Gl _ _ _ _ (T79.setTop (mkF m 151 #[.val (.int sz), .val (.int mo), .val (.int cn), .val (.int bn), .val (.int (Int32.ofNat mN)), .val (.int (Int32.ofNat n)), .val (.ref b44), .val (.ref b46), .val (.ref b47), .val (.ref b48), .val (.int (2 : Int32)), .val (.ref b47), .val (.ref b46), .val (.ref r76), .val (.ref r77), .unset, .unset, .unset] [(.int (1 : Int32))]))
            refine own_back (fun t_ q_ => XS.ifNo X79.here hx rfl (hb hby at_151) rfl ((if0 _ _).trans (feq (by decide : ¬ ((1 : Int32) = (0 : Int32)))).1) q_) ?_
            show own_Gl _ _ _ _ (T79.setTop (mkF m 154 #[.val (.int sz), .val (.int mo), .val (.int cn), .val (.int bn), .val (.int (Int32.ofNat mN)), .val (.int (Int32.ofNat n)), .val (.ref b44), .val (.ref b46), .val (.ref b47), .val (.ref b48), .val (.int (2 : Int32)), .val (.ref b47), .val (.ref b46), .val (.ref r76), .val (.ref r77), .unset, .unset, .unset] []))
            refine own_back (fun t_ q_ => XS.aload X79.here hx rfl (hb hby at_154) rfl rfl q_) ?_
            show own_Gl _ _ _ _ (T79.setTop (mkF m 156 #[.val (.int sz), .val (.int mo), .val (.int cn), .val (.int bn), .val (.int (Int32.ofNat mN)), .val (.int (Int32.ofNat n)), .val (.ref b44), .val (.ref b46), .val (.ref b47), .val (.ref b48), .val (.int (2 : Int32)), .val (.ref b47), .val (.ref b46), .val (.ref r76), .val (.ref r77), .unset, .unset, .unset] [(.ref r76)]))
            refine own_back (fun t_ q_ => XS.iconst X79.here hx rfl (hb hby at_156) q_) ?_
            show own_Gl _ _ _ _ (T79.setTop (mkF m 157 #[.val (.int sz), .val (.int mo), .val (.int cn), .val (.int bn), .val (.int (Int32.ofNat mN)), .val (.int (Int32.ofNat n)), .val (.ref b44), .val (.ref b46), .val (.ref b47), .val (.ref b48), .val (.int (2 : Int32)), .val (.ref b47), .val (.ref b46), .val (.ref r76), .val (.ref r77), .unset, .unset, .unset] [(.int (2 : Int32)), (.ref r76)]))
            refine own_back (fun t_ q_ => XS.iload X79.here hx rfl (hb hby at_157) rfl q_) ?_
            show own_Gl _ _ _ _ (T79.setTop (mkF m 159 #[.val (.int sz), .val (.int mo), .val (.int cn), .val (.int bn), .val (.int (Int32.ofNat mN)), .val (.int (Int32.ofNat n)), .val (.ref b44), .val (.ref b46), .val (.ref b47), .val (.ref b48), .val (.int (2 : Int32)), .val (.ref b47), .val (.ref b46), .val (.ref r76), .val (.ref r77), .unset, .unset, .unset] [(.int (2 : Int32)), (.int (2 : Int32)), (.ref r76)]))
            refine own_back (fun t_ q_ => XS.aload X79.here hx rfl (hb hby at_159) rfl rfl q_) ?_
            show own_Gl _ _ _ _ (T79.setTop (mkF m 161 #[.val (.int sz), .val (.int mo), .val (.int cn), .val (.int bn), .val (.int (Int32.ofNat mN)), .val (.int (Int32.ofNat n)), .val (.ref b44), .val (.ref b46), .val (.ref b47), .val (.ref b48), .val (.int (2 : Int32)), .val (.ref b47), .val (.ref b46), .val (.ref r76), .val (.ref r77), .unset, .unset, .unset] [(.ref b46), (.int (2 : Int32)), (.int (2 : Int32)), (.ref r76)]))
            refine own_back (fun t_ q_ => XS.aload X79.here hx rfl (hb hby at_161) rfl rfl q_) ?_
            show own_Gl _ _ _ _ (T79.setTop (mkF m 163 #[.val (.int sz), .val (.int mo), .val (.int cn), .val (.int bn), .val (.int (Int32.ofNat mN)), .val (.int (Int32.ofNat n)), .val (.ref b44), .val (.ref b46), .val (.ref b47), .val (.ref b48), .val (.int (2 : Int32)), .val (.ref b47), .val (.ref b46), .val (.ref r76), .val (.ref r77), .unset, .unset, .unset] [(.ref b47), (.ref b46), (.int (2 : Int32)), (.int (2 : Int32)), (.ref r76)]))
            refine own_back (fun t_ q_ => XS.aload X79.here hx rfl (hb hby at_163) rfl rfl q_) ?_
            show own_Gl _ _ _ _ (T79.setTop (mkF m 165 #[.val (.int sz), .val (.int mo), .val (.int cn), .val (.int bn), .val (.int (Int32.ofNat mN)), .val (.int (Int32.ofNat n)), .val (.ref b44), .val (.ref b46), .val (.ref b47), .val (.ref b48), .val (.int (2 : Int32)), .val (.ref b47), .val (.ref b46), .val (.ref r76), .val (.ref r77), .unset, .unset, .unset] [(.ref b48), (.ref b47), (.ref b46), (.int (2 : Int32)), (.int (2 : Int32)), (.ref r76)]))
            refine own_back (fun t_ q_ => XS.iloadN X79.here hx rfl (hb hby at_165) rfl q_) ?_
            show own_Gl _ _ _ _ (T79.setTop (mkF m 166 #[.val (.int sz), .val (.int mo), .val (.int cn), .val (.int bn), .val (.int (Int32.ofNat mN)), .val (.int (Int32.ofNat n)), .val (.ref b44), .val (.ref b46), .val (.ref b47), .val (.ref b48), .val (.int (2 : Int32)), .val (.ref b47), .val (.ref b46), .val (.ref r76), .val (.ref r77), .unset, .unset, .unset] [(.int bn), (.ref b48), (.ref b47), (.ref b46), (.int (2 : Int32)), (.int (2 : Int32)), (.ref r76)]))
            obtain ⟨_, _, ⟨T80, L80, k80, n80⟩, -, X80, ⟨Lc80, hQ80, l80, y80, z80⟩, st80⟩ := Jvm.LawKit.callS X79 hx (y := (⟨"com/example/thermopylae/thermopylae/http/BufferPoolTakePinLaw", "step", "([BII[B[B[BI)Z"⟩ : MethodName)) hown (mvT hZ (hw _ (List.mem_of_getElem? (i := 81) rfl))) (mvT hZ (hw _ (List.mem_of_getElem? (i := 82) rfl))) (mvT hZ (hw _ (List.mem_of_getElem? (i := 83) rfl))) (mvT hZ (hw _ (List.mem_of_getElem? (i := 84) rfl))) (by decide) (backOf (W := 0) (rm15n l Z a0 hw [] r76 2 2 b46 b47 b48 bn T77.heap n0 Y4 cl76 A76 l76' (by decide) f76_b46 f76_b47 f76_b48) hZ (hw _ (List.mem_of_getElem? (i := 84) rfl)) (hw _ (List.mem_of_getElem? (i := 83) rfl)) (by decide) (by decide)) (g := (mkF m 166 #[.val (.int sz), .val (.int mo), .val (.int cn), .val (.int bn), .val (.int (Int32.ofNat mN)), .val (.int (Int32.ofNat n)), .val (.ref b44), .val (.ref b46), .val (.ref b47), .val (.ref b48), .val (.int (2 : Int32)), .val (.ref b47), .val (.ref b46), .val (.ref r76), .val (.ref r77), .unset, .unset, .unset] [(.int bn), (.ref b48), (.ref b47), (.ref b46), (.int (2 : Int32)), (.int (2 : Int32)), (.ref r76)])) rfl (by rw [hml]; rfl) (argsL := [(.ref r76), (.int (2 : Int32)), (.int (2 : Int32)), (.ref b46), (.ref b47), (.ref b48), (.int bn)]) (rest := []) (lenOf pd_10 rfl) rfl (by show 2 * 0 + _ ≤ _; exact Nat.le_of_eq rfl) (hb hby at_166) (fun _ _ => ⟨rfl, e79, (by decide : 10 + 0 ≤ _), (by decide : 281 + 0 ≤ _)⟩)
            dsimp only [Pt.U, Pt.locs, Pt.cells, Pt.slots] at X80 l80 y80 z80 st80 hQ80
            subst l80 y80 z80
            obtain ⟨rfl, M80, e80⟩ := hQ80
            have N80 := Fr.app N79 M80
            refine own_back st80 ?_
            show own_Gl _ _ _ _ (T80.setTop (mkF m 169 #[.val (.int sz), .val (.int mo), .val (.int cn), .val (.int bn), .val (.int (Int32.ofNat mN)), .val (.int (Int32.ofNat n)), .val (.ref b44), .val (.ref b46), .val (.ref b47), .val (.ref b48), .val (.int (2 : Int32)), .val (.ref b47), .val (.ref b46), .val (.ref r76), .val (.ref r77), .unset, .unset, .unset] [(.int (1 : Int32))]))
            refine own_back (fun t_ q_ => XS.ifNo X80.here hx rfl (hb hby at_169) rfl ((if0 _ _).trans (feq (by decide : ¬ ((1 : Int32) = (0 : Int32)))).1) q_) ?_
            show own_Gl _ _ _ _ (T80.setTop (mkF m 172 #[.val (.int sz), .val (.int mo), .val (.int cn), .val (.int bn), .val (.int (Int32.ofNat mN)), .val (.int (Int32.ofNat n)), .val (.ref b44), .val (.ref b46), .val (.ref b47), .val (.ref b48), .val (.int (2 : Int32)), .val (.ref b47), .val (.ref b46), .val (.ref r76), .val (.ref r77), .unset, .unset, .unset] []))
            refine own_back (fun t_ q_ => XS.aload X80.here hx rfl (hb hby at_172) rfl rfl q_) ?_
            show own_Gl _ _ _ _ (T80.setTop (mkF m 174 #[.val (.int sz), .val (.int mo), .val (.int cn), .val (.int bn), .val (.int (Int32.ofNat mN)), .val (.int (Int32.ofNat n)), .val (.ref b44), .val (.ref b46), .val (.ref b47), .val (.ref b48), .val (.int (2 : Int32)), .val (.ref b47), .val (.ref b46), .val (.ref r76), .val (.ref r77), .unset, .unset, .unset] [(.ref r77)]))
            refine own_back (fun t_ q_ => XS.iconst X80.here hx rfl (hb hby at_174) q_) ?_
            show own_Gl _ _ _ _ (T80.setTop (mkF m 175 #[.val (.int sz), .val (.int mo), .val (.int cn), .val (.int bn), .val (.int (Int32.ofNat mN)), .val (.int (Int32.ofNat n)), .val (.ref b44), .val (.ref b46), .val (.ref b47), .val (.ref b48), .val (.int (2 : Int32)), .val (.ref b47), .val (.ref b46), .val (.ref r76), .val (.ref r77), .unset, .unset, .unset] [(.int (3 : Int32)), (.ref r77)]))
            refine own_back (fun t_ q_ => XS.iload X80.here hx rfl (hb hby at_175) rfl q_) ?_
            show own_Gl _ _ _ _ (T80.setTop (mkF m 177 #[.val (.int sz), .val (.int mo), .val (.int cn), .val (.int bn), .val (.int (Int32.ofNat mN)), .val (.int (Int32.ofNat n)), .val (.ref b44), .val (.ref b46), .val (.ref b47), .val (.ref b48), .val (.int (2 : Int32)), .val (.ref b47), .val (.ref b46), .val (.ref r76), .val (.ref r77), .unset, .unset, .unset] [(.int (2 : Int32)), (.int (3 : Int32)), (.ref r77)]))
            refine own_back (fun t_ q_ => XS.aload X80.here hx rfl (hb hby at_177) rfl rfl q_) ?_
            show own_Gl _ _ _ _ (T80.setTop (mkF m 179 #[.val (.int sz), .val (.int mo), .val (.int cn), .val (.int bn), .val (.int (Int32.ofNat mN)), .val (.int (Int32.ofNat n)), .val (.ref b44), .val (.ref b46), .val (.ref b47), .val (.ref b48), .val (.int (2 : Int32)), .val (.ref b47), .val (.ref b46), .val (.ref r76), .val (.ref r77), .unset, .unset, .unset] [(.ref b46), (.int (2 : Int32)), (.int (3 : Int32)), (.ref r77)]))
            refine own_back (fun t_ q_ => XS.aload X80.here hx rfl (hb hby at_179) rfl rfl q_) ?_
            show own_Gl _ _ _ _ (T80.setTop (mkF m 181 #[.val (.int sz), .val (.int mo), .val (.int cn), .val (.int bn), .val (.int (Int32.ofNat mN)), .val (.int (Int32.ofNat n)), .val (.ref b44), .val (.ref b46), .val (.ref b47), .val (.ref b48), .val (.int (2 : Int32)), .val (.ref b47), .val (.ref b46), .val (.ref r76), .val (.ref r77), .unset, .unset, .unset] [(.ref b47), (.ref b46), (.int (2 : Int32)), (.int (3 : Int32)), (.ref r77)]))
            refine own_back (fun t_ q_ => XS.aload X80.here hx rfl (hb hby at_181) rfl rfl q_) ?_
            show own_Gl _ _ _ _ (T80.setTop (mkF m 183 #[.val (.int sz), .val (.int mo), .val (.int cn), .val (.int bn), .val (.int (Int32.ofNat mN)), .val (.int (Int32.ofNat n)), .val (.ref b44), .val (.ref b46), .val (.ref b47), .val (.ref b48), .val (.int (2 : Int32)), .val (.ref b47), .val (.ref b46), .val (.ref r76), .val (.ref r77), .unset, .unset, .unset] [(.ref b48), (.ref b47), (.ref b46), (.int (2 : Int32)), (.int (3 : Int32)), (.ref r77)]))
            refine own_back (fun t_ q_ => XS.iloadN X80.here hx rfl (hb hby at_183) rfl q_) ?_
            show own_Gl _ _ _ _ (T80.setTop (mkF m 184 #[.val (.int sz), .val (.int mo), .val (.int cn), .val (.int bn), .val (.int (Int32.ofNat mN)), .val (.int (Int32.ofNat n)), .val (.ref b44), .val (.ref b46), .val (.ref b47), .val (.ref b48), .val (.int (2 : Int32)), .val (.ref b47), .val (.ref b46), .val (.ref r76), .val (.ref r77), .unset, .unset, .unset] [(.int bn), (.ref b48), (.ref b47), (.ref b46), (.int (2 : Int32)), (.int (3 : Int32)), (.ref r77)]))
            obtain ⟨_, _, ⟨T81, L81, k81, n81⟩, -, X81, ⟨Lc81, hQ81, l81, y81, z81⟩, st81⟩ := Jvm.LawKit.callS X80 hx (y := (⟨"com/example/thermopylae/thermopylae/http/BufferPoolTakePinLaw", "step", "([BII[B[B[BI)Z"⟩ : MethodName)) hown (mvT hZ (hw _ (List.mem_of_getElem? (i := 81) rfl))) (mvT hZ (hw _ (List.mem_of_getElem? (i := 82) rfl))) (mvT hZ (hw _ (List.mem_of_getElem? (i := 83) rfl))) (mvT hZ (hw _ (List.mem_of_getElem? (i := 84) rfl))) (by decide) (backOf (W := 0) (rm15n l Z a0 hw [] r77 3 2 b46 b47 b48 bn T77.heap n0 Y4 cl77 A77 l77' (by decide) f77_b46 f77_b47 f77_b48) hZ (hw _ (List.mem_of_getElem? (i := 84) rfl)) (hw _ (List.mem_of_getElem? (i := 83) rfl)) (by decide) (by decide)) (g := (mkF m 184 #[.val (.int sz), .val (.int mo), .val (.int cn), .val (.int bn), .val (.int (Int32.ofNat mN)), .val (.int (Int32.ofNat n)), .val (.ref b44), .val (.ref b46), .val (.ref b47), .val (.ref b48), .val (.int (2 : Int32)), .val (.ref b47), .val (.ref b46), .val (.ref r76), .val (.ref r77), .unset, .unset, .unset] [(.int bn), (.ref b48), (.ref b47), (.ref b46), (.int (2 : Int32)), (.int (3 : Int32)), (.ref r77)])) rfl (by rw [hml]; rfl) (argsL := [(.ref r77), (.int (3 : Int32)), (.int (2 : Int32)), (.ref b46), (.ref b47), (.ref b48), (.int bn)]) (rest := []) (lenOf pd_10 rfl) rfl (by show 2 * 0 + _ ≤ _; exact Nat.le_of_eq rfl) (hb hby at_184) (fun _ _ => ⟨rfl, e80, (by decide : 10 + 0 ≤ _), (by decide : 281 + 0 ≤ _)⟩)
            dsimp only [Pt.U, Pt.locs, Pt.cells, Pt.slots] at X81 l81 y81 z81 st81 hQ81
            subst l81 y81 z81
            obtain ⟨rfl, M81, e81⟩ := hQ81
            have N81 := Fr.app N80 M81
            refine own_back st81 ?_
            show own_Gl _ _ _ _ (T81.setTop (mkF m 187 #[.val (.int sz), .val (.int mo), .val (.int cn), .val (.int bn), .val (.int (Int32.ofNat mN)), .val (.int (Int32.ofNat n)), .val (.ref b44), .val (.ref b46), .val (.ref b47), .val (.ref b48), .val (.int (2 : Int32)), .val (.ref b47), .val (.ref b46), .val (.ref r76), .val (.ref r77), .unset, .unset, .unset] [(.int (1 : Int32))]))
            refine own_back (fun t_ q_ => XS.ifNo X81.here hx rfl (hb hby at_187) rfl ((if0 _ _).trans (feq (by decide : ¬ ((1 : Int32) = (0 : Int32)))).1) q_) ?_
            show own_Gl _ _ _ _ (T81.setTop (mkF m 190 #[.val (.int sz), .val (.int mo), .val (.int cn), .val (.int bn), .val (.int (Int32.ofNat mN)), .val (.int (Int32.ofNat n)), .val (.ref b44), .val (.ref b46), .val (.ref b47), .val (.ref b48), .val (.int (2 : Int32)), .val (.ref b47), .val (.ref b46), .val (.ref r76), .val (.ref r77), .unset, .unset, .unset] []))
            refine own_back (fun t_ q_ => XS.iconst X81.here hx rfl (hb hby at_190) q_) ?_
            show own_Gl _ _ _ _ (T81.setTop (mkF m 191 #[.val (.int sz), .val (.int mo), .val (.int cn), .val (.int bn), .val (.int (Int32.ofNat mN)), .val (.int (Int32.ofNat n)), .val (.ref b44), .val (.ref b46), .val (.ref b47), .val (.ref b48), .val (.int (2 : Int32)), .val (.ref b47), .val (.ref b46), .val (.ref r76), .val (.ref r77), .unset, .unset, .unset] [(.int (1 : Int32))]))
            refine own_back (fun t_ q_ => XS.goto X81.here hx rfl (pc0 := 191) (pc' := 195) rfl (hb hby at_191) (by decide) (by decide) q_) ?_
            show own_Gl _ _ _ _ (T81.setTop (mkF m 195 #[.val (.int sz), .val (.int mo), .val (.int cn), .val (.int bn), .val (.int (Int32.ofNat mN)), .val (.int (Int32.ofNat n)), .val (.ref b44), .val (.ref b46), .val (.ref b47), .val (.ref b48), .val (.int (2 : Int32)), .val (.ref b47), .val (.ref b46), .val (.ref r76), .val (.ref r77), .unset, .unset, .unset] [(.int (1 : Int32))]))
            refine own_back (fun t_ q_ => XS.istore X81.here hx rfl (hb hby at_195) rfl (l' := #[.val (.int sz), .val (.int mo), .val (.int cn), .val (.int bn), .val (.int (Int32.ofNat mN)), .val (.int (Int32.ofNat n)), .val (.ref b44), .val (.ref b46), .val (.ref b47), .val (.ref b48), .val (.int (2 : Int32)), .val (.ref b47), .val (.ref b46), .val (.ref r76), .val (.ref r77), .val (.int (1 : Int32)), .unset, .unset]) rfl q_) ?_
            show own_Gl _ _ _ _ (T81.setTop (mkF m 197 #[.val (.int sz), .val (.int mo), .val (.int cn), .val (.int bn), .val (.int (Int32.ofNat mN)), .val (.int (Int32.ofNat n)), .val (.ref b44), .val (.ref b46), .val (.ref b47), .val (.ref b48), .val (.int (2 : Int32)), .val (.ref b47), .val (.ref b46), .val (.ref r76), .val (.ref r77), .val (.int (1 : Int32)), .unset, .unset] []))
            refine own_back (fun t_ q_ => XS.iload X81.here hx rfl (hb hby at_197) rfl q_) ?_
            show own_Gl _ _ _ _ (T81.setTop (mkF m 199 #[.val (.int sz), .val (.int mo), .val (.int cn), .val (.int bn), .val (.int (Int32.ofNat mN)), .val (.int (Int32.ofNat n)), .val (.ref b44), .val (.ref b46), .val (.ref b47), .val (.ref b48), .val (.int (2 : Int32)), .val (.ref b47), .val (.ref b46), .val (.ref r76), .val (.ref r77), .val (.int (1 : Int32)), .unset, .unset] [(.int (1 : Int32))]))
            refine own_back (fun t_ q_ => XS.ifYes X81.here hx rfl (pc0 := 199) (pc' := 204) rfl (hb hby at_199) rfl ((if0 _ _).trans (feq (by decide : ¬ ((1 : Int32) = (0 : Int32)))).2) (by decide) (by decide) q_) ?_
            show own_Gl _ _ _ _ (T81.setTop (mkF m 204 #[.val (.int sz), .val (.int mo), .val (.int cn), .val (.int bn), .val (.int (Int32.ofNat mN)), .val (.int (Int32.ofNat n)), .val (.ref b44), .val (.ref b46), .val (.ref b47), .val (.ref b48), .val (.int (2 : Int32)), .val (.ref b47), .val (.ref b46), .val (.ref r76), .val (.ref r77), .val (.int (1 : Int32)), .unset, .unset] []))
            exact tail53 (T81, T77.heap, b47, b46, r76, r77, (2 : Int32)) ⟨⟨_, X81, N81⟩, e81, ⟨Y4, V4, B77, ⟨lb, la, lr76⟩, ne01.symm, f76_b47.symm, f77_b47.symm, f76_b46.symm, f77_b46.symm, f77_r76.symm⟩⟩
          · skip
            rw [h] at Wc ⊢
            have V0 : own_W Z h51 b44 dq es k bn (Int32.ofNat mN) ([b46, b47, b48]) := Wc
            have Y0 := Zc
            show own_Gl _ _ _ _ (T52.setTop (mkF m 90 #[.val (.int sz), .val (.int mo), .val (.int cn), .val (.int bn), .val (.int (Int32.ofNat mN)), .val (.int (Int32.ofNat n)), .val (.ref b44), .val (.ref b46), .val (.ref b47), .val (.ref b48), .val (.int (3 : Int32)), .unset, .unset, .unset, .unset, .unset, .unset, .unset] []))
            obtain ⟨y1, y2, y3, y4, y5⟩ := own_neP (hw _ (List.mem_of_getElem? (i := 1) rfl)) V0
            have la := Xa.lt
            have lb := Xb.lt
            have ld := Xd.lt
            refine own_back (fun t_ q_ => XS.aload X52.here hx rfl (hb hby at_90) rfl rfl q_) ?_
            show own_Gl _ _ _ _ (T52.setTop (mkF m 92 #[.val (.int sz), .val (.int mo), .val (.int cn), .val (.int bn), .val (.int (Int32.ofNat mN)), .val (.int (Int32.ofNat n)), .val (.ref b44), .val (.ref b46), .val (.ref b47), .val (.ref b48), .val (.int (3 : Int32)), .unset, .unset, .unset, .unset, .unset, .unset, .unset] [(.ref b44)]))
            obtain ⟨cq82, kq82, q82a, q82b, q82c⟩ := isOf hZ e52 V0.1
            obtain ⟨_, _, ⟨T82, L82, k82, n82⟩, -, X82, ⟨Lc82, hQ82, l82, y82, z82⟩, st82⟩ := X52.virtualBack hx (y := (⟨"com/example/thermopylae/thermopylae/http/BufferPool", "take", "()[B"⟩ : MethodName)) (z := (⟨"com/example/thermopylae/thermopylae/http/BufferPool", "take", "()[B"⟩ : MethodName)) hown (mvT hZ (hw _ (List.mem_of_getElem? (i := 63) rfl))) (mvT hZ (hw _ (List.mem_of_getElem? (i := 64) rfl))) (notFace_of_selects (args := #[]) (mvT hZ (hw _ (List.mem_of_getElem? (i := 66) rfl)))) (mvT hZ (hw _ (List.mem_of_getElem? (i := 66) rfl))) (mvT hZ (hw _ (List.mem_of_getElem? (i := 65) rfl))) (by decide) (backOf (W := 0) (rm11s l Z a0 hw [] b44 h51 n0 Y0 dq es b48 k bn (Int32.ofNat mN) [b46, b47] V0 gd ge) hZ (hw _ (List.mem_of_getElem? (i := 67) rfl)) (hw _ (List.mem_of_getElem? (i := 2) rfl)) (by decide) (by decide)) q82a q82c (g := (mkF m 92 #[.val (.int sz), .val (.int mo), .val (.int cn), .val (.int bn), .val (.int (Int32.ofNat mN)), .val (.int (Int32.ofNat n)), .val (.ref b44), .val (.ref b46), .val (.ref b47), .val (.ref b48), .val (.int (3 : Int32)), .unset, .unset, .unset, .unset, .unset, .unset, .unset] [(.ref b44)])) rfl (by rw [hml]; rfl) (Steps.refl _) (argsL := []) (rest := []) (lenOf pd_9 rfl) rfl (by show 2 * 0 + _ ≤ _; exact Nat.le_of_eq rfl) (hb hby at_92) (fun _ _ => ⟨rfl, e52, (by decide : 6 + 1 ≤ _), (by decide : 29 + 63 ≤ _)⟩)
            dsimp only [Pt.U, Pt.locs, Pt.cells, Pt.slots] at X82 l82 y82 z82 st82 hQ82
            subst l82 y82 z82
            obtain ⟨rfl, M82, K82, V82⟩ := hQ82
            have N82 := Fr.app N52 M82
            refine own_trans st82 ?_
            show own_Gl _ _ _ _ (T82.setTop (mkF m 95 #[.val (.int sz), .val (.int mo), .val (.int cn), .val (.int bn), .val (.int (Int32.ofNat mN)), .val (.int (Int32.ofNat n)), .val (.ref b44), .val (.ref b46), .val (.ref b47), .val (.ref b48), .val (.int (3 : Int32)), .unset, .unset, .unset, .unset, .unset, .unset, .unset] [(.ref b48)]))
            have V1 := V82
            have Y1 : n0 ≤ T82.heap.size := Nat.le_trans Y0 K82.1
            have Xa := Xa.keep K82
            have Xb := Xb.keep K82
            have Xd := Xd.keep K82
            have la := Xa.lt
            have lb := Xb.lt
            have ld := Xd.lt
            refine own_back (fun t_ q_ => XS.astore X82.here hx rfl (hb hby at_95) rfl rfl (l' := #[.val (.int sz), .val (.int mo), .val (.int cn), .val (.int bn), .val (.int (Int32.ofNat mN)), .val (.int (Int32.ofNat n)), .val (.ref b44), .val (.ref b46), .val (.ref b47), .val (.ref b48), .val (.int (3 : Int32)), .val (.ref b48), .unset, .unset, .unset, .unset, .unset, .unset]) rfl q_) ?_
            show own_Gl _ _ _ _ (T82.setTop (mkF m 97 #[.val (.int sz), .val (.int mo), .val (.int cn), .val (.int bn), .val (.int (Int32.ofNat mN)), .val (.int (Int32.ofNat n)), .val (.ref b44), .val (.ref b46), .val (.ref b47), .val (.ref b48), .val (.int (3 : Int32)), .val (.ref b48), .unset, .unset, .unset, .unset, .unset, .unset] []))
            refine own_back (fun t_ q_ => XS.aload X82.here hx rfl (hb hby at_97) rfl rfl q_) ?_
            show own_Gl _ _ _ _ (T82.setTop (mkF m 99 #[.val (.int sz), .val (.int mo), .val (.int cn), .val (.int bn), .val (.int (Int32.ofNat mN)), .val (.int (Int32.ofNat n)), .val (.ref b44), .val (.ref b46), .val (.ref b47), .val (.ref b48), .val (.int (3 : Int32)), .val (.ref b48), .unset, .unset, .unset, .unset, .unset, .unset] [(.ref b44)]))
            obtain ⟨cq83, kq83, q83a, q83b, q83c⟩ := isOf hZ rfl V1.1
            obtain ⟨_, _, ⟨T83, L83, k83, n83⟩, -, X83, ⟨Lc83, hQ83, l83, y83, z83⟩, st83⟩ := X82.virtualBack hx (y := (⟨"com/example/thermopylae/thermopylae/http/BufferPool", "take", "()[B"⟩ : MethodName)) (z := (⟨"com/example/thermopylae/thermopylae/http/BufferPool", "take", "()[B"⟩ : MethodName)) hown (mvT hZ (hw _ (List.mem_of_getElem? (i := 63) rfl))) (mvT hZ (hw _ (List.mem_of_getElem? (i := 64) rfl))) (notFace_of_selects (args := #[]) (mvT hZ (hw _ (List.mem_of_getElem? (i := 66) rfl)))) (mvT hZ (hw _ (List.mem_of_getElem? (i := 66) rfl))) (mvT hZ (hw _ (List.mem_of_getElem? (i := 65) rfl))) (by decide) (backOf (W := 0) (rm11s l Z a0 hw [] b44 T82.heap n0 Y1 dq es b47 k bn (Int32.ofNat mN) [b46] V1 gd ge) hZ (hw _ (List.mem_of_getElem? (i := 67) rfl)) (hw _ (List.mem_of_getElem? (i := 2) rfl)) (by decide) (by decide)) q83a q83c (g := (mkF m 99 #[.val (.int sz), .val (.int mo), .val (.int cn), .val (.int bn), .val (.int (Int32.ofNat mN)), .val (.int (Int32.ofNat n)), .val (.ref b44), .val (.ref b46), .val (.ref b47), .val (.ref b48), .val (.int (3 : Int32)), .val (.ref b48), .unset, .unset, .unset, .unset, .unset, .unset] [(.ref b44)])) rfl (by rw [hml]; rfl) (Steps.refl _) (argsL := []) (rest := []) (lenOf pd_9 rfl) rfl (by show 2 * 0 + _ ≤ _; exact Nat.le_of_eq rfl) (hb hby at_99) (fun _ _ => ⟨rfl, rfl, (by decide : 7 + 1 ≤ _), (by decide : 92 + 63 ≤ _)⟩)
            dsimp only [Pt.U, Pt.locs, Pt.cells, Pt.slots] at X83 l83 y83 z83 st83 hQ83
            subst l83 y83 z83
            obtain ⟨rfl, M83, K83, V83⟩ := hQ83
            have N83 := Fr.app N82 M83
            refine own_trans st83 ?_
            show own_Gl _ _ _ _ (T83.setTop (mkF m 102 #[.val (.int sz), .val (.int mo), .val (.int cn), .val (.int bn), .val (.int (Int32.ofNat mN)), .val (.int (Int32.ofNat n)), .val (.ref b44), .val (.ref b46), .val (.ref b47), .val (.ref b48), .val (.int (3 : Int32)), .val (.ref b48), .unset, .unset, .unset, .unset, .unset, .unset] [(.ref b47)]))
            have V2 := V83
            have Y2 : n0 ≤ T83.heap.size := Nat.le_trans Y1 K83.1
            have Xa := Xa.keep K83
            have Xb := Xb.keep K83
            have Xd := Xd.keep K83
            have la := Xa.lt
            have lb := Xb.lt
            have ld := Xd.lt
            refine own_back (fun t_ q_ => XS.astore X83.here hx rfl (hb hby at_102) rfl rfl (l' := #[.val (.int sz), .val (.int mo), .val (.int cn), .val (.int bn), .val (.int (Int32.ofNat mN)), .val (.int (Int32.ofNat n)), .val (.ref b44), .val (.ref b46), .val (.ref b47), .val (.ref b48), .val (.int (3 : Int32)), .val (.ref b48), .val (.ref b47), .unset, .unset, .unset, .unset, .unset]) rfl q_) ?_
            show own_Gl _ _ _ _ (T83.setTop (mkF m 104 #[.val (.int sz), .val (.int mo), .val (.int cn), .val (.int bn), .val (.int (Int32.ofNat mN)), .val (.int (Int32.ofNat n)), .val (.ref b44), .val (.ref b46), .val (.ref b47), .val (.ref b48), .val (.int (3 : Int32)), .val (.ref b48), .val (.ref b47), .unset, .unset, .unset, .unset, .unset] []))
            refine own_back (fun t_ q_ => XS.aload X83.here hx rfl (hb hby at_104) rfl rfl q_) ?_
            show own_Gl _ _ _ _ (T83.setTop (mkF m 106 #[.val (.int sz), .val (.int mo), .val (.int cn), .val (.int bn), .val (.int (Int32.ofNat mN)), .val (.int (Int32.ofNat n)), .val (.ref b44), .val (.ref b46), .val (.ref b47), .val (.ref b48), .val (.int (3 : Int32)), .val (.ref b48), .val (.ref b47), .unset, .unset, .unset, .unset, .unset] [(.ref b44)]))
            obtain ⟨cq84, kq84, q84a, q84b, q84c⟩ := isOf hZ rfl V2.1
            obtain ⟨_, _, ⟨T84, L84, k84, n84⟩, -, X84, ⟨Lc84, hQ84, l84, y84, z84⟩, st84⟩ := X83.virtualBack hx (y := (⟨"com/example/thermopylae/thermopylae/http/BufferPool", "take", "()[B"⟩ : MethodName)) (z := (⟨"com/example/thermopylae/thermopylae/http/BufferPool", "take", "()[B"⟩ : MethodName)) hown (mvT hZ (hw _ (List.mem_of_getElem? (i := 63) rfl))) (mvT hZ (hw _ (List.mem_of_getElem? (i := 64) rfl))) (notFace_of_selects (args := #[]) (mvT hZ (hw _ (List.mem_of_getElem? (i := 66) rfl)))) (mvT hZ (hw _ (List.mem_of_getElem? (i := 66) rfl))) (mvT hZ (hw _ (List.mem_of_getElem? (i := 65) rfl))) (by decide) (backOf (W := 0) (rm11s l Z a0 hw [] b44 T83.heap n0 Y2 dq es b46 k bn (Int32.ofNat mN) [] V2 gd ge) hZ (hw _ (List.mem_of_getElem? (i := 67) rfl)) (hw _ (List.mem_of_getElem? (i := 2) rfl)) (by decide) (by decide)) q84a q84c (g := (mkF m 106 #[.val (.int sz), .val (.int mo), .val (.int cn), .val (.int bn), .val (.int (Int32.ofNat mN)), .val (.int (Int32.ofNat n)), .val (.ref b44), .val (.ref b46), .val (.ref b47), .val (.ref b48), .val (.int (3 : Int32)), .val (.ref b48), .val (.ref b47), .unset, .unset, .unset, .unset, .unset] [(.ref b44)])) rfl (by rw [hml]; rfl) (Steps.refl _) (argsL := []) (rest := []) (lenOf pd_9 rfl) rfl (by show 2 * 0 + _ ≤ _; exact Nat.le_of_eq rfl) (hb hby at_106) (fun _ _ => ⟨rfl, rfl, (by decide : 8 + 1 ≤ _), (by decide : 155 + 63 ≤ _)⟩)
            dsimp only [Pt.U, Pt.locs, Pt.cells, Pt.slots] at X84 l84 y84 z84 st84 hQ84
            subst l84 y84 z84
            obtain ⟨rfl, M84, K84, V84⟩ := hQ84
            have N84 := Fr.app N83 M84
            refine own_trans st84 ?_
            show own_Gl _ _ _ _ (T84.setTop (mkF m 109 #[.val (.int sz), .val (.int mo), .val (.int cn), .val (.int bn), .val (.int (Int32.ofNat mN)), .val (.int (Int32.ofNat n)), .val (.ref b44), .val (.ref b46), .val (.ref b47), .val (.ref b48), .val (.int (3 : Int32)), .val (.ref b48), .val (.ref b47), .unset, .unset, .unset, .unset, .unset] [(.ref b46)]))
            have V3 := V84
            have Y3 : n0 ≤ T84.heap.size := Nat.le_trans Y2 K84.1
            have Xa := Xa.keep K84
            have Xb := Xb.keep K84
            have Xd := Xd.keep K84
            have la := Xa.lt
            have lb := Xb.lt
            have ld := Xd.lt
            refine own_back (fun t_ q_ => XS.astore X84.here hx rfl (hb hby at_109) rfl rfl (l' := #[.val (.int sz), .val (.int mo), .val (.int cn), .val (.int bn), .val (.int (Int32.ofNat mN)), .val (.int (Int32.ofNat n)), .val (.ref b44), .val (.ref b46), .val (.ref b47), .val (.ref b48), .val (.int (3 : Int32)), .val (.ref b48), .val (.ref b47), .val (.ref b46), .unset, .unset, .unset, .unset]) rfl q_) ?_
            show own_Gl _ _ _ _ (T84.setTop (mkF m 111 #[.val (.int sz), .val (.int mo), .val (.int cn), .val (.int bn), .val (.int (Int32.ofNat mN)), .val (.int (Int32.ofNat n)), .val (.ref b44), .val (.ref b46), .val (.ref b47), .val (.ref b48), .val (.int (3 : Int32)), .val (.ref b48), .val (.ref b47), .val (.ref b46), .unset, .unset, .unset, .unset] []))
            refine own_back (fun t_ q_ => XS.aload X84.here hx rfl (hb hby at_111) rfl rfl q_) ?_
            show own_Gl _ _ _ _ (T84.setTop (mkF m 113 #[.val (.int sz), .val (.int mo), .val (.int cn), .val (.int bn), .val (.int (Int32.ofNat mN)), .val (.int (Int32.ofNat n)), .val (.ref b44), .val (.ref b46), .val (.ref b47), .val (.ref b48), .val (.int (3 : Int32)), .val (.ref b48), .val (.ref b47), .val (.ref b46), .unset, .unset, .unset, .unset] [(.ref b44)]))
            obtain ⟨cq85, kq85, q85a, q85b, q85c⟩ := isOf hZ rfl V3.1
            obtain ⟨_, _, ⟨T85, L85, k85, n85⟩, -, X85, ⟨Lc85, hQ85, l85, y85, z85⟩, st85⟩ := X84.virtualBack hx (y := (⟨"com/example/thermopylae/thermopylae/http/BufferPool", "take", "()[B"⟩ : MethodName)) (z := (⟨"com/example/thermopylae/thermopylae/http/BufferPool", "take", "()[B"⟩ : MethodName)) hown (mvT hZ (hw _ (List.mem_of_getElem? (i := 63) rfl))) (mvT hZ (hw _ (List.mem_of_getElem? (i := 64) rfl))) (notFace_of_selects (args := #[]) (mvT hZ (hw _ (List.mem_of_getElem? (i := 66) rfl)))) (mvT hZ (hw _ (List.mem_of_getElem? (i := 66) rfl))) (mvT hZ (hw _ (List.mem_of_getElem? (i := 65) rfl))) (by decide) (backOf (W := 0) (rm11 l Z a0 hw [] b44 T84.heap n0 Y3 dq es k bn (Int32.ofNat mN) V3 bn1 bn2) hZ (hw _ (List.mem_of_getElem? (i := 67) rfl)) (hw _ (List.mem_of_getElem? (i := 2) rfl)) (by decide) (by decide)) q85a q85c (g := (mkF m 113 #[.val (.int sz), .val (.int mo), .val (.int cn), .val (.int bn), .val (.int (Int32.ofNat mN)), .val (.int (Int32.ofNat n)), .val (.ref b44), .val (.ref b46), .val (.ref b47), .val (.ref b48), .val (.int (3 : Int32)), .val (.ref b48), .val (.ref b47), .val (.ref b46), .unset, .unset, .unset, .unset] [(.ref b44)])) rfl (by rw [hml]; rfl) (Steps.refl _) (argsL := []) (rest := []) (lenOf pd_9 rfl) rfl (by show 2 * 0 + _ ≤ _; exact Nat.le_of_eq rfl) (hb hby at_113) (fun _ _ => ⟨rfl, rfl, (by decide : 9 + 1 ≤ _), (by decide : 218 + 63 ≤ _)⟩)
            dsimp only [Pt.U, Pt.locs, Pt.cells, Pt.slots] at X85 l85 y85 z85 st85 hQ85
            subst l85 y85 z85
            obtain ⟨r85, rfl, M85, K85, G85, B85, V85, cl85, A85, l85'⟩ := hQ85
            have N85 := Fr.app N84 M85
            refine own_trans st85 ?_
            show own_Gl _ _ _ _ (T85.setTop (mkF m 116 #[.val (.int sz), .val (.int mo), .val (.int cn), .val (.int bn), .val (.int (Int32.ofNat mN)), .val (.int (Int32.ofNat n)), .val (.ref b44), .val (.ref b46), .val (.ref b47), .val (.ref b48), .val (.int (3 : Int32)), .val (.ref b48), .val (.ref b47), .val (.ref b46), .unset, .unset, .unset, .unset] [(.ref r85)]))
            have V4 := V85
            have Y4 : n0 ≤ T85.heap.size := Nat.le_trans Y3 K85.1
            have Xa := Xa.keep K85
            have Xb := Xb.keep K85
            have Xd := Xd.keep K85
            have f85_b46 : r85 ≠ b46 := Nat.ne_of_gt (Nat.lt_of_lt_of_le la G85)
            have f85_b47 : r85 ≠ b47 := Nat.ne_of_gt (Nat.lt_of_lt_of_le lb G85)
            have f85_b48 : r85 ≠ b48 := Nat.ne_of_gt (Nat.lt_of_lt_of_le ld G85)
            have la := Xa.lt
            have lb := Xb.lt
            have ld := Xd.lt
            have lr85 := B85.lt
            refine own_back (fun t_ q_ => XS.astore X85.here hx rfl (hb hby at_116) rfl rfl (l' := #[.val (.int sz), .val (.int mo), .val (.int cn), .val (.int bn), .val (.int (Int32.ofNat mN)), .val (.int (Int32.ofNat n)), .val (.ref b44), .val (.ref b46), .val (.ref b47), .val (.ref b48), .val (.int (3 : Int32)), .val (.ref b48), .val (.ref b47), .val (.ref b46), .val (.ref r85), .unset, .unset, .unset]) rfl q_) ?_
            show own_Gl _ _ _ _ (T85.setTop (mkF m 118 #[.val (.int sz), .val (.int mo), .val (.int cn), .val (.int bn), .val (.int (Int32.ofNat mN)), .val (.int (Int32.ofNat n)), .val (.ref b44), .val (.ref b46), .val (.ref b47), .val (.ref b48), .val (.int (3 : Int32)), .val (.ref b48), .val (.ref b47), .val (.ref b46), .val (.ref r85), .unset, .unset, .unset] []))
            refine own_back (fun t_ q_ => XS.aload X85.here hx rfl (hb hby at_118) rfl rfl q_) ?_
            show own_Gl _ _ _ _ (T85.setTop (mkF m 120 #[.val (.int sz), .val (.int mo), .val (.int cn), .val (.int bn), .val (.int (Int32.ofNat mN)), .val (.int (Int32.ofNat n)), .val (.ref b44), .val (.ref b46), .val (.ref b47), .val (.ref b48), .val (.int (3 : Int32)), .val (.ref b48), .val (.ref b47), .val (.ref b46), .val (.ref r85), .unset, .unset, .unset] [(.ref b48)]))
            refine own_back (fun t_ q_ => XS.iconst X85.here hx rfl (hb hby at_120) q_) ?_
            show own_Gl _ _ _ _ (T85.setTop (mkF m 121 #[.val (.int sz), .val (.int mo), .val (.int cn), .val (.int bn), .val (.int (Int32.ofNat mN)), .val (.int (Int32.ofNat n)), .val (.ref b44), .val (.ref b46), .val (.ref b47), .val (.ref b48), .val (.int (3 : Int32)), .val (.ref b48), .val (.ref b47), .val (.ref b46), .val (.ref r85), .unset, .unset, .unset] [(.int (0 : Int32)), (.ref b48)]))
            refine own_back (fun t_ q_ => XS.iload X85.here hx rfl (hb hby at_121) rfl q_) ?_
            show own_Gl _ _ _ _ (T85.setTop (mkF m 123 #[.val (.int sz), .val (.int mo), .val (.int cn), .val (.int bn), .val (.int (Int32.ofNat mN)), .val (.int (Int32.ofNat n)), .val (.ref b44), .val (.ref b46), .val (.ref b47), .val (.ref b48), .val (.int (3 : Int32)), .val (.ref b48), .val (.ref b47), .val (.ref b46), .val (.ref r85), .unset, .unset, .unset] [(.int (3 : Int32)), (.int (0 : Int32)), (.ref b48)]))
            refine own_back (fun t_ q_ => XS.aload X85.here hx rfl (hb hby at_123) rfl rfl q_) ?_
            show own_Gl _ _ _ _ (T85.setTop (mkF m 125 #[.val (.int sz), .val (.int mo), .val (.int cn), .val (.int bn), .val (.int (Int32.ofNat mN)), .val (.int (Int32.ofNat n)), .val (.ref b44), .val (.ref b46), .val (.ref b47), .val (.ref b48), .val (.int (3 : Int32)), .val (.ref b48), .val (.ref b47), .val (.ref b46), .val (.ref r85), .unset, .unset, .unset] [(.ref b46), (.int (3 : Int32)), (.int (0 : Int32)), (.ref b48)]))
            refine own_back (fun t_ q_ => XS.aload X85.here hx rfl (hb hby at_125) rfl rfl q_) ?_
            show own_Gl _ _ _ _ (T85.setTop (mkF m 127 #[.val (.int sz), .val (.int mo), .val (.int cn), .val (.int bn), .val (.int (Int32.ofNat mN)), .val (.int (Int32.ofNat n)), .val (.ref b44), .val (.ref b46), .val (.ref b47), .val (.ref b48), .val (.int (3 : Int32)), .val (.ref b48), .val (.ref b47), .val (.ref b46), .val (.ref r85), .unset, .unset, .unset] [(.ref b47), (.ref b46), (.int (3 : Int32)), (.int (0 : Int32)), (.ref b48)]))
            refine own_back (fun t_ q_ => XS.aload X85.here hx rfl (hb hby at_127) rfl rfl q_) ?_
            show own_Gl _ _ _ _ (T85.setTop (mkF m 129 #[.val (.int sz), .val (.int mo), .val (.int cn), .val (.int bn), .val (.int (Int32.ofNat mN)), .val (.int (Int32.ofNat n)), .val (.ref b44), .val (.ref b46), .val (.ref b47), .val (.ref b48), .val (.int (3 : Int32)), .val (.ref b48), .val (.ref b47), .val (.ref b46), .val (.ref r85), .unset, .unset, .unset] [(.ref b48), (.ref b47), (.ref b46), (.int (3 : Int32)), (.int (0 : Int32)), (.ref b48)]))
            refine own_back (fun t_ q_ => XS.iloadN X85.here hx rfl (hb hby at_129) rfl q_) ?_
            show own_Gl _ _ _ _ (T85.setTop (mkF m 130 #[.val (.int sz), .val (.int mo), .val (.int cn), .val (.int bn), .val (.int (Int32.ofNat mN)), .val (.int (Int32.ofNat n)), .val (.ref b44), .val (.ref b46), .val (.ref b47), .val (.ref b48), .val (.int (3 : Int32)), .val (.ref b48), .val (.ref b47), .val (.ref b46), .val (.ref r85), .unset, .unset, .unset] [(.int bn), (.ref b48), (.ref b47), (.ref b46), (.int (3 : Int32)), (.int (0 : Int32)), (.ref b48)]))
            obtain ⟨_, _, ⟨T86, L86, k86, n86⟩, -, X86, ⟨Lc86, hQ86, l86, y86, z86⟩, st86⟩ := Jvm.LawKit.callS X85 hx (y := (⟨"com/example/thermopylae/thermopylae/http/BufferPoolTakePinLaw", "step", "([BII[B[B[BI)Z"⟩ : MethodName)) hown (mvT hZ (hw _ (List.mem_of_getElem? (i := 81) rfl))) (mvT hZ (hw _ (List.mem_of_getElem? (i := 82) rfl))) (mvT hZ (hw _ (List.mem_of_getElem? (i := 83) rfl))) (mvT hZ (hw _ (List.mem_of_getElem? (i := 84) rfl))) (by decide) (backOf (W := 0) (rm15 l Z a0 hw [] b48 0 3 b46 b47 b48 bn T85.heap n0 Y4 (by decide) (Or.inr (Or.inr ⟨by decide, by decide, rfl⟩))) hZ (hw _ (List.mem_of_getElem? (i := 84) rfl)) (hw _ (List.mem_of_getElem? (i := 83) rfl)) (by decide) (by decide)) (g := (mkF m 130 #[.val (.int sz), .val (.int mo), .val (.int cn), .val (.int bn), .val (.int (Int32.ofNat mN)), .val (.int (Int32.ofNat n)), .val (.ref b44), .val (.ref b46), .val (.ref b47), .val (.ref b48), .val (.int (3 : Int32)), .val (.ref b48), .val (.ref b47), .val (.ref b46), .val (.ref r85), .unset, .unset, .unset] [(.int bn), (.ref b48), (.ref b47), (.ref b46), (.int (3 : Int32)), (.int (0 : Int32)), (.ref b48)])) rfl (by rw [hml]; rfl) (argsL := [(.ref b48), (.int (0 : Int32)), (.int (3 : Int32)), (.ref b46), (.ref b47), (.ref b48), (.int bn)]) (rest := []) (lenOf pd_10 rfl) rfl (by show 2 * 0 + _ ≤ _; exact Nat.le_of_eq rfl) (hb hby at_130) (fun _ _ => ⟨rfl, rfl, (by decide : 10 + 0 ≤ _), (by decide : 281 + 0 ≤ _)⟩)
            dsimp only [Pt.U, Pt.locs, Pt.cells, Pt.slots] at X86 l86 y86 z86 st86 hQ86
            subst l86 y86 z86
            obtain ⟨rfl, M86, e86⟩ := hQ86
            have N86 := Fr.app N85 M86
            refine own_back st86 ?_
            show own_Gl _ _ _ _ (T86.setTop (mkF m 133 #[.val (.int sz), .val (.int mo), .val (.int cn), .val (.int bn), .val (.int (Int32.ofNat mN)), .val (.int (Int32.ofNat n)), .val (.ref b44), .val (.ref b46), .val (.ref b47), .val (.ref b48), .val (.int (3 : Int32)), .val (.ref b48), .val (.ref b47), .val (.ref b46), .val (.ref r85), .unset, .unset, .unset] [(.int (1 : Int32))]))
            refine own_back (fun t_ q_ => XS.ifNo X86.here hx rfl (hb hby at_133) rfl ((if0 _ _).trans (feq (by decide : ¬ ((1 : Int32) = (0 : Int32)))).1) q_) ?_
            show own_Gl _ _ _ _ (T86.setTop (mkF m 136 #[.val (.int sz), .val (.int mo), .val (.int cn), .val (.int bn), .val (.int (Int32.ofNat mN)), .val (.int (Int32.ofNat n)), .val (.ref b44), .val (.ref b46), .val (.ref b47), .val (.ref b48), .val (.int (3 : Int32)), .val (.ref b48), .val (.ref b47), .val (.ref b46), .val (.ref r85), .unset, .unset, .unset] []))
            refine own_back (fun t_ q_ => XS.aload X86.here hx rfl (hb hby at_136) rfl rfl q_) ?_
            show own_Gl _ _ _ _ (T86.setTop (mkF m 138 #[.val (.int sz), .val (.int mo), .val (.int cn), .val (.int bn), .val (.int (Int32.ofNat mN)), .val (.int (Int32.ofNat n)), .val (.ref b44), .val (.ref b46), .val (.ref b47), .val (.ref b48), .val (.int (3 : Int32)), .val (.ref b48), .val (.ref b47), .val (.ref b46), .val (.ref r85), .unset, .unset, .unset] [(.ref b47)]))
            refine own_back (fun t_ q_ => XS.iconst X86.here hx rfl (hb hby at_138) q_) ?_
            show own_Gl _ _ _ _ (T86.setTop (mkF m 139 #[.val (.int sz), .val (.int mo), .val (.int cn), .val (.int bn), .val (.int (Int32.ofNat mN)), .val (.int (Int32.ofNat n)), .val (.ref b44), .val (.ref b46), .val (.ref b47), .val (.ref b48), .val (.int (3 : Int32)), .val (.ref b48), .val (.ref b47), .val (.ref b46), .val (.ref r85), .unset, .unset, .unset] [(.int (1 : Int32)), (.ref b47)]))
            refine own_back (fun t_ q_ => XS.iload X86.here hx rfl (hb hby at_139) rfl q_) ?_
            show own_Gl _ _ _ _ (T86.setTop (mkF m 141 #[.val (.int sz), .val (.int mo), .val (.int cn), .val (.int bn), .val (.int (Int32.ofNat mN)), .val (.int (Int32.ofNat n)), .val (.ref b44), .val (.ref b46), .val (.ref b47), .val (.ref b48), .val (.int (3 : Int32)), .val (.ref b48), .val (.ref b47), .val (.ref b46), .val (.ref r85), .unset, .unset, .unset] [(.int (3 : Int32)), (.int (1 : Int32)), (.ref b47)]))
            refine own_back (fun t_ q_ => XS.aload X86.here hx rfl (hb hby at_141) rfl rfl q_) ?_
            show own_Gl _ _ _ _ (T86.setTop (mkF m 143 #[.val (.int sz), .val (.int mo), .val (.int cn), .val (.int bn), .val (.int (Int32.ofNat mN)), .val (.int (Int32.ofNat n)), .val (.ref b44), .val (.ref b46), .val (.ref b47), .val (.ref b48), .val (.int (3 : Int32)), .val (.ref b48), .val (.ref b47), .val (.ref b46), .val (.ref r85), .unset, .unset, .unset] [(.ref b46), (.int (3 : Int32)), (.int (1 : Int32)), (.ref b47)]))
            refine own_back (fun t_ q_ => XS.aload X86.here hx rfl (hb hby at_143) rfl rfl q_) ?_
            show own_Gl _ _ _ _ (T86.setTop (mkF m 145 #[.val (.int sz), .val (.int mo), .val (.int cn), .val (.int bn), .val (.int (Int32.ofNat mN)), .val (.int (Int32.ofNat n)), .val (.ref b44), .val (.ref b46), .val (.ref b47), .val (.ref b48), .val (.int (3 : Int32)), .val (.ref b48), .val (.ref b47), .val (.ref b46), .val (.ref r85), .unset, .unset, .unset] [(.ref b47), (.ref b46), (.int (3 : Int32)), (.int (1 : Int32)), (.ref b47)]))
            refine own_back (fun t_ q_ => XS.aload X86.here hx rfl (hb hby at_145) rfl rfl q_) ?_
            show own_Gl _ _ _ _ (T86.setTop (mkF m 147 #[.val (.int sz), .val (.int mo), .val (.int cn), .val (.int bn), .val (.int (Int32.ofNat mN)), .val (.int (Int32.ofNat n)), .val (.ref b44), .val (.ref b46), .val (.ref b47), .val (.ref b48), .val (.int (3 : Int32)), .val (.ref b48), .val (.ref b47), .val (.ref b46), .val (.ref r85), .unset, .unset, .unset] [(.ref b48), (.ref b47), (.ref b46), (.int (3 : Int32)), (.int (1 : Int32)), (.ref b47)]))
            refine own_back (fun t_ q_ => XS.iloadN X86.here hx rfl (hb hby at_147) rfl q_) ?_
            show own_Gl _ _ _ _ (T86.setTop (mkF m 148 #[.val (.int sz), .val (.int mo), .val (.int cn), .val (.int bn), .val (.int (Int32.ofNat mN)), .val (.int (Int32.ofNat n)), .val (.ref b44), .val (.ref b46), .val (.ref b47), .val (.ref b48), .val (.int (3 : Int32)), .val (.ref b48), .val (.ref b47), .val (.ref b46), .val (.ref r85), .unset, .unset, .unset] [(.int bn), (.ref b48), (.ref b47), (.ref b46), (.int (3 : Int32)), (.int (1 : Int32)), (.ref b47)]))
            obtain ⟨_, _, ⟨T87, L87, k87, n87⟩, -, X87, ⟨Lc87, hQ87, l87, y87, z87⟩, st87⟩ := Jvm.LawKit.callS X86 hx (y := (⟨"com/example/thermopylae/thermopylae/http/BufferPoolTakePinLaw", "step", "([BII[B[B[BI)Z"⟩ : MethodName)) hown (mvT hZ (hw _ (List.mem_of_getElem? (i := 81) rfl))) (mvT hZ (hw _ (List.mem_of_getElem? (i := 82) rfl))) (mvT hZ (hw _ (List.mem_of_getElem? (i := 83) rfl))) (mvT hZ (hw _ (List.mem_of_getElem? (i := 84) rfl))) (by decide) (backOf (W := 0) (rm15 l Z a0 hw [] b47 1 3 b46 b47 b48 bn T85.heap n0 Y4 (by decide) (Or.inr (Or.inl ⟨by decide, by decide, rfl⟩))) hZ (hw _ (List.mem_of_getElem? (i := 84) rfl)) (hw _ (List.mem_of_getElem? (i := 83) rfl)) (by decide) (by decide)) (g := (mkF m 148 #[.val (.int sz), .val (.int mo), .val (.int cn), .val (.int bn), .val (.int (Int32.ofNat mN)), .val (.int (Int32.ofNat n)), .val (.ref b44), .val (.ref b46), .val (.ref b47), .val (.ref b48), .val (.int (3 : Int32)), .val (.ref b48), .val (.ref b47), .val (.ref b46), .val (.ref r85), .unset, .unset, .unset] [(.int bn), (.ref b48), (.ref b47), (.ref b46), (.int (3 : Int32)), (.int (1 : Int32)), (.ref b47)])) rfl (by rw [hml]; rfl) (argsL := [(.ref b47), (.int (1 : Int32)), (.int (3 : Int32)), (.ref b46), (.ref b47), (.ref b48), (.int bn)]) (rest := []) (lenOf pd_10 rfl) rfl (by show 2 * 0 + _ ≤ _; exact Nat.le_of_eq rfl) (hb hby at_148) (fun _ _ => ⟨rfl, e86, (by decide : 10 + 0 ≤ _), (by decide : 281 + 0 ≤ _)⟩)
            dsimp only [Pt.U, Pt.locs, Pt.cells, Pt.slots] at X87 l87 y87 z87 st87 hQ87
            subst l87 y87 z87
            obtain ⟨rfl, M87, e87⟩ := hQ87
            have N87 := Fr.app N86 M87
            refine own_back st87 ?_
            show own_Gl _ _ _ _ (T87.setTop (mkF m 151 #[.val (.int sz), .val (.int mo), .val (.int cn), .val (.int bn), .val (.int (Int32.ofNat mN)), .val (.int (Int32.ofNat n)), .val (.ref b44), .val (.ref b46), .val (.ref b47), .val (.ref b48), .val (.int (3 : Int32)), .val (.ref b48), .val (.ref b47), .val (.ref b46), .val (.ref r85), .unset, .unset, .unset] [(.int (1 : Int32))]))
            refine own_back (fun t_ q_ => XS.ifNo X87.here hx rfl (hb hby at_151) rfl ((if0 _ _).trans (feq (by decide : ¬ ((1 : Int32) = (0 : Int32)))).1) q_) ?_
            show own_Gl _ _ _ _ (T87.setTop (mkF m 154 #[.val (.int sz), .val (.int mo), .val (.int cn), .val (.int bn), .val (.int (Int32.ofNat mN)), .val (.int (Int32.ofNat n)), .val (.ref b44), .val (.ref b46), .val (.ref b47), .val (.ref b48), .val (.int (3 : Int32)), .val (.ref b48), .val (.ref b47), .val (.ref b46), .val (.ref r85), .unset, .unset, .unset] []))
            refine own_back (fun t_ q_ => XS.aload X87.here hx rfl (hb hby at_154) rfl rfl q_) ?_
            show own_Gl _ _ _ _ (T87.setTop (mkF m 156 #[.val (.int sz), .val (.int mo), .val (.int cn), .val (.int bn), .val (.int (Int32.ofNat mN)), .val (.int (Int32.ofNat n)), .val (.ref b44), .val (.ref b46), .val (.ref b47), .val (.ref b48), .val (.int (3 : Int32)), .val (.ref b48), .val (.ref b47), .val (.ref b46), .val (.ref r85), .unset, .unset, .unset] [(.ref b46)]))
            refine own_back (fun t_ q_ => XS.iconst X87.here hx rfl (hb hby at_156) q_) ?_
            show own_Gl _ _ _ _ (T87.setTop (mkF m 157 #[.val (.int sz), .val (.int mo), .val (.int cn), .val (.int bn), .val (.int (Int32.ofNat mN)), .val (.int (Int32.ofNat n)), .val (.ref b44), .val (.ref b46), .val (.ref b47), .val (.ref b48), .val (.int (3 : Int32)), .val (.ref b48), .val (.ref b47), .val (.ref b46), .val (.ref r85), .unset, .unset, .unset] [(.int (2 : Int32)), (.ref b46)]))
            refine own_back (fun t_ q_ => XS.iload X87.here hx rfl (hb hby at_157) rfl q_) ?_
            show own_Gl _ _ _ _ (T87.setTop (mkF m 159 #[.val (.int sz), .val (.int mo), .val (.int cn), .val (.int bn), .val (.int (Int32.ofNat mN)), .val (.int (Int32.ofNat n)), .val (.ref b44), .val (.ref b46), .val (.ref b47), .val (.ref b48), .val (.int (3 : Int32)), .val (.ref b48), .val (.ref b47), .val (.ref b46), .val (.ref r85), .unset, .unset, .unset] [(.int (3 : Int32)), (.int (2 : Int32)), (.ref b46)]))
            refine own_back (fun t_ q_ => XS.aload X87.here hx rfl (hb hby at_159) rfl rfl q_) ?_
            show own_Gl _ _ _ _ (T87.setTop (mkF m 161 #[.val (.int sz), .val (.int mo), .val (.int cn), .val (.int bn), .val (.int (Int32.ofNat mN)), .val (.int (Int32.ofNat n)), .val (.ref b44), .val (.ref b46), .val (.ref b47), .val (.ref b48), .val (.int (3 : Int32)), .val (.ref b48), .val (.ref b47), .val (.ref b46), .val (.ref r85), .unset, .unset, .unset] [(.ref b46), (.int (3 : Int32)), (.int (2 : Int32)), (.ref b46)]))
            refine own_back (fun t_ q_ => XS.aload X87.here hx rfl (hb hby at_161) rfl rfl q_) ?_
            show own_Gl _ _ _ _ (T87.setTop (mkF m 163 #[.val (.int sz), .val (.int mo), .val (.int cn), .val (.int bn), .val (.int (Int32.ofNat mN)), .val (.int (Int32.ofNat n)), .val (.ref b44), .val (.ref b46), .val (.ref b47), .val (.ref b48), .val (.int (3 : Int32)), .val (.ref b48), .val (.ref b47), .val (.ref b46), .val (.ref r85), .unset, .unset, .unset] [(.ref b47), (.ref b46), (.int (3 : Int32)), (.int (2 : Int32)), (.ref b46)]))
            refine own_back (fun t_ q_ => XS.aload X87.here hx rfl (hb hby at_163) rfl rfl q_) ?_
            show own_Gl _ _ _ _ (T87.setTop (mkF m 165 #[.val (.int sz), .val (.int mo), .val (.int cn), .val (.int bn), .val (.int (Int32.ofNat mN)), .val (.int (Int32.ofNat n)), .val (.ref b44), .val (.ref b46), .val (.ref b47), .val (.ref b48), .val (.int (3 : Int32)), .val (.ref b48), .val (.ref b47), .val (.ref b46), .val (.ref r85), .unset, .unset, .unset] [(.ref b48), (.ref b47), (.ref b46), (.int (3 : Int32)), (.int (2 : Int32)), (.ref b46)]))
            refine own_back (fun t_ q_ => XS.iloadN X87.here hx rfl (hb hby at_165) rfl q_) ?_
            show own_Gl _ _ _ _ (T87.setTop (mkF m 166 #[.val (.int sz), .val (.int mo), .val (.int cn), .val (.int bn), .val (.int (Int32.ofNat mN)), .val (.int (Int32.ofNat n)), .val (.ref b44), .val (.ref b46), .val (.ref b47), .val (.ref b48), .val (.int (3 : Int32)), .val (.ref b48), .val (.ref b47), .val (.ref b46), .val (.ref r85), .unset, .unset, .unset] [(.int bn), (.ref b48), (.ref b47), (.ref b46), (.int (3 : Int32)), (.int (2 : Int32)), (.ref b46)]))
            obtain ⟨_, _, ⟨T88, L88, k88, n88⟩, -, X88, ⟨Lc88, hQ88, l88, y88, z88⟩, st88⟩ := Jvm.LawKit.callS X87 hx (y := (⟨"com/example/thermopylae/thermopylae/http/BufferPoolTakePinLaw", "step", "([BII[B[B[BI)Z"⟩ : MethodName)) hown (mvT hZ (hw _ (List.mem_of_getElem? (i := 81) rfl))) (mvT hZ (hw _ (List.mem_of_getElem? (i := 82) rfl))) (mvT hZ (hw _ (List.mem_of_getElem? (i := 83) rfl))) (mvT hZ (hw _ (List.mem_of_getElem? (i := 84) rfl))) (by decide) (backOf (W := 0) (rm15 l Z a0 hw [] b46 2 3 b46 b47 b48 bn T85.heap n0 Y4 (by decide) (Or.inl ⟨by decide, rfl⟩)) hZ (hw _ (List.mem_of_getElem? (i := 84) rfl)) (hw _ (List.mem_of_getElem? (i := 83) rfl)) (by decide) (by decide)) (g := (mkF m 166 #[.val (.int sz), .val (.int mo), .val (.int cn), .val (.int bn), .val (.int (Int32.ofNat mN)), .val (.int (Int32.ofNat n)), .val (.ref b44), .val (.ref b46), .val (.ref b47), .val (.ref b48), .val (.int (3 : Int32)), .val (.ref b48), .val (.ref b47), .val (.ref b46), .val (.ref r85), .unset, .unset, .unset] [(.int bn), (.ref b48), (.ref b47), (.ref b46), (.int (3 : Int32)), (.int (2 : Int32)), (.ref b46)])) rfl (by rw [hml]; rfl) (argsL := [(.ref b46), (.int (2 : Int32)), (.int (3 : Int32)), (.ref b46), (.ref b47), (.ref b48), (.int bn)]) (rest := []) (lenOf pd_10 rfl) rfl (by show 2 * 0 + _ ≤ _; exact Nat.le_of_eq rfl) (hb hby at_166) (fun _ _ => ⟨rfl, e87, (by decide : 10 + 0 ≤ _), (by decide : 281 + 0 ≤ _)⟩)
            dsimp only [Pt.U, Pt.locs, Pt.cells, Pt.slots] at X88 l88 y88 z88 st88 hQ88
            subst l88 y88 z88
            obtain ⟨rfl, M88, e88⟩ := hQ88
            have N88 := Fr.app N87 M88
            refine own_back st88 ?_
            show own_Gl _ _ _ _ (T88.setTop (mkF m 169 #[.val (.int sz), .val (.int mo), .val (.int cn), .val (.int bn), .val (.int (Int32.ofNat mN)), .val (.int (Int32.ofNat n)), .val (.ref b44), .val (.ref b46), .val (.ref b47), .val (.ref b48), .val (.int (3 : Int32)), .val (.ref b48), .val (.ref b47), .val (.ref b46), .val (.ref r85), .unset, .unset, .unset] [(.int (1 : Int32))]))
            refine own_back (fun t_ q_ => XS.ifNo X88.here hx rfl (hb hby at_169) rfl ((if0 _ _).trans (feq (by decide : ¬ ((1 : Int32) = (0 : Int32)))).1) q_) ?_
            show own_Gl _ _ _ _ (T88.setTop (mkF m 172 #[.val (.int sz), .val (.int mo), .val (.int cn), .val (.int bn), .val (.int (Int32.ofNat mN)), .val (.int (Int32.ofNat n)), .val (.ref b44), .val (.ref b46), .val (.ref b47), .val (.ref b48), .val (.int (3 : Int32)), .val (.ref b48), .val (.ref b47), .val (.ref b46), .val (.ref r85), .unset, .unset, .unset] []))
            refine own_back (fun t_ q_ => XS.aload X88.here hx rfl (hb hby at_172) rfl rfl q_) ?_
            show own_Gl _ _ _ _ (T88.setTop (mkF m 174 #[.val (.int sz), .val (.int mo), .val (.int cn), .val (.int bn), .val (.int (Int32.ofNat mN)), .val (.int (Int32.ofNat n)), .val (.ref b44), .val (.ref b46), .val (.ref b47), .val (.ref b48), .val (.int (3 : Int32)), .val (.ref b48), .val (.ref b47), .val (.ref b46), .val (.ref r85), .unset, .unset, .unset] [(.ref r85)]))
            refine own_back (fun t_ q_ => XS.iconst X88.here hx rfl (hb hby at_174) q_) ?_
            show own_Gl _ _ _ _ (T88.setTop (mkF m 175 #[.val (.int sz), .val (.int mo), .val (.int cn), .val (.int bn), .val (.int (Int32.ofNat mN)), .val (.int (Int32.ofNat n)), .val (.ref b44), .val (.ref b46), .val (.ref b47), .val (.ref b48), .val (.int (3 : Int32)), .val (.ref b48), .val (.ref b47), .val (.ref b46), .val (.ref r85), .unset, .unset, .unset] [(.int (3 : Int32)), (.ref r85)]))
            refine own_back (fun t_ q_ => XS.iload X88.here hx rfl (hb hby at_175) rfl q_) ?_
            show own_Gl _ _ _ _ (T88.setTop (mkF m 177 #[.val (.int sz), .val (.int mo), .val (.int cn), .val (.int bn), .val (.int (Int32.ofNat mN)), .val (.int (Int32.ofNat n)), .val (.ref b44), .val (.ref b46), .val (.ref b47), .val (.ref b48), .val (.int (3 : Int32)), .val (.ref b48), .val (.ref b47), .val (.ref b46), .val (.ref r85), .unset, .unset, .unset] [(.int (3 : Int32)), (.int (3 : Int32)), (.ref r85)]))
            refine own_back (fun t_ q_ => XS.aload X88.here hx rfl (hb hby at_177) rfl rfl q_) ?_
            show own_Gl _ _ _ _ (T88.setTop (mkF m 179 #[.val (.int sz), .val (.int mo), .val (.int cn), .val (.int bn), .val (.int (Int32.ofNat mN)), .val (.int (Int32.ofNat n)), .val (.ref b44), .val (.ref b46), .val (.ref b47), .val (.ref b48), .val (.int (3 : Int32)), .val (.ref b48), .val (.ref b47), .val (.ref b46), .val (.ref r85), .unset, .unset, .unset] [(.ref b46), (.int (3 : Int32)), (.int (3 : Int32)), (.ref r85)]))
            refine own_back (fun t_ q_ => XS.aload X88.here hx rfl (hb hby at_179) rfl rfl q_) ?_
            show own_Gl _ _ _ _ (T88.setTop (mkF m 181 #[.val (.int sz), .val (.int mo), .val (.int cn), .val (.int bn), .val (.int (Int32.ofNat mN)), .val (.int (Int32.ofNat n)), .val (.ref b44), .val (.ref b46), .val (.ref b47), .val (.ref b48), .val (.int (3 : Int32)), .val (.ref b48), .val (.ref b47), .val (.ref b46), .val (.ref r85), .unset, .unset, .unset] [(.ref b47), (.ref b46), (.int (3 : Int32)), (.int (3 : Int32)), (.ref r85)]))
            refine own_back (fun t_ q_ => XS.aload X88.here hx rfl (hb hby at_181) rfl rfl q_) ?_
            show own_Gl _ _ _ _ (T88.setTop (mkF m 183 #[.val (.int sz), .val (.int mo), .val (.int cn), .val (.int bn), .val (.int (Int32.ofNat mN)), .val (.int (Int32.ofNat n)), .val (.ref b44), .val (.ref b46), .val (.ref b47), .val (.ref b48), .val (.int (3 : Int32)), .val (.ref b48), .val (.ref b47), .val (.ref b46), .val (.ref r85), .unset, .unset, .unset] [(.ref b48), (.ref b47), (.ref b46), (.int (3 : Int32)), (.int (3 : Int32)), (.ref r85)]))
            refine own_back (fun t_ q_ => XS.iloadN X88.here hx rfl (hb hby at_183) rfl q_) ?_
            show own_Gl _ _ _ _ (T88.setTop (mkF m 184 #[.val (.int sz), .val (.int mo), .val (.int cn), .val (.int bn), .val (.int (Int32.ofNat mN)), .val (.int (Int32.ofNat n)), .val (.ref b44), .val (.ref b46), .val (.ref b47), .val (.ref b48), .val (.int (3 : Int32)), .val (.ref b48), .val (.ref b47), .val (.ref b46), .val (.ref r85), .unset, .unset, .unset] [(.int bn), (.ref b48), (.ref b47), (.ref b46), (.int (3 : Int32)), (.int (3 : Int32)), (.ref r85)]))
            obtain ⟨_, _, ⟨T89, L89, k89, n89⟩, -, X89, ⟨Lc89, hQ89, l89, y89, z89⟩, st89⟩ := Jvm.LawKit.callS X88 hx (y := (⟨"com/example/thermopylae/thermopylae/http/BufferPoolTakePinLaw", "step", "([BII[B[B[BI)Z"⟩ : MethodName)) hown (mvT hZ (hw _ (List.mem_of_getElem? (i := 81) rfl))) (mvT hZ (hw _ (List.mem_of_getElem? (i := 82) rfl))) (mvT hZ (hw _ (List.mem_of_getElem? (i := 83) rfl))) (mvT hZ (hw _ (List.mem_of_getElem? (i := 84) rfl))) (by decide) (backOf (W := 0) (rm15n l Z a0 hw [] r85 3 3 b46 b47 b48 bn T85.heap n0 Y4 cl85 A85 l85' (by decide) f85_b46 f85_b47 f85_b48) hZ (hw _ (List.mem_of_getElem? (i := 84) rfl)) (hw _ (List.mem_of_getElem? (i := 83) rfl)) (by decide) (by decide)) (g := (mkF m 184 #[.val (.int sz), .val (.int mo), .val (.int cn), .val (.int bn), .val (.int (Int32.ofNat mN)), .val (.int (Int32.ofNat n)), .val (.ref b44), .val (.ref b46), .val (.ref b47), .val (.ref b48), .val (.int (3 : Int32)), .val (.ref b48), .val (.ref b47), .val (.ref b46), .val (.ref r85), .unset, .unset, .unset] [(.int bn), (.ref b48), (.ref b47), (.ref b46), (.int (3 : Int32)), (.int (3 : Int32)), (.ref r85)])) rfl (by rw [hml]; rfl) (argsL := [(.ref r85), (.int (3 : Int32)), (.int (3 : Int32)), (.ref b46), (.ref b47), (.ref b48), (.int bn)]) (rest := []) (lenOf pd_10 rfl) rfl (by show 2 * 0 + _ ≤ _; exact Nat.le_of_eq rfl) (hb hby at_184) (fun _ _ => ⟨rfl, e88, (by decide : 10 + 0 ≤ _), (by decide : 281 + 0 ≤ _)⟩)
            dsimp only [Pt.U, Pt.locs, Pt.cells, Pt.slots] at X89 l89 y89 z89 st89 hQ89
            subst l89 y89 z89
            obtain ⟨rfl, M89, e89⟩ := hQ89
            have N89 := Fr.app N88 M89
            refine own_back st89 ?_
            show own_Gl _ _ _ _ (T89.setTop (mkF m 187 #[.val (.int sz), .val (.int mo), .val (.int cn), .val (.int bn), .val (.int (Int32.ofNat mN)), .val (.int (Int32.ofNat n)), .val (.ref b44), .val (.ref b46), .val (.ref b47), .val (.ref b48), .val (.int (3 : Int32)), .val (.ref b48), .val (.ref b47), .val (.ref b46), .val (.ref r85), .unset, .unset, .unset] [(.int (1 : Int32))]))
            refine own_back (fun t_ q_ => XS.ifNo X89.here hx rfl (hb hby at_187) rfl ((if0 _ _).trans (feq (by decide : ¬ ((1 : Int32) = (0 : Int32)))).1) q_) ?_
            show own_Gl _ _ _ _ (T89.setTop (mkF m 190 #[.val (.int sz), .val (.int mo), .val (.int cn), .val (.int bn), .val (.int (Int32.ofNat mN)), .val (.int (Int32.ofNat n)), .val (.ref b44), .val (.ref b46), .val (.ref b47), .val (.ref b48), .val (.int (3 : Int32)), .val (.ref b48), .val (.ref b47), .val (.ref b46), .val (.ref r85), .unset, .unset, .unset] []))
            refine own_back (fun t_ q_ => XS.iconst X89.here hx rfl (hb hby at_190) q_) ?_
            show own_Gl _ _ _ _ (T89.setTop (mkF m 191 #[.val (.int sz), .val (.int mo), .val (.int cn), .val (.int bn), .val (.int (Int32.ofNat mN)), .val (.int (Int32.ofNat n)), .val (.ref b44), .val (.ref b46), .val (.ref b47), .val (.ref b48), .val (.int (3 : Int32)), .val (.ref b48), .val (.ref b47), .val (.ref b46), .val (.ref r85), .unset, .unset, .unset] [(.int (1 : Int32))]))
            refine own_back (fun t_ q_ => XS.goto X89.here hx rfl (pc0 := 191) (pc' := 195) rfl (hb hby at_191) (by decide) (by decide) q_) ?_
            show own_Gl _ _ _ _ (T89.setTop (mkF m 195 #[.val (.int sz), .val (.int mo), .val (.int cn), .val (.int bn), .val (.int (Int32.ofNat mN)), .val (.int (Int32.ofNat n)), .val (.ref b44), .val (.ref b46), .val (.ref b47), .val (.ref b48), .val (.int (3 : Int32)), .val (.ref b48), .val (.ref b47), .val (.ref b46), .val (.ref r85), .unset, .unset, .unset] [(.int (1 : Int32))]))
            refine own_back (fun t_ q_ => XS.istore X89.here hx rfl (hb hby at_195) rfl (l' := #[.val (.int sz), .val (.int mo), .val (.int cn), .val (.int bn), .val (.int (Int32.ofNat mN)), .val (.int (Int32.ofNat n)), .val (.ref b44), .val (.ref b46), .val (.ref b47), .val (.ref b48), .val (.int (3 : Int32)), .val (.ref b48), .val (.ref b47), .val (.ref b46), .val (.ref r85), .val (.int (1 : Int32)), .unset, .unset]) rfl q_) ?_
            show own_Gl _ _ _ _ (T89.setTop (mkF m 197 #[.val (.int sz), .val (.int mo), .val (.int cn), .val (.int bn), .val (.int (Int32.ofNat mN)), .val (.int (Int32.ofNat n)), .val (.ref b44), .val (.ref b46), .val (.ref b47), .val (.ref b48), .val (.int (3 : Int32)), .val (.ref b48), .val (.ref b47), .val (.ref b46), .val (.ref r85), .val (.int (1 : Int32)), .unset, .unset] []))
            refine own_back (fun t_ q_ => XS.iload X89.here hx rfl (hb hby at_197) rfl q_) ?_
            show own_Gl _ _ _ _ (T89.setTop (mkF m 199 #[.val (.int sz), .val (.int mo), .val (.int cn), .val (.int bn), .val (.int (Int32.ofNat mN)), .val (.int (Int32.ofNat n)), .val (.ref b44), .val (.ref b46), .val (.ref b47), .val (.ref b48), .val (.int (3 : Int32)), .val (.ref b48), .val (.ref b47), .val (.ref b46), .val (.ref r85), .val (.int (1 : Int32)), .unset, .unset] [(.int (1 : Int32))]))
            refine own_back (fun t_ q_ => XS.ifYes X89.here hx rfl (pc0 := 199) (pc' := 204) rfl (hb hby at_199) rfl ((if0 _ _).trans (feq (by decide : ¬ ((1 : Int32) = (0 : Int32)))).2) (by decide) (by decide) q_) ?_
            show own_Gl _ _ _ _ (T89.setTop (mkF m 204 #[.val (.int sz), .val (.int mo), .val (.int cn), .val (.int bn), .val (.int (Int32.ofNat mN)), .val (.int (Int32.ofNat n)), .val (.ref b44), .val (.ref b46), .val (.ref b47), .val (.ref b48), .val (.int (3 : Int32)), .val (.ref b48), .val (.ref b47), .val (.ref b46), .val (.ref r85), .val (.int (1 : Int32)), .unset, .unset] []))
            exact tail53 (T89, T85.heap, b48, b47, b46, r85, (3 : Int32)) ⟨⟨_, X89, N89⟩, e89, ⟨Y4, V4, B85, ⟨ld, lb, la⟩, ne12.symm, ne02.symm, f85_b48.symm, ne01.symm, f85_b47.symm, f85_b46.symm⟩⟩
      · skip
        obtain ⟨Zc, Wc, Xa, Xb, Xd⟩ := C2
        by_cases t2 : (Int32.ofNat n) < (3 : Int32)
        · skip
          refine own_back (fun t_ q_ => XS.icmpYes X50.here hx rfl (pc0 := 71) (pc' := 81) rfl (hb hby at_71) rfl (tlt (t2 : (Int32.ofNat n) < (3 : Int32))).1 (by decide) (by decide) q_) ?_
          show own_Gl _ _ _ _ (T50.setTop (mkF m 81 #[.val (.int sz), .val (.int mo), .val (.int cn), .val (.int bn), .val (.int (Int32.ofNat mN)), .val (.int (Int32.ofNat n)), .val (.ref b44), .val (.ref b46), .val (.ref b47), .val (.ref b48), .unset, .unset, .unset, .unset, .unset, .unset, .unset, .unset] []))
          have hn : n ≤ 2 := by have q := (own_ltn (i := n) (j := 3) (by omega) (by omega)).mp t2; omega
          exact tail51 (T50, h50) ⟨⟨_, X50, N50⟩, e50, ⟨Zc, by rw [show min 3 (min n mN) = min 2 (min n mN) by omega]; exact Wc, Xa, Xb, Xd⟩⟩
        · skip
          refine own_back (fun t_ q_ => XS.icmpNo X50.here hx rfl (hb hby at_71) rfl (flt (t2 : ¬ ((Int32.ofNat n) < (3 : Int32)))).1 q_) ?_
          show own_Gl _ _ _ _ (T50.setTop (mkF m 74 #[.val (.int sz), .val (.int mo), .val (.int cn), .val (.int bn), .val (.int (Int32.ofNat mN)), .val (.int (Int32.ofNat n)), .val (.ref b44), .val (.ref b46), .val (.ref b47), .val (.ref b48), .unset, .unset, .unset, .unset, .unset, .unset, .unset, .unset] []))
          have hn : 3 ≤ n := Nat.le_of_not_lt (fun q => t2 ((own_ltn (i := n) (j := 3) (by omega) (by omega)).mpr q))
          refine own_back (fun t_ q_ => XS.aload X50.here hx rfl (hb hby at_74) rfl rfl q_) ?_
          show own_Gl _ _ _ _ (T50.setTop (mkF m 76 #[.val (.int sz), .val (.int mo), .val (.int cn), .val (.int bn), .val (.int (Int32.ofNat mN)), .val (.int (Int32.ofNat n)), .val (.ref b44), .val (.ref b46), .val (.ref b47), .val (.ref b48), .unset, .unset, .unset, .unset, .unset, .unset, .unset, .unset] [(.ref b44)]))
          refine own_back (fun t_ q_ => XS.aload X50.here hx rfl (hb hby at_76) rfl rfl q_) ?_
          show own_Gl _ _ _ _ (T50.setTop (mkF m 78 #[.val (.int sz), .val (.int mo), .val (.int cn), .val (.int bn), .val (.int (Int32.ofNat mN)), .val (.int (Int32.ofNat n)), .val (.ref b44), .val (.ref b46), .val (.ref b47), .val (.ref b48), .unset, .unset, .unset, .unset, .unset, .unset, .unset, .unset] [(.ref b48), (.ref b44)]))
          obtain ⟨cq90, kq90, q90a, q90b, q90c⟩ := isOf hZ e50 Wc.1
          obtain ⟨_, _, ⟨T90, L90, k90, n90⟩, -, X90, ⟨Lc90, hQ90, l90, y90, z90⟩, st90⟩ := X50.virtualBack hx (y := (⟨"com/example/thermopylae/thermopylae/http/BufferPool", "give", "([B)V"⟩ : MethodName)) (z := (⟨"com/example/thermopylae/thermopylae/http/BufferPool", "give", "([B)V"⟩ : MethodName)) hown (mvT hZ (hw _ (List.mem_of_getElem? (i := 33) rfl))) (mvT hZ (hw _ (List.mem_of_getElem? (i := 34) rfl))) (notFace_of_selects (args := #[]) (mvT hZ (hw _ (List.mem_of_getElem? (i := 36) rfl)))) (mvT hZ (hw _ (List.mem_of_getElem? (i := 36) rfl))) (mvT hZ (hw _ (List.mem_of_getElem? (i := 35) rfl))) (by decide) (backOf (W := 0) (rm5 l Z a0 hw [] b44 b48 h50 n0 Zc dq es k bn (Int32.ofNat mN) _ ([b46, b47, b48].take (min 3 (min n mN))) Wc Xd gd ge (fun _ => own_len _ _ _ 2 n mN (by omega)) (own_give b46 b47 b48 2 n mN (by omega) hn n3 m3)) hZ (hw _ (List.mem_of_getElem? (i := 37) rfl)) (hw _ (List.mem_of_getElem? (i := 2) rfl)) (by decide) (by decide)) q90a q90c (g := (mkF m 78 #[.val (.int sz), .val (.int mo), .val (.int cn), .val (.int bn), .val (.int (Int32.ofNat mN)), .val (.int (Int32.ofNat n)), .val (.ref b44), .val (.ref b46), .val (.ref b47), .val (.ref b48), .unset, .unset, .unset, .unset, .unset, .unset, .unset, .unset] [(.ref b48), (.ref b44)])) rfl (by rw [hml]; rfl) (Steps.refl _) (argsL := [(.ref b48)]) (rest := []) (lenOf pd_8 rfl) rfl (by show 2 * 0 + _ ≤ _; exact Nat.le_of_eq rfl) (hb hby at_78) (fun _ _ => ⟨rfl, e50, (by decide : 6 + 0 ≤ _), (by decide : 29 + 0 ≤ _)⟩)
          dsimp only [Pt.U, Pt.locs, Pt.cells, Pt.slots] at X90 l90 y90 z90 st90 hQ90
          subst l90 y90 z90
          obtain ⟨rfl, M90, K90, W90⟩ := hQ90
          have N90 := Fr.app N50 M90
          refine own_trans st90 ?_
          show own_Gl _ _ _ _ (T90.setTop (mkF m 81 #[.val (.int sz), .val (.int mo), .val (.int cn), .val (.int bn), .val (.int (Int32.ofNat mN)), .val (.int (Int32.ofNat n)), .val (.ref b44), .val (.ref b46), .val (.ref b47), .val (.ref b48), .unset, .unset, .unset, .unset, .unset, .unset, .unset, .unset] []))
          exact tail51 (T90, T90.heap) ⟨⟨_, X90, N90⟩, rfl, ⟨Nat.le_trans Zc K90.1, W90, Xa.keep K90, Xb.keep K90, Xd.keep K90⟩⟩
    · skip
      obtain ⟨Zc, Wc, Xa, Xb, Xd⟩ := C1
      by_cases t1 : (Int32.ofNat n) < (2 : Int32)
      · skip
        refine own_back (fun t_ q_ => XS.icmpYes X49.here hx rfl (pc0 := 58) (pc' := 68) rfl (hb hby at_58) rfl (tlt (t1 : (Int32.ofNat n) < (2 : Int32))).1 (by decide) (by decide) q_) ?_
        show own_Gl _ _ _ _ (T49.setTop (mkF m 68 #[.val (.int sz), .val (.int mo), .val (.int cn), .val (.int bn), .val (.int (Int32.ofNat mN)), .val (.int (Int32.ofNat n)), .val (.ref b44), .val (.ref b46), .val (.ref b47), .val (.ref b48), .unset, .unset, .unset, .unset, .unset, .unset, .unset, .unset] []))
        have hn : n ≤ 1 := by have q := (own_ltn (i := n) (j := 2) (by omega) (by omega)).mp t1; omega
        exact tail50 (T49, h49) ⟨⟨_, X49, N49⟩, e49, ⟨Zc, by rw [show min 2 (min n mN) = min 1 (min n mN) by omega]; exact Wc, Xa, Xb, Xd⟩⟩
      · skip
        refine own_back (fun t_ q_ => XS.icmpNo X49.here hx rfl (hb hby at_58) rfl (flt (t1 : ¬ ((Int32.ofNat n) < (2 : Int32)))).1 q_) ?_
        show own_Gl _ _ _ _ (T49.setTop (mkF m 61 #[.val (.int sz), .val (.int mo), .val (.int cn), .val (.int bn), .val (.int (Int32.ofNat mN)), .val (.int (Int32.ofNat n)), .val (.ref b44), .val (.ref b46), .val (.ref b47), .val (.ref b48), .unset, .unset, .unset, .unset, .unset, .unset, .unset, .unset] []))
        have hn : 2 ≤ n := Nat.le_of_not_lt (fun q => t1 ((own_ltn (i := n) (j := 2) (by omega) (by omega)).mpr q))
        refine own_back (fun t_ q_ => XS.aload X49.here hx rfl (hb hby at_61) rfl rfl q_) ?_
        show own_Gl _ _ _ _ (T49.setTop (mkF m 63 #[.val (.int sz), .val (.int mo), .val (.int cn), .val (.int bn), .val (.int (Int32.ofNat mN)), .val (.int (Int32.ofNat n)), .val (.ref b44), .val (.ref b46), .val (.ref b47), .val (.ref b48), .unset, .unset, .unset, .unset, .unset, .unset, .unset, .unset] [(.ref b44)]))
        refine own_back (fun t_ q_ => XS.aload X49.here hx rfl (hb hby at_63) rfl rfl q_) ?_
        show own_Gl _ _ _ _ (T49.setTop (mkF m 65 #[.val (.int sz), .val (.int mo), .val (.int cn), .val (.int bn), .val (.int (Int32.ofNat mN)), .val (.int (Int32.ofNat n)), .val (.ref b44), .val (.ref b46), .val (.ref b47), .val (.ref b48), .unset, .unset, .unset, .unset, .unset, .unset, .unset, .unset] [(.ref b47), (.ref b44)]))
        obtain ⟨cq91, kq91, q91a, q91b, q91c⟩ := isOf hZ e49 Wc.1
        obtain ⟨_, _, ⟨T91, L91, k91, n91⟩, -, X91, ⟨Lc91, hQ91, l91, y91, z91⟩, st91⟩ := X49.virtualBack hx (y := (⟨"com/example/thermopylae/thermopylae/http/BufferPool", "give", "([B)V"⟩ : MethodName)) (z := (⟨"com/example/thermopylae/thermopylae/http/BufferPool", "give", "([B)V"⟩ : MethodName)) hown (mvT hZ (hw _ (List.mem_of_getElem? (i := 33) rfl))) (mvT hZ (hw _ (List.mem_of_getElem? (i := 34) rfl))) (notFace_of_selects (args := #[]) (mvT hZ (hw _ (List.mem_of_getElem? (i := 36) rfl)))) (mvT hZ (hw _ (List.mem_of_getElem? (i := 36) rfl))) (mvT hZ (hw _ (List.mem_of_getElem? (i := 35) rfl))) (by decide) (backOf (W := 0) (rm5 l Z a0 hw [] b44 b47 h49 n0 Zc dq es k bn (Int32.ofNat mN) _ ([b46, b47, b48].take (min 2 (min n mN))) Wc Xb gd ge (fun _ => own_len _ _ _ 1 n mN (by omega)) (own_give b46 b47 b48 1 n mN (by omega) hn n3 m3)) hZ (hw _ (List.mem_of_getElem? (i := 37) rfl)) (hw _ (List.mem_of_getElem? (i := 2) rfl)) (by decide) (by decide)) q91a q91c (g := (mkF m 65 #[.val (.int sz), .val (.int mo), .val (.int cn), .val (.int bn), .val (.int (Int32.ofNat mN)), .val (.int (Int32.ofNat n)), .val (.ref b44), .val (.ref b46), .val (.ref b47), .val (.ref b48), .unset, .unset, .unset, .unset, .unset, .unset, .unset, .unset] [(.ref b47), (.ref b44)])) rfl (by rw [hml]; rfl) (Steps.refl _) (argsL := [(.ref b47)]) (rest := []) (lenOf pd_8 rfl) rfl (by show 2 * 0 + _ ≤ _; exact Nat.le_of_eq rfl) (hb hby at_65) (fun _ _ => ⟨rfl, e49, (by decide : 6 + 0 ≤ _), (by decide : 29 + 0 ≤ _)⟩)
        dsimp only [Pt.U, Pt.locs, Pt.cells, Pt.slots] at X91 l91 y91 z91 st91 hQ91
        subst l91 y91 z91
        obtain ⟨rfl, M91, K91, W91⟩ := hQ91
        have N91 := Fr.app N49 M91
        refine own_trans st91 ?_
        show own_Gl _ _ _ _ (T91.setTop (mkF m 68 #[.val (.int sz), .val (.int mo), .val (.int cn), .val (.int bn), .val (.int (Int32.ofNat mN)), .val (.int (Int32.ofNat n)), .val (.ref b44), .val (.ref b46), .val (.ref b47), .val (.ref b48), .unset, .unset, .unset, .unset, .unset, .unset, .unset, .unset] []))
        exact tail50 (T91, T91.heap) ⟨⟨_, X91, N91⟩, rfl, ⟨Nat.le_trans Zc K91.1, W91, Xa.keep K91, Xb.keep K91, Xd.keep K91⟩⟩
  · skip
    obtain ⟨Zc, Wc, Xa, Xb, Xd⟩ := C0
    by_cases t0 : (Int32.ofNat n) < (1 : Int32)
    · skip
      refine own_back (fun t_ q_ => XS.icmpYes X48.here hx rfl (pc0 := 45) (pc' := 55) rfl (hb hby at_45) rfl (tlt (t0 : (Int32.ofNat n) < (1 : Int32))).1 (by decide) (by decide) q_) ?_
      show own_Gl _ _ _ _ (T48.setTop (mkF m 55 #[.val (.int sz), .val (.int mo), .val (.int cn), .val (.int bn), .val (.int (Int32.ofNat mN)), .val (.int (Int32.ofNat n)), .val (.ref b44), .val (.ref b46), .val (.ref b47), .val (.ref b48), .unset, .unset, .unset, .unset, .unset, .unset, .unset, .unset] []))
      have hn : n ≤ 0 := by have q := (own_ltn (i := n) (j := 1) (by omega) (by omega)).mp t0; omega
      exact tail49 (T48, h48) ⟨⟨_, X48, N45⟩, e48, ⟨Zc, by rw [show min 1 (min n mN) = min 0 (min n mN) by omega]; exact Wc, Xa, Xb, Xd⟩⟩
    · skip
      refine own_back (fun t_ q_ => XS.icmpNo X48.here hx rfl (hb hby at_45) rfl (flt (t0 : ¬ ((Int32.ofNat n) < (1 : Int32)))).1 q_) ?_
      show own_Gl _ _ _ _ (T48.setTop (mkF m 48 #[.val (.int sz), .val (.int mo), .val (.int cn), .val (.int bn), .val (.int (Int32.ofNat mN)), .val (.int (Int32.ofNat n)), .val (.ref b44), .val (.ref b46), .val (.ref b47), .val (.ref b48), .unset, .unset, .unset, .unset, .unset, .unset, .unset, .unset] []))
      have hn : 1 ≤ n := Nat.le_of_not_lt (fun q => t0 ((own_ltn (i := n) (j := 1) (by omega) (by omega)).mpr q))
      refine own_back (fun t_ q_ => XS.aload X48.here hx rfl (hb hby at_48) rfl rfl q_) ?_
      show own_Gl _ _ _ _ (T48.setTop (mkF m 50 #[.val (.int sz), .val (.int mo), .val (.int cn), .val (.int bn), .val (.int (Int32.ofNat mN)), .val (.int (Int32.ofNat n)), .val (.ref b44), .val (.ref b46), .val (.ref b47), .val (.ref b48), .unset, .unset, .unset, .unset, .unset, .unset, .unset, .unset] [(.ref b44)]))
      refine own_back (fun t_ q_ => XS.aload X48.here hx rfl (hb hby at_50) rfl rfl q_) ?_
      show own_Gl _ _ _ _ (T48.setTop (mkF m 52 #[.val (.int sz), .val (.int mo), .val (.int cn), .val (.int bn), .val (.int (Int32.ofNat mN)), .val (.int (Int32.ofNat n)), .val (.ref b44), .val (.ref b46), .val (.ref b47), .val (.ref b48), .unset, .unset, .unset, .unset, .unset, .unset, .unset, .unset] [(.ref b46), (.ref b44)]))
      obtain ⟨cq92, kq92, q92a, q92b, q92c⟩ := isOf hZ e48 Wc.1
      obtain ⟨_, _, ⟨T92, L92, k92, n92⟩, -, X92, ⟨Lc92, hQ92, l92, y92, z92⟩, st92⟩ := X48.virtualBack hx (y := (⟨"com/example/thermopylae/thermopylae/http/BufferPool", "give", "([B)V"⟩ : MethodName)) (z := (⟨"com/example/thermopylae/thermopylae/http/BufferPool", "give", "([B)V"⟩ : MethodName)) hown (mvT hZ (hw _ (List.mem_of_getElem? (i := 33) rfl))) (mvT hZ (hw _ (List.mem_of_getElem? (i := 34) rfl))) (notFace_of_selects (args := #[]) (mvT hZ (hw _ (List.mem_of_getElem? (i := 36) rfl)))) (mvT hZ (hw _ (List.mem_of_getElem? (i := 36) rfl))) (mvT hZ (hw _ (List.mem_of_getElem? (i := 35) rfl))) (by decide) (backOf (W := 0) (rm5 l Z a0 hw [] b44 b46 h48 n0 Zc dq es k bn (Int32.ofNat mN) _ ([b46, b47, b48].take (min 1 (min n mN))) Wc Xa gd ge (fun _ => own_len _ _ _ 0 n mN (by omega)) (own_give b46 b47 b48 0 n mN (by omega) hn n3 m3)) hZ (hw _ (List.mem_of_getElem? (i := 37) rfl)) (hw _ (List.mem_of_getElem? (i := 2) rfl)) (by decide) (by decide)) q92a q92c (g := (mkF m 52 #[.val (.int sz), .val (.int mo), .val (.int cn), .val (.int bn), .val (.int (Int32.ofNat mN)), .val (.int (Int32.ofNat n)), .val (.ref b44), .val (.ref b46), .val (.ref b47), .val (.ref b48), .unset, .unset, .unset, .unset, .unset, .unset, .unset, .unset] [(.ref b46), (.ref b44)])) rfl (by rw [hml]; rfl) (Steps.refl _) (argsL := [(.ref b46)]) (rest := []) (lenOf pd_8 rfl) rfl (by show 2 * 0 + _ ≤ _; exact Nat.le_of_eq rfl) (hb hby at_52) (fun _ _ => ⟨rfl, e48, (by decide : 6 + 0 ≤ _), (by decide : 29 + 0 ≤ _)⟩)
      dsimp only [Pt.U, Pt.locs, Pt.cells, Pt.slots] at X92 l92 y92 z92 st92 hQ92
      subst l92 y92 z92
      obtain ⟨rfl, M92, K92, W92⟩ := hQ92
      have N92 := Fr.app N45 M92
      refine own_trans st92 ?_
      show own_Gl _ _ _ _ (T92.setTop (mkF m 55 #[.val (.int sz), .val (.int mo), .val (.int cn), .val (.int bn), .val (.int (Int32.ofNat mN)), .val (.int (Int32.ofNat n)), .val (.ref b44), .val (.ref b46), .val (.ref b47), .val (.ref b48), .unset, .unset, .unset, .unset, .unset, .unset, .unset, .unset] []))
      exact tail49 (T92, T92.heap) ⟨⟨_, X92, N92⟩, rfl, ⟨Nat.le_trans Zc K92.1, W92, Xa.keep K92, Xb.keep K92, Xd.keep K92⟩⟩
set_option maxRecDepth 65536 in
set_option maxHeartbeats 40000000 in
theorem comes_1 {Post : Tables → Env → Array Value → State → Outcome → State → Prop} (hpost : ∀ tb e args s v u, (limb_1_1.after args s (.returned v) u = true ∧ limb_1_2.after args s (.returned v) u = true ∧ True) → FrameEnd s (.returned v) u (Jvm.fieldLocs frame_1_writes args s ++ Jvm.arrayLocs frame_1_arrays args s ++ Jvm.staticLocs frame_1_statics s) 32 768 → Post tb e args s (.returned v) u) :
    ArmFor flags0 classFile x code maxLocals ret World_1 tables_1 room_1 Calls_1 rest_1 Pre_1 Post := by
  intro l hfl _ _ p e ha hc hk s m args below hf hA hF happ hP
  obtain ⟨hcalls, hrest, hpre⟩ := hP
  obtain ⟨-, -, -, hnamed, -, -, -, hat⟩ := (Spec.applies_iff hf).mp happ
  obtain ⟨hg, hn⟩ := and_e (Cond.before_iff.mp (show (Jvm.Cond.and given_1 narrow_1).before args s = true from hpre))
  obtain ⟨h1, hg1⟩ := and_e hg
  obtain ⟨w0, w1, w2, rfl⟩ : ∃ w0 w1 w2 : Value, args = #[w0, w1, w2] := by
    have hs : args.size = 3 := by simpa [Cond.value, given_1] using h1
    obtain ⟨L⟩ := args
    match L, hs with
    | [w0, w1, w2], _ => exact ⟨w0, w1, w2, rfl⟩
  have hw := fun d (hd : d ∈ tables_1) => atoms_spec (ws := Jvm.Cond.code x code maxLocals ret :: tables_1) hat d (List.mem_cons_of_mem _ hd)
  obtain ⟨hk0, hg2⟩ := and_e hg1
  obtain ⟨i0, ei0⟩ := is_v hk0
  obtain rfl : w0 = (.int i0) := Option.some.inj ei0
  obtain ⟨hk1, hg3⟩ := and_e hg2
  obtain ⟨i1, ei1⟩ := is_v hk1
  obtain rfl : w1 = (.int i1) := Option.some.inj ei1
  obtain ⟨i2, ei2⟩ := is_v hg3
  obtain rfl : w2 = (.int i2) := Option.some.inj ei2
  obtain ⟨n, o, h1, h2, h3, _, L, rfl, ⟨rfl, N⟩, hq⟩ := rm0 l s _ hw tables_1 i0 i1 i2 s.heap s.heap.size (Nat.le_refl _) p e ha hc hk s m _ below hf ((Spec.applies_iff_loose hf).mp happ).1 ⟨rfl, State.Warmed39.refl s, rfl⟩ trivial
  refine ⟨n, _, h1, h2, h3, hpost _ _ _ _ _ _ ⟨Cond.after_iff.mpr rfl, Cond.after_iff.mpr (eq_i res_at (Term.int_eval (1)) rfl), trivial⟩ ⟨hq.1, hq.2.1, (hq.2.2.sift fun y hy => Or.inr (N y hy)).mono (by decide) (by decide)⟩⟩
theorem main_1_1 : Claimed_1_1 := comes_1 fun _ _ _ _ _ _ h hF => ⟨h.1, hF⟩
theorem main_1_2 : Claimed_1_2 := comes_1 fun _ _ _ _ _ _ h hF => ⟨h.2.1, hF⟩
end Jvm.Pilot.@@N@@
namespace Jvm.Pilot.@@N@@
open Jvm Jvm.ClassFile Sem Op Lib Jvm.Free Jvm.Stand Jvm.Pilot.@@N@@.Jvm.D
/-! MADE BY PROGRAM (witnessworld.py) out of the Statement's table words and the real class files: 18 classes; the members and pool entries that the words name. The judged class is class 1, her method 2. -/
namespace start1
open Jvm.ClassFile
def u (s : String) : CpInfo := .utf8 (stringToUtf16 s)
/-- a pool by its gaps: so many unusable entries, then the entry; so many at the end -/
def gap : Nat → List CpInfo → List CpInfo
  | 0, r => r
  | n + 1, r => .unusable :: gap n r
def poolList (es : List (Nat × CpInfo)) (last : Nat) : List CpInfo := es.foldr (fun e r => gap e.1 (e.2 :: r)) (gap last [])
def pool (es : List (Nat × CpInfo)) (last : Nat) : Array CpInfo := ⟨poolList es last⟩
def fileOf (pool : Array CpInfo) (this : Nat) (attrs : Array Attribute := #[]) (ms : Array MethodInfo := #[]) (fl : Nat := 33) (sup : Nat := 0) (ifs : Array Nat := #[]) (fds : Array FieldInfo := #[]) : ClassFile where
  minorVersion := 0
  majorVersion := 65
  constantPool := pool
  accessFlags := fl
  thisClass := this
  superClass := sup
  interfaces := ifs
  fields := fds
  methods := ms
  attributes := attrs
def plain (name : String) (sup : Option ClassId) : Class where
  name := name
  kind := .ordinary
  loader := none
  accessFlags := 33
  super := sup
  interfaces := #[]
  cf := none
  fields := #[]
  methods := #[]
  instanceTypes := #[]
  staticTypes := #[]
  resolved := #[]
  callSites := []
  init := .initialized
  statics := none
  mirror := none

def pool0 : Array CpInfo := pool [(5, u "<init>"), (0, u "()V"), (1, .class_ 10), (1, u "java/lang/Object")] 113

def k0c0 : Code := { maxStack := 0, maxLocals := 1, code := object_method_1_code, exceptionTable := #[], attributes := #[] }
def k0m0 : Method := { name := "<init>", desc := "()V", sig := { parameters := [], returnType := none }, accessFlags := 1, code := some k0c0 }
/-- java/lang/Object -/
def k0 : Class := { plain "java/lang/Object" none with
  accessFlags := 33
  interfaces := #[]
  cf := some (fileOf pool0 8 #[] #[{ accessFlags := 1, nameIndex := 5, descriptorIndex := 6, attributes := #[] }] 33 0 #[] #[])
  fields := #[]
  methods := #[k0m0]
  instanceTypes := #[]
  staticTypes := #[]
  resolved := Array.replicate 124 none
  statics := none }

def pool1 : Array CpInfo := pool [(2, .class_ 4), (1, u "java/lang/Object"), (0, u "<init>"), (0, u "()V"), (0, .class_ 8), (0, u "com/example/thermopylae/thermopylae/http/BufferPool"), (0, .methodref 7 10), (0, .nameAndType 5 11), (0, u "(II)V"), (0, .methodref 7 13), (0, .nameAndType 14 15), (0, u "give"), (0, u "([B)V"), (0, .methodref 17 18), (0, .class_ 19), (0, .nameAndType 20 21), (0, u "java/lang/Math"), (0, u "min"), (0, u "(II)I"), (0, .methodref 7 23), (0, .nameAndType 24 25), (0, u "take"), (0, u "()[B"), (0, .methodref 27 28), (0, .class_ 29), (0, .nameAndType 30 31), (0, u "com/example/thermopylae/thermopylae/http/BufferPoolTakePinLaw"), (0, u "step"), (0, u "([BII[B[B[BI)Z"), (5, u "law"), (0, u "(III)Z")] 2

def k1m0 : Method := { name := "<init>", desc := "()V", sig := { parameters := [], returnType := none }, accessFlags := 2, code := none }
def k1c1 : Code := { maxStack := 2, maxLocals := 9, code := method_2_code, exceptionTable := #[], attributes := #[] }
def k1m1 : Method := { name := "step", desc := "([BII[B[B[BI)Z", sig := { parameters := [(.array .byte), .int, .int, (.array .byte), (.array .byte), (.array .byte), .int], returnType := some .boolean }, accessFlags := 10, code := some k1c1 }
def k1c2 : Code := { maxStack := 7, maxLocals := 18, code := code, exceptionTable := #[], attributes := #[] }
def k1m2 : Method := { name := "law", desc := "(III)Z", sig := { parameters := [.int, .int, .int], returnType := some .boolean }, accessFlags := 9, code := some k1c2 }
/-- com/example/thermopylae/thermopylae/http/BufferPoolTakePinLaw -/
def k1 : Class := { plain "com/example/thermopylae/thermopylae/http/BufferPoolTakePinLaw" (some 0) with
  accessFlags := 49
  interfaces := #[]
  cf := some (fileOf pool1 27 #[] #[{ accessFlags := 2, nameIndex := 5, descriptorIndex := 6, attributes := #[] }, { accessFlags := 10, nameIndex := 30, descriptorIndex := 31, attributes := #[] }, { accessFlags := 9, nameIndex := 37, descriptorIndex := 38, attributes := #[] }] 49 2 #[] #[])
  fields := #[]
  methods := #[k1m0, k1m1, k1m2]
  instanceTypes := #[]
  staticTypes := #[]
  resolved := Array.replicate 41 none
  statics := none }

def pool2 : Array CpInfo := pool [(1, .methodref 2 3), (0, .class_ 4), (0, .nameAndType 5 6), (0, u "java/lang/Object"), (0, u "<init>"), (0, u "()V"), (0, .class_ 8), (0, u "java/util/ArrayDeque"), (0, .methodref 7 3), (0, .fieldref 11 12), (0, .class_ 13), (0, .nameAndType 14 15), (0, u "com/example/thermopylae/thermopylae/http/BufferPool"), (0, u "kept"), (0, u "Ljava/util/ArrayDeque;"), (0, .fieldref 11 17), (0, .nameAndType 18 19), (0, u "bytes"), (0, u "I"), (0, .fieldref 11 21), (0, .nameAndType 22 19), (0, u "most"), (0, .methodref 7 24), (0, .nameAndType 25 26), (0, u "pollLast"), (0, u "()Ljava/lang/Object;"), (0, .class_ 28), (0, u "[B"), (0, .methodref 7 30), (0, .nameAndType 31 32), (0, u "size"), (0, u "()I"), (0, .methodref 7 34), (0, .nameAndType 35 36), (0, u "addLast"), (0, u "(Ljava/lang/Object;)V"), (2, u "(II)V"), (2, u "take"), (0, u "()[B"), (1, u "give"), (0, u "([B)V")] 2

def k2c0 : Code := { maxStack := 3, maxLocals := 3, code := prog_24_method_1_code, exceptionTable := #[], attributes := #[] }
def k2m0 : Method := { name := "<init>", desc := "(II)V", sig := { parameters := [.int, .int], returnType := none }, accessFlags := 0, code := some k2c0 }
def k2c1 : Code := { maxStack := 1, maxLocals := 2, code := prog_24_method_2_code, exceptionTable := #[], attributes := #[] }
def k2m1 : Method := { name := "take", desc := "()[B", sig := { parameters := [], returnType := some (.array .byte) }, accessFlags := 0, code := some k2c1 }
def k2c2 : Code := { maxStack := 2, maxLocals := 2, code := prog_24_method_3_code, exceptionTable := #[], attributes := #[] }
def k2m2 : Method := { name := "give", desc := "([B)V", sig := { parameters := [(.array .byte)], returnType := none }, accessFlags := 0, code := some k2c2 }
/-- com/example/thermopylae/thermopylae/http/BufferPool -/
def k2 : Class := { plain "com/example/thermopylae/thermopylae/http/BufferPool" (some 0) with
  accessFlags := 32
  interfaces := #[]
  cf := some (fileOf pool2 11 #[] #[{ accessFlags := 0, nameIndex := 5, descriptorIndex := 39, attributes := #[] }, { accessFlags := 0, nameIndex := 42, descriptorIndex := 43, attributes := #[] }, { accessFlags := 0, nameIndex := 45, descriptorIndex := 46, attributes := #[] }] 32 2 #[] #[{ accessFlags := 18, nameIndex := 18, descriptorIndex := 19, attributes := #[] }, { accessFlags := 18, nameIndex := 22, descriptorIndex := 19, attributes := #[] }, { accessFlags := 18, nameIndex := 14, descriptorIndex := 15, attributes := #[] }])
  fields := #[{ name := "bytes", type := .int, accessFlags := 18, slot := 0, constantValue := 0 }, { name := "most", type := .int, accessFlags := 18, slot := 1, constantValue := 0 }, { name := "kept", type := (.object "java/util/ArrayDeque"), accessFlags := 18, slot := 2, constantValue := 0 }]
  methods := #[k2m0, k2m1, k2m2]
  instanceTypes := #[.int, .int, (.object "java/util/ArrayDeque")]
  staticTypes := #[]
  resolved := Array.replicate 49 none
  statics := none }

def pool3 : Array CpInfo := pool [(8, .class_ 10), (1, u "java/lang/Iterable"), (24, .class_ 36), (0, u "java/lang/Object")] 25

/-- java/lang/Iterable -/
def k3 : Class := { plain "java/lang/Iterable" (some 0) with
  accessFlags := 1537
  interfaces := #[]
  cf := some (fileOf pool3 8 #[] #[] 1537 35 #[] #[])
  fields := #[]
  methods := #[]
  instanceTypes := #[]
  staticTypes := #[]
  resolved := Array.replicate 62 none
  statics := none }

def pool4 : Array CpInfo := pool [(10, .class_ 12), (1, u "java/util/Collection"), (47, .class_ 61), (0, u "java/lang/Object"), (0, .class_ 63), (0, u "java/lang/Iterable")] 51

/-- java/util/Collection -/
def k4 : Class := { plain "java/util/Collection" (some 0) with
  accessFlags := 1537
  interfaces := #[3]
  cf := some (fileOf pool4 10 #[] #[] 1537 60 #[62] #[])
  fields := #[]
  methods := #[]
  instanceTypes := #[]
  staticTypes := #[]
  resolved := Array.replicate 115 none
  statics := none }

def pool5 : Array CpInfo := pool [(1, .methodref 2 3), (0, .class_ 4), (0, .nameAndType 5 6), (0, u "java/lang/Object"), (0, u "<init>"), (0, u "()V"), (1, .class_ 10), (1, u "java/util/AbstractCollection"), (66, .class_ 78), (0, u "java/util/Collection")] 81

def k5c0 : Code := { maxStack := 1, maxLocals := 1, code := jdk_22_method_1_code, exceptionTable := #[], attributes := #[] }
def k5m0 : Method := { name := "<init>", desc := "()V", sig := { parameters := [], returnType := none }, accessFlags := 4, code := some k5c0 }
/-- java/util/AbstractCollection -/
def k5 : Class := { plain "java/util/AbstractCollection" (some 0) with
  accessFlags := 1057
  interfaces := #[4]
  cf := some (fileOf pool5 8 #[] #[{ accessFlags := 4, nameIndex := 5, descriptorIndex := 6, attributes := #[] }] 1057 2 #[77] #[])
  fields := #[]
  methods := #[k5m0]
  instanceTypes := #[]
  staticTypes := #[]
  resolved := Array.replicate 160 none
  statics := none }

def pool6 : Array CpInfo := pool [(1, .class_ 2), (0, u "java/util/Queue"), (0, .class_ 4), (0, u "java/lang/Object"), (0, .class_ 6), (0, u "java/util/Collection")] 14

/-- java/util/Queue -/
def k6 : Class := { plain "java/util/Queue" (some 0) with
  accessFlags := 1537
  interfaces := #[4]
  cf := some (fileOf pool6 1 #[] #[] 1537 3 #[5] #[])
  fields := #[]
  methods := #[]
  instanceTypes := #[]
  staticTypes := #[]
  resolved := Array.replicate 21 none
  statics := none }

def pool7 : Array CpInfo := pool [(8, .class_ 10), (1, u "java/util/SequencedCollection"), (15, .class_ 27), (0, u "java/lang/Object"), (0, .class_ 29), (0, u "java/util/Collection")] 27

/-- java/util/SequencedCollection -/
def k7 : Class := { plain "java/util/SequencedCollection" (some 0) with
  accessFlags := 1537
  interfaces := #[4]
  cf := some (fileOf pool7 8 #[] #[] 1537 26 #[28] #[])
  fields := #[]
  methods := #[]
  instanceTypes := #[]
  staticTypes := #[]
  resolved := Array.replicate 57 none
  statics := none }

def pool8 : Array CpInfo := pool [(8, .class_ 10), (1, u "java/util/Deque"), (2, .class_ 14), (0, u "java/lang/Object"), (0, .class_ 16), (0, u "java/util/Queue"), (0, .class_ 18), (0, u "java/util/SequencedCollection")] 51

/-- java/util/Deque -/
def k8 : Class := { plain "java/util/Deque" (some 0) with
  accessFlags := 1537
  interfaces := #[6, 7]
  cf := some (fileOf pool8 8 #[] #[] 1537 13 #[15, 17] #[])
  fields := #[]
  methods := #[]
  instanceTypes := #[]
  staticTypes := #[]
  resolved := Array.replicate 70 none
  statics := none }

def pool9 : Array CpInfo := pool [(1, .class_ 2), (0, u "java/lang/Cloneable"), (0, .class_ 4), (0, u "java/lang/Object")] 2

/-- java/lang/Cloneable -/
def k9 : Class := { plain "java/lang/Cloneable" (some 0) with
  accessFlags := 1537
  interfaces := #[]
  cf := some (fileOf pool9 1 #[] #[] 1537 3 #[] #[])
  fields := #[]
  methods := #[]
  instanceTypes := #[]
  staticTypes := #[]
  resolved := Array.replicate 7 none
  statics := none }

def pool10 : Array CpInfo := pool [(1, .class_ 2), (0, u "java/io/Serializable"), (0, .class_ 4), (0, u "java/lang/Object")] 2

/-- java/io/Serializable -/
def k10 : Class := { plain "java/io/Serializable" (some 0) with
  accessFlags := 1537
  interfaces := #[]
  cf := some (fileOf pool10 1 #[] #[] 1537 3 #[] #[])
  fields := #[]
  methods := #[]
  instanceTypes := #[]
  staticTypes := #[]
  resolved := Array.replicate 7 none
  statics := none }

def pool11 : Array CpInfo := pool [(3, .fieldref 4 5), (0, .class_ 6), (0, .nameAndType 7 8), (0, u "java/util/ArrayDeque"), (0, u "elements"), (0, u "[Ljava/lang/Object;"), (4, u "(II)I"), (6, .fieldref 4 21), (0, .nameAndType 22 23), (0, u "tail"), (0, u "I"), (0, .fieldref 4 25), (0, .nameAndType 26 23), (0, u "head"), (12, u "<init>"), (2, .methodref 43 44), (0, .class_ 45), (0, .nameAndType 39 46), (0, u "java/util/AbstractCollection"), (0, u "()V"), (0, .class_ 48), (0, u "java/lang/Object"), (4, u "size"), (0, u "()I"), (13, .methodref 4 69), (0, .nameAndType 70 13), (0, u "dec"), (3, .methodref 4 75), (0, .nameAndType 76 13), (0, u "inc"), (12, u "(Ljava/lang/Object;)V"), (2, u "addLast"), (3, u "()Ljava/lang/Object;"), (5, u "pollLast"), (0, .methodref 4 104), (0, .nameAndType 105 106), (0, u "elementAt"), (0, u "([Ljava/lang/Object;I)Ljava/lang/Object;"), (20, .methodref 4 128), (0, .nameAndType 129 130), (0, u "sub"), (0, u "(III)I"), (0, .class_ 132), (0, u "java/util/ArrayDeque$DeqIterator"), (3, .class_ 137), (0, u "java/util/ArrayDeque$DescendingIterator"), (1, .class_ 140), (0, u "java/util/ArrayDeque$DeqSpliterator"), (137, .class_ 279), (0, u "java/util/Deque"), (0, .class_ 281), (0, u "java/lang/Cloneable"), (0, .class_ 283), (0, u "java/io/Serializable"), (0, u "MAX_ARRAY_SIZE"), (1, u "serialVersionUID"), (0, u "J")] 150

def k11c0 : Code := { maxStack := 2, maxLocals := 1, code := jdk_21_method_3_code, exceptionTable := #[], attributes := #[] }
def k11m0 : Method := { name := "<init>", desc := "()V", sig := { parameters := [], returnType := none }, accessFlags := 1, code := some k11c0 }
def k11c1 : Code := { maxStack := 2, maxLocals := 2, code := jdk_21_method_6_code, exceptionTable := #[], attributes := #[] }
def k11m1 : Method := { name := "inc", desc := "(II)I", sig := { parameters := [.int, .int], returnType := some .int }, accessFlags := 24, code := some k11c1 }
def k11c2 : Code := { maxStack := 2, maxLocals := 2, code := jdk_21_method_7_code, exceptionTable := #[], attributes := #[] }
def k11m2 : Method := { name := "dec", desc := "(II)I", sig := { parameters := [.int, .int], returnType := some .int }, accessFlags := 24, code := some k11c2 }
def k11c3 : Code := { maxStack := 2, maxLocals := 3, code := jdk_21_method_9_code, exceptionTable := #[], attributes := #[] }
def k11m3 : Method := { name := "sub", desc := "(III)I", sig := { parameters := [.int, .int, .int], returnType := some .int }, accessFlags := 24, code := some k11c3 }
def k11c4 : Code := { maxStack := 2, maxLocals := 2, code := jdk_21_method_10_code, exceptionTable := #[], attributes := #[] }
def k11m4 : Method := { name := "elementAt", desc := "([Ljava/lang/Object;I)Ljava/lang/Object;", sig := { parameters := [(.array (.object "java/lang/Object")), .int], returnType := some (.object "java/lang/Object") }, accessFlags := 24, code := some k11c4 }
def k11c5 : Code := { maxStack := 4, maxLocals := 3, code := jdk_21_method_13_code, exceptionTable := #[], attributes := #[] }
def k11m5 : Method := { name := "addLast", desc := "(Ljava/lang/Object;)V", sig := { parameters := [(.object "java/lang/Object")], returnType := none }, accessFlags := 1, code := some k11c5 }
def k11c6 : Code := { maxStack := 4, maxLocals := 4, code := jdk_21_method_21_code, exceptionTable := #[], attributes := #[] }
def k11m6 : Method := { name := "pollLast", desc := "()Ljava/lang/Object;", sig := { parameters := [], returnType := some (.object "java/lang/Object") }, accessFlags := 1, code := some k11c6 }
def k11c7 : Code := { maxStack := 3, maxLocals := 1, code := jdk_21_method_37_code, exceptionTable := #[], attributes := #[] }
def k11m7 : Method := { name := "size", desc := "()I", sig := { parameters := [], returnType := some .int }, accessFlags := 1, code := some k11c7 }
/-- java/util/ArrayDeque -/
def k11 : Class := { plain "java/util/ArrayDeque" (some 5) with
  accessFlags := 33
  interfaces := #[8, 9, 10]
  cf := some (fileOf pool11 4 #[.nestMembers #[139, 136, 131]] #[{ accessFlags := 1, nameIndex := 39, descriptorIndex := 46, attributes := #[] }, { accessFlags := 24, nameIndex := 76, descriptorIndex := 13, attributes := #[] }, { accessFlags := 24, nameIndex := 70, descriptorIndex := 13, attributes := #[] }, { accessFlags := 24, nameIndex := 129, descriptorIndex := 130, attributes := #[] }, { accessFlags := 24, nameIndex := 105, descriptorIndex := 106, attributes := #[] }, { accessFlags := 1, nameIndex := 92, descriptorIndex := 89, attributes := #[] }, { accessFlags := 1, nameIndex := 102, descriptorIndex := 96, attributes := #[] }, { accessFlags := 1, nameIndex := 53, descriptorIndex := 54, attributes := #[] }] 33 43 #[278, 280, 282] #[{ accessFlags := 128, nameIndex := 7, descriptorIndex := 8, attributes := #[] }, { accessFlags := 128, nameIndex := 26, descriptorIndex := 23, attributes := #[] }, { accessFlags := 128, nameIndex := 22, descriptorIndex := 23, attributes := #[] }, { accessFlags := 26, nameIndex := 284, descriptorIndex := 23, attributes := #[] }, { accessFlags := 26, nameIndex := 286, descriptorIndex := 287, attributes := #[] }])
  fields := #[{ name := "elements", type := (.array (.object "java/lang/Object")), accessFlags := 128, slot := 0, constantValue := 0 }, { name := "head", type := .int, accessFlags := 128, slot := 1, constantValue := 0 }, { name := "tail", type := .int, accessFlags := 128, slot := 2, constantValue := 0 }, { name := "MAX_ARRAY_SIZE", type := .int, accessFlags := 26, slot := 0, constantValue := 0 }, { name := "serialVersionUID", type := .long, accessFlags := 26, slot := 1, constantValue := 0 }]
  methods := #[k11m0, k11m1, k11m2, k11m3, k11m4, k11m5, k11m6, k11m7]
  instanceTypes := #[(.array (.object "java/lang/Object")), .int, .int]
  staticTypes := #[.int, .long]
  resolved := Array.replicate 438 none
  statics := none }

def pool12 : Array CpInfo := pool [(1, .class_ 2), (0, u "java/lang/Math"), (1, .class_ 6), (1, u "java/lang/Object"), (0, u "<init>"), (0, u "()V"), (89, .class_ 100), (1, u "java/lang/Math$RandomNumberGeneratorHolder"), (71, u "negativeZeroFloatBits"), (0, u "J"), (2, u "negativeZeroDoubleBits"), (24, u "min"), (43, u "$assertionsDisabled"), (0, u "Z"), (88, u "(II)I"), (2, u "twoToTheDoubleScaleDown"), (0, u "D"), (4, u "twoToTheDoubleScaleUp"), (9, u "E"), (3, u "PI"), (2, u "TAU"), (2, u "DEGREES_TO_RADIANS"), (0, u "RADIANS_TO_DEGREES")] 94

def k12m0 : Method := { name := "<init>", desc := "()V", sig := { parameters := [], returnType := none }, accessFlags := 2, code := none }
def k12c1 : Code := { maxStack := 2, maxLocals := 2, code := jdk_29_method_69_code, exceptionTable := #[], attributes := #[] }
def k12m1 : Method := { name := "min", desc := "(II)I", sig := { parameters := [.int, .int], returnType := some .int }, accessFlags := 9, code := some k12c1 }
/-- java/lang/Math -/
def k12 : Class := { plain "java/lang/Math" (some 0) with
  accessFlags := 49
  interfaces := #[]
  cf := some (fileOf pool12 1 #[.nestMembers #[98]] #[{ accessFlags := 2, nameIndex := 7, descriptorIndex := 8, attributes := #[] }, { accessFlags := 9, nameIndex := 201, descriptorIndex := 335, attributes := #[] }] 49 4 #[] #[{ accessFlags := 25, nameIndex := 354, descriptorIndex := 339, attributes := #[] }, { accessFlags := 25, nameIndex := 358, descriptorIndex := 339, attributes := #[] }, { accessFlags := 25, nameIndex := 361, descriptorIndex := 339, attributes := #[] }, { accessFlags := 26, nameIndex := 364, descriptorIndex := 339, attributes := #[] }, { accessFlags := 26, nameIndex := 365, descriptorIndex := 339, attributes := #[] }, { accessFlags := 26, nameIndex := 172, descriptorIndex := 173, attributes := #[] }, { accessFlags := 26, nameIndex := 176, descriptorIndex := 173, attributes := #[] }, { accessFlags := 8, nameIndex := 344, descriptorIndex := 339, attributes := #[] }, { accessFlags := 8, nameIndex := 338, descriptorIndex := 339, attributes := #[] }, { accessFlags := 4120, nameIndex := 245, descriptorIndex := 246, attributes := #[] }])
  fields := #[{ name := "E", type := .double, accessFlags := 25, slot := 0, constantValue := 0 }, { name := "PI", type := .double, accessFlags := 25, slot := 1, constantValue := 0 }, { name := "TAU", type := .double, accessFlags := 25, slot := 2, constantValue := 0 }, { name := "DEGREES_TO_RADIANS", type := .double, accessFlags := 26, slot := 3, constantValue := 0 }, { name := "RADIANS_TO_DEGREES", type := .double, accessFlags := 26, slot := 4, constantValue := 0 }, { name := "negativeZeroFloatBits", type := .long, accessFlags := 26, slot := 5, constantValue := 0 }, { name := "negativeZeroDoubleBits", type := .long, accessFlags := 26, slot := 6, constantValue := 0 }, { name := "twoToTheDoubleScaleUp", type := .double, accessFlags := 8, slot := 7, constantValue := 0 }, { name := "twoToTheDoubleScaleDown", type := .double, accessFlags := 8, slot := 8, constantValue := 0 }, { name := "$assertionsDisabled", type := .boolean, accessFlags := 4120, slot := 9, constantValue := 0 }]
  methods := #[k12m0, k12m1]
  instanceTypes := #[]
  staticTypes := #[.double, .double, .double, .double, .double, .long, .long, .double, .double, .boolean]
  resolved := Array.replicate 460 none
  statics := none }

/-- the primitive byte -/
def k13 : Class := { plain "byte" none with kind := .primitive 'B', accessFlags := 0x411 }
/-- [B -/
def k14 : Class := { plain "[B" (some 0) with kind := .array 13 .byte, interfaces := #[9, 10], accessFlags := 1041 }

/-- the primitive int -/
def k15 : Class := { plain "int" none with kind := .primitive 'I', accessFlags := 0x411 }
/-- [I -/
def k16 : Class := { plain "[I" (some 0) with kind := .array 15 .int, interfaces := #[9, 10], accessFlags := 1041 }

/-- [Ljava/lang/Object; -/
def k17 : Class := { plain "[Ljava/lang/Object;" (some 0) with kind := .array 0 (.object "java/lang/Object"), interfaces := #[9, 10], accessFlags := 1041 }

def heap : Heap := #[]
def classes : Array Class := #[k0, k1, k2, k3, k4, k5, k6, k7, k8, k9, k10, k11, k12, k13, k14, k15, k16, k17]
def interned : List (Array UInt16 × Addr) := []
def slotsUsed : Nat := 0
def theMethod : MethodId := ⟨1, 2⟩
def args0 : Array Value := #[.int 5, .int 2, .int 3]
def aboutOver (below : List Frame) : State where
  vm := { classes := classes, interned := interned.toArray }
  heap := heap
  slotsUsed := slotsUsed
  threads := #[{ frames := .invoking theMethod args0 :: below }]
def below0 : List Frame := [.native { method := ⟨0, 0⟩, args := #[] }]
def about1 : State := aboutOver below0
def p0 : Program := .bare "" "" ""
def e0 : Env := launch0.env 0 0 0
theorem w_frames : about1.frames = Frame.invoking theMethod args0 :: below0 := rfl
set_option maxRecDepth 65536 in
theorem w_args : argsFit about1.vm theMethod args0 = true := by decide +kernel
set_option maxRecDepth 65536 in
theorem w_heap : heapFits about1 = true := by decide +kernel
set_option maxRecDepth 65536 in
theorem w_runnable : about1.curStatus? = some .runnable := by decide +kernel
set_option maxRecDepth 65536 in
theorem w_alone : about1.alone = true := by decide +kernel
set_option maxRecDepth 65536 in
theorem w_named : about1.methodNamed? x = some theMethod := by decide +kernel
set_option maxRecDepth 65536 in
theorem w_hears : about1.hears theMethod below0 = true := by decide +kernel
set_option maxRecDepth 65536 in
theorem w_ripe : about1.ripe theMethod args0 below0 = true := by decide +kernel
theorem w_running : about1.status = .running := rfl
set_option maxRecDepth 65536 in
theorem w_room : about1.hasRoom e0.platform room_1 = true :=
  launch0.hasRoom_least _ room_1 (by decide +kernel) (by decide +kernel) (by decide +kernel) (by decide +kernel) (by decide +kernel) (by decide +kernel)
theorem allAtoms_all (ts : List Jvm.Cond) (a : Array Jvm.Value) (st : Jvm.State) : (allAtoms ts).before a st = ts.all (fun c => c.before a st) := by
  induction ts with
  | nil => rfl
  | cons c t ih =>
    show (Jvm.Cond.and c (allAtoms t)).before a st = _
    rw [Jvm.Cond.before_and, ih, List.all_cons]
def words1 : List Jvm.Cond := Jvm.Cond.code x code maxLocals ret :: tables_1
/-- a 'code' word, met by the world's own term for the bytes: nothing is compared byte by byte -/
theorem code_word {y : MethodName} {bytes : ByteArray} {mx : Nat} {rt : Option FieldType} {a : Array Value} {s : State} {m : MethodId} {meth : Method} {c : Code} (h1 : s.methodNamed? y = some m) (h2 : s.vm.method? m = some meth) (h3 : meth.code = some c) (h4 : c.code = bytes)
    (h5 : (c.maxLocals == mx && c.exceptionTable.isEmpty && decide (c.maxStack ≤ mostOperands) && decide (meth.sig.returnType = rt) && !meth.locks && decide (parseMethodDescriptor y.desc = some meth.sig)) = true) : (Jvm.Cond.code y bytes mx rt).before a s = true := by
  simp only [Bool.and_eq_true, beq_iff_eq, Bool.not_eq_true', decide_eq_true_eq] at h5
  obtain ⟨⟨⟨⟨⟨g1, g2⟩, g3⟩, g4⟩, g5⟩, g6⟩ := h5
  simp [Cond.before, Cond.holds, Cond.value, h1, h2, h3, h4, g1, g2, g3, g4, g5, g6]
def isCode : Jvm.Cond → Bool
  | .code _ _ _ _ => true
  | _ => false
theorem all_split {L : List Jvm.Cond} {P : Jvm.Cond → Bool} (h1 : L.all (fun c => isCode c || P c) = true) (h2 : ∀ c ∈ L.filter isCode, P c = true) : L.all P = true := by
  refine List.all_eq_true.mpr fun c hc => ?_
  have h := List.all_eq_true.mp h1 c hc
  rcases Bool.eq_false_or_eq_true (isCode c) with hi | hi
  · exact h2 c (List.mem_filter.mpr ⟨hc, hi⟩)
  · simpa [hi] using h
set_option maxRecDepth 65536 in
theorem w_c0 : (Jvm.Cond.code x code maxLocals ret).before args0 about1 = true := code_word (m := ⟨1, 2⟩) (meth := k1m2) (c := k1c2) (by decide +kernel) rfl rfl rfl (by decide +kernel)
set_option maxRecDepth 65536 in
theorem w_c1 : (Jvm.Cond.code ({ cls := "com/example/thermopylae/thermopylae/http/BufferPool", name := "<init>", desc := "(II)V" } : Jvm.MethodName) prog_24_method_1_code (3 : Nat) (Option.none : Option Jvm.ClassFile.FieldType)).before args0 about1 = true := code_word (m := ⟨2, 0⟩) (meth := k2m0) (c := k2c0) (by decide +kernel) rfl rfl rfl (by decide +kernel)
set_option maxRecDepth 65536 in
theorem w_c2 : (Jvm.Cond.code ({ cls := "java/lang/Object", name := "<init>", desc := "()V" } : Jvm.MethodName) object_method_1_code (1 : Nat) (Option.none : Option Jvm.ClassFile.FieldType)).before args0 about1 = true := code_word (m := ⟨0, 0⟩) (meth := k0m0) (c := k0c0) (by decide +kernel) rfl rfl rfl (by decide +kernel)
set_option maxRecDepth 65536 in
theorem w_c3 : (Jvm.Cond.code ({ cls := "java/util/ArrayDeque", name := "<init>", desc := "()V" } : Jvm.MethodName) jdk_21_method_3_code (1 : Nat) (Option.none : Option Jvm.ClassFile.FieldType)).before args0 about1 = true := code_word (m := ⟨11, 0⟩) (meth := k11m0) (c := k11c0) (by decide +kernel) rfl rfl rfl (by decide +kernel)
set_option maxRecDepth 65536 in
theorem w_c4 : (Jvm.Cond.code ({ cls := "java/util/AbstractCollection", name := "<init>", desc := "()V" } : Jvm.MethodName) jdk_22_method_1_code (1 : Nat) (Option.none : Option Jvm.ClassFile.FieldType)).before args0 about1 = true := code_word (m := ⟨5, 0⟩) (meth := k5m0) (c := k5c0) (by decide +kernel) rfl rfl rfl (by decide +kernel)
set_option maxRecDepth 65536 in
theorem w_c5 : (Jvm.Cond.code ({ cls := "com/example/thermopylae/thermopylae/http/BufferPool", name := "give", desc := "([B)V" } : Jvm.MethodName) prog_24_method_3_code (2 : Nat) (Option.none : Option Jvm.ClassFile.FieldType)).before args0 about1 = true := code_word (m := ⟨2, 2⟩) (meth := k2m2) (c := k2c2) (by decide +kernel) rfl rfl rfl (by decide +kernel)
set_option maxRecDepth 65536 in
theorem w_c6 : (Jvm.Cond.code ({ cls := "java/util/ArrayDeque", name := "size", desc := "()I" } : Jvm.MethodName) jdk_21_method_37_code (1 : Nat) (Option.some Jvm.ClassFile.FieldType.int)).before args0 about1 = true := code_word (m := ⟨11, 7⟩) (meth := k11m7) (c := k11c7) (by decide +kernel) rfl rfl rfl (by decide +kernel)
set_option maxRecDepth 65536 in
theorem w_c7 : (Jvm.Cond.code ({ cls := "java/util/ArrayDeque", name := "sub", desc := "(III)I" } : Jvm.MethodName) jdk_21_method_9_code (3 : Nat) (Option.some Jvm.ClassFile.FieldType.int)).before args0 about1 = true := code_word (m := ⟨11, 3⟩) (meth := k11m3) (c := k11c3) (by decide +kernel) rfl rfl rfl (by decide +kernel)
set_option maxRecDepth 65536 in
theorem w_c8 : (Jvm.Cond.code ({ cls := "java/util/ArrayDeque", name := "addLast", desc := "(Ljava/lang/Object;)V" } : Jvm.MethodName) jdk_21_method_13_code (3 : Nat) (Option.none : Option Jvm.ClassFile.FieldType)).before args0 about1 = true := code_word (m := ⟨11, 5⟩) (meth := k11m5) (c := k11c5) (by decide +kernel) rfl rfl rfl (by decide +kernel)
set_option maxRecDepth 65536 in
theorem w_c9 : (Jvm.Cond.code ({ cls := "java/util/ArrayDeque", name := "inc", desc := "(II)I" } : Jvm.MethodName) jdk_21_method_6_code (2 : Nat) (Option.some Jvm.ClassFile.FieldType.int)).before args0 about1 = true := code_word (m := ⟨11, 1⟩) (meth := k11m1) (c := k11c1) (by decide +kernel) rfl rfl rfl (by decide +kernel)
set_option maxRecDepth 65536 in
theorem w_c10 : (Jvm.Cond.code ({ cls := "java/lang/Math", name := "min", desc := "(II)I" } : Jvm.MethodName) jdk_29_method_69_code (2 : Nat) (Option.some Jvm.ClassFile.FieldType.int)).before args0 about1 = true := code_word (m := ⟨12, 1⟩) (meth := k12m1) (c := k12c1) (by decide +kernel) rfl rfl rfl (by decide +kernel)
set_option maxRecDepth 65536 in
theorem w_c11 : (Jvm.Cond.code ({ cls := "com/example/thermopylae/thermopylae/http/BufferPool", name := "take", desc := "()[B" } : Jvm.MethodName) prog_24_method_2_code (2 : Nat) (Option.some (Jvm.ClassFile.FieldType.array Jvm.ClassFile.FieldType.byte))).before args0 about1 = true := code_word (m := ⟨2, 1⟩) (meth := k2m1) (c := k2c1) (by decide +kernel) rfl rfl rfl (by decide +kernel)
set_option maxRecDepth 65536 in
theorem w_c12 : (Jvm.Cond.code ({ cls := "java/util/ArrayDeque", name := "pollLast", desc := "()Ljava/lang/Object;" } : Jvm.MethodName) jdk_21_method_21_code (4 : Nat) (Option.some (Jvm.ClassFile.FieldType.object "java/lang/Object"))).before args0 about1 = true := code_word (m := ⟨11, 6⟩) (meth := k11m6) (c := k11c6) (by decide +kernel) rfl rfl rfl (by decide +kernel)
set_option maxRecDepth 65536 in
theorem w_c13 : (Jvm.Cond.code ({ cls := "java/util/ArrayDeque", name := "dec", desc := "(II)I" } : Jvm.MethodName) jdk_21_method_7_code (2 : Nat) (Option.some Jvm.ClassFile.FieldType.int)).before args0 about1 = true := code_word (m := ⟨11, 2⟩) (meth := k11m2) (c := k11c2) (by decide +kernel) rfl rfl rfl (by decide +kernel)
set_option maxRecDepth 65536 in
theorem w_c14 : (Jvm.Cond.code ({ cls := "java/util/ArrayDeque", name := "elementAt", desc := "([Ljava/lang/Object;I)Ljava/lang/Object;" } : Jvm.MethodName) jdk_21_method_10_code (2 : Nat) (Option.some (Jvm.ClassFile.FieldType.object "java/lang/Object"))).before args0 about1 = true := code_word (m := ⟨11, 4⟩) (meth := k11m4) (c := k11c4) (by decide +kernel) rfl rfl rfl (by decide +kernel)
set_option maxRecDepth 65536 in
theorem w_c15 : (Jvm.Cond.code ({ cls := "com/example/thermopylae/thermopylae/http/BufferPoolTakePinLaw", name := "step", desc := "([BII[B[B[BI)Z" } : Jvm.MethodName) method_2_code (9 : Nat) (Option.some Jvm.ClassFile.FieldType.boolean)).before args0 about1 = true := code_word (m := ⟨1, 1⟩) (meth := k1m1) (c := k1c1) (by decide +kernel) rfl rfl rfl (by decide +kernel)
def codes1 : List Jvm.Cond := [Jvm.Cond.code x code maxLocals ret, Jvm.Cond.code ({ cls := "com/example/thermopylae/thermopylae/http/BufferPool", name := "<init>", desc := "(II)V" } : Jvm.MethodName) prog_24_method_1_code (3 : Nat) (Option.none : Option Jvm.ClassFile.FieldType), Jvm.Cond.code ({ cls := "java/lang/Object", name := "<init>", desc := "()V" } : Jvm.MethodName) object_method_1_code (1 : Nat) (Option.none : Option Jvm.ClassFile.FieldType), Jvm.Cond.code ({ cls := "java/util/ArrayDeque", name := "<init>", desc := "()V" } : Jvm.MethodName) jdk_21_method_3_code (1 : Nat) (Option.none : Option Jvm.ClassFile.FieldType), Jvm.Cond.code ({ cls := "java/util/AbstractCollection", name := "<init>", desc := "()V" } : Jvm.MethodName) jdk_22_method_1_code (1 : Nat) (Option.none : Option Jvm.ClassFile.FieldType), Jvm.Cond.code ({ cls := "com/example/thermopylae/thermopylae/http/BufferPool", name := "give", desc := "([B)V" } : Jvm.MethodName) prog_24_method_3_code (2 : Nat) (Option.none : Option Jvm.ClassFile.FieldType), Jvm.Cond.code ({ cls := "java/util/ArrayDeque", name := "size", desc := "()I" } : Jvm.MethodName) jdk_21_method_37_code (1 : Nat) (Option.some Jvm.ClassFile.FieldType.int), Jvm.Cond.code ({ cls := "java/util/ArrayDeque", name := "sub", desc := "(III)I" } : Jvm.MethodName) jdk_21_method_9_code (3 : Nat) (Option.some Jvm.ClassFile.FieldType.int), Jvm.Cond.code ({ cls := "java/util/ArrayDeque", name := "addLast", desc := "(Ljava/lang/Object;)V" } : Jvm.MethodName) jdk_21_method_13_code (3 : Nat) (Option.none : Option Jvm.ClassFile.FieldType), Jvm.Cond.code ({ cls := "java/util/ArrayDeque", name := "inc", desc := "(II)I" } : Jvm.MethodName) jdk_21_method_6_code (2 : Nat) (Option.some Jvm.ClassFile.FieldType.int), Jvm.Cond.code ({ cls := "java/lang/Math", name := "min", desc := "(II)I" } : Jvm.MethodName) jdk_29_method_69_code (2 : Nat) (Option.some Jvm.ClassFile.FieldType.int), Jvm.Cond.code ({ cls := "com/example/thermopylae/thermopylae/http/BufferPool", name := "take", desc := "()[B" } : Jvm.MethodName) prog_24_method_2_code (2 : Nat) (Option.some (Jvm.ClassFile.FieldType.array Jvm.ClassFile.FieldType.byte)), Jvm.Cond.code ({ cls := "java/util/ArrayDeque", name := "pollLast", desc := "()Ljava/lang/Object;" } : Jvm.MethodName) jdk_21_method_21_code (4 : Nat) (Option.some (Jvm.ClassFile.FieldType.object "java/lang/Object")), Jvm.Cond.code ({ cls := "java/util/ArrayDeque", name := "dec", desc := "(II)I" } : Jvm.MethodName) jdk_21_method_7_code (2 : Nat) (Option.some Jvm.ClassFile.FieldType.int), Jvm.Cond.code ({ cls := "java/util/ArrayDeque", name := "elementAt", desc := "([Ljava/lang/Object;I)Ljava/lang/Object;" } : Jvm.MethodName) jdk_21_method_10_code (2 : Nat) (Option.some (Jvm.ClassFile.FieldType.object "java/lang/Object")), Jvm.Cond.code ({ cls := "com/example/thermopylae/thermopylae/http/BufferPoolTakePinLaw", name := "step", desc := "([BII[B[B[BI)Z" } : Jvm.MethodName) method_2_code (9 : Nat) (Option.some Jvm.ClassFile.FieldType.boolean)]
set_option maxRecDepth 65536 in
theorem codes_eq : words1.filter isCode = codes1 := rfl
theorem w_codes : ∀ c ∈ words1.filter isCode, c.before args0 about1 = true := by
  rw [codes_eq]
  intro c hc
  simp only [codes1, List.mem_cons, List.not_mem_nil, or_false] at hc
  rcases hc with rfl | rfl | rfl | rfl | rfl | rfl | rfl | rfl | rfl | rfl | rfl | rfl | rfl | rfl | rfl | rfl
  · exact w_c0
  · exact w_c1
  · exact w_c2
  · exact w_c3
  · exact w_c4
  · exact w_c5
  · exact w_c6
  · exact w_c7
  · exact w_c8
  · exact w_c9
  · exact w_c10
  · exact w_c11
  · exact w_c12
  · exact w_c13
  · exact w_c14
  · exact w_c15
set_option maxRecDepth 65536 in
theorem w_t1 : (words1.take 24).all (fun c => isCode c || c.before args0 about1) = true := by decide +kernel
set_option maxRecDepth 65536 in
theorem w_t2 : ((words1.drop 24).take 24).all (fun c => isCode c || c.before args0 about1) = true := by decide +kernel
set_option maxRecDepth 65536 in
theorem w_t3 : (((words1.drop 24).drop 24).take 24).all (fun c => isCode c || c.before args0 about1) = true := by decide +kernel
set_option maxRecDepth 65536 in
theorem w_t4 : (((words1.drop 24).drop 24).drop 24).all (fun c => isCode c || c.before args0 about1) = true := by decide +kernel
theorem w_tables : (allAtoms (Jvm.Cond.code x code maxLocals ret :: tables_1)).before args0 about1 = true := by
  rw [allAtoms_all]
  show words1.all (fun c => c.before args0 about1) = true
  refine all_split ?_ w_codes
  rw [← List.take_append_drop 24 words1, List.all_append, w_t1, ← List.take_append_drop 24 (words1.drop 24), List.all_append, w_t2, ← List.take_append_drop 24 ((words1.drop 24).drop 24), List.all_append, w_t3, w_t4]
  rfl
set_option maxRecDepth 65536 in
theorem w_case : (Jvm.Cond.and given_1 narrow_1).before args0 about1 = true := by decide +kernel
theorem w_applies : (headSpec (Jvm.Cond.code x code maxLocals ret :: tables_1) room_1).applies x e0.platform about1 = true :=
  (Spec.applies_iff w_frames).mpr ⟨w_running, w_runnable, w_alone, w_named, w_hears, w_ripe, w_room, w_tables⟩
theorem atStart : AtStart classFile x code maxLocals ret World_1 tables_1 room_1 Calls_1 rest_1 Pre_1 launch0 p0 e0 about1 theMethod args0 below0 :=
  ⟨lists_1, trivial, launch0.admits_env _ _ _, launch0.least_env, fairChoices_fair.cas, fairChoices_fair.clock, w_frames, w_args, w_heap, w_applies, trivial, trivial, w_case⟩
end start1
theorem witness_1 : WitnessClaimed_1 := ⟨start1.p0, start1.e0, start1.about1, start1.theMethod, start1.args0, start1.below0, start1.atStart⟩
end Jvm.Pilot.@@N@@
