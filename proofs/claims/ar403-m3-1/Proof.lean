import JvmDerived
import JvmDerived.Pilot.@@N@@Statement
import JvmDerived.Pilot.@@N@@Code
set_option linter.unusedVariables false
set_option linter.unusedSimpArgs false
namespace Jvm.RoadKit
open Sem ClassFile Op Lib Jvm.Stand Jvm.Free Jvm.LawKit
section New
variable {p : Program} {l : Launch} {e : Env} {R : Room} {s : State} {m : MethodId} {args : Array Value} {below : List Frame} {meth : Method} {c : Code} {T : State} {locs : List Loc} {cells slots : Nat}
theorem retI (X : Stand p l e R s m args below meth c T locs cells slots) (hx : p.tables.exec = Jvm.exec) {pc : Nat} {Ls : Array Slot} {z : Int32} {rest : List Value} (hret : meth.sig.returnType = some .int) (hd : decode c.code pc = .ok (.ireturn, 1)) {fs : List Frame}
    (hl : ∀ (f : JFrame) (acts : List Action), f.method = m → f.locked = none → f.entered = [] → (doReturn e (T.setTop f) acts (some (.int z))).1 = T.setFrames fs) : Steps p.tables e below (T.setTop (mkF m pc Ls (.int z :: rest))) (T.setFrames fs) := by
  have hm' : T.vm.method? m = some meth := X.method'
  have hn : narrow .int (.int z) = .int z := rfl
  show Steps p.tables e below (T.setTop { method := m, pc := pc, locals := Ls, stack := _ :: rest, locked := none }) _
  jvm_step X.here [X.here.top, hx, hd, hm', hret, hn]
  first | (intro acts; rw [hl _ acts rfl rfl rfl]) | rw [hl _ _ rfl rfl rfl]
  exact Steps.refl _
end New
end Jvm.RoadKit
namespace Jvm.Pilot.@@N@@
open Jvm Jvm.ClassFile Sem Op Lib Jvm.Free Jvm.Stand Jvm.LawKit Jvm.RoadKit Bundle Jvm.Pilot.@@N@@.Jvm.D
/-! the walk's own form: from the state S the run ends in a return that P speaks of -/
def own_Gl (tb : Tables) (e : Env) (below : List Frame) (P : Outcome → State → Prop) (S : State) : Prop := ∃ s₂ o, Steps tb e below S s₂ ∧ s₂.status = .running ∧ Ended s₂ below o ∧ P o s₂
def own_P (s : State) (Q : Option Value → Heap → List Loc → Prop) (C N : Nat) (o : Outcome) (u : State) : Prop := ∃ v L, o = .returned v ∧ Q v u.heap L ∧ FrameEnd s o u L C N
theorem own_back {tb : Tables} {e : Env} {below : List Frame} {P : Outcome → State → Prop} {S S' : State} (k : ∀ t, Steps tb e below S' t → Steps tb e below S t) (h : own_Gl tb e below P S') : own_Gl tb e below P S := by
  obtain ⟨s₂, o, h1, h2⟩ := h
  exact ⟨s₂, o, k _ h1, h2⟩
theorem own_trans {tb : Tables} {e : Env} {below : List Frame} {P : Outcome → State → Prop} {S S' : State} (k : Steps tb e below S S') (h : own_Gl tb e below P S') : own_Gl tb e below P S := own_back (fun _ q => k.trans q) h
theorem own_join {tb : Tables} {e : Env} {below : List Frame} {P : Outcome → State → Prop} {S : State} {α : Type} (F : α → State) (C : α → Prop) (tail : ∀ i, C i → own_Gl tb e below P (F i)) (main : (∀ i, C i → own_Gl tb e below P (F i)) → own_Gl tb e below P S) : own_Gl tb e below P S := main tail
section OwnRet
variable {p : Program} {l : Launch} {e : Env} {R : Room} {s : State} {m : MethodId} {args : Array Value} {below : List Frame} {meth : Method} {c : Code} {T : State} {locs : List Loc} {cells slots : Nat}
theorem own_start {C N : Nat} {Q : Option Value → Heap → List Loc → Prop} {g g' : JFrame} (q : g = g') (h : own_Gl p.tables e below (own_P s Q C N) (T.setTop g')) :
    ∃ s₂ o, Steps p.tables e below (T.setTop g) s₂ ∧ s₂.status = .running ∧ Ended s₂ below o ∧ ∃ v L, o = .returned v ∧ Q v s₂.heap L ∧ FrameEnd s o s₂ L C N := by
  subst q; exact h
theorem own_ret (X : Stand p l e R s m args below meth c T locs cells slots) (hlk : meth.locks = false) {v : Option Value} {C N : Nat} {Q : Option Value → Heap → List Loc → Prop} {g : JFrame} (hv : meth.sig.returnType = none → v = none) (hq : Q v T.heap locs) (hc : cells ≤ C) (hn : slots ≤ N)
    (st : ∀ fs, (∀ (f : JFrame) (acts : List Action), f.method = m → f.locked = none → f.entered = [] → (doReturn e (T.setTop f) acts v).1 = T.setFrames fs) → Steps p.tables e below (T.setTop g) (T.setFrames fs)) : own_Gl p.tables e below (own_P s Q C N) (T.setTop g) := by
  obtain ⟨fs, hr, hrun, hended, hW, hsame⟩ := X.leave (v := v) hv hlk
  exact ⟨_, _, st fs hr, hrun, hended, _, _, rfl, hq, ⟨_, rfl⟩, hW, hsame.mono hc hn⟩
theorem own_rZ (X : Stand p l e R s m args below meth c T locs cells slots) (hx : p.tables.exec = Jvm.exec) (hlk : meth.locks = false) (hret : meth.sig.returnType = some .boolean) {z z' : Int32} {C N pc : Nat} {Ls : Array Slot} {rest : List Value} {Q : Option Value → Heap → List Loc → Prop} (hd : decode c.code pc = .ok (.ireturn, 1)) (hz : z &&& 1 = z') (hq : Q (some (.int z')) T.heap locs) (hc : cells ≤ C) (hn : slots ≤ N) :
    own_Gl p.tables e below (own_P s Q C N) (T.setTop (mkF m pc Ls (.int z :: rest))) := by
  subst hz
  exact own_ret X hlk (fun h => by rw [hret] at h; cases h) hq hc hn (fun fs hr => retN X hx (t := .boolean) hret (by simp) hd hr)
theorem own_rC (X : Stand p l e R s m args below meth c T locs cells slots) (hx : p.tables.exec = Jvm.exec) (hlk : meth.locks = false) (hret : meth.sig.returnType = some .char) {z z' : Int32} {C N pc : Nat} {Ls : Array Slot} {rest : List Value} {Q : Option Value → Heap → List Loc → Prop} (hd : decode c.code pc = .ok (.ireturn, 1)) (hz : nar .char z = z') (hq : Q (some (.int z')) T.heap locs) (hc : cells ≤ C) (hn : slots ≤ N) :
    own_Gl p.tables e below (own_P s Q C N) (T.setTop (mkF m pc Ls (.int z :: rest))) := by
  subst hz
  exact own_ret X hlk (fun h => by rw [hret] at h; cases h) hq hc hn (fun fs hr => retN X hx (t := .char) hret (by simp) hd hr)
theorem own_rI (X : Stand p l e R s m args below meth c T locs cells slots) (hx : p.tables.exec = Jvm.exec) (hlk : meth.locks = false) (hret : meth.sig.returnType = some .int) {z : Int32} {C N pc : Nat} {Ls : Array Slot} {rest : List Value} {Q : Option Value → Heap → List Loc → Prop} (hd : decode c.code pc = .ok (.ireturn, 1)) (hq : Q (some (.int z)) T.heap locs) (hc : cells ≤ C) (hn : slots ≤ N) :
    own_Gl p.tables e below (own_P s Q C N) (T.setTop (mkF m pc Ls (.int z :: rest))) :=
  own_ret X hlk (fun h => by rw [hret] at h; cases h) hq hc hn (fun fs hr => retI X hx hret hd hr)
theorem own_rJ (X : Stand p l e R s m args below meth c T locs cells slots) (hx : p.tables.exec = Jvm.exec) (hlk : meth.locks = false) (hret : meth.sig.returnType = some .long) {z : Int64} {C N pc : Nat} {Ls : Array Slot} {rest : List Value} {Q : Option Value → Heap → List Loc → Prop} (hd : decode c.code pc = .ok (.lreturn, 1)) (hq : Q (some (.long z)) T.heap locs) (hc : cells ≤ C) (hn : slots ≤ N) :
    own_Gl p.tables e below (own_P s Q C N) (T.setTop (mkF m pc Ls (.long z :: rest))) :=
  own_ret X hlk (fun h => by rw [hret] at h; cases h) hq hc hn (fun fs hr => retOut X hx hret rfl (Or.inr (Or.inl ⟨rfl, rfl, _, rfl⟩)) hd hr)
theorem own_rA (X : Stand p l e R s m args below meth c T locs cells slots) (hx : p.tables.exec = Jvm.exec) (hlk : meth.locks = false) {t : FieldType} (hret : meth.sig.returnType = some t) (ht : t.isReference = true) {z : Value} (hz : z.isRef = true) (hnz : narrow t z = z) {C N pc : Nat} {Ls : Array Slot} {rest : List Value} {Q : Option Value → Heap → List Loc → Prop} (hd : decode c.code pc = .ok (.areturn, 1)) (hq : Q (some z) T.heap locs) (hc : cells ≤ C) (hn : slots ≤ N) :
    own_Gl p.tables e below (own_P s Q C N) (T.setTop (mkF m pc Ls (z :: rest))) :=
  own_ret X hlk (fun h => by rw [hret] at h; cases h) hq hc hn (fun fs hr => retOut X hx hret hnz (Or.inr (Or.inr (Or.inr (Or.inr ⟨rfl, ht, hz⟩)))) hd hr)
theorem own_rV (X : Stand p l e R s m args below meth c T locs cells slots) (hx : p.tables.exec = Jvm.exec) (hlk : meth.locks = false) (hret : meth.sig.returnType = none) {C N pc : Nat} {Ls : Array Slot} {Q : Option Value → Heap → List Loc → Prop} (hd : decode c.code pc = .ok (.return_, 1)) (hq : Q none T.heap locs) (hc : cells ≤ C) (hn : slots ≤ N) :
    own_Gl p.tables e below (own_P s Q C N) (T.setTop (mkF m pc Ls [])) :=
  own_ret X hlk (fun _ => rfl) hq hc hn (fun fs hr => X.returnOut hx hret hd hr)
end OwnRet
/-! a comparison made a number: branch over; iconst_1; goto; iconst_0 -/
theorem own_bi {tb : Tables} [Ours tb] {e : Env} {below : List Frame} {P : Outcome → State → Prop} {T : State} {m : MethodId} {c : Code} (h : At T m c below) (hx : tb.exec = Jvm.exec) {cd : ClassFile.Cond} {x y : Int32} {Ls : Array Slot} {rest : List Value} (pc pc1 pc2 pc3 pc4 : Nat)
    (d0 : decode c.code pc = .ok (.if_icmp cd 7, 3)) (d1 : decode c.code pc1 = .ok (.iconst 1, 1)) (d2 : decode c.code pc2 = .ok (.goto 4, 3)) (d3 : decode c.code pc3 = .ok (.iconst 0, 1)) (q1 : pc1 = pc + 3) (q2 : pc2 = pc + 4) (q3 : pc3 = pc + 7) (q4 : pc4 = pc + 8)
    (k : own_Gl tb e below P (T.setTop (mkF m pc4 Ls (.int (if if_icmp.holds cd x y = true then 0 else 1) :: rest)))) : own_Gl tb e below P (T.setTop (mkF m pc Ls (.int y :: .int x :: rest))) := by
  subst q1 q2 q3 q4
  cases hc : if_icmp.holds cd x y
  · rw [hc] at k
    refine own_back (fun t q => XS.icmpNo h hx rfl d0 rfl hc q) ?_
    refine own_back (fun t q => XS.iconst h hx rfl d1 q) ?_
    refine own_back (fun t q => XS.goto h hx rfl (pc0 := pc + 4) (pc' := pc + 8) rfl d2 (by omega) (by omega) q) ?_
    exact k
  · rw [hc] at k
    refine own_back (fun t q => XS.icmpYes h hx rfl (pc0 := pc) (pc' := pc + 7) rfl d0 rfl hc (by omega) (by omega) q) ?_
    refine own_back (fun t q => XS.iconst h hx rfl d3 q) ?_
    exact k
theorem own_bz {tb : Tables} [Ours tb] {e : Env} {below : List Frame} {P : Outcome → State → Prop} {T : State} {m : MethodId} {c : Code} (h : At T m c below) (hx : tb.exec = Jvm.exec) {cd : ClassFile.Cond} {x : Int32} {Ls : Array Slot} {rest : List Value} (pc pc1 pc2 pc3 pc4 : Nat)
    (d0 : decode c.code pc = .ok (.ifCond cd 7, 3)) (d1 : decode c.code pc1 = .ok (.iconst 1, 1)) (d2 : decode c.code pc2 = .ok (.goto 4, 3)) (d3 : decode c.code pc3 = .ok (.iconst 0, 1)) (q1 : pc1 = pc + 3) (q2 : pc2 = pc + 4) (q3 : pc3 = pc + 7) (q4 : pc4 = pc + 8)
    (k : own_Gl tb e below P (T.setTop (mkF m pc4 Ls (.int (if if_icmp.holds cd x 0 = true then 0 else 1) :: rest)))) : own_Gl tb e below P (T.setTop (mkF m pc Ls (.int x :: rest))) := by
  subst q1 q2 q3 q4
  cases hc : if_icmp.holds cd x 0
  · rw [hc] at k
    refine own_back (fun t q => XS.ifNo h hx rfl d0 rfl ((if0 _ _).trans hc) q) ?_
    refine own_back (fun t q => XS.iconst h hx rfl d1 q) ?_
    refine own_back (fun t q => XS.goto h hx rfl (pc0 := pc + 4) (pc' := pc + 8) rfl d2 (by omega) (by omega) q) ?_
    exact k
  · rw [hc] at k
    refine own_back (fun t q => XS.ifYes h hx rfl (pc0 := pc) (pc' := pc + 7) rfl d0 rfl ((if0 _ _).trans hc) (by omega) (by omega) q) ?_
    refine own_back (fun t q => XS.iconst h hx rfl d3 q) ?_
    exact k
theorem own_one {z : Int32} (h : z = 1) : z &&& 1 = 1 := by subst h; decide
theorem own_zero {z : Int32} (h : z = 0) : z &&& 1 = 0 := by subst h; decide
theorem own_max1 (y : Int32) : ¬ ((if (1 : Int32) < y then y else 1) < (1 : Int32)) := by
  split
  · rename_i h; intro q; rw [Int32.lt_iff_toInt_lt] at h q; omega
  · decide
theorem d1_0 : decode jdk_29_method_65_code 0 = .ok (.iload_n 0, 1) := by decide +kernel
theorem d1_1 : decode jdk_29_method_65_code 1 = .ok (.iload_n 1, 1) := by decide +kernel
theorem d1_2 : decode jdk_29_method_65_code 2 = .ok (.if_icmp .lt 7, 3) := by decide +kernel
theorem d1_5 : decode jdk_29_method_65_code 5 = .ok (.iload_n 0, 1) := by decide +kernel
theorem d1_6 : decode jdk_29_method_65_code 6 = .ok (.goto 4, 3) := by decide +kernel
theorem d1_9 : decode jdk_29_method_65_code 9 = .ok (.iload_n 1, 1) := by decide +kernel
theorem d1_10 : decode jdk_29_method_65_code 10 = .ok (.ireturn, 1) := by decide +kernel
theorem pn_1 : plainFor (⟨"java/lang/Math", "max", "(II)I"⟩ : MethodName) = true := Jvm.Free.JP.mathPlain rfl (by decide +kernel)
def Qrm1 (p1 p2 : Int32) (h0 : Heap) (n0 : Nat) (v : Option Value) (h : Heap) (L : List Loc) : Prop := v = some (.int (if p1 < p2 then p2 else p1)) ∧ Fr n0 L ∧ h = h0
set_option maxRecDepth 65536 in
set_option maxHeartbeats 40000000 in
theorem rm1 (l : Launch) (Z : State) (a0 : Array Value) (hw : ∀ d ∈ tables_1, d.before a0 Z = true) (ws : List Jvm.Cond) (p1 : Int32) (p2 : Int32) (h0 : Heap) (n0 : Nat) (Z0 : n0 ≤ h0.size)  :
    MetFree l (⟨"java/lang/Math", "max", "(II)I"⟩ : MethodName) (head1 (Jvm.Cond.code (⟨"java/lang/Math", "max", "(II)I"⟩ : MethodName) jdk_29_method_65_code 2 (some .int) :: ws) ({ frames := 0, cells := 0, slots := 0, locals := 0 } : Room)) (fun a_ U_ => a_ = #[(.int p1), (.int p2)] ∧ Z.Warmed39 U_.vm ∧ U_.heap = h0) (fun _ _ _ _ _ => True) (fun _ U_ o_ U'_ => ∃ v_ L_, o_ = .returned v_ ∧ (Qrm1 p1 p2 h0 n0) v_ U'_.heap L_ ∧ FrameEnd U_ o_ U'_ L_ 0 0) := by
  refine MetFree.of_bodySF pn_1 hisR ?_
  intro p e s m args below meth c s₁ Bd hml0 hP hK
  obtain ⟨rfl, hZ, hh⟩ := hP
  have hx := Bd.exec
  have hby := Bd.bytes
  have hlk : meth.locks = false := Bd.notSynchronized
  have hml : c.maxLocals = 2 := hml0
  have hown : s.vm.findClass "java/lang/Math" = some m.cls := findClass_of_methodNamed Bd.named
  have hnm := (name_of_methodNamed Bd.named Bd.method).1
  have X0 : Stand p l e ({ frames := 0, cells := 0, slots := 0, locals := 0 } : Room) s m #[(.int p1), (.int p2)] below meth c s₁ [] 0 0 := Stand.of_body Bd
  have e0 : s₁.heap = h0 := by rw [← hh, Bd.state]; rfl
  have N0 := Fr.nil n0
  refine own_start (Q := Qrm1 p1 p2 h0 n0) (g' := (mkF m 0 #[.val (.int p1), .val (.int p2)] [])) (by first | (simp [entryFrame, mkF, argsToLocals, Value.category]; done) | rfl) ?_
  show own_Gl _ _ _ _ (s₁.setTop (mkF m 0 #[.val (.int p1), .val (.int p2)] []))
  refine own_back (fun t_ q_ => XS.iloadN X0.here hx rfl (hb hby d1_0) rfl q_) ?_
  show own_Gl _ _ _ _ (s₁.setTop (mkF m 1 #[.val (.int p1), .val (.int p2)] [(.int p1)]))
  refine own_back (fun t_ q_ => XS.iloadN X0.here hx rfl (hb hby d1_1) rfl q_) ?_
  show own_Gl _ _ _ _ (s₁.setTop (mkF m 2 #[.val (.int p1), .val (.int p2)] [(.int p2), (.int p1)]))
  by_cases hc : p1 < p2
  · skip
    refine own_back (fun t_ q_ => XS.icmpYes X0.here hx rfl (pc0 := 2) (pc' := 9) rfl (hb hby d1_2) rfl (tlt (hc : p1 < p2)).1 (by decide) (by decide) q_) ?_
    show own_Gl _ _ _ _ (s₁.setTop (mkF m 9 #[.val (.int p1), .val (.int p2)] []))
    refine own_back (fun t_ q_ => XS.iloadN X0.here hx rfl (hb hby d1_9) rfl q_) ?_
    show own_Gl _ _ _ _ (s₁.setTop (mkF m 10 #[.val (.int p1), .val (.int p2)] [(.int p2)]))
    exact own_rI X0 hx hlk Bd.returns (hb hby d1_10) (by show Qrm1 p1 p2 h0 n0 _ s₁.heap _; rw [e0]; exact ⟨by rw [if_pos hc], N0, rfl⟩) (by decide) (by decide)
  · skip
    refine own_back (fun t_ q_ => XS.icmpNo X0.here hx rfl (hb hby d1_2) rfl (flt (hc : ¬ (p1 < p2))).1 q_) ?_
    show own_Gl _ _ _ _ (s₁.setTop (mkF m 5 #[.val (.int p1), .val (.int p2)] []))
    refine own_back (fun t_ q_ => XS.iloadN X0.here hx rfl (hb hby d1_5) rfl q_) ?_
    show own_Gl _ _ _ _ (s₁.setTop (mkF m 6 #[.val (.int p1), .val (.int p2)] [(.int p1)]))
    refine own_back (fun t_ q_ => XS.goto X0.here hx rfl (pc0 := 6) (pc' := 10) rfl (hb hby d1_6) (by decide) (by decide) q_) ?_
    show own_Gl _ _ _ _ (s₁.setTop (mkF m 10 #[.val (.int p1), .val (.int p2)] [(.int p1)]))
    exact own_rI X0 hx hlk Bd.returns (hb hby d1_10) (by show Qrm1 p1 p2 h0 n0 _ s₁.heap _; rw [e0]; exact ⟨by rw [if_neg hc], N0, rfl⟩) (by decide) (by decide)
theorem d2_0 : decode prog_4_method_1_code 0 = .ok (.aload_n 0, 1) := by decide +kernel
theorem d2_1 : decode prog_4_method_1_code 1 = .ok (.invokespecial 3, 3) := by decide +kernel
theorem pd_0 : parseMethodDescriptor "()V" = some ⟨[], none⟩ := by decide +kernel
theorem d2_4 : decode prog_4_method_1_code 4 = .ok (.iload_n 1, 1) := by decide +kernel
theorem d2_5 : decode prog_4_method_1_code 5 = .ok (.iconst 1, 1) := by decide +kernel
theorem d2_6 : decode prog_4_method_1_code 6 = .ok (.if_icmp .ge 17, 3) := by decide +kernel
theorem d2_9 : decode prog_4_method_1_code 9 = .ok (.new 9, 3) := by decide +kernel
theorem d2_12 : decode prog_4_method_1_code 12 = .ok (.dup, 1) := by decide +kernel
theorem d2_13 : decode prog_4_method_1_code 13 = .ok (.iload_n 1, 1) := by decide +kernel
theorem d2_19 : decode prog_4_method_1_code 19 = .ok (.invokespecial 15, 3) := by decide +kernel
theorem d2_22 : decode prog_4_method_1_code 22 = .ok (.athrow, 1) := by decide +kernel
theorem d2_23 : decode prog_4_method_1_code 23 = .ok (.aload_n 0, 1) := by decide +kernel
theorem d2_24 : decode prog_4_method_1_code 24 = .ok (.iload_n 1, 1) := by decide +kernel
theorem d2_25 : decode prog_4_method_1_code 25 = .ok (.putfield 18, 3) := by decide +kernel
theorem d2_28 : decode prog_4_method_1_code 28 = .ok (.aload_n 0, 1) := by decide +kernel
theorem d2_29 : decode prog_4_method_1_code 29 = .ok (.iload_n 2, 1) := by decide +kernel
theorem d2_30 : decode prog_4_method_1_code 30 = .ok (.putfield 24, 3) := by decide +kernel
theorem d2_33 : decode prog_4_method_1_code 33 = .ok (.return_, 1) := by decide +kernel
theorem pn_2 : plainFor (⟨"com/example/oporto/oporto/ElectionIndex", "<init>", "(II)V"⟩ : MethodName) = true := plainFor_of_name (by first | (simp [plainName, overriddenIn]; done) | decide +kernel)
def Qrm2 (Z : State) (a1 : Addr) (p2 p3 : Int32) (h0 : Heap) (n0 : Nat) (v : Option Value) (h : Heap) (L : List Loc) : Prop := v = none ∧ Fr n0 L ∧ Keep h0 h [a1] ∧ Exa Z h a1 "com/example/oporto/oporto/ElectionIndex" ∧ Fld Z h a1 "com/example/oporto/oporto/ElectionIndex" "count" "I" (.int p2) ∧ Fld Z h a1 "com/example/oporto/oporto/ElectionIndex" "initiator" "I" (.int p3)
set_option maxRecDepth 65536 in
set_option maxHeartbeats 40000000 in
theorem rm2 (l : Launch) (Z : State) (a0 : Array Value) (hw : ∀ d ∈ tables_1, d.before a0 Z = true) (ws : List Jvm.Cond) (a1 : Addr) (p2 : Int32) (p3 : Int32) (h0 : Heap) (n0 : Nat) (Z0 : n0 ≤ h0.size) (E1 : Exa Z h0 a1 "com/example/oporto/oporto/ElectionIndex") (F1 : Fld Z h0 a1 "com/example/oporto/oporto/ElectionIndex" "count" "I" (.int 0)) (F2 : Fld Z h0 a1 "com/example/oporto/oporto/ElectionIndex" "initiator" "I" (.int 0)) (g1 : n0 ≤ a1) (hc : ¬ (p2 < (1 : Int32))) :
    MetFree l (⟨"com/example/oporto/oporto/ElectionIndex", "<init>", "(II)V"⟩ : MethodName) (head1 (Jvm.Cond.code (⟨"com/example/oporto/oporto/ElectionIndex", "<init>", "(II)V"⟩ : MethodName) prog_4_method_1_code 3 none :: ws) ({ frames := 1, cells := 0, slots := 0, locals := 12 } : Room)) (fun a_ U_ => a_ = #[(.ref a1), (.int p2), (.int p3)] ∧ Z.Warmed39 U_.vm ∧ U_.heap = h0) (fun _ _ _ _ _ => True) (fun _ U_ o_ U'_ => ∃ v_ L_, o_ = .returned v_ ∧ (Qrm2 Z a1 p2 p3 h0 n0) v_ U'_.heap L_ ∧ FrameEnd U_ o_ U'_ L_ 0 0) := by
  refine MetFree.of_bodySF pn_2 hisR ?_
  intro p e s m args below meth c s₁ Bd hml0 hP hK
  obtain ⟨rfl, hZ, hh⟩ := hP
  have hx := Bd.exec
  have hby := Bd.bytes
  have hlk : meth.locks = false := Bd.notSynchronized
  have hml : c.maxLocals = 3 := hml0
  have hown : s.vm.findClass "com/example/oporto/oporto/ElectionIndex" = some m.cls := findClass_of_methodNamed Bd.named
  have hnm := (name_of_methodNamed Bd.named Bd.method).1
  have X0 : Stand p l e ({ frames := 1, cells := 0, slots := 0, locals := 12 } : Room) s m #[(.ref a1), (.int p2), (.int p3)] below meth c s₁ [] 0 0 := Stand.of_body Bd
  have e0 : s₁.heap = h0 := by rw [← hh, Bd.state]; rfl
  have N0 := Fr.nil n0
  refine own_start (Q := Qrm2 Z a1 p2 p3 h0 n0) (g' := (mkF m 0 #[.val (.ref a1), .val (.int p2), .val (.int p3)] [])) (by first | (simp [entryFrame, mkF, argsToLocals, Value.category]; done) | rfl) ?_
  show own_Gl _ _ _ _ (s₁.setTop (mkF m 0 #[.val (.ref a1), .val (.int p2), .val (.int p3)] []))
  refine own_back (fun t_ q_ => XS.aloadN X0.here hx rfl (hb hby d2_0) rfl rfl q_) ?_
  show own_Gl _ _ _ _ (s₁.setTop (mkF m 1 #[.val (.ref a1), .val (.int p2), .val (.int p3)] [(.ref a1)]))
  obtain ⟨T1, X1, e1, st1⟩ := initO X0 hx hZ hown (hw _ (List.mem_of_getElem? (i := 11) rfl)) (hw _ (List.mem_of_getElem? (i := 12) rfl)) (hw _ (List.mem_of_getElem? (i := 13) rfl)) e0 (g := (mkF m 1 #[.val (.ref a1), .val (.int p2), .val (.int p3)] [(.ref a1)])) rfl (by rw [hml]; rfl) rfl (hb hby d2_1) (by decide) (W := 0) (by show 2 * 0 + _ ≤ _; exact Nat.le_of_eq rfl) (by decide)
  refine own_back st1 ?_
  show own_Gl _ _ _ _ (T1.setTop (mkF m 4 #[.val (.ref a1), .val (.int p2), .val (.int p3)] []))
  refine own_back (fun t_ q_ => XS.iloadN X1.here hx rfl (hb hby d2_4) rfl q_) ?_
  show own_Gl _ _ _ _ (T1.setTop (mkF m 5 #[.val (.ref a1), .val (.int p2), .val (.int p3)] [(.int p2)]))
  refine own_back (fun t_ q_ => XS.iconst X1.here hx rfl (hb hby d2_5) q_) ?_
  show own_Gl _ _ _ _ (T1.setTop (mkF m 6 #[.val (.ref a1), .val (.int p2), .val (.int p3)] [(.int (1 : Int32)), (.int p2)]))
  refine own_back (fun t_ q_ => XS.icmpYes X1.here hx rfl (pc0 := 6) (pc' := 23) rfl (hb hby d2_6) rfl (flt (hc : ¬ (p2 < (1 : Int32)))).2.1 (by decide) (by decide) q_) ?_
  show own_Gl _ _ _ _ (T1.setTop (mkF m 23 #[.val (.ref a1), .val (.int p2), .val (.int p3)] []))
  refine own_back (fun t_ q_ => XS.aloadN X1.here hx rfl (hb hby d2_23) rfl rfl q_) ?_
  show own_Gl _ _ _ _ (T1.setTop (mkF m 24 #[.val (.ref a1), .val (.int p2), .val (.int p3)] [(.ref a1)]))
  refine own_back (fun t_ q_ => XS.iloadN X1.here hx rfl (hb hby d2_24) rfl q_) ?_
  show own_Gl _ _ _ _ (T1.setTop (mkF m 25 #[.val (.ref a1), .val (.int p2), .val (.int p3)] [(.int p2), (.ref a1)]))
  obtain ⟨T2, h2, X2, e2, W2, st2⟩ := putF X1 hx hZ hown (host := "") (Or.inl (hw _ (List.mem_of_getElem? (i := 14) rfl))) Via.refl e1 F1 E1 (Or.inr ⟨(hw _ (List.mem_of_getElem? (i := 15) rfl)), rfl, hnm⟩) (hw _ (List.mem_of_getElem? (i := 6) rfl)) (ty := .int) (by decide) rfl rfl (g := (mkF m 25 #[.val (.ref a1), .val (.int p2), .val (.int p3)] [(.int p2), (.ref a1)])) rfl rfl (hb hby d2_25)
  refine own_back st2 ?_
  have N2 := Fr.snoc X2 N0 g1
  show own_Gl _ _ _ _ (T2.setTop (mkF m 28 #[.val (.ref a1), .val (.int p2), .val (.int p3)] []))
  have E2 := E1.wr W2
  have F3 := F1.same W2
  have F4 := F2.other W2 (Or.inr (slot_ne (Or.inr (hw _ (List.mem_of_getElem? (i := 17) rfl))) (Or.inr (hw _ (List.mem_of_getElem? (i := 15) rfl))) (by decide) (t := .int) (t' := .int) (by decide) (by decide)))
  have K1 := (Keep.refl h0 [a1]).wr W2 (Or.inl (List.mem_singleton.mpr rfl))
  refine own_back (fun t_ q_ => XS.aloadN X2.here hx rfl (hb hby d2_28) rfl rfl q_) ?_
  show own_Gl _ _ _ _ (T2.setTop (mkF m 29 #[.val (.ref a1), .val (.int p2), .val (.int p3)] [(.ref a1)]))
  refine own_back (fun t_ q_ => XS.iloadN X2.here hx rfl (hb hby d2_29) rfl q_) ?_
  show own_Gl _ _ _ _ (T2.setTop (mkF m 30 #[.val (.ref a1), .val (.int p2), .val (.int p3)] [(.int p3), (.ref a1)]))
  obtain ⟨T3, h3, X3, e3, W3, st3⟩ := putF X2 hx hZ hown (host := "") (Or.inl (hw _ (List.mem_of_getElem? (i := 16) rfl))) Via.refl e2 F4 E2 (Or.inr ⟨(hw _ (List.mem_of_getElem? (i := 17) rfl)), rfl, hnm⟩) (hw _ (List.mem_of_getElem? (i := 6) rfl)) (ty := .int) (by decide) rfl rfl (g := (mkF m 30 #[.val (.ref a1), .val (.int p2), .val (.int p3)] [(.int p3), (.ref a1)])) rfl rfl (hb hby d2_30)
  refine own_back st3 ?_
  have N3 := Fr.snoc X3 N2 g1
  show own_Gl _ _ _ _ (T3.setTop (mkF m 33 #[.val (.ref a1), .val (.int p2), .val (.int p3)] []))
  have E3 := E2.wr W3
  have F5 := F4.same W3
  have F6 := F3.other W3 (Or.inr (slot_ne (Or.inr (hw _ (List.mem_of_getElem? (i := 15) rfl))) (Or.inr (hw _ (List.mem_of_getElem? (i := 17) rfl))) (by decide) (t := .int) (t' := .int) (by decide) (by decide)))
  have K2 := K1.wr W3 (Or.inl (List.mem_singleton.mpr rfl))
  exact own_rV X3 hx hlk Bd.returns (hb hby d2_33) (by show Qrm2 Z a1 p2 p3 h0 n0 _ T3.heap _; rw [e3]; exact ⟨rfl, N3, K2, E3, F6, F5⟩) (by decide) (by decide)
theorem d4_0 : decode prog_4_method_7_code 0 = .ok (.bipush 31, 2) := by decide +kernel
theorem d4_2 : decode prog_4_method_7_code 2 = .ok (.aload_n 0, 1) := by decide +kernel
theorem d4_3 : decode prog_4_method_7_code 3 = .ok (.getfield 18, 3) := by decide +kernel
theorem d4_6 : decode prog_4_method_7_code 6 = .ok (.imul, 1) := by decide +kernel
theorem d4_7 : decode prog_4_method_7_code 7 = .ok (.aload_n 0, 1) := by decide +kernel
theorem d4_8 : decode prog_4_method_7_code 8 = .ok (.getfield 24, 3) := by decide +kernel
theorem d4_11 : decode prog_4_method_7_code 11 = .ok (.iadd, 1) := by decide +kernel
theorem d4_12 : decode prog_4_method_7_code 12 = .ok (.ireturn, 1) := by decide +kernel
theorem pn_4 : plainFor (⟨"com/example/oporto/oporto/ElectionIndex", "hashCode", "()I"⟩ : MethodName) = true := plainFor_of_name (by first | (simp [plainName, overriddenIn]; done) | decide +kernel)
def Qrm4 (p2 p3 : Int32) (h0 : Heap) (n0 : Nat) (v : Option Value) (h : Heap) (L : List Loc) : Prop := v = some (.int ((31 * p2) + p3)) ∧ Fr n0 L ∧ h = h0
set_option maxRecDepth 65536 in
set_option maxHeartbeats 40000000 in
theorem rm4 (l : Launch) (Z : State) (a0 : Array Value) (hw : ∀ d ∈ tables_1, d.before a0 Z = true) (ws : List Jvm.Cond) (a1 : Addr) (h0 : Heap) (n0 : Nat) (Z0 : n0 ≤ h0.size) (p2 p3 : Int32) (F1 : Fld Z h0 a1 "com/example/oporto/oporto/ElectionIndex" "count" "I" (.int p2)) (F2 : Fld Z h0 a1 "com/example/oporto/oporto/ElectionIndex" "initiator" "I" (.int p3)) :
    MetFree l (⟨"com/example/oporto/oporto/ElectionIndex", "hashCode", "()I"⟩ : MethodName) (head1 (Jvm.Cond.code (⟨"com/example/oporto/oporto/ElectionIndex", "hashCode", "()I"⟩ : MethodName) prog_4_method_7_code 1 (some .int) :: ws) ({ frames := 0, cells := 0, slots := 0, locals := 0 } : Room)) (fun a_ U_ => a_ = #[(.ref a1)] ∧ Z.Warmed39 U_.vm ∧ U_.heap = h0) (fun _ _ _ _ _ => True) (fun _ U_ o_ U'_ => ∃ v_ L_, o_ = .returned v_ ∧ (Qrm4 p2 p3 h0 n0) v_ U'_.heap L_ ∧ FrameEnd U_ o_ U'_ L_ 0 0) := by
  refine MetFree.of_bodySF pn_4 hisR ?_
  intro p e s m args below meth c s₁ Bd hml0 hP hK
  obtain ⟨rfl, hZ, hh⟩ := hP
  have hx := Bd.exec
  have hby := Bd.bytes
  have hlk : meth.locks = false := Bd.notSynchronized
  have hml : c.maxLocals = 1 := hml0
  have hown : s.vm.findClass "com/example/oporto/oporto/ElectionIndex" = some m.cls := findClass_of_methodNamed Bd.named
  have hnm := (name_of_methodNamed Bd.named Bd.method).1
  have X0 : Stand p l e ({ frames := 0, cells := 0, slots := 0, locals := 0 } : Room) s m #[(.ref a1)] below meth c s₁ [] 0 0 := Stand.of_body Bd
  have e0 : s₁.heap = h0 := by rw [← hh, Bd.state]; rfl
  have N0 := Fr.nil n0
  refine own_start (Q := Qrm4 p2 p3 h0 n0) (g' := (mkF m 0 #[.val (.ref a1)] [])) (by first | (simp [entryFrame, mkF, argsToLocals, Value.category]; done) | rfl) ?_
  show own_Gl _ _ _ _ (s₁.setTop (mkF m 0 #[.val (.ref a1)] []))
  refine own_back (fun t_ q_ => XS.bipush X0.here hx rfl (hb hby d4_0) q_) ?_
  show own_Gl _ _ _ _ (s₁.setTop (mkF m 2 #[.val (.ref a1)] [(.int (31 : Int32))]))
  refine own_back (fun t_ q_ => XS.aloadN X0.here hx rfl (hb hby d4_2) rfl rfl q_) ?_
  show own_Gl _ _ _ _ (s₁.setTop (mkF m 3 #[.val (.ref a1)] [(.ref a1), (.int (31 : Int32))]))
  obtain ⟨T4, X4, e4, st4⟩ := getF X0 hx hZ hown (host := "") (Or.inl (hw _ (List.mem_of_getElem? (i := 14) rfl))) Via.refl e0 F1 (g := (mkF m 3 #[.val (.ref a1)] [(.ref a1), (.int (31 : Int32))])) rfl rfl (hb hby d4_3)
  refine own_back st4 ?_
  show own_Gl _ _ _ _ (T4.setTop (mkF m 6 #[.val (.ref a1)] [(.int p2), (.int (31 : Int32))]))
  refine own_back (fun t_ q_ => XS.imul X4.here hx rfl (hb hby d4_6) rfl q_) ?_
  show own_Gl _ _ _ _ (T4.setTop (mkF m 7 #[.val (.ref a1)] [(.int ((31 : Int32) * p2))]))
  refine own_back (fun t_ q_ => XS.aloadN X4.here hx rfl (hb hby d4_7) rfl rfl q_) ?_
  show own_Gl _ _ _ _ (T4.setTop (mkF m 8 #[.val (.ref a1)] [(.ref a1), (.int ((31 : Int32) * p2))]))
  obtain ⟨T5, X5, e5, st5⟩ := getF X4 hx hZ hown (host := "") (Or.inl (hw _ (List.mem_of_getElem? (i := 16) rfl))) Via.refl e4 F2 (g := (mkF m 8 #[.val (.ref a1)] [(.ref a1), (.int ((31 : Int32) * p2))])) rfl rfl (hb hby d4_8)
  refine own_back st5 ?_
  show own_Gl _ _ _ _ (T5.setTop (mkF m 11 #[.val (.ref a1)] [(.int p3), (.int ((31 : Int32) * p2))]))
  refine own_back (fun t_ q_ => XS.iadd X5.here hx rfl (hb hby d4_11) rfl q_) ?_
  show own_Gl _ _ _ _ (T5.setTop (mkF m 12 #[.val (.ref a1)] [(.int (((31 : Int32) * p2) + p3))]))
  exact own_rI X5 hx hlk Bd.returns (hb hby d4_12) (by show Qrm4 p2 p3 h0 n0 _ T5.heap _; rw [e5]; exact ⟨rfl, N0, rfl⟩) (by decide) (by decide)
theorem d5_0 : decode prog_4_method_6_code 0 = .ok (.aload_n 1, 1) := by decide +kernel
theorem d5_1 : decode prog_4_method_6_code 1 = .ok (.instanceof 19, 3) := by decide +kernel
theorem d5_4 : decode prog_4_method_6_code 4 = .ok (.ifCond .ne 5, 3) := by decide +kernel
theorem d5_7 : decode prog_4_method_6_code 7 = .ok (.iconst 0, 1) := by decide +kernel
theorem d5_8 : decode prog_4_method_6_code 8 = .ok (.ireturn, 1) := by decide +kernel
theorem d5_9 : decode prog_4_method_6_code 9 = .ok (.aload_n 1, 1) := by decide +kernel
theorem d5_10 : decode prog_4_method_6_code 10 = .ok (.checkcast 19, 3) := by decide +kernel
theorem d5_13 : decode prog_4_method_6_code 13 = .ok (.astore_n 2, 1) := by decide +kernel
theorem d5_14 : decode prog_4_method_6_code 14 = .ok (.aload_n 0, 1) := by decide +kernel
theorem d5_15 : decode prog_4_method_6_code 15 = .ok (.getfield 18, 3) := by decide +kernel
theorem d5_18 : decode prog_4_method_6_code 18 = .ok (.aload_n 2, 1) := by decide +kernel
theorem d5_19 : decode prog_4_method_6_code 19 = .ok (.getfield 18, 3) := by decide +kernel
theorem d5_22 : decode prog_4_method_6_code 22 = .ok (.if_icmp .ne 18, 3) := by decide +kernel
theorem d5_25 : decode prog_4_method_6_code 25 = .ok (.aload_n 0, 1) := by decide +kernel
theorem d5_26 : decode prog_4_method_6_code 26 = .ok (.getfield 24, 3) := by decide +kernel
theorem d5_29 : decode prog_4_method_6_code 29 = .ok (.aload_n 2, 1) := by decide +kernel
theorem d5_30 : decode prog_4_method_6_code 30 = .ok (.getfield 24, 3) := by decide +kernel
theorem d5_33 : decode prog_4_method_6_code 33 = .ok (.if_icmp .ne 7, 3) := by decide +kernel
theorem d5_36 : decode prog_4_method_6_code 36 = .ok (.iconst 1, 1) := by decide +kernel
theorem d5_37 : decode prog_4_method_6_code 37 = .ok (.goto 4, 3) := by decide +kernel
theorem d5_40 : decode prog_4_method_6_code 40 = .ok (.iconst 0, 1) := by decide +kernel
theorem d5_41 : decode prog_4_method_6_code 41 = .ok (.ireturn, 1) := by decide +kernel
theorem pn_5 : plainFor (⟨"com/example/oporto/oporto/ElectionIndex", "equals", "(Ljava/lang/Object;)Z"⟩ : MethodName) = true := plainFor_of_name (by first | (simp [plainName, overriddenIn]; done) | decide +kernel)
def Qrm5 (p1 p2 p3 p4 : Int32) (h0 : Heap) (n0 : Nat) (v : Option Value) (h : Heap) (L : List Loc) : Prop := v = some (.int (if p1 = p3 ∧ p2 = p4 then 1 else 0)) ∧ Fr n0 L ∧ h = h0
set_option maxRecDepth 65536 in
set_option maxHeartbeats 40000000 in
theorem rm5 (l : Launch) (Z : State) (a0 : Array Value) (hw : ∀ d ∈ tables_1, d.before a0 Z = true) (ws : List Jvm.Cond) (a1 : Addr) (a2 : Addr) (h0 : Heap) (n0 : Nat) (Z0 : n0 ≤ h0.size) (p1 p2 p3 p4 : Int32) (E1 : Exa Z h0 a2 "com/example/oporto/oporto/ElectionIndex") (F1 : Fld Z h0 a1 "com/example/oporto/oporto/ElectionIndex" "count" "I" (.int p1)) (F2 : Fld Z h0 a1 "com/example/oporto/oporto/ElectionIndex" "initiator" "I" (.int p2)) (F3 : Fld Z h0 a2 "com/example/oporto/oporto/ElectionIndex" "count" "I" (.int p3)) (F4 : Fld Z h0 a2 "com/example/oporto/oporto/ElectionIndex" "initiator" "I" (.int p4)) :
    MetFree l (⟨"com/example/oporto/oporto/ElectionIndex", "equals", "(Ljava/lang/Object;)Z"⟩ : MethodName) (head1 (Jvm.Cond.code (⟨"com/example/oporto/oporto/ElectionIndex", "equals", "(Ljava/lang/Object;)Z"⟩ : MethodName) prog_4_method_6_code 3 (some .boolean) :: ws) ({ frames := 0, cells := 0, slots := 0, locals := 0 } : Room)) (fun a_ U_ => a_ = #[(.ref a1), (.ref a2)] ∧ Z.Warmed39 U_.vm ∧ U_.heap = h0) (fun _ _ _ _ _ => True) (fun _ U_ o_ U'_ => ∃ v_ L_, o_ = .returned v_ ∧ (Qrm5 p1 p2 p3 p4 h0 n0) v_ U'_.heap L_ ∧ FrameEnd U_ o_ U'_ L_ 0 0) := by
  refine MetFree.of_bodySF pn_5 hisR ?_
  intro p e s m args below meth c s₁ Bd hml0 hP hK
  obtain ⟨rfl, hZ, hh⟩ := hP
  have hx := Bd.exec
  have hby := Bd.bytes
  have hlk : meth.locks = false := Bd.notSynchronized
  have hml : c.maxLocals = 3 := hml0
  have hown : s.vm.findClass "com/example/oporto/oporto/ElectionIndex" = some m.cls := findClass_of_methodNamed Bd.named
  have hnm := (name_of_methodNamed Bd.named Bd.method).1
  have X0 : Stand p l e ({ frames := 0, cells := 0, slots := 0, locals := 0 } : Room) s m #[(.ref a1), (.ref a2)] below meth c s₁ [] 0 0 := Stand.of_body Bd
  have e0 : s₁.heap = h0 := by rw [← hh, Bd.state]; rfl
  have N0 := Fr.nil n0
  refine own_start (Q := Qrm5 p1 p2 p3 p4 h0 n0) (g' := (mkF m 0 #[.val (.ref a1), .val (.ref a2), .unset] [])) (by first | (simp [entryFrame, mkF, argsToLocals, Value.category]; done) | rfl) ?_
  show own_Gl _ _ _ _ (s₁.setTop (mkF m 0 #[.val (.ref a1), .val (.ref a2), .unset] []))
  refine own_back (fun t_ q_ => XS.aloadN X0.here hx rfl (hb hby d5_0) rfl rfl q_) ?_
  show own_Gl _ _ _ _ (s₁.setTop (mkF m 1 #[.val (.ref a1), .val (.ref a2), .unset] [(.ref a2)]))
  obtain ⟨T6, X6, e6, st6⟩ := instY X0 hx hZ hown (hw _ (List.mem_of_getElem? (i := 28) rfl)) e0 (Ins.self E1) (g := (mkF m 1 #[.val (.ref a1), .val (.ref a2), .unset] [(.ref a2)])) rfl rfl (hb hby d5_1)
  refine own_back st6 ?_
  show own_Gl _ _ _ _ (T6.setTop (mkF m 4 #[.val (.ref a1), .val (.ref a2), .unset] [(.int (1 : Int32))]))
  refine own_back (fun t_ q_ => XS.ifYes X6.here hx rfl (pc0 := 4) (pc' := 9) rfl (hb hby d5_4) rfl ((if0 _ _).trans (feq (by decide : ¬ ((1 : Int32) = (0 : Int32)))).2) (by decide) (by decide) q_) ?_
  show own_Gl _ _ _ _ (T6.setTop (mkF m 9 #[.val (.ref a1), .val (.ref a2), .unset] []))
  refine own_back (fun t_ q_ => XS.aloadN X6.here hx rfl (hb hby d5_9) rfl rfl q_) ?_
  show own_Gl _ _ _ _ (T6.setTop (mkF m 10 #[.val (.ref a1), .val (.ref a2), .unset] [(.ref a2)]))
  obtain ⟨T7, X7, e7, st7⟩ := castY X6 hx hZ hown (hw _ (List.mem_of_getElem? (i := 28) rfl)) e6 (Ins.self E1) (g := (mkF m 10 #[.val (.ref a1), .val (.ref a2), .unset] [(.ref a2)])) rfl rfl (hb hby d5_10)
  refine own_back st7 ?_
  show own_Gl _ _ _ _ (T7.setTop (mkF m 13 #[.val (.ref a1), .val (.ref a2), .unset] [(.ref a2)]))
  refine own_back (fun t_ q_ => XS.astoreN X7.here hx rfl (hb hby d5_13) rfl rfl (l' := #[.val (.ref a1), .val (.ref a2), .val (.ref a2)]) rfl q_) ?_
  show own_Gl _ _ _ _ (T7.setTop (mkF m 14 #[.val (.ref a1), .val (.ref a2), .val (.ref a2)] []))
  refine own_back (fun t_ q_ => XS.aloadN X7.here hx rfl (hb hby d5_14) rfl rfl q_) ?_
  show own_Gl _ _ _ _ (T7.setTop (mkF m 15 #[.val (.ref a1), .val (.ref a2), .val (.ref a2)] [(.ref a1)]))
  obtain ⟨T8, X8, e8, st8⟩ := getF X7 hx hZ hown (host := "") (Or.inl (hw _ (List.mem_of_getElem? (i := 14) rfl))) Via.refl e7 F1 (g := (mkF m 15 #[.val (.ref a1), .val (.ref a2), .val (.ref a2)] [(.ref a1)])) rfl rfl (hb hby d5_15)
  refine own_back st8 ?_
  show own_Gl _ _ _ _ (T8.setTop (mkF m 18 #[.val (.ref a1), .val (.ref a2), .val (.ref a2)] [(.int p1)]))
  refine own_back (fun t_ q_ => XS.aloadN X8.here hx rfl (hb hby d5_18) rfl rfl q_) ?_
  show own_Gl _ _ _ _ (T8.setTop (mkF m 19 #[.val (.ref a1), .val (.ref a2), .val (.ref a2)] [(.ref a2), (.int p1)]))
  obtain ⟨T9, X9, e9, st9⟩ := getF X8 hx hZ hown (host := "") (Or.inl (hw _ (List.mem_of_getElem? (i := 14) rfl))) Via.refl e8 F3 (g := (mkF m 19 #[.val (.ref a1), .val (.ref a2), .val (.ref a2)] [(.ref a2), (.int p1)])) rfl rfl (hb hby d5_19)
  refine own_back st9 ?_
  show own_Gl _ _ _ _ (T9.setTop (mkF m 22 #[.val (.ref a1), .val (.ref a2), .val (.ref a2)] [(.int p3), (.int p1)]))
  by_cases hc : p1 = p3
  · skip
    refine own_back (fun t_ q_ => XS.icmpNo X9.here hx rfl (hb hby d5_22) rfl (teq (hc : p1 = p3)).2 q_) ?_
    show own_Gl _ _ _ _ (T9.setTop (mkF m 25 #[.val (.ref a1), .val (.ref a2), .val (.ref a2)] []))
    refine own_back (fun t_ q_ => XS.aloadN X9.here hx rfl (hb hby d5_25) rfl rfl q_) ?_
    show own_Gl _ _ _ _ (T9.setTop (mkF m 26 #[.val (.ref a1), .val (.ref a2), .val (.ref a2)] [(.ref a1)]))
    obtain ⟨T10, X10, e10, st10⟩ := getF X9 hx hZ hown (host := "") (Or.inl (hw _ (List.mem_of_getElem? (i := 16) rfl))) Via.refl e9 F2 (g := (mkF m 26 #[.val (.ref a1), .val (.ref a2), .val (.ref a2)] [(.ref a1)])) rfl rfl (hb hby d5_26)
    refine own_back st10 ?_
    show own_Gl _ _ _ _ (T10.setTop (mkF m 29 #[.val (.ref a1), .val (.ref a2), .val (.ref a2)] [(.int p2)]))
    refine own_back (fun t_ q_ => XS.aloadN X10.here hx rfl (hb hby d5_29) rfl rfl q_) ?_
    show own_Gl _ _ _ _ (T10.setTop (mkF m 30 #[.val (.ref a1), .val (.ref a2), .val (.ref a2)] [(.ref a2), (.int p2)]))
    obtain ⟨T11, X11, e11, st11⟩ := getF X10 hx hZ hown (host := "") (Or.inl (hw _ (List.mem_of_getElem? (i := 16) rfl))) Via.refl e10 F4 (g := (mkF m 30 #[.val (.ref a1), .val (.ref a2), .val (.ref a2)] [(.ref a2), (.int p2)])) rfl rfl (hb hby d5_30)
    refine own_back st11 ?_
    show own_Gl _ _ _ _ (T11.setTop (mkF m 33 #[.val (.ref a1), .val (.ref a2), .val (.ref a2)] [(.int p4), (.int p2)]))
    by_cases hd : p2 = p4
    · skip
      refine own_back (fun t_ q_ => XS.icmpNo X11.here hx rfl (hb hby d5_33) rfl (teq (hd : p2 = p4)).2 q_) ?_
      show own_Gl _ _ _ _ (T11.setTop (mkF m 36 #[.val (.ref a1), .val (.ref a2), .val (.ref a2)] []))
      refine own_back (fun t_ q_ => XS.iconst X11.here hx rfl (hb hby d5_36) q_) ?_
      show own_Gl _ _ _ _ (T11.setTop (mkF m 37 #[.val (.ref a1), .val (.ref a2), .val (.ref a2)] [(.int (1 : Int32))]))
      refine own_back (fun t_ q_ => XS.goto X11.here hx rfl (pc0 := 37) (pc' := 41) rfl (hb hby d5_37) (by decide) (by decide) q_) ?_
      show own_Gl _ _ _ _ (T11.setTop (mkF m 41 #[.val (.ref a1), .val (.ref a2), .val (.ref a2)] [(.int (1 : Int32))]))
      exact own_rZ X11 hx hlk Bd.returns (hb hby d5_41) (own_one rfl) (by show Qrm5 p1 p2 p3 p4 h0 n0 _ T11.heap _; rw [e11]; exact ⟨by rw [if_pos ⟨hc, hd⟩], N0, rfl⟩) (by decide) (by decide)
    · skip
      refine own_back (fun t_ q_ => XS.icmpYes X11.here hx rfl (pc0 := 33) (pc' := 40) rfl (hb hby d5_33) rfl (feq (hd : ¬ (p2 = p4))).2 (by decide) (by decide) q_) ?_
      show own_Gl _ _ _ _ (T11.setTop (mkF m 40 #[.val (.ref a1), .val (.ref a2), .val (.ref a2)] []))
      refine own_back (fun t_ q_ => XS.iconst X11.here hx rfl (hb hby d5_40) q_) ?_
      show own_Gl _ _ _ _ (T11.setTop (mkF m 41 #[.val (.ref a1), .val (.ref a2), .val (.ref a2)] [(.int (0 : Int32))]))
      exact own_rZ X11 hx hlk Bd.returns (hb hby d5_41) (own_zero rfl) (by show Qrm5 p1 p2 p3 p4 h0 n0 _ T11.heap _; rw [e11]; exact ⟨by rw [if_neg (fun q => hd q.2)], N0, rfl⟩) (by decide) (by decide)
  · skip
    refine own_back (fun t_ q_ => XS.icmpYes X9.here hx rfl (pc0 := 22) (pc' := 40) rfl (hb hby d5_22) rfl (feq (hc : ¬ (p1 = p3))).2 (by decide) (by decide) q_) ?_
    show own_Gl _ _ _ _ (T9.setTop (mkF m 40 #[.val (.ref a1), .val (.ref a2), .val (.ref a2)] []))
    refine own_back (fun t_ q_ => XS.iconst X9.here hx rfl (hb hby d5_40) q_) ?_
    show own_Gl _ _ _ _ (T9.setTop (mkF m 41 #[.val (.ref a1), .val (.ref a2), .val (.ref a2)] [(.int (0 : Int32))]))
    exact own_rZ X9 hx hlk Bd.returns (hb hby d5_41) (own_zero rfl) (by show Qrm5 p1 p2 p3 p4 h0 n0 _ T9.heap _; rw [e9]; exact ⟨by rw [if_neg (fun q => hc q.1)], N0, rfl⟩) (by decide) (by decide)
theorem pd_1 : parseMethodDescriptor "(II)I" = some ⟨[.int, .int], some .int⟩ := by decide +kernel
theorem pd_2 : parseMethodDescriptor "(II)V" = some ⟨[.int, .int], none⟩ := by decide +kernel
theorem pd_3 : parseMethodDescriptor "()I" = some ⟨[], some .int⟩ := by decide +kernel
theorem pd_4 : parseMethodDescriptor "(Ljava/lang/Object;)Z" = some ⟨[(.object "java/lang/Object")], some .boolean⟩ := by decide +kernel
theorem pn_0 : plainFor x = true := plainFor_of_name (by first | (simp [plainName, overriddenIn, x]; done) | decide +kernel)
def Qrm0 (h0 : Heap) (n0 : Nat) (v : Option Value) (h : Heap) (L : List Loc) : Prop := v = some (.int 1) ∧ Fr n0 L
set_option maxRecDepth 65536 in
set_option maxHeartbeats 40000000 in
theorem rm0 (l : Launch) (Z : State) (a0 : Array Value) (hw : ∀ d ∈ tables_1, d.before a0 Z = true) (ws : List Jvm.Cond) (c1 : Int32) (i1 : Int32) (c2 : Int32) (i2 : Int32) (fl : Int32) (h0 : Heap) (n0 : Nat) (Z0 : n0 ≤ h0.size)  :
    MetFree l x (head1 (Jvm.Cond.code x code maxLocals ret :: ws) room_1) (fun a_ U_ => a_ = #[(.int c1), (.int i1), (.int c2), (.int i2), (.int fl)] ∧ Z.Warmed39 U_.vm ∧ U_.heap = h0) (fun _ _ _ _ _ => True) (fun _ U_ o_ U'_ => ∃ v_ L_, o_ = .returned v_ ∧ (Qrm0 h0 n0) v_ U'_.heap L_ ∧ FrameEnd U_ o_ U'_ L_ 16 128) := by
  refine MetFree.of_bodySF pn_0 hisR ?_
  intro p e s m args below meth c s₁ Bd hml0 hP hK
  obtain ⟨rfl, hZ, hh⟩ := hP
  have hx := Bd.exec
  have hby := Bd.bytes
  have hlk : meth.locks = false := Bd.notSynchronized
  have hml : c.maxLocals = 18 := hml0
  have hown : s.vm.findClass "com/example/oporto/oporto/ElectionIndexHashCodePinLaw" = some m.cls := findClass_of_methodNamed Bd.named
  have hnm := (name_of_methodNamed Bd.named Bd.method).1
  have X0 : Stand p l e room_1 s m #[(.int c1), (.int i1), (.int c2), (.int i2), (.int fl)] below meth c s₁ [] 0 0 := Stand.of_body Bd
  have e0 : s₁.heap = h0 := by rw [← hh, Bd.state]; rfl
  have N0 := Fr.nil n0
  refine own_start (Q := Qrm0 h0 n0) (g' := (mkF m 0 #[.val (.int c1), .val (.int i1), .val (.int c2), .val (.int i2), .val (.int fl), .unset, .unset, .unset, .unset, .unset, .unset, .unset, .unset, .unset, .unset, .unset, .unset, .unset] [])) (by first | (simp [entryFrame, mkF, argsToLocals, Value.category, maxLocals]; done) | rfl) ?_
  show own_Gl _ _ _ _ (s₁.setTop (mkF m 0 #[.val (.int c1), .val (.int i1), .val (.int c2), .val (.int i2), .val (.int fl), .unset, .unset, .unset, .unset, .unset, .unset, .unset, .unset, .unset, .unset, .unset, .unset, .unset] []))
  refine own_back (fun t_ q_ => XS.iconst X0.here hx rfl (hb hby at_0) q_) ?_
  show own_Gl _ _ _ _ (s₁.setTop (mkF m 1 #[.val (.int c1), .val (.int i1), .val (.int c2), .val (.int i2), .val (.int fl), .unset, .unset, .unset, .unset, .unset, .unset, .unset, .unset, .unset, .unset, .unset, .unset, .unset] [(.int (1 : Int32))]))
  refine own_back (fun t_ q_ => XS.iloadN X0.here hx rfl (hb hby at_1) rfl q_) ?_
  show own_Gl _ _ _ _ (s₁.setTop (mkF m 2 #[.val (.int c1), .val (.int i1), .val (.int c2), .val (.int i2), .val (.int fl), .unset, .unset, .unset, .unset, .unset, .unset, .unset, .unset, .unset, .unset, .unset, .unset, .unset] [(.int c1), (.int (1 : Int32))]))
  refine own_back (fun t_ q_ => X0.ldcInt hx hown (mvT hZ (hw _ (List.mem_of_getElem? (i := 0) rfl))) (g := (mkF m 2 #[.val (.int c1), .val (.int i1), .val (.int c2), .val (.int i2), .val (.int fl), .unset, .unset, .unset, .unset, .unset, .unset, .unset, .unset, .unset, .unset, .unset, .unset, .unset] [(.int c1), (.int (1 : Int32))])) rfl (hb hby at_2) t_ q_) ?_
  show own_Gl _ _ _ _ (s₁.setTop (mkF m 4 #[.val (.int c1), .val (.int i1), .val (.int c2), .val (.int i2), .val (.int fl), .unset, .unset, .unset, .unset, .unset, .unset, .unset, .unset, .unset, .unset, .unset, .unset, .unset] [(.int (2147483647 : Int32)), (.int c1), (.int (1 : Int32))]))
  refine own_back (fun t_ q_ => XS.iand X0.here hx rfl (hb hby at_4) rfl q_) ?_
  show own_Gl _ _ _ _ (s₁.setTop (mkF m 5 #[.val (.int c1), .val (.int i1), .val (.int c2), .val (.int i2), .val (.int fl), .unset, .unset, .unset, .unset, .unset, .unset, .unset, .unset, .unset, .unset, .unset, .unset, .unset] [(.int (c1 &&& (2147483647 : Int32))), (.int (1 : Int32))]))
  obtain ⟨_, _, ⟨T12, L12, k12, n12⟩, -, X12, ⟨Lc12, hQ12, l12, y12, z12⟩, st12⟩ := Jvm.LawKit.callS X0 hx (y := (⟨"java/lang/Math", "max", "(II)I"⟩ : MethodName)) hown (mvT hZ (hw _ (List.mem_of_getElem? (i := 1) rfl))) (mvT hZ (hw _ (List.mem_of_getElem? (i := 2) rfl))) (mvT hZ (hw _ (List.mem_of_getElem? (i := 3) rfl))) (mvT hZ (hw _ (List.mem_of_getElem? (i := 4) rfl))) (by decide) (backOf (W := 0) (rm1 l Z a0 hw [] 1 (c1 &&& 2147483647) h0 n0 Z0) hZ (hw _ (List.mem_of_getElem? (i := 4) rfl)) (hw _ (List.mem_of_getElem? (i := 3) rfl)) (by decide) (by decide)) (g := (mkF m 5 #[.val (.int c1), .val (.int i1), .val (.int c2), .val (.int i2), .val (.int fl), .unset, .unset, .unset, .unset, .unset, .unset, .unset, .unset, .unset, .unset, .unset, .unset, .unset] [(.int (c1 &&& (2147483647 : Int32))), (.int (1 : Int32))])) rfl (by rw [hml]; rfl) (argsL := [(.int (1 : Int32)), (.int (c1 &&& (2147483647 : Int32)))]) (rest := []) (lenOf pd_1 rfl) rfl (by show 2 * 0 + _ ≤ _; exact Nat.le_of_eq rfl) (hb hby at_5) (fun _ _ => ⟨rfl, e0, (by decide : 0 + 0 ≤ _), (by decide : 0 + 0 ≤ _)⟩)
  dsimp only [Pt.U, Pt.locs, Pt.cells, Pt.slots] at X12 l12 y12 z12 st12 hQ12
  subst l12 y12 z12
  obtain ⟨rfl, M12, e12⟩ := hQ12
  have N12 := Fr.app N0 M12
  refine own_back st12 ?_
  show own_Gl _ _ _ _ (T12.setTop (mkF m 8 #[.val (.int c1), .val (.int i1), .val (.int c2), .val (.int i2), .val (.int fl), .unset, .unset, .unset, .unset, .unset, .unset, .unset, .unset, .unset, .unset, .unset, .unset, .unset] [(.int (if (1 : Int32) < (c1 &&& 2147483647) then (c1 &&& 2147483647) else 1))]))
  obtain ⟨k1, hk1⟩ : ∃ z, z = (if (1 : Int32) < (c1 &&& 2147483647) then (c1 &&& 2147483647) else 1) := ⟨_, rfl⟩
  rw [← hk1]
  have hk1' : ¬ (k1 < (1 : Int32)) := hk1 ▸ own_max1 _
  show own_Gl _ _ _ _ (T12.setTop (mkF m 8 #[.val (.int c1), .val (.int i1), .val (.int c2), .val (.int i2), .val (.int fl), .unset, .unset, .unset, .unset, .unset, .unset, .unset, .unset, .unset, .unset, .unset, .unset, .unset] [(.int k1)]))
  refine own_back (fun t_ q_ => XS.istore X12.here hx rfl (hb hby at_8) rfl (l' := #[.val (.int c1), .val (.int i1), .val (.int c2), .val (.int i2), .val (.int fl), .val (.int k1), .unset, .unset, .unset, .unset, .unset, .unset, .unset, .unset, .unset, .unset, .unset, .unset]) rfl q_) ?_
  show own_Gl _ _ _ _ (T12.setTop (mkF m 10 #[.val (.int c1), .val (.int i1), .val (.int c2), .val (.int i2), .val (.int fl), .val (.int k1), .unset, .unset, .unset, .unset, .unset, .unset, .unset, .unset, .unset, .unset, .unset, .unset] []))
  refine own_back (fun t_ q_ => XS.iload X12.here hx rfl (hb hby at_10) rfl q_) ?_
  show own_Gl _ _ _ _ (T12.setTop (mkF m 12 #[.val (.int c1), .val (.int i1), .val (.int c2), .val (.int i2), .val (.int fl), .val (.int k1), .unset, .unset, .unset, .unset, .unset, .unset, .unset, .unset, .unset, .unset, .unset, .unset] [(.int fl)]))
  refine own_back (fun t_ q_ => XS.iconst X12.here hx rfl (hb hby at_12) q_) ?_
  show own_Gl _ _ _ _ (T12.setTop (mkF m 13 #[.val (.int c1), .val (.int i1), .val (.int c2), .val (.int i2), .val (.int fl), .val (.int k1), .unset, .unset, .unset, .unset, .unset, .unset, .unset, .unset, .unset, .unset, .unset, .unset] [(.int (1 : Int32)), (.int fl)]))
  refine own_back (fun t_ q_ => XS.iand X12.here hx rfl (hb hby at_13) rfl q_) ?_
  show own_Gl _ _ _ _ (T12.setTop (mkF m 14 #[.val (.int c1), .val (.int i1), .val (.int c2), .val (.int i2), .val (.int fl), .val (.int k1), .unset, .unset, .unset, .unset, .unset, .unset, .unset, .unset, .unset, .unset, .unset, .unset] [(.int (fl &&& (1 : Int32)))]))
  refine own_join (α := State × Int32) (fun z => z.1.setTop (mkF m 30 #[.val (.int c1), .val (.int i1), .val (.int c2), .val (.int i2), .val (.int fl), .val (.int k1), .unset, .unset, .unset, .unset, .unset, .unset, .unset, .unset, .unset, .unset, .unset, .unset] [(.int z.2)])) (fun z => (∃ L, Stand p l e room_1 s m #[(.int c1), (.int i1), (.int c2), (.int i2), (.int fl)] below meth c z.1 L 0 0 ∧ Fr n0 L) ∧ z.1.heap = h0 ∧ ¬ (z.2 < (1 : Int32))) (fun z hz => ?_) (fun tail13 => ?_)
  · skip
    obtain ⟨T13, k213⟩ := z
    obtain ⟨⟨L13, X13, N13⟩, e13, hc13⟩ := hz
    have X13 : Stand p l e room_1 s m #[(.int c1), (.int i1), (.int c2), (.int i2), (.int fl)] below meth c T13 L13 0 0 := X13
    have e13 : T13.heap = h0 := e13
    have hc13 : ¬ (k213 < (1 : Int32)) := hc13
    show own_Gl _ _ _ _ (T13.setTop (mkF m 30 #[.val (.int c1), .val (.int i1), .val (.int c2), .val (.int i2), .val (.int fl), .val (.int k1), .unset, .unset, .unset, .unset, .unset, .unset, .unset, .unset, .unset, .unset, .unset, .unset] [(.int k213)]))
    refine own_back (fun t_ q_ => XS.istore X13.here hx rfl (hb hby at_30) rfl (l' := #[.val (.int c1), .val (.int i1), .val (.int c2), .val (.int i2), .val (.int fl), .val (.int k1), .val (.int k213), .unset, .unset, .unset, .unset, .unset, .unset, .unset, .unset, .unset, .unset, .unset]) rfl q_) ?_
    show own_Gl _ _ _ _ (T13.setTop (mkF m 32 #[.val (.int c1), .val (.int i1), .val (.int c2), .val (.int i2), .val (.int fl), .val (.int k1), .val (.int k213), .unset, .unset, .unset, .unset, .unset, .unset, .unset, .unset, .unset, .unset, .unset] []))
    refine own_back (fun t_ q_ => XS.iload X13.here hx rfl (hb hby at_32) rfl q_) ?_
    show own_Gl _ _ _ _ (T13.setTop (mkF m 34 #[.val (.int c1), .val (.int i1), .val (.int c2), .val (.int i2), .val (.int fl), .val (.int k1), .val (.int k213), .unset, .unset, .unset, .unset, .unset, .unset, .unset, .unset, .unset, .unset, .unset] [(.int fl)]))
    refine own_back (fun t_ q_ => XS.iconst X13.here hx rfl (hb hby at_34) q_) ?_
    show own_Gl _ _ _ _ (T13.setTop (mkF m 35 #[.val (.int c1), .val (.int i1), .val (.int c2), .val (.int i2), .val (.int fl), .val (.int k1), .val (.int k213), .unset, .unset, .unset, .unset, .unset, .unset, .unset, .unset, .unset, .unset, .unset] [(.int (2 : Int32)), (.int fl)]))
    refine own_back (fun t_ q_ => XS.iand X13.here hx rfl (hb hby at_35) rfl q_) ?_
    show own_Gl _ _ _ _ (T13.setTop (mkF m 36 #[.val (.int c1), .val (.int i1), .val (.int c2), .val (.int i2), .val (.int fl), .val (.int k1), .val (.int k213), .unset, .unset, .unset, .unset, .unset, .unset, .unset, .unset, .unset, .unset, .unset] [(.int (fl &&& (2 : Int32)))]))
    refine own_join (α := Int32) (fun z => T13.setTop (mkF m 44 #[.val (.int c1), .val (.int i1), .val (.int c2), .val (.int i2), .val (.int fl), .val (.int k1), .val (.int k213), .unset, .unset, .unset, .unset, .unset, .unset, .unset, .unset, .unset, .unset, .unset] [(.int z)])) (fun z => True) (fun j214 hz => ?_) (fun tail14 => ?_)
    · skip
      have hc14 := hz
      have hc14 : True := hc14
      show own_Gl _ _ _ _ (T13.setTop (mkF m 44 #[.val (.int c1), .val (.int i1), .val (.int c2), .val (.int i2), .val (.int fl), .val (.int k1), .val (.int k213), .unset, .unset, .unset, .unset, .unset, .unset, .unset, .unset, .unset, .unset, .unset] [(.int j214)]))
      refine own_back (fun t_ q_ => XS.istore X13.here hx rfl (hb hby at_44) rfl (l' := #[.val (.int c1), .val (.int i1), .val (.int c2), .val (.int i2), .val (.int fl), .val (.int k1), .val (.int k213), .val (.int j214), .unset, .unset, .unset, .unset, .unset, .unset, .unset, .unset, .unset, .unset]) rfl q_) ?_
      show own_Gl _ _ _ _ (T13.setTop (mkF m 46 #[.val (.int c1), .val (.int i1), .val (.int c2), .val (.int i2), .val (.int fl), .val (.int k1), .val (.int k213), .val (.int j214), .unset, .unset, .unset, .unset, .unset, .unset, .unset, .unset, .unset, .unset] []))
      obtain ⟨T15, h15, X15, e15, E15, A15, D15, -, st15⟩ := newO X13 hx hZ hown (hw _ (List.mem_of_getElem? (i := 5) rfl)) (hw _ (List.mem_of_getElem? (i := 6) rfl)) (hw _ (List.mem_of_getElem? (i := 7) rfl)) e13 (g := (mkF m 46 #[.val (.int c1), .val (.int i1), .val (.int c2), .val (.int i2), .val (.int fl), .val (.int k1), .val (.int k213), .val (.int j214), .unset, .unset, .unset, .unset, .unset, .unset, .unset, .unset, .unset, .unset] [])) rfl (hb hby at_46) (by decide) (by decide)
      obtain ⟨b15, g15⟩ : ∃ z, z = h0.size := ⟨_, rfl⟩
      rw [← g15] at A15 D15 st15
      refine own_back st15 ?_
      show own_Gl _ _ _ _ (T15.setTop (mkF m 49 #[.val (.int c1), .val (.int i1), .val (.int c2), .val (.int i2), .val (.int fl), .val (.int k1), .val (.int k213), .val (.int j214), .unset, .unset, .unset, .unset, .unset, .unset, .unset, .unset, .unset, .unset] [(.ref b15)]))
      refine own_back (fun t_ q_ => XS.dup X15.here hx rfl (hb hby at_49) rfl rfl q_) ?_
      show own_Gl _ _ _ _ (T15.setTop (mkF m 50 #[.val (.int c1), .val (.int i1), .val (.int c2), .val (.int i2), .val (.int fl), .val (.int k1), .val (.int k213), .val (.int j214), .unset, .unset, .unset, .unset, .unset, .unset, .unset, .unset, .unset, .unset] [(.ref b15), (.ref b15)]))
      refine own_back (fun t_ q_ => XS.iload X15.here hx rfl (hb hby at_50) rfl q_) ?_
      show own_Gl _ _ _ _ (T15.setTop (mkF m 52 #[.val (.int c1), .val (.int i1), .val (.int c2), .val (.int i2), .val (.int fl), .val (.int k1), .val (.int k213), .val (.int j214), .unset, .unset, .unset, .unset, .unset, .unset, .unset, .unset, .unset, .unset] [(.int k1), (.ref b15), (.ref b15)]))
      refine own_back (fun t_ q_ => XS.iloadN X15.here hx rfl (hb hby at_52) rfl q_) ?_
      show own_Gl _ _ _ _ (T15.setTop (mkF m 53 #[.val (.int c1), .val (.int i1), .val (.int c2), .val (.int i2), .val (.int fl), .val (.int k1), .val (.int k213), .val (.int j214), .unset, .unset, .unset, .unset, .unset, .unset, .unset, .unset, .unset, .unset] [(.int i1), (.int k1), (.ref b15), (.ref b15)]))
      have G1 : n0 ≤ b15 := Nat.le_trans Z0 (Nat.le_of_eq g15.symm)
      have Z1 : n0 ≤ h15.size := Nat.le_trans Z0 E15.1
      obtain ⟨_, _, ⟨T16, L16, k16, n16⟩, -, X16, ⟨Lc16, hQ16, l16, y16, z16⟩, st16⟩ := X15.specialBack hx (y := (⟨"com/example/oporto/oporto/ElectionIndex", "<init>", "(II)V"⟩ : MethodName)) rfl hown (mvT hZ (hw _ (List.mem_of_getElem? (i := 8) rfl))) (mvT hZ (hw _ (List.mem_of_getElem? (i := 9) rfl))) (mvT hZ (hw _ (List.mem_of_getElem? (i := 10) rfl))) (by decide) (backOf (W := 1) (rm2 l Z a0 hw [] b15 k1 i1 h15 n0 Z1 A15 (D15 (Or.inr (hw _ (List.mem_of_getElem? (i := 15) rfl))) (ty := .int) (by decide)) (D15 (Or.inr (hw _ (List.mem_of_getElem? (i := 17) rfl))) (ty := .int) (by decide)) G1 hk1') hZ (hw _ (List.mem_of_getElem? (i := 10) rfl)) (hw _ (List.mem_of_getElem? (i := 7) rfl)) (by decide) (by decide)) (g := (mkF m 53 #[.val (.int c1), .val (.int i1), .val (.int c2), .val (.int i2), .val (.int fl), .val (.int k1), .val (.int k213), .val (.int j214), .unset, .unset, .unset, .unset, .unset, .unset, .unset, .unset, .unset, .unset] [(.int i1), (.int k1), (.ref b15), (.ref b15)])) rfl (by rw [hml]; rfl) (Steps.refl _) (a := b15) (argsL := [(.int k1), (.int i1)]) (rest := [(.ref b15)]) (lenOf pd_2 rfl) rfl (by show 2 * 0 + _ ≤ _; exact Nat.le_of_eq rfl) (hb hby at_53) (fun _ _ => ⟨rfl, e15, (by decide : 1 + 0 ≤ _), (by decide : 2 + 0 ≤ _)⟩)
      dsimp only [Pt.U, Pt.locs, Pt.cells, Pt.slots] at X16 l16 y16 z16 st16 hQ16
      subst l16 y16 z16
      obtain ⟨rfl, M16, K16, Ea16, Fa16, Ga16⟩ := hQ16
      have N16 := Fr.app N13 M16
      refine own_trans st16 ?_
      show own_Gl _ _ _ _ (T16.setTop (mkF m 56 #[.val (.int c1), .val (.int i1), .val (.int c2), .val (.int i2), .val (.int fl), .val (.int k1), .val (.int k213), .val (.int j214), .unset, .unset, .unset, .unset, .unset, .unset, .unset, .unset, .unset, .unset] [(.ref b15)]))
      have Z2 : n0 ≤ T16.heap.size := Nat.le_trans Z1 K16.1
      refine own_back (fun t_ q_ => XS.astore X16.here hx rfl (hb hby at_56) rfl rfl (l' := #[.val (.int c1), .val (.int i1), .val (.int c2), .val (.int i2), .val (.int fl), .val (.int k1), .val (.int k213), .val (.int j214), .val (.ref b15), .unset, .unset, .unset, .unset, .unset, .unset, .unset, .unset, .unset]) rfl q_) ?_
      show own_Gl _ _ _ _ (T16.setTop (mkF m 58 #[.val (.int c1), .val (.int i1), .val (.int c2), .val (.int i2), .val (.int fl), .val (.int k1), .val (.int k213), .val (.int j214), .val (.ref b15), .unset, .unset, .unset, .unset, .unset, .unset, .unset, .unset, .unset] []))
      obtain ⟨T17, h17, X17, e17, E17, A17, D17, -, st17⟩ := newO X16 hx hZ hown (hw _ (List.mem_of_getElem? (i := 5) rfl)) (hw _ (List.mem_of_getElem? (i := 6) rfl)) (hw _ (List.mem_of_getElem? (i := 7) rfl)) rfl (g := (mkF m 58 #[.val (.int c1), .val (.int i1), .val (.int c2), .val (.int i2), .val (.int fl), .val (.int k1), .val (.int k213), .val (.int j214), .val (.ref b15), .unset, .unset, .unset, .unset, .unset, .unset, .unset, .unset, .unset] [])) rfl (hb hby at_58) (by decide) (by decide)
      obtain ⟨b17, g17⟩ : ∃ z, z = T16.heap.size := ⟨_, rfl⟩
      rw [← g17] at A17 D17 st17
      refine own_back st17 ?_
      show own_Gl _ _ _ _ (T17.setTop (mkF m 61 #[.val (.int c1), .val (.int i1), .val (.int c2), .val (.int i2), .val (.int fl), .val (.int k1), .val (.int k213), .val (.int j214), .val (.ref b15), .unset, .unset, .unset, .unset, .unset, .unset, .unset, .unset, .unset] [(.ref b17)]))
      refine own_back (fun t_ q_ => XS.dup X17.here hx rfl (hb hby at_61) rfl rfl q_) ?_
      show own_Gl _ _ _ _ (T17.setTop (mkF m 62 #[.val (.int c1), .val (.int i1), .val (.int c2), .val (.int i2), .val (.int fl), .val (.int k1), .val (.int k213), .val (.int j214), .val (.ref b15), .unset, .unset, .unset, .unset, .unset, .unset, .unset, .unset, .unset] [(.ref b17), (.ref b17)]))
      refine own_back (fun t_ q_ => XS.iload X17.here hx rfl (hb hby at_62) rfl q_) ?_
      show own_Gl _ _ _ _ (T17.setTop (mkF m 64 #[.val (.int c1), .val (.int i1), .val (.int c2), .val (.int i2), .val (.int fl), .val (.int k1), .val (.int k213), .val (.int j214), .val (.ref b15), .unset, .unset, .unset, .unset, .unset, .unset, .unset, .unset, .unset] [(.int k213), (.ref b17), (.ref b17)]))
      refine own_back (fun t_ q_ => XS.iload X17.here hx rfl (hb hby at_64) rfl q_) ?_
      show own_Gl _ _ _ _ (T17.setTop (mkF m 66 #[.val (.int c1), .val (.int i1), .val (.int c2), .val (.int i2), .val (.int fl), .val (.int k1), .val (.int k213), .val (.int j214), .val (.ref b15), .unset, .unset, .unset, .unset, .unset, .unset, .unset, .unset, .unset] [(.int j214), (.int k213), (.ref b17), (.ref b17)]))
      have G3 : n0 ≤ b17 := Nat.le_trans Z2 (Nat.le_of_eq g17.symm)
      have Z3 : n0 ≤ h17.size := Nat.le_trans Z2 E17.1
      have ne1 : b15 ≠ b17 := Nat.ne_of_lt (Nat.lt_of_lt_of_le Fa16.lt (Nat.le_of_eq g17.symm))
      obtain ⟨_, _, ⟨T18, L18, k18, n18⟩, -, X18, ⟨Lc18, hQ18, l18, y18, z18⟩, st18⟩ := X17.specialBack hx (y := (⟨"com/example/oporto/oporto/ElectionIndex", "<init>", "(II)V"⟩ : MethodName)) rfl hown (mvT hZ (hw _ (List.mem_of_getElem? (i := 8) rfl))) (mvT hZ (hw _ (List.mem_of_getElem? (i := 9) rfl))) (mvT hZ (hw _ (List.mem_of_getElem? (i := 10) rfl))) (by decide) (backOf (W := 1) (rm2 l Z a0 hw [] b17 k213 j214 h17 n0 Z3 A17 (D17 (Or.inr (hw _ (List.mem_of_getElem? (i := 15) rfl))) (ty := .int) (by decide)) (D17 (Or.inr (hw _ (List.mem_of_getElem? (i := 17) rfl))) (ty := .int) (by decide)) G3 hc13) hZ (hw _ (List.mem_of_getElem? (i := 10) rfl)) (hw _ (List.mem_of_getElem? (i := 7) rfl)) (by decide) (by decide)) (g := (mkF m 66 #[.val (.int c1), .val (.int i1), .val (.int c2), .val (.int i2), .val (.int fl), .val (.int k1), .val (.int k213), .val (.int j214), .val (.ref b15), .unset, .unset, .unset, .unset, .unset, .unset, .unset, .unset, .unset] [(.int j214), (.int k213), (.ref b17), (.ref b17)])) rfl (by rw [hml]; rfl) (Steps.refl _) (a := b17) (argsL := [(.int k213), (.int j214)]) (rest := [(.ref b17)]) (lenOf pd_2 rfl) rfl (by show 2 * 0 + _ ≤ _; exact Nat.le_of_eq rfl) (hb hby at_66) (fun _ _ => ⟨rfl, e17, (by decide : 2 + 0 ≤ _), (by decide : 4 + 0 ≤ _)⟩)
      dsimp only [Pt.U, Pt.locs, Pt.cells, Pt.slots] at X18 l18 y18 z18 st18 hQ18
      subst l18 y18 z18
      obtain ⟨rfl, M18, K18, Ea18, Fa18, Ga18⟩ := hQ18
      have N18 := Fr.app N16 M18
      refine own_trans st18 ?_
      show own_Gl _ _ _ _ (T18.setTop (mkF m 69 #[.val (.int c1), .val (.int i1), .val (.int c2), .val (.int i2), .val (.int fl), .val (.int k1), .val (.int k213), .val (.int j214), .val (.ref b15), .unset, .unset, .unset, .unset, .unset, .unset, .unset, .unset, .unset] [(.ref b17)]))
      have Z4 : n0 ≤ T18.heap.size := Nat.le_trans Z3 K18.1
      have FA := (Fa16.ext E17).keep K18 (ninS ne1 nin0)
      have GA := (Ga16.ext E17).keep K18 (ninS ne1 nin0)
      have EA := (Ea16.ext E17).keep K18
      have EB := Ea18
      have FB := Fa18
      have GB := Ga18
      refine own_back (fun t_ q_ => XS.astore X18.here hx rfl (hb hby at_69) rfl rfl (l' := #[.val (.int c1), .val (.int i1), .val (.int c2), .val (.int i2), .val (.int fl), .val (.int k1), .val (.int k213), .val (.int j214), .val (.ref b15), .val (.ref b17), .unset, .unset, .unset, .unset, .unset, .unset, .unset, .unset]) rfl q_) ?_
      show own_Gl _ _ _ _ (T18.setTop (mkF m 71 #[.val (.int c1), .val (.int i1), .val (.int c2), .val (.int i2), .val (.int fl), .val (.int k1), .val (.int k213), .val (.int j214), .val (.ref b15), .val (.ref b17), .unset, .unset, .unset, .unset, .unset, .unset, .unset, .unset] []))
      refine own_back (fun t_ q_ => XS.aload X18.here hx rfl (hb hby at_71) rfl rfl q_) ?_
      show own_Gl _ _ _ _ (T18.setTop (mkF m 73 #[.val (.int c1), .val (.int i1), .val (.int c2), .val (.int i2), .val (.int fl), .val (.int k1), .val (.int k213), .val (.int j214), .val (.ref b15), .val (.ref b17), .unset, .unset, .unset, .unset, .unset, .unset, .unset, .unset] [(.ref b15)]))
      obtain ⟨cq19, kq19, q19a, q19b, q19c⟩ := isOf hZ rfl EA
      obtain ⟨_, _, ⟨T19, L19, k19, n19⟩, -, X19, ⟨Lc19, hQ19, l19, y19, z19⟩, st19⟩ := X18.virtualBack hx (y := (⟨"com/example/oporto/oporto/ElectionIndex", "hashCode", "()I"⟩ : MethodName)) (z := (⟨"com/example/oporto/oporto/ElectionIndex", "hashCode", "()I"⟩ : MethodName)) hown (mvT hZ (hw _ (List.mem_of_getElem? (i := 18) rfl))) (mvT hZ (hw _ (List.mem_of_getElem? (i := 19) rfl))) (notFace_of_selects (args := #[]) (mvT hZ (hw _ (List.mem_of_getElem? (i := 21) rfl)))) (mvT hZ (hw _ (List.mem_of_getElem? (i := 21) rfl))) (mvT hZ (hw _ (List.mem_of_getElem? (i := 20) rfl))) (by decide) (backOf (W := 0) (rm4 l Z a0 hw [] b15 T18.heap n0 Z4 k1 i1 FA GA) hZ (hw _ (List.mem_of_getElem? (i := 22) rfl)) (hw _ (List.mem_of_getElem? (i := 7) rfl)) (by decide) (by decide)) q19a q19c (g := (mkF m 73 #[.val (.int c1), .val (.int i1), .val (.int c2), .val (.int i2), .val (.int fl), .val (.int k1), .val (.int k213), .val (.int j214), .val (.ref b15), .val (.ref b17), .unset, .unset, .unset, .unset, .unset, .unset, .unset, .unset] [(.ref b15)])) rfl (by rw [hml]; rfl) (Steps.refl _) (argsL := []) (rest := []) (lenOf pd_3 rfl) rfl (by show 2 * 0 + _ ≤ _; exact Nat.le_of_eq rfl) (hb hby at_73) (fun _ _ => ⟨rfl, rfl, (by decide : 2 + 0 ≤ _), (by decide : 4 + 0 ≤ _)⟩)
      dsimp only [Pt.U, Pt.locs, Pt.cells, Pt.slots] at X19 l19 y19 z19 st19 hQ19
      subst l19 y19 z19
      obtain ⟨rfl, M19, e19⟩ := hQ19
      have N19 := Fr.app N18 M19
      refine own_trans st19 ?_
      show own_Gl _ _ _ _ (T19.setTop (mkF m 76 #[.val (.int c1), .val (.int i1), .val (.int c2), .val (.int i2), .val (.int fl), .val (.int k1), .val (.int k213), .val (.int j214), .val (.ref b15), .val (.ref b17), .unset, .unset, .unset, .unset, .unset, .unset, .unset, .unset] [(.int ((31 * k1) + i1))]))
      refine own_back (fun t_ q_ => XS.istore X19.here hx rfl (hb hby at_76) rfl (l' := #[.val (.int c1), .val (.int i1), .val (.int c2), .val (.int i2), .val (.int fl), .val (.int k1), .val (.int k213), .val (.int j214), .val (.ref b15), .val (.ref b17), .val (.int ((31 * k1) + i1)), .unset, .unset, .unset, .unset, .unset, .unset, .unset]) rfl q_) ?_
      show own_Gl _ _ _ _ (T19.setTop (mkF m 78 #[.val (.int c1), .val (.int i1), .val (.int c2), .val (.int i2), .val (.int fl), .val (.int k1), .val (.int k213), .val (.int j214), .val (.ref b15), .val (.ref b17), .val (.int ((31 * k1) + i1)), .unset, .unset, .unset, .unset, .unset, .unset, .unset] []))
      refine own_back (fun t_ q_ => XS.aload X19.here hx rfl (hb hby at_78) rfl rfl q_) ?_
      show own_Gl _ _ _ _ (T19.setTop (mkF m 80 #[.val (.int c1), .val (.int i1), .val (.int c2), .val (.int i2), .val (.int fl), .val (.int k1), .val (.int k213), .val (.int j214), .val (.ref b15), .val (.ref b17), .val (.int ((31 * k1) + i1)), .unset, .unset, .unset, .unset, .unset, .unset, .unset] [(.ref b17)]))
      obtain ⟨cq20, kq20, q20a, q20b, q20c⟩ := isOf hZ e19 EB
      obtain ⟨_, _, ⟨T20, L20, k20, n20⟩, -, X20, ⟨Lc20, hQ20, l20, y20, z20⟩, st20⟩ := X19.virtualBack hx (y := (⟨"com/example/oporto/oporto/ElectionIndex", "hashCode", "()I"⟩ : MethodName)) (z := (⟨"com/example/oporto/oporto/ElectionIndex", "hashCode", "()I"⟩ : MethodName)) hown (mvT hZ (hw _ (List.mem_of_getElem? (i := 18) rfl))) (mvT hZ (hw _ (List.mem_of_getElem? (i := 19) rfl))) (notFace_of_selects (args := #[]) (mvT hZ (hw _ (List.mem_of_getElem? (i := 21) rfl)))) (mvT hZ (hw _ (List.mem_of_getElem? (i := 21) rfl))) (mvT hZ (hw _ (List.mem_of_getElem? (i := 20) rfl))) (by decide) (backOf (W := 0) (rm4 l Z a0 hw [] b17 T18.heap n0 Z4 k213 j214 FB GB) hZ (hw _ (List.mem_of_getElem? (i := 22) rfl)) (hw _ (List.mem_of_getElem? (i := 7) rfl)) (by decide) (by decide)) q20a q20c (g := (mkF m 80 #[.val (.int c1), .val (.int i1), .val (.int c2), .val (.int i2), .val (.int fl), .val (.int k1), .val (.int k213), .val (.int j214), .val (.ref b15), .val (.ref b17), .val (.int ((31 * k1) + i1)), .unset, .unset, .unset, .unset, .unset, .unset, .unset] [(.ref b17)])) rfl (by rw [hml]; rfl) (Steps.refl _) (argsL := []) (rest := []) (lenOf pd_3 rfl) rfl (by show 2 * 0 + _ ≤ _; exact Nat.le_of_eq rfl) (hb hby at_80) (fun _ _ => ⟨rfl, e19, (by decide : 2 + 0 ≤ _), (by decide : 4 + 0 ≤ _)⟩)
      dsimp only [Pt.U, Pt.locs, Pt.cells, Pt.slots] at X20 l20 y20 z20 st20 hQ20
      subst l20 y20 z20
      obtain ⟨rfl, M20, e20⟩ := hQ20
      have N20 := Fr.app N19 M20
      refine own_trans st20 ?_
      show own_Gl _ _ _ _ (T20.setTop (mkF m 83 #[.val (.int c1), .val (.int i1), .val (.int c2), .val (.int i2), .val (.int fl), .val (.int k1), .val (.int k213), .val (.int j214), .val (.ref b15), .val (.ref b17), .val (.int ((31 * k1) + i1)), .unset, .unset, .unset, .unset, .unset, .unset, .unset] [(.int ((31 * k213) + j214))]))
      refine own_back (fun t_ q_ => XS.istore X20.here hx rfl (hb hby at_83) rfl (l' := #[.val (.int c1), .val (.int i1), .val (.int c2), .val (.int i2), .val (.int fl), .val (.int k1), .val (.int k213), .val (.int j214), .val (.ref b15), .val (.ref b17), .val (.int ((31 * k1) + i1)), .val (.int ((31 * k213) + j214)), .unset, .unset, .unset, .unset, .unset, .unset]) rfl q_) ?_
      show own_Gl _ _ _ _ (T20.setTop (mkF m 85 #[.val (.int c1), .val (.int i1), .val (.int c2), .val (.int i2), .val (.int fl), .val (.int k1), .val (.int k213), .val (.int j214), .val (.ref b15), .val (.ref b17), .val (.int ((31 * k1) + i1)), .val (.int ((31 * k213) + j214)), .unset, .unset, .unset, .unset, .unset, .unset] []))
      refine own_back (fun t_ q_ => XS.aload X20.here hx rfl (hb hby at_85) rfl rfl q_) ?_
      show own_Gl _ _ _ _ (T20.setTop (mkF m 87 #[.val (.int c1), .val (.int i1), .val (.int c2), .val (.int i2), .val (.int fl), .val (.int k1), .val (.int k213), .val (.int j214), .val (.ref b15), .val (.ref b17), .val (.int ((31 * k1) + i1)), .val (.int ((31 * k213) + j214)), .unset, .unset, .unset, .unset, .unset, .unset] [(.ref b15)]))
      obtain ⟨cq21, kq21, q21a, q21b, q21c⟩ := isOf hZ e20 EA
      obtain ⟨_, _, ⟨T21, L21, k21, n21⟩, -, X21, ⟨Lc21, hQ21, l21, y21, z21⟩, st21⟩ := X20.virtualBack hx (y := (⟨"com/example/oporto/oporto/ElectionIndex", "hashCode", "()I"⟩ : MethodName)) (z := (⟨"com/example/oporto/oporto/ElectionIndex", "hashCode", "()I"⟩ : MethodName)) hown (mvT hZ (hw _ (List.mem_of_getElem? (i := 18) rfl))) (mvT hZ (hw _ (List.mem_of_getElem? (i := 19) rfl))) (notFace_of_selects (args := #[]) (mvT hZ (hw _ (List.mem_of_getElem? (i := 21) rfl)))) (mvT hZ (hw _ (List.mem_of_getElem? (i := 21) rfl))) (mvT hZ (hw _ (List.mem_of_getElem? (i := 20) rfl))) (by decide) (backOf (W := 0) (rm4 l Z a0 hw [] b15 T18.heap n0 Z4 k1 i1 FA GA) hZ (hw _ (List.mem_of_getElem? (i := 22) rfl)) (hw _ (List.mem_of_getElem? (i := 7) rfl)) (by decide) (by decide)) q21a q21c (g := (mkF m 87 #[.val (.int c1), .val (.int i1), .val (.int c2), .val (.int i2), .val (.int fl), .val (.int k1), .val (.int k213), .val (.int j214), .val (.ref b15), .val (.ref b17), .val (.int ((31 * k1) + i1)), .val (.int ((31 * k213) + j214)), .unset, .unset, .unset, .unset, .unset, .unset] [(.ref b15)])) rfl (by rw [hml]; rfl) (Steps.refl _) (argsL := []) (rest := []) (lenOf pd_3 rfl) rfl (by show 2 * 0 + _ ≤ _; exact Nat.le_of_eq rfl) (hb hby at_87) (fun _ _ => ⟨rfl, e20, (by decide : 2 + 0 ≤ _), (by decide : 4 + 0 ≤ _)⟩)
      dsimp only [Pt.U, Pt.locs, Pt.cells, Pt.slots] at X21 l21 y21 z21 st21 hQ21
      subst l21 y21 z21
      obtain ⟨rfl, M21, e21⟩ := hQ21
      have N21 := Fr.app N20 M21
      refine own_trans st21 ?_
      show own_Gl _ _ _ _ (T21.setTop (mkF m 90 #[.val (.int c1), .val (.int i1), .val (.int c2), .val (.int i2), .val (.int fl), .val (.int k1), .val (.int k213), .val (.int j214), .val (.ref b15), .val (.ref b17), .val (.int ((31 * k1) + i1)), .val (.int ((31 * k213) + j214)), .unset, .unset, .unset, .unset, .unset, .unset] [(.int ((31 * k1) + i1))]))
      refine own_back (fun t_ q_ => XS.istore X21.here hx rfl (hb hby at_90) rfl (l' := #[.val (.int c1), .val (.int i1), .val (.int c2), .val (.int i2), .val (.int fl), .val (.int k1), .val (.int k213), .val (.int j214), .val (.ref b15), .val (.ref b17), .val (.int ((31 * k1) + i1)), .val (.int ((31 * k213) + j214)), .val (.int ((31 * k1) + i1)), .unset, .unset, .unset, .unset, .unset]) rfl q_) ?_
      show own_Gl _ _ _ _ (T21.setTop (mkF m 92 #[.val (.int c1), .val (.int i1), .val (.int c2), .val (.int i2), .val (.int fl), .val (.int k1), .val (.int k213), .val (.int j214), .val (.ref b15), .val (.ref b17), .val (.int ((31 * k1) + i1)), .val (.int ((31 * k213) + j214)), .val (.int ((31 * k1) + i1)), .unset, .unset, .unset, .unset, .unset] []))
      refine own_back (fun t_ q_ => XS.iload X21.here hx rfl (hb hby at_92) rfl q_) ?_
      show own_Gl _ _ _ _ (T21.setTop (mkF m 94 #[.val (.int c1), .val (.int i1), .val (.int c2), .val (.int i2), .val (.int fl), .val (.int k1), .val (.int k213), .val (.int j214), .val (.ref b15), .val (.ref b17), .val (.int ((31 * k1) + i1)), .val (.int ((31 * k213) + j214)), .val (.int ((31 * k1) + i1)), .unset, .unset, .unset, .unset, .unset] [(.int ((31 * k1) + i1))]))
      refine own_back (fun t_ q_ => XS.iload X21.here hx rfl (hb hby at_94) rfl q_) ?_
      show own_Gl _ _ _ _ (T21.setTop (mkF m 96 #[.val (.int c1), .val (.int i1), .val (.int c2), .val (.int i2), .val (.int fl), .val (.int k1), .val (.int k213), .val (.int j214), .val (.ref b15), .val (.ref b17), .val (.int ((31 * k1) + i1)), .val (.int ((31 * k213) + j214)), .val (.int ((31 * k1) + i1)), .unset, .unset, .unset, .unset, .unset] [(.int ((31 * k1) + i1)), (.int ((31 * k1) + i1))]))
      refine own_back (fun t_ q_ => XS.icmpNo X21.here hx rfl (hb hby at_96) rfl (teq (rfl : ((31 * k1) + i1) = ((31 * k1) + i1))).2 q_) ?_
      show own_Gl _ _ _ _ (T21.setTop (mkF m 99 #[.val (.int c1), .val (.int i1), .val (.int c2), .val (.int i2), .val (.int fl), .val (.int k1), .val (.int k213), .val (.int j214), .val (.ref b15), .val (.ref b17), .val (.int ((31 * k1) + i1)), .val (.int ((31 * k213) + j214)), .val (.int ((31 * k1) + i1)), .unset, .unset, .unset, .unset, .unset] []))
      refine own_back (fun t_ q_ => XS.iconst X21.here hx rfl (hb hby at_99) q_) ?_
      show own_Gl _ _ _ _ (T21.setTop (mkF m 100 #[.val (.int c1), .val (.int i1), .val (.int c2), .val (.int i2), .val (.int fl), .val (.int k1), .val (.int k213), .val (.int j214), .val (.ref b15), .val (.ref b17), .val (.int ((31 * k1) + i1)), .val (.int ((31 * k213) + j214)), .val (.int ((31 * k1) + i1)), .unset, .unset, .unset, .unset, .unset] [(.int (1 : Int32))]))
      refine own_back (fun t_ q_ => XS.goto X21.here hx rfl (pc0 := 100) (pc' := 104) rfl (hb hby at_100) (by decide) (by decide) q_) ?_
      show own_Gl _ _ _ _ (T21.setTop (mkF m 104 #[.val (.int c1), .val (.int i1), .val (.int c2), .val (.int i2), .val (.int fl), .val (.int k1), .val (.int k213), .val (.int j214), .val (.ref b15), .val (.ref b17), .val (.int ((31 * k1) + i1)), .val (.int ((31 * k213) + j214)), .val (.int ((31 * k1) + i1)), .unset, .unset, .unset, .unset, .unset] [(.int (1 : Int32))]))
      refine own_back (fun t_ q_ => XS.istore X21.here hx rfl (hb hby at_104) rfl (l' := #[.val (.int c1), .val (.int i1), .val (.int c2), .val (.int i2), .val (.int fl), .val (.int k1), .val (.int k213), .val (.int j214), .val (.ref b15), .val (.ref b17), .val (.int ((31 * k1) + i1)), .val (.int ((31 * k213) + j214)), .val (.int ((31 * k1) + i1)), .val (.int (1 : Int32)), .unset, .unset, .unset, .unset]) rfl q_) ?_
      show own_Gl _ _ _ _ (T21.setTop (mkF m 106 #[.val (.int c1), .val (.int i1), .val (.int c2), .val (.int i2), .val (.int fl), .val (.int k1), .val (.int k213), .val (.int j214), .val (.ref b15), .val (.ref b17), .val (.int ((31 * k1) + i1)), .val (.int ((31 * k213) + j214)), .val (.int ((31 * k1) + i1)), .val (.int (1 : Int32)), .unset, .unset, .unset, .unset] []))
      refine own_back (fun t_ q_ => XS.iload X21.here hx rfl (hb hby at_106) rfl q_) ?_
      show own_Gl _ _ _ _ (T21.setTop (mkF m 108 #[.val (.int c1), .val (.int i1), .val (.int c2), .val (.int i2), .val (.int fl), .val (.int k1), .val (.int k213), .val (.int j214), .val (.ref b15), .val (.ref b17), .val (.int ((31 * k1) + i1)), .val (.int ((31 * k213) + j214)), .val (.int ((31 * k1) + i1)), .val (.int (1 : Int32)), .unset, .unset, .unset, .unset] [(.int k1)]))
      refine own_back (fun t_ q_ => XS.iload X21.here hx rfl (hb hby at_108) rfl q_) ?_
      show own_Gl _ _ _ _ (T21.setTop (mkF m 110 #[.val (.int c1), .val (.int i1), .val (.int c2), .val (.int i2), .val (.int fl), .val (.int k1), .val (.int k213), .val (.int j214), .val (.ref b15), .val (.ref b17), .val (.int ((31 * k1) + i1)), .val (.int ((31 * k213) + j214)), .val (.int ((31 * k1) + i1)), .val (.int (1 : Int32)), .unset, .unset, .unset, .unset] [(.int k213), (.int k1)]))
      refine own_join (α := Int32) (fun z => T21.setTop (mkF m 124 #[.val (.int c1), .val (.int i1), .val (.int c2), .val (.int i2), .val (.int fl), .val (.int k1), .val (.int k213), .val (.int j214), .val (.ref b15), .val (.ref b17), .val (.int ((31 * k1) + i1)), .val (.int ((31 * k213) + j214)), .val (.int ((31 * k1) + i1)), .val (.int (1 : Int32)), .unset, .unset, .unset, .unset] [(.int z)])) (fun z => z = 0 ∨ (z = 1 ∧ k1 = k213 ∧ i1 = j214)) (fun sf22 hz => ?_) (fun tail22 => ?_)
      · skip
        have hc22 := hz
        have hc22 : sf22 = 0 ∨ (sf22 = 1 ∧ k1 = k213 ∧ i1 = j214) := hc22
        show own_Gl _ _ _ _ (T21.setTop (mkF m 124 #[.val (.int c1), .val (.int i1), .val (.int c2), .val (.int i2), .val (.int fl), .val (.int k1), .val (.int k213), .val (.int j214), .val (.ref b15), .val (.ref b17), .val (.int ((31 * k1) + i1)), .val (.int ((31 * k213) + j214)), .val (.int ((31 * k1) + i1)), .val (.int (1 : Int32)), .unset, .unset, .unset, .unset] [(.int sf22)]))
        refine own_back (fun t_ q_ => XS.istore X21.here hx rfl (hb hby at_124) rfl (l' := #[.val (.int c1), .val (.int i1), .val (.int c2), .val (.int i2), .val (.int fl), .val (.int k1), .val (.int k213), .val (.int j214), .val (.ref b15), .val (.ref b17), .val (.int ((31 * k1) + i1)), .val (.int ((31 * k213) + j214)), .val (.int ((31 * k1) + i1)), .val (.int (1 : Int32)), .val (.int sf22), .unset, .unset, .unset]) rfl q_) ?_
        show own_Gl _ _ _ _ (T21.setTop (mkF m 126 #[.val (.int c1), .val (.int i1), .val (.int c2), .val (.int i2), .val (.int fl), .val (.int k1), .val (.int k213), .val (.int j214), .val (.ref b15), .val (.ref b17), .val (.int ((31 * k1) + i1)), .val (.int ((31 * k213) + j214)), .val (.int ((31 * k1) + i1)), .val (.int (1 : Int32)), .val (.int sf22), .unset, .unset, .unset] []))
        refine own_back (fun t_ q_ => XS.aload X21.here hx rfl (hb hby at_126) rfl rfl q_) ?_
        show own_Gl _ _ _ _ (T21.setTop (mkF m 128 #[.val (.int c1), .val (.int i1), .val (.int c2), .val (.int i2), .val (.int fl), .val (.int k1), .val (.int k213), .val (.int j214), .val (.ref b15), .val (.ref b17), .val (.int ((31 * k1) + i1)), .val (.int ((31 * k213) + j214)), .val (.int ((31 * k1) + i1)), .val (.int (1 : Int32)), .val (.int sf22), .unset, .unset, .unset] [(.ref b15)]))
        refine own_back (fun t_ q_ => XS.aload X21.here hx rfl (hb hby at_128) rfl rfl q_) ?_
        show own_Gl _ _ _ _ (T21.setTop (mkF m 130 #[.val (.int c1), .val (.int i1), .val (.int c2), .val (.int i2), .val (.int fl), .val (.int k1), .val (.int k213), .val (.int j214), .val (.ref b15), .val (.ref b17), .val (.int ((31 * k1) + i1)), .val (.int ((31 * k213) + j214)), .val (.int ((31 * k1) + i1)), .val (.int (1 : Int32)), .val (.int sf22), .unset, .unset, .unset] [(.ref b17), (.ref b15)]))
        obtain ⟨cq23, kq23, q23a, q23b, q23c⟩ := isOf hZ e21 EA
        obtain ⟨_, _, ⟨T23, L23, k23, n23⟩, -, X23, ⟨Lc23, hQ23, l23, y23, z23⟩, st23⟩ := X21.virtualBack hx (y := (⟨"com/example/oporto/oporto/ElectionIndex", "equals", "(Ljava/lang/Object;)Z"⟩ : MethodName)) (z := (⟨"com/example/oporto/oporto/ElectionIndex", "equals", "(Ljava/lang/Object;)Z"⟩ : MethodName)) hown (mvT hZ (hw _ (List.mem_of_getElem? (i := 23) rfl))) (mvT hZ (hw _ (List.mem_of_getElem? (i := 24) rfl))) (notFace_of_selects (args := #[]) (mvT hZ (hw _ (List.mem_of_getElem? (i := 26) rfl)))) (mvT hZ (hw _ (List.mem_of_getElem? (i := 26) rfl))) (mvT hZ (hw _ (List.mem_of_getElem? (i := 25) rfl))) (by decide) (backOf (W := 0) (rm5 l Z a0 hw [] b15 b17 T18.heap n0 Z4 k1 i1 k213 j214 EB FA GA FB GB) hZ (hw _ (List.mem_of_getElem? (i := 27) rfl)) (hw _ (List.mem_of_getElem? (i := 7) rfl)) (by decide) (by decide)) q23a q23c (g := (mkF m 130 #[.val (.int c1), .val (.int i1), .val (.int c2), .val (.int i2), .val (.int fl), .val (.int k1), .val (.int k213), .val (.int j214), .val (.ref b15), .val (.ref b17), .val (.int ((31 * k1) + i1)), .val (.int ((31 * k213) + j214)), .val (.int ((31 * k1) + i1)), .val (.int (1 : Int32)), .val (.int sf22), .unset, .unset, .unset] [(.ref b17), (.ref b15)])) rfl (by rw [hml]; rfl) (Steps.refl _) (argsL := [(.ref b17)]) (rest := []) (lenOf pd_4 rfl) rfl (by show 2 * 0 + _ ≤ _; exact Nat.le_of_eq rfl) (hb hby at_130) (fun _ _ => ⟨rfl, e21, (by decide : 2 + 0 ≤ _), (by decide : 4 + 0 ≤ _)⟩)
        dsimp only [Pt.U, Pt.locs, Pt.cells, Pt.slots] at X23 l23 y23 z23 st23 hQ23
        subst l23 y23 z23
        obtain ⟨rfl, M23, e23⟩ := hQ23
        have N23 := Fr.app N21 M23
        refine own_trans st23 ?_
        show own_Gl _ _ _ _ (T23.setTop (mkF m 133 #[.val (.int c1), .val (.int i1), .val (.int c2), .val (.int i2), .val (.int fl), .val (.int k1), .val (.int k213), .val (.int j214), .val (.ref b15), .val (.ref b17), .val (.int ((31 * k1) + i1)), .val (.int ((31 * k213) + j214)), .val (.int ((31 * k1) + i1)), .val (.int (1 : Int32)), .val (.int sf22), .unset, .unset, .unset] [(.int (if k1 = k213 ∧ i1 = j214 then (1 : Int32) else 0))]))
        refine own_back (fun t_ q_ => XS.istore X23.here hx rfl (hb hby at_133) rfl (l' := #[.val (.int c1), .val (.int i1), .val (.int c2), .val (.int i2), .val (.int fl), .val (.int k1), .val (.int k213), .val (.int j214), .val (.ref b15), .val (.ref b17), .val (.int ((31 * k1) + i1)), .val (.int ((31 * k213) + j214)), .val (.int ((31 * k1) + i1)), .val (.int (1 : Int32)), .val (.int sf22), .val (.int (if k1 = k213 ∧ i1 = j214 then (1 : Int32) else 0)), .unset, .unset]) rfl q_) ?_
        show own_Gl _ _ _ _ (T23.setTop (mkF m 135 #[.val (.int c1), .val (.int i1), .val (.int c2), .val (.int i2), .val (.int fl), .val (.int k1), .val (.int k213), .val (.int j214), .val (.ref b15), .val (.ref b17), .val (.int ((31 * k1) + i1)), .val (.int ((31 * k213) + j214)), .val (.int ((31 * k1) + i1)), .val (.int (1 : Int32)), .val (.int sf22), .val (.int (if k1 = k213 ∧ i1 = j214 then (1 : Int32) else 0)), .unset, .unset] []))
        refine own_back (fun t_ q_ => XS.iload X23.here hx rfl (hb hby at_135) rfl q_) ?_
        show own_Gl _ _ _ _ (T23.setTop (mkF m 137 #[.val (.int c1), .val (.int i1), .val (.int c2), .val (.int i2), .val (.int fl), .val (.int k1), .val (.int k213), .val (.int j214), .val (.ref b15), .val (.ref b17), .val (.int ((31 * k1) + i1)), .val (.int ((31 * k213) + j214)), .val (.int ((31 * k1) + i1)), .val (.int (1 : Int32)), .val (.int sf22), .val (.int (if k1 = k213 ∧ i1 = j214 then (1 : Int32) else 0)), .unset, .unset] [(.int (if k1 = k213 ∧ i1 = j214 then (1 : Int32) else 0))]))
        refine own_join (α := Unit) (fun z => T23.setTop (mkF m 147 #[.val (.int c1), .val (.int i1), .val (.int c2), .val (.int i2), .val (.int fl), .val (.int k1), .val (.int k213), .val (.int j214), .val (.ref b15), .val (.ref b17), .val (.int ((31 * k1) + i1)), .val (.int ((31 * k213) + j214)), .val (.int ((31 * k1) + i1)), .val (.int (1 : Int32)), .val (.int sf22), .val (.int (if k1 = k213 ∧ i1 = j214 then (1 : Int32) else 0)), .unset, .unset] [])) (fun z => True) (fun _ hz => ?_) (fun tail24 => ?_)
        · skip
          have hc24 := hz
          have hc24 : True := hc24
          show own_Gl _ _ _ _ (T23.setTop (mkF m 147 #[.val (.int c1), .val (.int i1), .val (.int c2), .val (.int i2), .val (.int fl), .val (.int k1), .val (.int k213), .val (.int j214), .val (.ref b15), .val (.ref b17), .val (.int ((31 * k1) + i1)), .val (.int ((31 * k213) + j214)), .val (.int ((31 * k1) + i1)), .val (.int (1 : Int32)), .val (.int sf22), .val (.int (if k1 = k213 ∧ i1 = j214 then (1 : Int32) else 0)), .unset, .unset] []))
          refine own_back (fun t_ q_ => XS.iconst X23.here hx rfl (hb hby at_147) q_) ?_
          show own_Gl _ _ _ _ (T23.setTop (mkF m 148 #[.val (.int c1), .val (.int i1), .val (.int c2), .val (.int i2), .val (.int fl), .val (.int k1), .val (.int k213), .val (.int j214), .val (.ref b15), .val (.ref b17), .val (.int ((31 * k1) + i1)), .val (.int ((31 * k213) + j214)), .val (.int ((31 * k1) + i1)), .val (.int (1 : Int32)), .val (.int sf22), .val (.int (if k1 = k213 ∧ i1 = j214 then (1 : Int32) else 0)), .unset, .unset] [(.int (1 : Int32))]))
          refine own_back (fun t_ q_ => XS.goto X23.here hx rfl (pc0 := 148) (pc' := 152) rfl (hb hby at_148) (by decide) (by decide) q_) ?_
          show own_Gl _ _ _ _ (T23.setTop (mkF m 152 #[.val (.int c1), .val (.int i1), .val (.int c2), .val (.int i2), .val (.int fl), .val (.int k1), .val (.int k213), .val (.int j214), .val (.ref b15), .val (.ref b17), .val (.int ((31 * k1) + i1)), .val (.int ((31 * k213) + j214)), .val (.int ((31 * k1) + i1)), .val (.int (1 : Int32)), .val (.int sf22), .val (.int (if k1 = k213 ∧ i1 = j214 then (1 : Int32) else 0)), .unset, .unset] [(.int (1 : Int32))]))
          refine own_back (fun t_ q_ => XS.istore X23.here hx rfl (hb hby at_152) rfl (l' := #[.val (.int c1), .val (.int i1), .val (.int c2), .val (.int i2), .val (.int fl), .val (.int k1), .val (.int k213), .val (.int j214), .val (.ref b15), .val (.ref b17), .val (.int ((31 * k1) + i1)), .val (.int ((31 * k213) + j214)), .val (.int ((31 * k1) + i1)), .val (.int (1 : Int32)), .val (.int sf22), .val (.int (if k1 = k213 ∧ i1 = j214 then (1 : Int32) else 0)), .val (.int (1 : Int32)), .unset]) rfl q_) ?_
          show own_Gl _ _ _ _ (T23.setTop (mkF m 154 #[.val (.int c1), .val (.int i1), .val (.int c2), .val (.int i2), .val (.int fl), .val (.int k1), .val (.int k213), .val (.int j214), .val (.ref b15), .val (.ref b17), .val (.int ((31 * k1) + i1)), .val (.int ((31 * k213) + j214)), .val (.int ((31 * k1) + i1)), .val (.int (1 : Int32)), .val (.int sf22), .val (.int (if k1 = k213 ∧ i1 = j214 then (1 : Int32) else 0)), .val (.int (1 : Int32)), .unset] []))
          refine own_back (fun t_ q_ => XS.iload X23.here hx rfl (hb hby at_154) rfl q_) ?_
          show own_Gl _ _ _ _ (T23.setTop (mkF m 156 #[.val (.int c1), .val (.int i1), .val (.int c2), .val (.int i2), .val (.int fl), .val (.int k1), .val (.int k213), .val (.int j214), .val (.ref b15), .val (.ref b17), .val (.int ((31 * k1) + i1)), .val (.int ((31 * k213) + j214)), .val (.int ((31 * k1) + i1)), .val (.int (1 : Int32)), .val (.int sf22), .val (.int (if k1 = k213 ∧ i1 = j214 then (1 : Int32) else 0)), .val (.int (1 : Int32)), .unset] [(.int sf22)]))
          refine own_join (α := Unit) (fun z => T23.setTop (mkF m 166 #[.val (.int c1), .val (.int i1), .val (.int c2), .val (.int i2), .val (.int fl), .val (.int k1), .val (.int k213), .val (.int j214), .val (.ref b15), .val (.ref b17), .val (.int ((31 * k1) + i1)), .val (.int ((31 * k213) + j214)), .val (.int ((31 * k1) + i1)), .val (.int (1 : Int32)), .val (.int sf22), .val (.int (if k1 = k213 ∧ i1 = j214 then (1 : Int32) else 0)), .val (.int (1 : Int32)), .unset] [])) (fun z => True) (fun _ hz => ?_) (fun tail25 => ?_)
          · skip
            have hc25 := hz
            have hc25 : True := hc25
            show own_Gl _ _ _ _ (T23.setTop (mkF m 166 #[.val (.int c1), .val (.int i1), .val (.int c2), .val (.int i2), .val (.int fl), .val (.int k1), .val (.int k213), .val (.int j214), .val (.ref b15), .val (.ref b17), .val (.int ((31 * k1) + i1)), .val (.int ((31 * k213) + j214)), .val (.int ((31 * k1) + i1)), .val (.int (1 : Int32)), .val (.int sf22), .val (.int (if k1 = k213 ∧ i1 = j214 then (1 : Int32) else 0)), .val (.int (1 : Int32)), .unset] []))
            refine own_back (fun t_ q_ => XS.iconst X23.here hx rfl (hb hby at_166) q_) ?_
            show own_Gl _ _ _ _ (T23.setTop (mkF m 167 #[.val (.int c1), .val (.int i1), .val (.int c2), .val (.int i2), .val (.int fl), .val (.int k1), .val (.int k213), .val (.int j214), .val (.ref b15), .val (.ref b17), .val (.int ((31 * k1) + i1)), .val (.int ((31 * k213) + j214)), .val (.int ((31 * k1) + i1)), .val (.int (1 : Int32)), .val (.int sf22), .val (.int (if k1 = k213 ∧ i1 = j214 then (1 : Int32) else 0)), .val (.int (1 : Int32)), .unset] [(.int (1 : Int32))]))
            refine own_back (fun t_ q_ => XS.goto X23.here hx rfl (pc0 := 167) (pc' := 171) rfl (hb hby at_167) (by decide) (by decide) q_) ?_
            show own_Gl _ _ _ _ (T23.setTop (mkF m 171 #[.val (.int c1), .val (.int i1), .val (.int c2), .val (.int i2), .val (.int fl), .val (.int k1), .val (.int k213), .val (.int j214), .val (.ref b15), .val (.ref b17), .val (.int ((31 * k1) + i1)), .val (.int ((31 * k213) + j214)), .val (.int ((31 * k1) + i1)), .val (.int (1 : Int32)), .val (.int sf22), .val (.int (if k1 = k213 ∧ i1 = j214 then (1 : Int32) else 0)), .val (.int (1 : Int32)), .unset] [(.int (1 : Int32))]))
            refine own_back (fun t_ q_ => XS.istore X23.here hx rfl (hb hby at_171) rfl (l' := #[.val (.int c1), .val (.int i1), .val (.int c2), .val (.int i2), .val (.int fl), .val (.int k1), .val (.int k213), .val (.int j214), .val (.ref b15), .val (.ref b17), .val (.int ((31 * k1) + i1)), .val (.int ((31 * k213) + j214)), .val (.int ((31 * k1) + i1)), .val (.int (1 : Int32)), .val (.int sf22), .val (.int (if k1 = k213 ∧ i1 = j214 then (1 : Int32) else 0)), .val (.int (1 : Int32)), .val (.int (1 : Int32))]) rfl q_) ?_
            show own_Gl _ _ _ _ (T23.setTop (mkF m 173 #[.val (.int c1), .val (.int i1), .val (.int c2), .val (.int i2), .val (.int fl), .val (.int k1), .val (.int k213), .val (.int j214), .val (.ref b15), .val (.ref b17), .val (.int ((31 * k1) + i1)), .val (.int ((31 * k213) + j214)), .val (.int ((31 * k1) + i1)), .val (.int (1 : Int32)), .val (.int sf22), .val (.int (if k1 = k213 ∧ i1 = j214 then (1 : Int32) else 0)), .val (.int (1 : Int32)), .val (.int (1 : Int32))] []))
            refine own_back (fun t_ q_ => XS.iload X23.here hx rfl (hb hby at_173) rfl q_) ?_
            show own_Gl _ _ _ _ (T23.setTop (mkF m 175 #[.val (.int c1), .val (.int i1), .val (.int c2), .val (.int i2), .val (.int fl), .val (.int k1), .val (.int k213), .val (.int j214), .val (.ref b15), .val (.ref b17), .val (.int ((31 * k1) + i1)), .val (.int ((31 * k213) + j214)), .val (.int ((31 * k1) + i1)), .val (.int (1 : Int32)), .val (.int sf22), .val (.int (if k1 = k213 ∧ i1 = j214 then (1 : Int32) else 0)), .val (.int (1 : Int32)), .val (.int (1 : Int32))] [(.int (1 : Int32))]))
            refine own_back (fun t_ q_ => XS.ifNo X23.here hx rfl (hb hby at_175) rfl ((if0 _ _).trans (feq (by decide : ¬ ((1 : Int32) = (0 : Int32)))).1) q_) ?_
            show own_Gl _ _ _ _ (T23.setTop (mkF m 178 #[.val (.int c1), .val (.int i1), .val (.int c2), .val (.int i2), .val (.int fl), .val (.int k1), .val (.int k213), .val (.int j214), .val (.ref b15), .val (.ref b17), .val (.int ((31 * k1) + i1)), .val (.int ((31 * k213) + j214)), .val (.int ((31 * k1) + i1)), .val (.int (1 : Int32)), .val (.int sf22), .val (.int (if k1 = k213 ∧ i1 = j214 then (1 : Int32) else 0)), .val (.int (1 : Int32)), .val (.int (1 : Int32))] []))
            refine own_back (fun t_ q_ => XS.iload X23.here hx rfl (hb hby at_178) rfl q_) ?_
            show own_Gl _ _ _ _ (T23.setTop (mkF m 180 #[.val (.int c1), .val (.int i1), .val (.int c2), .val (.int i2), .val (.int fl), .val (.int k1), .val (.int k213), .val (.int j214), .val (.ref b15), .val (.ref b17), .val (.int ((31 * k1) + i1)), .val (.int ((31 * k213) + j214)), .val (.int ((31 * k1) + i1)), .val (.int (1 : Int32)), .val (.int sf22), .val (.int (if k1 = k213 ∧ i1 = j214 then (1 : Int32) else 0)), .val (.int (1 : Int32)), .val (.int (1 : Int32))] [(.int (1 : Int32))]))
            refine own_back (fun t_ q_ => XS.ifNo X23.here hx rfl (hb hby at_180) rfl ((if0 _ _).trans (feq (by decide : ¬ ((1 : Int32) = (0 : Int32)))).1) q_) ?_
            show own_Gl _ _ _ _ (T23.setTop (mkF m 183 #[.val (.int c1), .val (.int i1), .val (.int c2), .val (.int i2), .val (.int fl), .val (.int k1), .val (.int k213), .val (.int j214), .val (.ref b15), .val (.ref b17), .val (.int ((31 * k1) + i1)), .val (.int ((31 * k213) + j214)), .val (.int ((31 * k1) + i1)), .val (.int (1 : Int32)), .val (.int sf22), .val (.int (if k1 = k213 ∧ i1 = j214 then (1 : Int32) else 0)), .val (.int (1 : Int32)), .val (.int (1 : Int32))] []))
            refine own_back (fun t_ q_ => XS.iload X23.here hx rfl (hb hby at_183) rfl q_) ?_
            show own_Gl _ _ _ _ (T23.setTop (mkF m 185 #[.val (.int c1), .val (.int i1), .val (.int c2), .val (.int i2), .val (.int fl), .val (.int k1), .val (.int k213), .val (.int j214), .val (.ref b15), .val (.ref b17), .val (.int ((31 * k1) + i1)), .val (.int ((31 * k213) + j214)), .val (.int ((31 * k1) + i1)), .val (.int (1 : Int32)), .val (.int sf22), .val (.int (if k1 = k213 ∧ i1 = j214 then (1 : Int32) else 0)), .val (.int (1 : Int32)), .val (.int (1 : Int32))] [(.int (1 : Int32))]))
            refine own_back (fun t_ q_ => XS.ifNo X23.here hx rfl (hb hby at_185) rfl ((if0 _ _).trans (feq (by decide : ¬ ((1 : Int32) = (0 : Int32)))).1) q_) ?_
            show own_Gl _ _ _ _ (T23.setTop (mkF m 188 #[.val (.int c1), .val (.int i1), .val (.int c2), .val (.int i2), .val (.int fl), .val (.int k1), .val (.int k213), .val (.int j214), .val (.ref b15), .val (.ref b17), .val (.int ((31 * k1) + i1)), .val (.int ((31 * k213) + j214)), .val (.int ((31 * k1) + i1)), .val (.int (1 : Int32)), .val (.int sf22), .val (.int (if k1 = k213 ∧ i1 = j214 then (1 : Int32) else 0)), .val (.int (1 : Int32)), .val (.int (1 : Int32))] []))
            refine own_back (fun t_ q_ => XS.iconst X23.here hx rfl (hb hby at_188) q_) ?_
            show own_Gl _ _ _ _ (T23.setTop (mkF m 189 #[.val (.int c1), .val (.int i1), .val (.int c2), .val (.int i2), .val (.int fl), .val (.int k1), .val (.int k213), .val (.int j214), .val (.ref b15), .val (.ref b17), .val (.int ((31 * k1) + i1)), .val (.int ((31 * k213) + j214)), .val (.int ((31 * k1) + i1)), .val (.int (1 : Int32)), .val (.int sf22), .val (.int (if k1 = k213 ∧ i1 = j214 then (1 : Int32) else 0)), .val (.int (1 : Int32)), .val (.int (1 : Int32))] [(.int (1 : Int32))]))
            refine own_back (fun t_ q_ => XS.goto X23.here hx rfl (pc0 := 189) (pc' := 193) rfl (hb hby at_189) (by decide) (by decide) q_) ?_
            show own_Gl _ _ _ _ (T23.setTop (mkF m 193 #[.val (.int c1), .val (.int i1), .val (.int c2), .val (.int i2), .val (.int fl), .val (.int k1), .val (.int k213), .val (.int j214), .val (.ref b15), .val (.ref b17), .val (.int ((31 * k1) + i1)), .val (.int ((31 * k213) + j214)), .val (.int ((31 * k1) + i1)), .val (.int (1 : Int32)), .val (.int sf22), .val (.int (if k1 = k213 ∧ i1 = j214 then (1 : Int32) else 0)), .val (.int (1 : Int32)), .val (.int (1 : Int32))] [(.int (1 : Int32))]))
            exact own_rZ X23 hx hlk Bd.returns (hb hby at_193) (own_one rfl) (by show Qrm0 h0 n0 _ T23.heap _; rw [e23]; exact ⟨rfl, N23⟩) (by decide) (by decide)
          · skip
            by_cases ha : sf22 = (0 : Int32)
            · skip
              refine own_back (fun t_ q_ => XS.ifYes X23.here hx rfl (pc0 := 156) (pc' := 166) rfl (hb hby at_156) rfl ((if0 _ _).trans (teq (ha : sf22 = (0 : Int32))).1) (by decide) (by decide) q_) ?_
              show own_Gl _ _ _ _ (T23.setTop (mkF m 166 #[.val (.int c1), .val (.int i1), .val (.int c2), .val (.int i2), .val (.int fl), .val (.int k1), .val (.int k213), .val (.int j214), .val (.ref b15), .val (.ref b17), .val (.int ((31 * k1) + i1)), .val (.int ((31 * k213) + j214)), .val (.int ((31 * k1) + i1)), .val (.int (1 : Int32)), .val (.int sf22), .val (.int (if k1 = k213 ∧ i1 = j214 then (1 : Int32) else 0)), .val (.int (1 : Int32)), .unset] []))
              exact tail25 () (trivial)
            · skip
              refine own_back (fun t_ q_ => XS.ifNo X23.here hx rfl (hb hby at_156) rfl ((if0 _ _).trans (feq (ha : ¬ (sf22 = (0 : Int32)))).1) q_) ?_
              show own_Gl _ _ _ _ (T23.setTop (mkF m 159 #[.val (.int c1), .val (.int i1), .val (.int c2), .val (.int i2), .val (.int fl), .val (.int k1), .val (.int k213), .val (.int j214), .val (.ref b15), .val (.ref b17), .val (.int ((31 * k1) + i1)), .val (.int ((31 * k213) + j214)), .val (.int ((31 * k1) + i1)), .val (.int (1 : Int32)), .val (.int sf22), .val (.int (if k1 = k213 ∧ i1 = j214 then (1 : Int32) else 0)), .val (.int (1 : Int32)), .unset] []))
              refine own_back (fun t_ q_ => XS.iload X23.here hx rfl (hb hby at_159) rfl q_) ?_
              show own_Gl _ _ _ _ (T23.setTop (mkF m 161 #[.val (.int c1), .val (.int i1), .val (.int c2), .val (.int i2), .val (.int fl), .val (.int k1), .val (.int k213), .val (.int j214), .val (.ref b15), .val (.ref b17), .val (.int ((31 * k1) + i1)), .val (.int ((31 * k213) + j214)), .val (.int ((31 * k1) + i1)), .val (.int (1 : Int32)), .val (.int sf22), .val (.int (if k1 = k213 ∧ i1 = j214 then (1 : Int32) else 0)), .val (.int (1 : Int32)), .unset] [(.int ((31 * k1) + i1))]))
              refine own_back (fun t_ q_ => XS.iload X23.here hx rfl (hb hby at_161) rfl q_) ?_
              show own_Gl _ _ _ _ (T23.setTop (mkF m 163 #[.val (.int c1), .val (.int i1), .val (.int c2), .val (.int i2), .val (.int fl), .val (.int k1), .val (.int k213), .val (.int j214), .val (.ref b15), .val (.ref b17), .val (.int ((31 * k1) + i1)), .val (.int ((31 * k213) + j214)), .val (.int ((31 * k1) + i1)), .val (.int (1 : Int32)), .val (.int sf22), .val (.int (if k1 = k213 ∧ i1 = j214 then (1 : Int32) else 0)), .val (.int (1 : Int32)), .unset] [(.int ((31 * k213) + j214)), (.int ((31 * k1) + i1))]))
              refine own_back (fun t_ q_ => XS.icmpNo X23.here hx rfl (hb hby at_163) rfl (teq (by rcases hc22 with q | ⟨-, q, q'⟩; exact absurd q ha; rw [q, q'] : ((31 * k1) + i1) = ((31 * k213) + j214))).2 q_) ?_
              show own_Gl _ _ _ _ (T23.setTop (mkF m 166 #[.val (.int c1), .val (.int i1), .val (.int c2), .val (.int i2), .val (.int fl), .val (.int k1), .val (.int k213), .val (.int j214), .val (.ref b15), .val (.ref b17), .val (.int ((31 * k1) + i1)), .val (.int ((31 * k213) + j214)), .val (.int ((31 * k1) + i1)), .val (.int (1 : Int32)), .val (.int sf22), .val (.int (if k1 = k213 ∧ i1 = j214 then (1 : Int32) else 0)), .val (.int (1 : Int32)), .unset] []))
              exact tail25 () (trivial)
        · skip
          by_cases hB0 : (if k1 = k213 ∧ i1 = j214 then (1 : Int32) else 0) = (0 : Int32)
          · skip
            refine own_back (fun t_ q_ => XS.ifYes X23.here hx rfl (pc0 := 137) (pc' := 147) rfl (hb hby at_137) rfl ((if0 _ _).trans (teq (hB0 : (if k1 = k213 ∧ i1 = j214 then (1 : Int32) else 0) = (0 : Int32))).1) (by decide) (by decide) q_) ?_
            show own_Gl _ _ _ _ (T23.setTop (mkF m 147 #[.val (.int c1), .val (.int i1), .val (.int c2), .val (.int i2), .val (.int fl), .val (.int k1), .val (.int k213), .val (.int j214), .val (.ref b15), .val (.ref b17), .val (.int ((31 * k1) + i1)), .val (.int ((31 * k213) + j214)), .val (.int ((31 * k1) + i1)), .val (.int (1 : Int32)), .val (.int sf22), .val (.int (if k1 = k213 ∧ i1 = j214 then (1 : Int32) else 0)), .unset, .unset] []))
            exact tail24 () (trivial)
          · skip
            refine own_back (fun t_ q_ => XS.ifNo X23.here hx rfl (hb hby at_137) rfl ((if0 _ _).trans (feq (hB0 : ¬ ((if k1 = k213 ∧ i1 = j214 then (1 : Int32) else 0) = (0 : Int32)))).1) q_) ?_
            show own_Gl _ _ _ _ (T23.setTop (mkF m 140 #[.val (.int c1), .val (.int i1), .val (.int c2), .val (.int i2), .val (.int fl), .val (.int k1), .val (.int k213), .val (.int j214), .val (.ref b15), .val (.ref b17), .val (.int ((31 * k1) + i1)), .val (.int ((31 * k213) + j214)), .val (.int ((31 * k1) + i1)), .val (.int (1 : Int32)), .val (.int sf22), .val (.int (if k1 = k213 ∧ i1 = j214 then (1 : Int32) else 0)), .unset, .unset] []))
            refine own_back (fun t_ q_ => XS.iload X23.here hx rfl (hb hby at_140) rfl q_) ?_
            show own_Gl _ _ _ _ (T23.setTop (mkF m 142 #[.val (.int c1), .val (.int i1), .val (.int c2), .val (.int i2), .val (.int fl), .val (.int k1), .val (.int k213), .val (.int j214), .val (.ref b15), .val (.ref b17), .val (.int ((31 * k1) + i1)), .val (.int ((31 * k213) + j214)), .val (.int ((31 * k1) + i1)), .val (.int (1 : Int32)), .val (.int sf22), .val (.int (if k1 = k213 ∧ i1 = j214 then (1 : Int32) else 0)), .unset, .unset] [(.int ((31 * k1) + i1))]))
            refine own_back (fun t_ q_ => XS.iload X23.here hx rfl (hb hby at_142) rfl q_) ?_
            show own_Gl _ _ _ _ (T23.setTop (mkF m 144 #[.val (.int c1), .val (.int i1), .val (.int c2), .val (.int i2), .val (.int fl), .val (.int k1), .val (.int k213), .val (.int j214), .val (.ref b15), .val (.ref b17), .val (.int ((31 * k1) + i1)), .val (.int ((31 * k213) + j214)), .val (.int ((31 * k1) + i1)), .val (.int (1 : Int32)), .val (.int sf22), .val (.int (if k1 = k213 ∧ i1 = j214 then (1 : Int32) else 0)), .unset, .unset] [(.int ((31 * k213) + j214)), (.int ((31 * k1) + i1))]))
            refine own_back (fun t_ q_ => XS.icmpNo X23.here hx rfl (hb hby at_144) rfl (teq (by by_cases q : k1 = k213 ∧ i1 = j214; rw [q.1, q.2]; rw [if_neg q] at hB0; exact absurd rfl hB0 : ((31 * k1) + i1) = ((31 * k213) + j214))).2 q_) ?_
            show own_Gl _ _ _ _ (T23.setTop (mkF m 147 #[.val (.int c1), .val (.int i1), .val (.int c2), .val (.int i2), .val (.int fl), .val (.int k1), .val (.int k213), .val (.int j214), .val (.ref b15), .val (.ref b17), .val (.int ((31 * k1) + i1)), .val (.int ((31 * k213) + j214)), .val (.int ((31 * k1) + i1)), .val (.int (1 : Int32)), .val (.int sf22), .val (.int (if k1 = k213 ∧ i1 = j214 then (1 : Int32) else 0)), .unset, .unset] []))
            exact tail24 () (trivial)
      · skip
        by_cases hp : k1 = k213
        · skip
          refine own_back (fun t_ q_ => XS.icmpNo X21.here hx rfl (hb hby at_110) rfl (teq (hp : k1 = k213)).2 q_) ?_
          show own_Gl _ _ _ _ (T21.setTop (mkF m 113 #[.val (.int c1), .val (.int i1), .val (.int c2), .val (.int i2), .val (.int fl), .val (.int k1), .val (.int k213), .val (.int j214), .val (.ref b15), .val (.ref b17), .val (.int ((31 * k1) + i1)), .val (.int ((31 * k213) + j214)), .val (.int ((31 * k1) + i1)), .val (.int (1 : Int32)), .unset, .unset, .unset, .unset] []))
          refine own_back (fun t_ q_ => XS.iloadN X21.here hx rfl (hb hby at_113) rfl q_) ?_
          show own_Gl _ _ _ _ (T21.setTop (mkF m 114 #[.val (.int c1), .val (.int i1), .val (.int c2), .val (.int i2), .val (.int fl), .val (.int k1), .val (.int k213), .val (.int j214), .val (.ref b15), .val (.ref b17), .val (.int ((31 * k1) + i1)), .val (.int ((31 * k213) + j214)), .val (.int ((31 * k1) + i1)), .val (.int (1 : Int32)), .unset, .unset, .unset, .unset] [(.int i1)]))
          refine own_back (fun t_ q_ => XS.iload X21.here hx rfl (hb hby at_114) rfl q_) ?_
          show own_Gl _ _ _ _ (T21.setTop (mkF m 116 #[.val (.int c1), .val (.int i1), .val (.int c2), .val (.int i2), .val (.int fl), .val (.int k1), .val (.int k213), .val (.int j214), .val (.ref b15), .val (.ref b17), .val (.int ((31 * k1) + i1)), .val (.int ((31 * k213) + j214)), .val (.int ((31 * k1) + i1)), .val (.int (1 : Int32)), .unset, .unset, .unset, .unset] [(.int j214), (.int i1)]))
          by_cases hq : i1 = j214
          · skip
            refine own_back (fun t_ q_ => XS.icmpNo X21.here hx rfl (hb hby at_116) rfl (teq (hq : i1 = j214)).2 q_) ?_
            show own_Gl _ _ _ _ (T21.setTop (mkF m 119 #[.val (.int c1), .val (.int i1), .val (.int c2), .val (.int i2), .val (.int fl), .val (.int k1), .val (.int k213), .val (.int j214), .val (.ref b15), .val (.ref b17), .val (.int ((31 * k1) + i1)), .val (.int ((31 * k213) + j214)), .val (.int ((31 * k1) + i1)), .val (.int (1 : Int32)), .unset, .unset, .unset, .unset] []))
            refine own_back (fun t_ q_ => XS.iconst X21.here hx rfl (hb hby at_119) q_) ?_
            show own_Gl _ _ _ _ (T21.setTop (mkF m 120 #[.val (.int c1), .val (.int i1), .val (.int c2), .val (.int i2), .val (.int fl), .val (.int k1), .val (.int k213), .val (.int j214), .val (.ref b15), .val (.ref b17), .val (.int ((31 * k1) + i1)), .val (.int ((31 * k213) + j214)), .val (.int ((31 * k1) + i1)), .val (.int (1 : Int32)), .unset, .unset, .unset, .unset] [(.int (1 : Int32))]))
            refine own_back (fun t_ q_ => XS.goto X21.here hx rfl (pc0 := 120) (pc' := 124) rfl (hb hby at_120) (by decide) (by decide) q_) ?_
            show own_Gl _ _ _ _ (T21.setTop (mkF m 124 #[.val (.int c1), .val (.int i1), .val (.int c2), .val (.int i2), .val (.int fl), .val (.int k1), .val (.int k213), .val (.int j214), .val (.ref b15), .val (.ref b17), .val (.int ((31 * k1) + i1)), .val (.int ((31 * k213) + j214)), .val (.int ((31 * k1) + i1)), .val (.int (1 : Int32)), .unset, .unset, .unset, .unset] [(.int (1 : Int32))]))
            exact tail22 1 (Or.inr ⟨rfl, hp, hq⟩)
          · skip
            refine own_back (fun t_ q_ => XS.icmpYes X21.here hx rfl (pc0 := 116) (pc' := 123) rfl (hb hby at_116) rfl (feq (hq : ¬ (i1 = j214))).2 (by decide) (by decide) q_) ?_
            show own_Gl _ _ _ _ (T21.setTop (mkF m 123 #[.val (.int c1), .val (.int i1), .val (.int c2), .val (.int i2), .val (.int fl), .val (.int k1), .val (.int k213), .val (.int j214), .val (.ref b15), .val (.ref b17), .val (.int ((31 * k1) + i1)), .val (.int ((31 * k213) + j214)), .val (.int ((31 * k1) + i1)), .val (.int (1 : Int32)), .unset, .unset, .unset, .unset] []))
            refine own_back (fun t_ q_ => XS.iconst X21.here hx rfl (hb hby at_123) q_) ?_
            show own_Gl _ _ _ _ (T21.setTop (mkF m 124 #[.val (.int c1), .val (.int i1), .val (.int c2), .val (.int i2), .val (.int fl), .val (.int k1), .val (.int k213), .val (.int j214), .val (.ref b15), .val (.ref b17), .val (.int ((31 * k1) + i1)), .val (.int ((31 * k213) + j214)), .val (.int ((31 * k1) + i1)), .val (.int (1 : Int32)), .unset, .unset, .unset, .unset] [(.int (0 : Int32))]))
            exact tail22 0 (Or.inl rfl)
        · skip
          refine own_back (fun t_ q_ => XS.icmpYes X21.here hx rfl (pc0 := 110) (pc' := 123) rfl (hb hby at_110) rfl (feq (hp : ¬ (k1 = k213))).2 (by decide) (by decide) q_) ?_
          show own_Gl _ _ _ _ (T21.setTop (mkF m 123 #[.val (.int c1), .val (.int i1), .val (.int c2), .val (.int i2), .val (.int fl), .val (.int k1), .val (.int k213), .val (.int j214), .val (.ref b15), .val (.ref b17), .val (.int ((31 * k1) + i1)), .val (.int ((31 * k213) + j214)), .val (.int ((31 * k1) + i1)), .val (.int (1 : Int32)), .unset, .unset, .unset, .unset] []))
          refine own_back (fun t_ q_ => XS.iconst X21.here hx rfl (hb hby at_123) q_) ?_
          show own_Gl _ _ _ _ (T21.setTop (mkF m 124 #[.val (.int c1), .val (.int i1), .val (.int c2), .val (.int i2), .val (.int fl), .val (.int k1), .val (.int k213), .val (.int j214), .val (.ref b15), .val (.ref b17), .val (.int ((31 * k1) + i1)), .val (.int ((31 * k213) + j214)), .val (.int ((31 * k1) + i1)), .val (.int (1 : Int32)), .unset, .unset, .unset, .unset] [(.int (0 : Int32))]))
          exact tail22 0 (Or.inl rfl)
    · skip
      by_cases hf : (fl &&& (2 : Int32)) = (0 : Int32)
      · skip
        refine own_back (fun t_ q_ => XS.ifYes X13.here hx rfl (pc0 := 36) (pc' := 43) rfl (hb hby at_36) rfl ((if0 _ _).trans (teq (hf : (fl &&& (2 : Int32)) = (0 : Int32))).1) (by decide) (by decide) q_) ?_
        show own_Gl _ _ _ _ (T13.setTop (mkF m 43 #[.val (.int c1), .val (.int i1), .val (.int c2), .val (.int i2), .val (.int fl), .val (.int k1), .val (.int k213), .unset, .unset, .unset, .unset, .unset, .unset, .unset, .unset, .unset, .unset, .unset] []))
        refine own_back (fun t_ q_ => XS.iloadN X13.here hx rfl (hb hby at_43) rfl q_) ?_
        show own_Gl _ _ _ _ (T13.setTop (mkF m 44 #[.val (.int c1), .val (.int i1), .val (.int c2), .val (.int i2), .val (.int fl), .val (.int k1), .val (.int k213), .unset, .unset, .unset, .unset, .unset, .unset, .unset, .unset, .unset, .unset, .unset] [(.int i2)]))
        exact tail14 i2 (trivial)
      · skip
        refine own_back (fun t_ q_ => XS.ifNo X13.here hx rfl (hb hby at_36) rfl ((if0 _ _).trans (feq (hf : ¬ ((fl &&& (2 : Int32)) = (0 : Int32)))).1) q_) ?_
        show own_Gl _ _ _ _ (T13.setTop (mkF m 39 #[.val (.int c1), .val (.int i1), .val (.int c2), .val (.int i2), .val (.int fl), .val (.int k1), .val (.int k213), .unset, .unset, .unset, .unset, .unset, .unset, .unset, .unset, .unset, .unset, .unset] []))
        refine own_back (fun t_ q_ => XS.iloadN X13.here hx rfl (hb hby at_39) rfl q_) ?_
        show own_Gl _ _ _ _ (T13.setTop (mkF m 40 #[.val (.int c1), .val (.int i1), .val (.int c2), .val (.int i2), .val (.int fl), .val (.int k1), .val (.int k213), .unset, .unset, .unset, .unset, .unset, .unset, .unset, .unset, .unset, .unset, .unset] [(.int i1)]))
        refine own_back (fun t_ q_ => XS.goto X13.here hx rfl (pc0 := 40) (pc' := 44) rfl (hb hby at_40) (by decide) (by decide) q_) ?_
        show own_Gl _ _ _ _ (T13.setTop (mkF m 44 #[.val (.int c1), .val (.int i1), .val (.int c2), .val (.int i2), .val (.int fl), .val (.int k1), .val (.int k213), .unset, .unset, .unset, .unset, .unset, .unset, .unset, .unset, .unset, .unset, .unset] [(.int i1)]))
        exact tail14 i1 (trivial)
  · skip
    by_cases hg : (fl &&& (1 : Int32)) = (0 : Int32)
    · skip
      refine own_back (fun t_ q_ => XS.ifYes X12.here hx rfl (pc0 := 14) (pc' := 22) rfl (hb hby at_14) rfl ((if0 _ _).trans (teq (hg : (fl &&& (1 : Int32)) = (0 : Int32))).1) (by decide) (by decide) q_) ?_
      show own_Gl _ _ _ _ (T12.setTop (mkF m 22 #[.val (.int c1), .val (.int i1), .val (.int c2), .val (.int i2), .val (.int fl), .val (.int k1), .unset, .unset, .unset, .unset, .unset, .unset, .unset, .unset, .unset, .unset, .unset, .unset] []))
      refine own_back (fun t_ q_ => XS.iconst X12.here hx rfl (hb hby at_22) q_) ?_
      show own_Gl _ _ _ _ (T12.setTop (mkF m 23 #[.val (.int c1), .val (.int i1), .val (.int c2), .val (.int i2), .val (.int fl), .val (.int k1), .unset, .unset, .unset, .unset, .unset, .unset, .unset, .unset, .unset, .unset, .unset, .unset] [(.int (1 : Int32))]))
      refine own_back (fun t_ q_ => XS.iloadN X12.here hx rfl (hb hby at_23) rfl q_) ?_
      show own_Gl _ _ _ _ (T12.setTop (mkF m 24 #[.val (.int c1), .val (.int i1), .val (.int c2), .val (.int i2), .val (.int fl), .val (.int k1), .unset, .unset, .unset, .unset, .unset, .unset, .unset, .unset, .unset, .unset, .unset, .unset] [(.int c2), (.int (1 : Int32))]))
      refine own_back (fun t_ q_ => X12.ldcInt hx hown (mvT hZ (hw _ (List.mem_of_getElem? (i := 0) rfl))) (g := (mkF m 24 #[.val (.int c1), .val (.int i1), .val (.int c2), .val (.int i2), .val (.int fl), .val (.int k1), .unset, .unset, .unset, .unset, .unset, .unset, .unset, .unset, .unset, .unset, .unset, .unset] [(.int c2), (.int (1 : Int32))])) rfl (hb hby at_24) t_ q_) ?_
      show own_Gl _ _ _ _ (T12.setTop (mkF m 26 #[.val (.int c1), .val (.int i1), .val (.int c2), .val (.int i2), .val (.int fl), .val (.int k1), .unset, .unset, .unset, .unset, .unset, .unset, .unset, .unset, .unset, .unset, .unset, .unset] [(.int (2147483647 : Int32)), (.int c2), (.int (1 : Int32))]))
      refine own_back (fun t_ q_ => XS.iand X12.here hx rfl (hb hby at_26) rfl q_) ?_
      show own_Gl _ _ _ _ (T12.setTop (mkF m 27 #[.val (.int c1), .val (.int i1), .val (.int c2), .val (.int i2), .val (.int fl), .val (.int k1), .unset, .unset, .unset, .unset, .unset, .unset, .unset, .unset, .unset, .unset, .unset, .unset] [(.int (c2 &&& (2147483647 : Int32))), (.int (1 : Int32))]))
      obtain ⟨_, _, ⟨T26, L26, k26, n26⟩, -, X26, ⟨Lc26, hQ26, l26, y26, z26⟩, st26⟩ := Jvm.LawKit.callS X12 hx (y := (⟨"java/lang/Math", "max", "(II)I"⟩ : MethodName)) hown (mvT hZ (hw _ (List.mem_of_getElem? (i := 1) rfl))) (mvT hZ (hw _ (List.mem_of_getElem? (i := 2) rfl))) (mvT hZ (hw _ (List.mem_of_getElem? (i := 3) rfl))) (mvT hZ (hw _ (List.mem_of_getElem? (i := 4) rfl))) (by decide) (backOf (W := 0) (rm1 l Z a0 hw [] 1 (c2 &&& 2147483647) h0 n0 Z0) hZ (hw _ (List.mem_of_getElem? (i := 4) rfl)) (hw _ (List.mem_of_getElem? (i := 3) rfl)) (by decide) (by decide)) (g := (mkF m 27 #[.val (.int c1), .val (.int i1), .val (.int c2), .val (.int i2), .val (.int fl), .val (.int k1), .unset, .unset, .unset, .unset, .unset, .unset, .unset, .unset, .unset, .unset, .unset, .unset] [(.int (c2 &&& (2147483647 : Int32))), (.int (1 : Int32))])) rfl (by rw [hml]; rfl) (argsL := [(.int (1 : Int32)), (.int (c2 &&& (2147483647 : Int32)))]) (rest := []) (lenOf pd_1 rfl) rfl (by show 2 * 0 + _ ≤ _; exact Nat.le_of_eq rfl) (hb hby at_27) (fun _ _ => ⟨rfl, e12, (by decide : 0 + 0 ≤ _), (by decide : 0 + 0 ≤ _)⟩)
      dsimp only [Pt.U, Pt.locs, Pt.cells, Pt.slots] at X26 l26 y26 z26 st26 hQ26
      subst l26 y26 z26
      obtain ⟨rfl, M26, e26⟩ := hQ26
      have N26 := Fr.app N12 M26
      refine own_back st26 ?_
      show own_Gl _ _ _ _ (T26.setTop (mkF m 30 #[.val (.int c1), .val (.int i1), .val (.int c2), .val (.int i2), .val (.int fl), .val (.int k1), .unset, .unset, .unset, .unset, .unset, .unset, .unset, .unset, .unset, .unset, .unset, .unset] [(.int (if (1 : Int32) < (c2 &&& 2147483647) then (c2 &&& 2147483647) else 1))]))
      exact tail13 (T26, (if (1 : Int32) < (c2 &&& 2147483647) then (c2 &&& 2147483647) else 1)) ⟨⟨_, X26, N26⟩, e26, own_max1 _⟩
    · skip
      refine own_back (fun t_ q_ => XS.ifNo X12.here hx rfl (hb hby at_14) rfl ((if0 _ _).trans (feq (hg : ¬ ((fl &&& (1 : Int32)) = (0 : Int32)))).1) q_) ?_
      show own_Gl _ _ _ _ (T12.setTop (mkF m 17 #[.val (.int c1), .val (.int i1), .val (.int c2), .val (.int i2), .val (.int fl), .val (.int k1), .unset, .unset, .unset, .unset, .unset, .unset, .unset, .unset, .unset, .unset, .unset, .unset] []))
      refine own_back (fun t_ q_ => XS.iload X12.here hx rfl (hb hby at_17) rfl q_) ?_
      show own_Gl _ _ _ _ (T12.setTop (mkF m 19 #[.val (.int c1), .val (.int i1), .val (.int c2), .val (.int i2), .val (.int fl), .val (.int k1), .unset, .unset, .unset, .unset, .unset, .unset, .unset, .unset, .unset, .unset, .unset, .unset] [(.int k1)]))
      refine own_back (fun t_ q_ => XS.goto X12.here hx rfl (pc0 := 19) (pc' := 30) rfl (hb hby at_19) (by decide) (by decide) q_) ?_
      show own_Gl _ _ _ _ (T12.setTop (mkF m 30 #[.val (.int c1), .val (.int i1), .val (.int c2), .val (.int i2), .val (.int fl), .val (.int k1), .unset, .unset, .unset, .unset, .unset, .unset, .unset, .unset, .unset, .unset, .unset, .unset] [(.int k1)]))
      exact tail13 (T12, k1) ⟨⟨_, X12, N12⟩, e12, hk1'⟩
set_option maxRecDepth 65536 in
set_option maxHeartbeats 40000000 in
theorem comes_1 {Post : Tables → Env → Array Value → State → Outcome → State → Prop} (hpost : ∀ tb e args s v u, (limb_1_1.after args s (.returned v) u = true ∧ limb_1_2.after args s (.returned v) u = true ∧ True) → FrameEnd s (.returned v) u (Jvm.fieldLocs frame_1_writes args s ++ Jvm.arrayLocs frame_1_arrays args s ++ Jvm.staticLocs frame_1_statics s) 16 128 → Post tb e args s (.returned v) u) :
    ArmFor flags0 classFile x code maxLocals ret World_1 tables_1 room_1 Calls_1 rest_1 Pre_1 Post := by
  intro l hfl _ _ p e ha hc hk s m args below hf hA hF happ hP
  obtain ⟨hcalls, hrest, hpre⟩ := hP
  obtain ⟨-, -, -, hnamed, -, -, -, hat⟩ := (Spec.applies_iff hf).mp happ
  obtain ⟨hg, hn⟩ := and_e (Cond.before_iff.mp (show (Jvm.Cond.and given_1 narrow_1).before args s = true from hpre))
  obtain ⟨h1, hg1⟩ := and_e hg
  obtain ⟨w0, w1, w2, w3, w4, rfl⟩ : ∃ w0 w1 w2 w3 w4 : Value, args = #[w0, w1, w2, w3, w4] := by
    have hs : args.size = 5 := by simpa [Cond.value, given_1] using h1
    obtain ⟨L⟩ := args
    match L, hs with
    | [w0, w1, w2, w3, w4], _ => exact ⟨w0, w1, w2, w3, w4, rfl⟩
  have hw := fun d (hd : d ∈ tables_1) => atoms_spec (ws := Jvm.Cond.code x code maxLocals ret :: tables_1) hat d (List.mem_cons_of_mem _ hd)
  obtain ⟨hk0, hg2⟩ := and_e hg1
  obtain ⟨i0, ei0⟩ := is_v hk0
  obtain rfl : w0 = (.int i0) := Option.some.inj ei0
  obtain ⟨hk1, hg3⟩ := and_e hg2
  obtain ⟨i1, ei1⟩ := is_v hk1
  obtain rfl : w1 = (.int i1) := Option.some.inj ei1
  obtain ⟨hk2, hg4⟩ := and_e hg3
  obtain ⟨i2, ei2⟩ := is_v hk2
  obtain rfl : w2 = (.int i2) := Option.some.inj ei2
  obtain ⟨hk3, hg5⟩ := and_e hg4
  obtain ⟨i3, ei3⟩ := is_v hk3
  obtain rfl : w3 = (.int i3) := Option.some.inj ei3
  obtain ⟨i4, ei4⟩ := is_v hg5
  obtain rfl : w4 = (.int i4) := Option.some.inj ei4
  obtain ⟨n, o, h1, h2, h3, _, L, rfl, ⟨rfl, N⟩, hq⟩ := rm0 l s _ hw tables_1 i0 i1 i2 i3 i4 s.heap s.heap.size (Nat.le_refl _) p e ha hc hk s m _ below hf ((Spec.applies_iff_loose hf).mp happ).1 ⟨rfl, State.Warmed39.refl s, rfl⟩ trivial
  refine ⟨n, _, h1, h2, h3, hpost _ _ _ _ _ _ ⟨Cond.after_iff.mpr rfl, Cond.after_iff.mpr (eq_i res_at (Term.int_eval (1)) rfl), trivial⟩ ⟨hq.1, hq.2.1, (hq.2.2.sift fun y hy => Or.inr (N y hy)).mono (by decide) (by decide)⟩⟩
theorem main_1_1 : Claimed_1_1 := comes_1 fun _ _ _ _ _ _ h hF => ⟨h.1, hF⟩
theorem main_1_2 : Claimed_1_2 := comes_1 fun _ _ _ _ _ _ h hF => ⟨h.2.1, hF⟩
end Jvm.Pilot.@@N@@
namespace Jvm.Pilot.@@N@@
open Jvm Jvm.ClassFile Sem Op Lib Jvm.Free Jvm.Stand Jvm.Pilot.@@N@@.Jvm.D
/-! MADE BY PROGRAM (witnessworld.py) out of the Statement's table words and the real class files: 10 classes; the members and pool entries that the words name. The judged class is class 1, her method 1. -/
namespace start1
open Jvm.ClassFile
def u (s : String) : CpInfo := .utf8 (stringToUtf16 s)
/-- a pool by its gaps: so many unusable entries, then the entry; so many at the end -/
def gap : Nat → List CpInfo → List CpInfo
  | 0, r => r
  | n + 1, r => .unusable :: gap n r
def poolList (es : List (Nat × CpInfo)) (last : Nat) : List CpInfo := es.foldr (fun e r => gap e.1 (e.2 :: r)) (gap last [])
def pool (es : List (Nat × CpInfo)) (last : Nat) : Array CpInfo := ⟨poolList es last⟩
def fileOf (pool : Array CpInfo) (this : Nat) (attrs : Array Attribute := #[]) (ms : Array MethodInfo := #[]) (fl : Nat := 33) (sup : Nat := 0) (ifs : Array Nat := #[]) (fds : Array FieldInfo := #[]) : ClassFile where
  minorVersion := 0
  majorVersion := 65
  constantPool := pool
  accessFlags := fl
  thisClass := this
  superClass := sup
  interfaces := ifs
  fields := fds
  methods := ms
  attributes := attrs
def plain (name : String) (sup : Option ClassId) : Class where
  name := name
  kind := .ordinary
  loader := none
  accessFlags := 33
  super := sup
  interfaces := #[]
  cf := none
  fields := #[]
  methods := #[]
  instanceTypes := #[]
  staticTypes := #[]
  resolved := #[]
  callSites := []
  init := .initialized
  statics := none
  mirror := none

def pool0 : Array CpInfo := pool [(5, u "<init>"), (0, u "()V"), (1, .class_ 10), (1, u "java/lang/Object")] 113

def k0c0 : Code := { maxStack := 0, maxLocals := 1, code := object_method_1_code, exceptionTable := #[], attributes := #[] }
def k0m0 : Method := { name := "<init>", desc := "()V", sig := { parameters := [], returnType := none }, accessFlags := 1, code := some k0c0 }
/-- java/lang/Object -/
def k0 : Class := { plain "java/lang/Object" none with
  accessFlags := 33
  interfaces := #[]
  cf := some (fileOf pool0 8 #[] #[{ accessFlags := 1, nameIndex := 5, descriptorIndex := 6, attributes := #[] }] 33 0 #[] #[])
  fields := #[]
  methods := #[k0m0]
  instanceTypes := #[]
  staticTypes := #[]
  resolved := Array.replicate 124 none
  statics := none }

def pool1 : Array CpInfo := pool [(2, .class_ 4), (1, u "java/lang/Object"), (0, u "<init>"), (0, u "()V"), (0, .integer 2147483647), (0, .methodref 9 10), (0, .class_ 11), (0, .nameAndType 12 13), (0, u "java/lang/Math"), (0, u "max"), (0, u "(II)I"), (0, .class_ 15), (0, u "com/example/oporto/oporto/ElectionIndex"), (0, .methodref 14 17), (0, .nameAndType 5 18), (0, u "(II)V"), (0, .methodref 14 20), (0, .nameAndType 21 22), (0, u "hashCode"), (0, u "()I"), (0, .methodref 14 24), (0, .nameAndType 25 26), (0, u "equals"), (0, u "(Ljava/lang/Object;)Z"), (0, .class_ 28), (0, u "com/example/oporto/oporto/ElectionIndexHashCodePinLaw"), (2, u "law"), (0, u "(IIIII)Z")] 3

def k1m0 : Method := { name := "<init>", desc := "()V", sig := { parameters := [], returnType := none }, accessFlags := 1, code := none }
def k1c1 : Code := { maxStack := 4, maxLocals := 18, code := code, exceptionTable := #[], attributes := #[] }
def k1m1 : Method := { name := "law", desc := "(IIIII)Z", sig := { parameters := [.int, .int, .int, .int, .int], returnType := some .boolean }, accessFlags := 9, code := some k1c1 }
/-- com/example/oporto/oporto/ElectionIndexHashCodePinLaw -/
def k1 : Class := { plain "com/example/oporto/oporto/ElectionIndexHashCodePinLaw" (some 0) with
  accessFlags := 49
  interfaces := #[]
  cf := some (fileOf pool1 27 #[] #[{ accessFlags := 1, nameIndex := 5, descriptorIndex := 6, attributes := #[] }, { accessFlags := 9, nameIndex := 31, descriptorIndex := 32, attributes := #[] }] 49 2 #[] #[])
  fields := #[]
  methods := #[k1m0, k1m1]
  instanceTypes := #[]
  staticTypes := #[]
  resolved := Array.replicate 36 none
  statics := none }

def pool2 : Array CpInfo := pool [(1, .class_ 2), (0, u "java/lang/Math"), (1, .class_ 6), (1, u "java/lang/Object"), (0, u "<init>"), (0, u "()V"), (89, .class_ 100), (1, u "java/lang/Math$RandomNumberGeneratorHolder"), (71, u "negativeZeroFloatBits"), (0, u "J"), (2, u "negativeZeroDoubleBits"), (21, u "max"), (46, u "$assertionsDisabled"), (0, u "Z"), (88, u "(II)I"), (2, u "twoToTheDoubleScaleDown"), (0, u "D"), (4, u "twoToTheDoubleScaleUp"), (9, u "E"), (3, u "PI"), (2, u "TAU"), (2, u "DEGREES_TO_RADIANS"), (0, u "RADIANS_TO_DEGREES")] 94

def k2m0 : Method := { name := "<init>", desc := "()V", sig := { parameters := [], returnType := none }, accessFlags := 2, code := none }
def k2c1 : Code := { maxStack := 2, maxLocals := 2, code := jdk_29_method_65_code, exceptionTable := #[], attributes := #[] }
def k2m1 : Method := { name := "max", desc := "(II)I", sig := { parameters := [.int, .int], returnType := some .int }, accessFlags := 9, code := some k2c1 }
/-- java/lang/Math -/
def k2 : Class := { plain "java/lang/Math" (some 0) with
  accessFlags := 49
  interfaces := #[]
  cf := some (fileOf pool2 1 #[.nestMembers #[98]] #[{ accessFlags := 2, nameIndex := 7, descriptorIndex := 8, attributes := #[] }, { accessFlags := 9, nameIndex := 198, descriptorIndex := 335, attributes := #[] }] 49 4 #[] #[{ accessFlags := 25, nameIndex := 354, descriptorIndex := 339, attributes := #[] }, { accessFlags := 25, nameIndex := 358, descriptorIndex := 339, attributes := #[] }, { accessFlags := 25, nameIndex := 361, descriptorIndex := 339, attributes := #[] }, { accessFlags := 26, nameIndex := 364, descriptorIndex := 339, attributes := #[] }, { accessFlags := 26, nameIndex := 365, descriptorIndex := 339, attributes := #[] }, { accessFlags := 26, nameIndex := 172, descriptorIndex := 173, attributes := #[] }, { accessFlags := 26, nameIndex := 176, descriptorIndex := 173, attributes := #[] }, { accessFlags := 8, nameIndex := 344, descriptorIndex := 339, attributes := #[] }, { accessFlags := 8, nameIndex := 338, descriptorIndex := 339, attributes := #[] }, { accessFlags := 4120, nameIndex := 245, descriptorIndex := 246, attributes := #[] }])
  fields := #[{ name := "E", type := .double, accessFlags := 25, slot := 0, constantValue := 0 }, { name := "PI", type := .double, accessFlags := 25, slot := 1, constantValue := 0 }, { name := "TAU", type := .double, accessFlags := 25, slot := 2, constantValue := 0 }, { name := "DEGREES_TO_RADIANS", type := .double, accessFlags := 26, slot := 3, constantValue := 0 }, { name := "RADIANS_TO_DEGREES", type := .double, accessFlags := 26, slot := 4, constantValue := 0 }, { name := "negativeZeroFloatBits", type := .long, accessFlags := 26, slot := 5, constantValue := 0 }, { name := "negativeZeroDoubleBits", type := .long, accessFlags := 26, slot := 6, constantValue := 0 }, { name := "twoToTheDoubleScaleUp", type := .double, accessFlags := 8, slot := 7, constantValue := 0 }, { name := "twoToTheDoubleScaleDown", type := .double, accessFlags := 8, slot := 8, constantValue := 0 }, { name := "$assertionsDisabled", type := .boolean, accessFlags := 4120, slot := 9, constantValue := 0 }]
  methods := #[k2m0, k2m1]
  instanceTypes := #[]
  staticTypes := #[.double, .double, .double, .double, .double, .long, .long, .double, .double, .boolean]
  resolved := Array.replicate 460 none
  statics := none }

def pool3 : Array CpInfo := pool [(3, .methodref 4 5), (0, .class_ 6), (0, .nameAndType 7 8), (0, u "java/lang/Object"), (0, u "<init>"), (0, u "()V"), (9, .fieldref 19 20), (0, .class_ 21), (0, .nameAndType 22 23), (0, u "com/example/oporto/oporto/ElectionIndex"), (0, u "count"), (0, u "I"), (0, .fieldref 19 25), (0, .nameAndType 26 23), (0, u "initiator"), (3, u "(II)V"), (10, u "LAST_COUNT"), (5, u "()I"), (5, u "equals"), (0, u "(Ljava/lang/Object;)Z"), (0, u "hashCode")] 21

def k3c0 : Code := { maxStack := 3, maxLocals := 3, code := prog_4_method_1_code, exceptionTable := #[], attributes := #[] }
def k3m0 : Method := { name := "<init>", desc := "(II)V", sig := { parameters := [.int, .int], returnType := none }, accessFlags := 1, code := some k3c0 }
def k3c1 : Code := { maxStack := 2, maxLocals := 3, code := prog_4_method_6_code, exceptionTable := #[], attributes := #[] }
def k3m1 : Method := { name := "equals", desc := "(Ljava/lang/Object;)Z", sig := { parameters := [(.object "java/lang/Object")], returnType := some .boolean }, accessFlags := 1, code := some k3c1 }
def k3c2 : Code := { maxStack := 2, maxLocals := 1, code := prog_4_method_7_code, exceptionTable := #[], attributes := #[] }
def k3m2 : Method := { name := "hashCode", desc := "()I", sig := { parameters := [], returnType := some .int }, accessFlags := 1, code := some k3c2 }
/-- com/example/oporto/oporto/ElectionIndex -/
def k3 : Class := { plain "com/example/oporto/oporto/ElectionIndex" (some 0) with
  accessFlags := 33
  interfaces := #[]
  cf := some (fileOf pool3 19 #[] #[{ accessFlags := 1, nameIndex := 7, descriptorIndex := 30, attributes := #[] }, { accessFlags := 1, nameIndex := 53, descriptorIndex := 54, attributes := #[] }, { accessFlags := 1, nameIndex := 55, descriptorIndex := 47, attributes := #[] }] 33 4 #[] #[{ accessFlags := 25, nameIndex := 41, descriptorIndex := 23, attributes := #[] }, { accessFlags := 18, nameIndex := 22, descriptorIndex := 23, attributes := #[] }, { accessFlags := 18, nameIndex := 26, descriptorIndex := 23, attributes := #[] }])
  fields := #[{ name := "LAST_COUNT", type := .int, accessFlags := 25, slot := 0, constantValue := 0 }, { name := "count", type := .int, accessFlags := 18, slot := 0, constantValue := 0 }, { name := "initiator", type := .int, accessFlags := 18, slot := 1, constantValue := 0 }]
  methods := #[k3m0, k3m1, k3m2]
  instanceTypes := #[.int, .int]
  staticTypes := #[.int]
  resolved := Array.replicate 77 none
  statics := none }

def pool4 : Array CpInfo := pool [(1, u "java/lang/Cloneable"), (0, .class_ 1), (0, u "java/lang/Object"), (0, .class_ 3)] 3

/-- java/lang/Cloneable -/
def k4 : Class := { plain "java/lang/Cloneable" (some 0) with
  accessFlags := 1537
  interfaces := #[]
  cf := some (fileOf pool4 2 #[] #[] 1537 4 #[] #[])
  fields := #[]
  methods := #[]
  instanceTypes := #[]
  staticTypes := #[]
  resolved := Array.replicate 8 none
  statics := none }

def pool5 : Array CpInfo := pool [(1, u "java/io/Serializable"), (0, .class_ 1), (0, u "java/lang/Object"), (0, .class_ 3)] 3

/-- java/io/Serializable -/
def k5 : Class := { plain "java/io/Serializable" (some 0) with
  accessFlags := 1537
  interfaces := #[]
  cf := some (fileOf pool5 2 #[] #[] 1537 4 #[] #[])
  fields := #[]
  methods := #[]
  instanceTypes := #[]
  staticTypes := #[]
  resolved := Array.replicate 8 none
  statics := none }

/-- the primitive byte -/
def k6 : Class := { plain "byte" none with kind := .primitive 'B', accessFlags := 0x411 }
/-- [B -/
def k7 : Class := { plain "[B" (some 0) with kind := .array 6 .byte, interfaces := #[4, 5], accessFlags := 1041 }

/-- the primitive int -/
def k8 : Class := { plain "int" none with kind := .primitive 'I', accessFlags := 0x411 }
/-- [I -/
def k9 : Class := { plain "[I" (some 0) with kind := .array 8 .int, interfaces := #[4, 5], accessFlags := 1041 }

def heap : Heap := #[]
def classes : Array Class := #[k0, k1, k2, k3, k4, k5, k6, k7, k8, k9]
def interned : List (Array UInt16 × Addr) := []
def slotsUsed : Nat := 0
def theMethod : MethodId := ⟨1, 1⟩
def args0 : Array Value := #[.int 5, .int 7, .int 9, .int 11, .int 1]
def aboutOver (below : List Frame) : State where
  vm := { classes := classes, interned := interned.toArray }
  heap := heap
  slotsUsed := slotsUsed
  threads := #[{ frames := .invoking theMethod args0 :: below }]
def below0 : List Frame := [.native { method := ⟨0, 0⟩, args := #[] }]
def about1 : State := aboutOver below0
def p0 : Program := .bare "" "" ""
def e0 : Env := launch0.env 0 0 0
theorem w_frames : about1.frames = Frame.invoking theMethod args0 :: below0 := rfl
set_option maxRecDepth 65536 in
theorem w_args : argsFit about1.vm theMethod args0 = true := by decide +kernel
set_option maxRecDepth 65536 in
theorem w_heap : heapFits about1 = true := by decide +kernel
set_option maxRecDepth 65536 in
theorem w_runnable : about1.curStatus? = some .runnable := by decide +kernel
set_option maxRecDepth 65536 in
theorem w_alone : about1.alone = true := by decide +kernel
set_option maxRecDepth 65536 in
theorem w_named : about1.methodNamed? x = some theMethod := by decide +kernel
set_option maxRecDepth 65536 in
theorem w_hears : about1.hears theMethod below0 = true := by decide +kernel
set_option maxRecDepth 65536 in
theorem w_ripe : about1.ripe theMethod args0 below0 = true := by decide +kernel
theorem w_running : about1.status = .running := rfl
set_option maxRecDepth 65536 in
theorem w_room : about1.hasRoom e0.platform room_1 = true :=
  launch0.hasRoom_least _ room_1 (by decide +kernel) (by decide +kernel) (by decide +kernel) (by decide +kernel) (by decide +kernel) (by decide +kernel)
theorem allAtoms_all (ts : List Jvm.Cond) (a : Array Jvm.Value) (st : Jvm.State) : (allAtoms ts).before a st = ts.all (fun c => c.before a st) := by
  induction ts with
  | nil => rfl
  | cons c t ih =>
    show (Jvm.Cond.and c (allAtoms t)).before a st = _
    rw [Jvm.Cond.before_and, ih, List.all_cons]
def words1 : List Jvm.Cond := Jvm.Cond.code x code maxLocals ret :: tables_1
/-- a 'code' word, met by the world's own term for the bytes: nothing is compared byte by byte -/
theorem code_word {y : MethodName} {bytes : ByteArray} {mx : Nat} {rt : Option FieldType} {a : Array Value} {s : State} {m : MethodId} {meth : Method} {c : Code} (h1 : s.methodNamed? y = some m) (h2 : s.vm.method? m = some meth) (h3 : meth.code = some c) (h4 : c.code = bytes)
    (h5 : (c.maxLocals == mx && c.exceptionTable.isEmpty && decide (c.maxStack ≤ mostOperands) && decide (meth.sig.returnType = rt) && !meth.locks && decide (parseMethodDescriptor y.desc = some meth.sig)) = true) : (Jvm.Cond.code y bytes mx rt).before a s = true := by
  simp only [Bool.and_eq_true, beq_iff_eq, Bool.not_eq_true', decide_eq_true_eq] at h5
  obtain ⟨⟨⟨⟨⟨g1, g2⟩, g3⟩, g4⟩, g5⟩, g6⟩ := h5
  simp [Cond.before, Cond.holds, Cond.value, h1, h2, h3, h4, g1, g2, g3, g4, g5, g6]
def isCode : Jvm.Cond → Bool
  | .code _ _ _ _ => true
  | _ => false
theorem all_split {L : List Jvm.Cond} {P : Jvm.Cond → Bool} (h1 : L.all (fun c => isCode c || P c) = true) (h2 : ∀ c ∈ L.filter isCode, P c = true) : L.all P = true := by
  refine List.all_eq_true.mpr fun c hc => ?_
  have h := List.all_eq_true.mp h1 c hc
  rcases Bool.eq_false_or_eq_true (isCode c) with hi | hi
  · exact h2 c (List.mem_filter.mpr ⟨hc, hi⟩)
  · simpa [hi] using h
set_option maxRecDepth 65536 in
theorem w_c0 : (Jvm.Cond.code x code maxLocals ret).before args0 about1 = true := code_word (m := ⟨1, 1⟩) (meth := k1m1) (c := k1c1) (by decide +kernel) rfl rfl rfl (by decide +kernel)
set_option maxRecDepth 65536 in
theorem w_c1 : (Jvm.Cond.code ({ cls := "java/lang/Math", name := "max", desc := "(II)I" } : Jvm.MethodName) jdk_29_method_65_code (2 : Nat) (Option.some Jvm.ClassFile.FieldType.int)).before args0 about1 = true := code_word (m := ⟨2, 1⟩) (meth := k2m1) (c := k2c1) (by decide +kernel) rfl rfl rfl (by decide +kernel)
set_option maxRecDepth 65536 in
theorem w_c2 : (Jvm.Cond.code ({ cls := "com/example/oporto/oporto/ElectionIndex", name := "<init>", desc := "(II)V" } : Jvm.MethodName) prog_4_method_1_code (3 : Nat) (Option.none : Option Jvm.ClassFile.FieldType)).before args0 about1 = true := code_word (m := ⟨3, 0⟩) (meth := k3m0) (c := k3c0) (by decide +kernel) rfl rfl rfl (by decide +kernel)
set_option maxRecDepth 65536 in
theorem w_c3 : (Jvm.Cond.code ({ cls := "java/lang/Object", name := "<init>", desc := "()V" } : Jvm.MethodName) object_method_1_code (1 : Nat) (Option.none : Option Jvm.ClassFile.FieldType)).before args0 about1 = true := code_word (m := ⟨0, 0⟩) (meth := k0m0) (c := k0c0) (by decide +kernel) rfl rfl rfl (by decide +kernel)
set_option maxRecDepth 65536 in
theorem w_c4 : (Jvm.Cond.code ({ cls := "com/example/oporto/oporto/ElectionIndex", name := "hashCode", desc := "()I" } : Jvm.MethodName) prog_4_method_7_code (1 : Nat) (Option.some Jvm.ClassFile.FieldType.int)).before args0 about1 = true := code_word (m := ⟨3, 2⟩) (meth := k3m2) (c := k3c2) (by decide +kernel) rfl rfl rfl (by decide +kernel)
set_option maxRecDepth 65536 in
theorem w_c5 : (Jvm.Cond.code ({ cls := "com/example/oporto/oporto/ElectionIndex", name := "equals", desc := "(Ljava/lang/Object;)Z" } : Jvm.MethodName) prog_4_method_6_code (3 : Nat) (Option.some Jvm.ClassFile.FieldType.boolean)).before args0 about1 = true := code_word (m := ⟨3, 1⟩) (meth := k3m1) (c := k3c1) (by decide +kernel) rfl rfl rfl (by decide +kernel)
def codes1 : List Jvm.Cond := [Jvm.Cond.code x code maxLocals ret, Jvm.Cond.code ({ cls := "java/lang/Math", name := "max", desc := "(II)I" } : Jvm.MethodName) jdk_29_method_65_code (2 : Nat) (Option.some Jvm.ClassFile.FieldType.int), Jvm.Cond.code ({ cls := "com/example/oporto/oporto/ElectionIndex", name := "<init>", desc := "(II)V" } : Jvm.MethodName) prog_4_method_1_code (3 : Nat) (Option.none : Option Jvm.ClassFile.FieldType), Jvm.Cond.code ({ cls := "java/lang/Object", name := "<init>", desc := "()V" } : Jvm.MethodName) object_method_1_code (1 : Nat) (Option.none : Option Jvm.ClassFile.FieldType), Jvm.Cond.code ({ cls := "com/example/oporto/oporto/ElectionIndex", name := "hashCode", desc := "()I" } : Jvm.MethodName) prog_4_method_7_code (1 : Nat) (Option.some Jvm.ClassFile.FieldType.int), Jvm.Cond.code ({ cls := "com/example/oporto/oporto/ElectionIndex", name := "equals", desc := "(Ljava/lang/Object;)Z" } : Jvm.MethodName) prog_4_method_6_code (3 : Nat) (Option.some Jvm.ClassFile.FieldType.boolean)]
set_option maxRecDepth 65536 in
theorem codes_eq : words1.filter isCode = codes1 := rfl
theorem w_codes : ∀ c ∈ words1.filter isCode, c.before args0 about1 = true := by
  rw [codes_eq]
  intro c hc
  simp only [codes1, List.mem_cons, List.not_mem_nil, or_false] at hc
  rcases hc with rfl | rfl | rfl | rfl | rfl | rfl
  · exact w_c0
  · exact w_c1
  · exact w_c2
  · exact w_c3
  · exact w_c4
  · exact w_c5
set_option maxRecDepth 65536 in
theorem w_t1 : (words1.take 24).all (fun c => isCode c || c.before args0 about1) = true := by decide +kernel
set_option maxRecDepth 65536 in
theorem w_t2 : (words1.drop 24).all (fun c => isCode c || c.before args0 about1) = true := by decide +kernel
theorem w_tables : (allAtoms (Jvm.Cond.code x code maxLocals ret :: tables_1)).before args0 about1 = true := by
  rw [allAtoms_all]
  show words1.all (fun c => c.before args0 about1) = true
  refine all_split ?_ w_codes
  rw [← List.take_append_drop 24 words1, List.all_append, w_t1, w_t2]
  rfl
set_option maxRecDepth 65536 in
theorem w_case : (Jvm.Cond.and given_1 narrow_1).before args0 about1 = true := by decide +kernel
theorem w_applies : (headSpec (Jvm.Cond.code x code maxLocals ret :: tables_1) room_1).applies x e0.platform about1 = true :=
  (Spec.applies_iff w_frames).mpr ⟨w_running, w_runnable, w_alone, w_named, w_hears, w_ripe, w_room, w_tables⟩
theorem atStart : AtStart classFile x code maxLocals ret World_1 tables_1 room_1 Calls_1 rest_1 Pre_1 launch0 p0 e0 about1 theMethod args0 below0 :=
  ⟨lists_1, trivial, launch0.admits_env _ _ _, launch0.least_env, fairChoices_fair.cas, fairChoices_fair.clock, w_frames, w_args, w_heap, w_applies, trivial, trivial, w_case⟩
end start1
theorem witness_1 : WitnessClaimed_1 := ⟨start1.p0, start1.e0, start1.about1, start1.theMethod, start1.args0, start1.below0, start1.atStart⟩
end Jvm.Pilot.@@N@@
