import JvmDerived
import JvmDerived.Pilot.@@N@@Statement
import JvmDerived.Pilot.@@N@@Code
set_option linter.unusedVariables false
set_option linter.unusedSimpArgs false
namespace Jvm.RoadKit
open Sem ClassFile Op Lib Jvm.Stand Jvm.Free Jvm.LawKit
section New
variable {p : Program} {l : Launch} {e : Env} {R : Room} {s : State} {m : MethodId} {args : Array Value} {below : List Frame} {meth : Method} {c : Code} {T : State} {locs : List Loc} {cells slots : Nat}
theorem retI (X : Stand p l e R s m args below meth c T locs cells slots) (hx : p.tables.exec = Jvm.exec) {pc : Nat} {Ls : Array Slot} {z : Int32} {rest : List Value} (hret : meth.sig.returnType = some .int) (hd : decode c.code pc = .ok (.ireturn, 1)) {fs : List Frame}
    (hl : ∀ (f : JFrame) (acts : List Action), f.method = m → f.locked = none → f.entered = [] → (doReturn e (T.setTop f) acts (some (.int z))).1 = T.setFrames fs) : Steps p.tables e below (T.setTop (mkF m pc Ls (.int z :: rest))) (T.setFrames fs) := by
  have hm' : T.vm.method? m = some meth := X.method'
  have hn : narrow .int (.int z) = .int z := rfl
  show Steps p.tables e below (T.setTop { method := m, pc := pc, locals := Ls, stack := _ :: rest, locked := none }) _
  jvm_step X.here [X.here.top, hx, hd, hm', hret, hn]
  first | (intro acts; rw [hl _ acts rfl rfl rfl]) | rw [hl _ _ rfl rfl rfl]
  exact Steps.refl _
end New
end Jvm.RoadKit
namespace Jvm.Pilot.@@N@@
open Jvm Jvm.ClassFile Sem Op Lib Jvm.Free Jvm.Stand Jvm.LawKit Jvm.RoadKit Bundle Jvm.Pilot.@@N@@.Jvm.D
/-! the walk's own form: from the state S the run ends in a return that P speaks of -/
def own_Gl (tb : Tables) (e : Env) (below : List Frame) (P : Outcome → State → Prop) (S : State) : Prop := ∃ s₂ o, Steps tb e below S s₂ ∧ s₂.status = .running ∧ Ended s₂ below o ∧ P o s₂
def own_P (s : State) (Q : Option Value → Heap → List Loc → Prop) (C N : Nat) (o : Outcome) (u : State) : Prop := ∃ v L, o = .returned v ∧ Q v u.heap L ∧ FrameEnd s o u L C N
theorem own_back {tb : Tables} {e : Env} {below : List Frame} {P : Outcome → State → Prop} {S S' : State} (k : ∀ t, Steps tb e below S' t → Steps tb e below S t) (h : own_Gl tb e below P S') : own_Gl tb e below P S := by
  obtain ⟨s₂, o, h1, h2⟩ := h
  exact ⟨s₂, o, k _ h1, h2⟩
theorem own_trans {tb : Tables} {e : Env} {below : List Frame} {P : Outcome → State → Prop} {S S' : State} (k : Steps tb e below S S') (h : own_Gl tb e below P S') : own_Gl tb e below P S := own_back (fun _ q => k.trans q) h
theorem own_join {tb : Tables} {e : Env} {below : List Frame} {P : Outcome → State → Prop} {S : State} {α : Type} (F : α → State) (C : α → Prop) (tail : ∀ i, C i → own_Gl tb e below P (F i)) (main : (∀ i, C i → own_Gl tb e below P (F i)) → own_Gl tb e below P S) : own_Gl tb e below P S := main tail
section OwnRet
variable {p : Program} {l : Launch} {e : Env} {R : Room} {s : State} {m : MethodId} {args : Array Value} {below : List Frame} {meth : Method} {c : Code} {T : State} {locs : List Loc} {cells slots : Nat}
theorem own_start {C N : Nat} {Q : Option Value → Heap → List Loc → Prop} {g g' : JFrame} (q : g = g') (h : own_Gl p.tables e below (own_P s Q C N) (T.setTop g')) :
    ∃ s₂ o, Steps p.tables e below (T.setTop g) s₂ ∧ s₂.status = .running ∧ Ended s₂ below o ∧ ∃ v L, o = .returned v ∧ Q v s₂.heap L ∧ FrameEnd s o s₂ L C N := by
  subst q; exact h
theorem own_ret (X : Stand p l e R s m args below meth c T locs cells slots) (hlk : meth.locks = false) {v : Option Value} {C N : Nat} {Q : Option Value → Heap → List Loc → Prop} {g : JFrame} (hv : meth.sig.returnType = none → v = none) (hq : Q v T.heap locs) (hc : cells ≤ C) (hn : slots ≤ N)
    (st : ∀ fs, (∀ (f : JFrame) (acts : List Action), f.method = m → f.locked = none → f.entered = [] → (doReturn e (T.setTop f) acts v).1 = T.setFrames fs) → Steps p.tables e below (T.setTop g) (T.setFrames fs)) : own_Gl p.tables e below (own_P s Q C N) (T.setTop g) := by
  obtain ⟨fs, hr, hrun, hended, hW, hsame⟩ := X.leave (v := v) hv hlk
  exact ⟨_, _, st fs hr, hrun, hended, _, _, rfl, hq, ⟨_, rfl⟩, hW, hsame.mono hc hn⟩
theorem own_rZ (X : Stand p l e R s m args below meth c T locs cells slots) (hx : p.tables.exec = Jvm.exec) (hlk : meth.locks = false) (hret : meth.sig.returnType = some .boolean) {z z' : Int32} {C N pc : Nat} {Ls : Array Slot} {rest : List Value} {Q : Option Value → Heap → List Loc → Prop} (hd : decode c.code pc = .ok (.ireturn, 1)) (hz : z &&& 1 = z') (hq : Q (some (.int z')) T.heap locs) (hc : cells ≤ C) (hn : slots ≤ N) :
    own_Gl p.tables e below (own_P s Q C N) (T.setTop (mkF m pc Ls (.int z :: rest))) := by
  subst hz
  exact own_ret X hlk (fun h => by rw [hret] at h; cases h) hq hc hn (fun fs hr => retN X hx (t := .boolean) hret (by simp) hd hr)
theorem own_rC (X : Stand p l e R s m args below meth c T locs cells slots) (hx : p.tables.exec = Jvm.exec) (hlk : meth.locks = false) (hret : meth.sig.returnType = some .char) {z z' : Int32} {C N pc : Nat} {Ls : Array Slot} {rest : List Value} {Q : Option Value → Heap → List Loc → Prop} (hd : decode c.code pc = .ok (.ireturn, 1)) (hz : nar .char z = z') (hq : Q (some (.int z')) T.heap locs) (hc : cells ≤ C) (hn : slots ≤ N) :
    own_Gl p.tables e below (own_P s Q C N) (T.setTop (mkF m pc Ls (.int z :: rest))) := by
  subst hz
  exact own_ret X hlk (fun h => by rw [hret] at h; cases h) hq hc hn (fun fs hr => retN X hx (t := .char) hret (by simp) hd hr)
theorem own_rI (X : Stand p l e R s m args below meth c T locs cells slots) (hx : p.tables.exec = Jvm.exec) (hlk : meth.locks = false) (hret : meth.sig.returnType = some .int) {z : Int32} {C N pc : Nat} {Ls : Array Slot} {rest : List Value} {Q : Option Value → Heap → List Loc → Prop} (hd : decode c.code pc = .ok (.ireturn, 1)) (hq : Q (some (.int z)) T.heap locs) (hc : cells ≤ C) (hn : slots ≤ N) :
    own_Gl p.tables e below (own_P s Q C N) (T.setTop (mkF m pc Ls (.int z :: rest))) :=
  own_ret X hlk (fun h => by rw [hret] at h; cases h) hq hc hn (fun fs hr => retI X hx hret hd hr)
theorem own_rJ (X : Stand p l e R s m args below meth c T locs cells slots) (hx : p.tables.exec = Jvm.exec) (hlk : meth.locks = false) (hret : meth.sig.returnType = some .long) {z : Int64} {C N pc : Nat} {Ls : Array Slot} {rest : List Value} {Q : Option Value → Heap → List Loc → Prop} (hd : decode c.code pc = .ok (.lreturn, 1)) (hq : Q (some (.long z)) T.heap locs) (hc : cells ≤ C) (hn : slots ≤ N) :
    own_Gl p.tables e below (own_P s Q C N) (T.setTop (mkF m pc Ls (.long z :: rest))) :=
  own_ret X hlk (fun h => by rw [hret] at h; cases h) hq hc hn (fun fs hr => retOut X hx hret rfl (Or.inr (Or.inl ⟨rfl, rfl, _, rfl⟩)) hd hr)
theorem own_rA (X : Stand p l e R s m args below meth c T locs cells slots) (hx : p.tables.exec = Jvm.exec) (hlk : meth.locks = false) {t : FieldType} (hret : meth.sig.returnType = some t) (ht : t.isReference = true) {z : Value} (hz : z.isRef = true) (hnz : narrow t z = z) {C N pc : Nat} {Ls : Array Slot} {rest : List Value} {Q : Option Value → Heap → List Loc → Prop} (hd : decode c.code pc = .ok (.areturn, 1)) (hq : Q (some z) T.heap locs) (hc : cells ≤ C) (hn : slots ≤ N) :
    own_Gl p.tables e below (own_P s Q C N) (T.setTop (mkF m pc Ls (z :: rest))) :=
  own_ret X hlk (fun h => by rw [hret] at h; cases h) hq hc hn (fun fs hr => retOut X hx hret hnz (Or.inr (Or.inr (Or.inr (Or.inr ⟨rfl, ht, hz⟩)))) hd hr)
theorem own_rV (X : Stand p l e R s m args below meth c T locs cells slots) (hx : p.tables.exec = Jvm.exec) (hlk : meth.locks = false) (hret : meth.sig.returnType = none) {C N pc : Nat} {Ls : Array Slot} {Q : Option Value → Heap → List Loc → Prop} (hd : decode c.code pc = .ok (.return_, 1)) (hq : Q none T.heap locs) (hc : cells ≤ C) (hn : slots ≤ N) :
    own_Gl p.tables e below (own_P s Q C N) (T.setTop (mkF m pc Ls [])) :=
  own_ret X hlk (fun _ => rfl) hq hc hn (fun fs hr => X.returnOut hx hret hd hr)
end OwnRet
/-! a comparison made a number: branch over; iconst_1; goto; iconst_0 -/
theorem own_bi {tb : Tables} [Ours tb] {e : Env} {below : List Frame} {P : Outcome → State → Prop} {T : State} {m : MethodId} {c : Code} (h : At T m c below) (hx : tb.exec = Jvm.exec) {cd : ClassFile.Cond} {x y : Int32} {Ls : Array Slot} {rest : List Value} (pc pc1 pc2 pc3 pc4 : Nat)
    (d0 : decode c.code pc = .ok (.if_icmp cd 7, 3)) (d1 : decode c.code pc1 = .ok (.iconst 1, 1)) (d2 : decode c.code pc2 = .ok (.goto 4, 3)) (d3 : decode c.code pc3 = .ok (.iconst 0, 1)) (q1 : pc1 = pc + 3) (q2 : pc2 = pc + 4) (q3 : pc3 = pc + 7) (q4 : pc4 = pc + 8)
    (k : own_Gl tb e below P (T.setTop (mkF m pc4 Ls (.int (if if_icmp.holds cd x y = true then 0 else 1) :: rest)))) : own_Gl tb e below P (T.setTop (mkF m pc Ls (.int y :: .int x :: rest))) := by
  subst q1 q2 q3 q4
  cases hc : if_icmp.holds cd x y
  · rw [hc] at k
    refine own_back (fun t q => XS.icmpNo h hx rfl d0 rfl hc q) ?_
    refine own_back (fun t q => XS.iconst h hx rfl d1 q) ?_
    refine own_back (fun t q => XS.goto h hx rfl (pc0 := pc + 4) (pc' := pc + 8) rfl d2 (by omega) (by omega) q) ?_
    exact k
  · rw [hc] at k
    refine own_back (fun t q => XS.icmpYes h hx rfl (pc0 := pc) (pc' := pc + 7) rfl d0 rfl hc (by omega) (by omega) q) ?_
    refine own_back (fun t q => XS.iconst h hx rfl d3 q) ?_
    exact k
theorem own_bz {tb : Tables} [Ours tb] {e : Env} {below : List Frame} {P : Outcome → State → Prop} {T : State} {m : MethodId} {c : Code} (h : At T m c below) (hx : tb.exec = Jvm.exec) {cd : ClassFile.Cond} {x : Int32} {Ls : Array Slot} {rest : List Value} (pc pc1 pc2 pc3 pc4 : Nat)
    (d0 : decode c.code pc = .ok (.ifCond cd 7, 3)) (d1 : decode c.code pc1 = .ok (.iconst 1, 1)) (d2 : decode c.code pc2 = .ok (.goto 4, 3)) (d3 : decode c.code pc3 = .ok (.iconst 0, 1)) (q1 : pc1 = pc + 3) (q2 : pc2 = pc + 4) (q3 : pc3 = pc + 7) (q4 : pc4 = pc + 8)
    (k : own_Gl tb e below P (T.setTop (mkF m pc4 Ls (.int (if if_icmp.holds cd x 0 = true then 0 else 1) :: rest)))) : own_Gl tb e below P (T.setTop (mkF m pc Ls (.int x :: rest))) := by
  subst q1 q2 q3 q4
  cases hc : if_icmp.holds cd x 0
  · rw [hc] at k
    refine own_back (fun t q => XS.ifNo h hx rfl d0 rfl ((if0 _ _).trans hc) q) ?_
    refine own_back (fun t q => XS.iconst h hx rfl d1 q) ?_
    refine own_back (fun t q => XS.goto h hx rfl (pc0 := pc + 4) (pc' := pc + 8) rfl d2 (by omega) (by omega) q) ?_
    exact k
  · rw [hc] at k
    refine own_back (fun t q => XS.ifYes h hx rfl (pc0 := pc) (pc' := pc + 7) rfl d0 rfl ((if0 _ _).trans hc) (by omega) (by omega) q) ?_
    refine own_back (fun t q => XS.iconst h hx rfl d3 q) ?_
    exact k
theorem own_one {z : Int32} (h : z = 1) : z &&& 1 = 1 := by subst h; decide
theorem own_zero {z : Int32} (h : z = 0) : z &&& 1 = 0 := by subst h; decide
def own_sel (i : Int32) (o0 o1 o2 o3 o4 o5 : Addr) : Addr := if i = 0 then o0 else if i = 1 then o1 else if i = 2 then o2 else if i = 3 then o3 else if i = 4 then o4 else o5
def own_Str (Z : State) (h : Heap) (st : Addr) (ch : Int32) : Prop := Exa Z h st "java/lang/String" ∧ Fld Z h st "java/lang/String" "coder" "B" (.int 0) ∧ ∃ va cl, Fld Z h st "java/lang/String" "value" "[B" (.ref va) ∧ Arr Z h va cl .byte ∧ (0 : Int32) < cl.slots.size.toInt32 ∧ ¬ ((0 : Int32) < 0 ∨ cl.slots.size ≤ (0 : Int32).toNatClampNeg) ∧ cl.slots[(0 : Int32).toNatClampNeg]? = some (.int ch)
def own_Op (Z : State) (h : Heap) (nme : String) (o : Addr) (k ch : Int32) : Prop := Sta Z h "com/example/valenciennes/valenciennes/model/Operator" nme "Lcom/example/valenciennes/valenciennes/model/Operator;" (.ref o) ∧ Exa Z h o "com/example/valenciennes/valenciennes/model/Operator" ∧ Fld Z h o "java/lang/Enum" "ordinal" "I" (.int k) ∧ ∃ st, Fld Z h o "com/example/valenciennes/valenciennes/model/Operator" "symbol" "Ljava/lang/String;" (.ref st) ∧ own_Str Z h st ch
def own_Sys (Z : State) (h : Heap) : Prop := ∃ cs fm, ¬ cs = (0 : Int32) ∧ Sta Z h "java/lang/String" "COMPACT_STRINGS" "Z" (.int cs) ∧ fm.isRef = true ∧ Sta Z h "jdk/internal/util/Preconditions" "SIOOBE_FORMATTER" "Ljava/util/function/BiFunction;" fm
def own_c (ch : Int32) : Int32 := nar .char ((ch &&& (255 : Int32)).toUInt32.toUInt16.toUInt32.toInt32)
theorem own_r6 (f : Int32) : ∀ j : Int32, j = (f &&& (2147483647 : Int32)) % (6 : Int32) → j = 0 ∨ j = 1 ∨ j = 2 ∨ j = 3 ∨ j = 4 ∨ j = 5 := by
  intro j hj
  have e2 := c_mask f 2147483647 31 (by decide) (by decide)
  have e4 := (c_irem (f &&& 2147483647) 6 6 (by decide)).1 (by omega)
  rw [← hj] at e4
  have : j.toInt = 0 ∨ j.toInt = 1 ∨ j.toInt = 2 ∨ j.toInt = 3 ∨ j.toInt = 4 ∨ j.toInt = 5 := by omega
  rcases this with q | q | q | q | q | q
  · exact Or.inl (Int32.toInt_inj.mp q)
  · exact Or.inr (Or.inl (Int32.toInt_inj.mp q))
  · exact Or.inr (Or.inr (Or.inl (Int32.toInt_inj.mp q)))
  · exact Or.inr (Or.inr (Or.inr (Or.inl (Int32.toInt_inj.mp q))))
  · exact Or.inr (Or.inr (Or.inr (Or.inr (Or.inl (Int32.toInt_inj.mp q)))))
  · exact Or.inr (Or.inr (Or.inr (Or.inr (Or.inr (Int32.toInt_inj.mp q)))))
theorem own_eqI {args : Array Value} {s : State} {t : Term} {k : Int32} (h : (Jvm.Cond.eq t (.int k)).value args s none s [] = some true) : t.eval args s none [] s = some (.int k) := by
  simp only [Cond.value, Term.eval] at h
  cases ht : t.eval args s none [] s with
  | none => simp [ht] at h
  | some x => cases x <;> simp [ht] at h ⊢; exact h
theorem d1_0 : decode method_2_code 0 = .ok (.iload_n 0, 1) := by decide +kernel
theorem d1_1 : decode method_2_code 1 = .ok (.ifCond .ne 7, 3) := by decide +kernel
theorem d1_4 : decode method_2_code 4 = .ok (.getstatic 7, 3) := by decide +kernel
theorem d1_7 : decode method_2_code 7 = .ok (.areturn, 1) := by decide +kernel
theorem d1_8 : decode method_2_code 8 = .ok (.iload_n 0, 1) := by decide +kernel
theorem d1_9 : decode method_2_code 9 = .ok (.iconst 1, 1) := by decide +kernel
theorem d1_10 : decode method_2_code 10 = .ok (.if_icmp .ne 7, 3) := by decide +kernel
theorem d1_13 : decode method_2_code 13 = .ok (.getstatic 13, 3) := by decide +kernel
theorem d1_16 : decode method_2_code 16 = .ok (.areturn, 1) := by decide +kernel
theorem d1_17 : decode method_2_code 17 = .ok (.iload_n 0, 1) := by decide +kernel
theorem d1_18 : decode method_2_code 18 = .ok (.iconst 2, 1) := by decide +kernel
theorem d1_19 : decode method_2_code 19 = .ok (.if_icmp .ne 7, 3) := by decide +kernel
theorem d1_22 : decode method_2_code 22 = .ok (.getstatic 16, 3) := by decide +kernel
theorem d1_25 : decode method_2_code 25 = .ok (.areturn, 1) := by decide +kernel
theorem d1_26 : decode method_2_code 26 = .ok (.iload_n 0, 1) := by decide +kernel
theorem d1_27 : decode method_2_code 27 = .ok (.iconst 3, 1) := by decide +kernel
theorem d1_28 : decode method_2_code 28 = .ok (.if_icmp .ne 7, 3) := by decide +kernel
theorem d1_31 : decode method_2_code 31 = .ok (.getstatic 19, 3) := by decide +kernel
theorem d1_34 : decode method_2_code 34 = .ok (.areturn, 1) := by decide +kernel
theorem d1_35 : decode method_2_code 35 = .ok (.iload_n 0, 1) := by decide +kernel
theorem d1_36 : decode method_2_code 36 = .ok (.iconst 4, 1) := by decide +kernel
theorem d1_37 : decode method_2_code 37 = .ok (.if_icmp .ne 7, 3) := by decide +kernel
theorem d1_40 : decode method_2_code 40 = .ok (.getstatic 22, 3) := by decide +kernel
theorem d1_43 : decode method_2_code 43 = .ok (.areturn, 1) := by decide +kernel
theorem d1_44 : decode method_2_code 44 = .ok (.getstatic 25, 3) := by decide +kernel
theorem d1_47 : decode method_2_code 47 = .ok (.areturn, 1) := by decide +kernel
theorem pn_1 : plainFor (⟨"com/example/valenciennes/valenciennes/model/OperatorIsOrderingPinLaw", "pick", "(I)Lcom/example/valenciennes/valenciennes/model/Operator;"⟩ : MethodName) = true := plainFor_of_name (by first | (simp [plainName, overriddenIn]; done) | decide +kernel)
def Qrm1 (p1 : Int32) (oEQ oNE oLT oLE oGT oGE : Addr) (h0 : Heap) (n0 : Nat) (v : Option Value) (h : Heap) (L : List Loc) : Prop := v = some (.ref (own_sel p1 oEQ oNE oLT oLE oGT oGE)) ∧ Fr n0 L ∧ h = h0
set_option maxRecDepth 65536 in
set_option maxHeartbeats 40000000 in
theorem rm1 (l : Launch) (Z : State) (a0 : Array Value) (hw : ∀ d ∈ tables_1, d.before a0 Z = true) (ws : List Jvm.Cond) (p1 : Int32) (h0 : Heap) (n0 : Nat) (Z0 : n0 ≤ h0.size) (oEQ oNE oLT oLE oGT oGE : Addr) (SEQ : Sta Z h0 "com/example/valenciennes/valenciennes/model/Operator" "EQ" "Lcom/example/valenciennes/valenciennes/model/Operator;" (.ref oEQ)) (SNE : Sta Z h0 "com/example/valenciennes/valenciennes/model/Operator" "NE" "Lcom/example/valenciennes/valenciennes/model/Operator;" (.ref oNE)) (SLT : Sta Z h0 "com/example/valenciennes/valenciennes/model/Operator" "LT" "Lcom/example/valenciennes/valenciennes/model/Operator;" (.ref oLT)) (SLE : Sta Z h0 "com/example/valenciennes/valenciennes/model/Operator" "LE" "Lcom/example/valenciennes/valenciennes/model/Operator;" (.ref oLE)) (SGT : Sta Z h0 "com/example/valenciennes/valenciennes/model/Operator" "GT" "Lcom/example/valenciennes/valenciennes/model/Operator;" (.ref oGT)) (SGE : Sta Z h0 "com/example/valenciennes/valenciennes/model/Operator" "GE" "Lcom/example/valenciennes/valenciennes/model/Operator;" (.ref oGE)) :
    MetFree l (⟨"com/example/valenciennes/valenciennes/model/OperatorIsOrderingPinLaw", "pick", "(I)Lcom/example/valenciennes/valenciennes/model/Operator;"⟩ : MethodName) (head1 (Jvm.Cond.code (⟨"com/example/valenciennes/valenciennes/model/OperatorIsOrderingPinLaw", "pick", "(I)Lcom/example/valenciennes/valenciennes/model/Operator;"⟩ : MethodName) method_2_code 1 (some (.object "com/example/valenciennes/valenciennes/model/Operator")) :: ws) ({ frames := 0, cells := 0, slots := 0, locals := 0 } : Room)) (fun a_ U_ => a_ = #[(.int p1)] ∧ Z.Warmed39 U_.vm ∧ U_.heap = h0) (fun _ _ _ _ _ => True) (fun _ U_ o_ U'_ => ∃ v_ L_, o_ = .returned v_ ∧ (Qrm1 p1 oEQ oNE oLT oLE oGT oGE h0 n0) v_ U'_.heap L_ ∧ FrameEnd U_ o_ U'_ L_ 0 0) := by
  refine MetFree.of_bodySF pn_1 hisR ?_
  intro p e s m args below meth c s₁ Bd hml0 hP hK
  obtain ⟨rfl, hZ, hh⟩ := hP
  have hx := Bd.exec
  have hby := Bd.bytes
  have hlk : meth.locks = false := Bd.notSynchronized
  have hml : c.maxLocals = 1 := hml0
  have hown : s.vm.findClass "com/example/valenciennes/valenciennes/model/OperatorIsOrderingPinLaw" = some m.cls := findClass_of_methodNamed Bd.named
  have hnm := (name_of_methodNamed Bd.named Bd.method).1
  have X0 : Stand p l e ({ frames := 0, cells := 0, slots := 0, locals := 0 } : Room) s m #[(.int p1)] below meth c s₁ [] 0 0 := Stand.of_body Bd
  have e0 : s₁.heap = h0 := by rw [← hh, Bd.state]; rfl
  have N0 := Fr.nil n0
  refine own_start (Q := Qrm1 p1 oEQ oNE oLT oLE oGT oGE h0 n0) (g' := (mkF m 0 #[.val (.int p1)] [])) (by first | (simp [entryFrame, mkF, argsToLocals, Value.category]; done) | rfl) ?_
  show own_Gl _ _ _ _ (s₁.setTop (mkF m 0 #[.val (.int p1)] []))
  refine own_back (fun t_ q_ => XS.iloadN X0.here hx rfl (hb hby d1_0) rfl q_) ?_
  show own_Gl _ _ _ _ (s₁.setTop (mkF m 1 #[.val (.int p1)] [(.int p1)]))
  by_cases k0 : p1 = (0 : Int32)
  · skip
    refine own_back (fun t_ q_ => XS.ifNo X0.here hx rfl (hb hby d1_1) rfl ((if0 _ _).trans (teq (k0 : p1 = (0 : Int32))).2) q_) ?_
    show own_Gl _ _ _ _ (s₁.setTop (mkF m 4 #[.val (.int p1)] []))
    obtain ⟨T1, X1, e1, st1⟩ := getS2 X0 hx hZ hown (host := "") (Or.inl (hw _ (List.mem_of_getElem? (i := 5) rfl))) Via.refl e0 SEQ (g := (mkF m 4 #[.val (.int p1)] [])) rfl (hb hby d1_4)
    refine own_back st1 ?_
    show own_Gl _ _ _ _ (T1.setTop (mkF m 7 #[.val (.int p1)] [(.ref oEQ)]))
    exact own_rA X1 hx hlk Bd.returns rfl rfl rfl (hb hby d1_7) (by show Qrm1 p1 oEQ oNE oLT oLE oGT oGE h0 n0 _ T1.heap _; rw [e1]; exact ⟨by unfold own_sel; rw [if_pos k0], N0, rfl⟩) (by decide) (by decide)
  · skip
    refine own_back (fun t_ q_ => XS.ifYes X0.here hx rfl (pc0 := 1) (pc' := 8) rfl (hb hby d1_1) rfl ((if0 _ _).trans (feq (k0 : ¬ (p1 = (0 : Int32)))).2) (by decide) (by decide) q_) ?_
    show own_Gl _ _ _ _ (s₁.setTop (mkF m 8 #[.val (.int p1)] []))
    refine own_back (fun t_ q_ => XS.iloadN X0.here hx rfl (hb hby d1_8) rfl q_) ?_
    show own_Gl _ _ _ _ (s₁.setTop (mkF m 9 #[.val (.int p1)] [(.int p1)]))
    refine own_back (fun t_ q_ => XS.iconst X0.here hx rfl (hb hby d1_9) q_) ?_
    show own_Gl _ _ _ _ (s₁.setTop (mkF m 10 #[.val (.int p1)] [(.int (1 : Int32)), (.int p1)]))
    by_cases k1 : p1 = (1 : Int32)
    · skip
      refine own_back (fun t_ q_ => XS.icmpNo X0.here hx rfl (hb hby d1_10) rfl (teq (k1 : p1 = (1 : Int32))).2 q_) ?_
      show own_Gl _ _ _ _ (s₁.setTop (mkF m 13 #[.val (.int p1)] []))
      obtain ⟨T2, X2, e2, st2⟩ := getS2 X0 hx hZ hown (host := "") (Or.inl (hw _ (List.mem_of_getElem? (i := 78) rfl))) Via.refl e0 SNE (g := (mkF m 13 #[.val (.int p1)] [])) rfl (hb hby d1_13)
      refine own_back st2 ?_
      show own_Gl _ _ _ _ (T2.setTop (mkF m 16 #[.val (.int p1)] [(.ref oNE)]))
      exact own_rA X2 hx hlk Bd.returns rfl rfl rfl (hb hby d1_16) (by show Qrm1 p1 oEQ oNE oLT oLE oGT oGE h0 n0 _ T2.heap _; rw [e2]; exact ⟨by unfold own_sel; rw [if_neg k0, if_pos k1], N0, rfl⟩) (by decide) (by decide)
    · skip
      refine own_back (fun t_ q_ => XS.icmpYes X0.here hx rfl (pc0 := 10) (pc' := 17) rfl (hb hby d1_10) rfl (feq (k1 : ¬ (p1 = (1 : Int32)))).2 (by decide) (by decide) q_) ?_
      show own_Gl _ _ _ _ (s₁.setTop (mkF m 17 #[.val (.int p1)] []))
      refine own_back (fun t_ q_ => XS.iloadN X0.here hx rfl (hb hby d1_17) rfl q_) ?_
      show own_Gl _ _ _ _ (s₁.setTop (mkF m 18 #[.val (.int p1)] [(.int p1)]))
      refine own_back (fun t_ q_ => XS.iconst X0.here hx rfl (hb hby d1_18) q_) ?_
      show own_Gl _ _ _ _ (s₁.setTop (mkF m 19 #[.val (.int p1)] [(.int (2 : Int32)), (.int p1)]))
      by_cases k2 : p1 = (2 : Int32)
      · skip
        refine own_back (fun t_ q_ => XS.icmpNo X0.here hx rfl (hb hby d1_19) rfl (teq (k2 : p1 = (2 : Int32))).2 q_) ?_
        show own_Gl _ _ _ _ (s₁.setTop (mkF m 22 #[.val (.int p1)] []))
        obtain ⟨T3, X3, e3, st3⟩ := getS2 X0 hx hZ hown (host := "") (Or.inl (hw _ (List.mem_of_getElem? (i := 76) rfl))) Via.refl e0 SLT (g := (mkF m 22 #[.val (.int p1)] [])) rfl (hb hby d1_22)
        refine own_back st3 ?_
        show own_Gl _ _ _ _ (T3.setTop (mkF m 25 #[.val (.int p1)] [(.ref oLT)]))
        exact own_rA X3 hx hlk Bd.returns rfl rfl rfl (hb hby d1_25) (by show Qrm1 p1 oEQ oNE oLT oLE oGT oGE h0 n0 _ T3.heap _; rw [e3]; exact ⟨by unfold own_sel; rw [if_neg k0, if_neg k1, if_pos k2], N0, rfl⟩) (by decide) (by decide)
      · skip
        refine own_back (fun t_ q_ => XS.icmpYes X0.here hx rfl (pc0 := 19) (pc' := 26) rfl (hb hby d1_19) rfl (feq (k2 : ¬ (p1 = (2 : Int32)))).2 (by decide) (by decide) q_) ?_
        show own_Gl _ _ _ _ (s₁.setTop (mkF m 26 #[.val (.int p1)] []))
        refine own_back (fun t_ q_ => XS.iloadN X0.here hx rfl (hb hby d1_26) rfl q_) ?_
        show own_Gl _ _ _ _ (s₁.setTop (mkF m 27 #[.val (.int p1)] [(.int p1)]))
        refine own_back (fun t_ q_ => XS.iconst X0.here hx rfl (hb hby d1_27) q_) ?_
        show own_Gl _ _ _ _ (s₁.setTop (mkF m 28 #[.val (.int p1)] [(.int (3 : Int32)), (.int p1)]))
        by_cases k3 : p1 = (3 : Int32)
        · skip
          refine own_back (fun t_ q_ => XS.icmpNo X0.here hx rfl (hb hby d1_28) rfl (teq (k3 : p1 = (3 : Int32))).2 q_) ?_
          show own_Gl _ _ _ _ (s₁.setTop (mkF m 31 #[.val (.int p1)] []))
          obtain ⟨T4, X4, e4, st4⟩ := getS2 X0 hx hZ hown (host := "") (Or.inl (hw _ (List.mem_of_getElem? (i := 70) rfl))) Via.refl e0 SLE (g := (mkF m 31 #[.val (.int p1)] [])) rfl (hb hby d1_31)
          refine own_back st4 ?_
          show own_Gl _ _ _ _ (T4.setTop (mkF m 34 #[.val (.int p1)] [(.ref oLE)]))
          exact own_rA X4 hx hlk Bd.returns rfl rfl rfl (hb hby d1_34) (by show Qrm1 p1 oEQ oNE oLT oLE oGT oGE h0 n0 _ T4.heap _; rw [e4]; exact ⟨by unfold own_sel; rw [if_neg k0, if_neg k1, if_neg k2, if_pos k3], N0, rfl⟩) (by decide) (by decide)
        · skip
          refine own_back (fun t_ q_ => XS.icmpYes X0.here hx rfl (pc0 := 28) (pc' := 35) rfl (hb hby d1_28) rfl (feq (k3 : ¬ (p1 = (3 : Int32)))).2 (by decide) (by decide) q_) ?_
          show own_Gl _ _ _ _ (s₁.setTop (mkF m 35 #[.val (.int p1)] []))
          refine own_back (fun t_ q_ => XS.iloadN X0.here hx rfl (hb hby d1_35) rfl q_) ?_
          show own_Gl _ _ _ _ (s₁.setTop (mkF m 36 #[.val (.int p1)] [(.int p1)]))
          refine own_back (fun t_ q_ => XS.iconst X0.here hx rfl (hb hby d1_36) q_) ?_
          show own_Gl _ _ _ _ (s₁.setTop (mkF m 37 #[.val (.int p1)] [(.int (4 : Int32)), (.int p1)]))
          by_cases k4 : p1 = (4 : Int32)
          · skip
            refine own_back (fun t_ q_ => XS.icmpNo X0.here hx rfl (hb hby d1_37) rfl (teq (k4 : p1 = (4 : Int32))).2 q_) ?_
            show own_Gl _ _ _ _ (s₁.setTop (mkF m 40 #[.val (.int p1)] []))
            obtain ⟨T5, X5, e5, st5⟩ := getS2 X0 hx hZ hown (host := "") (Or.inl (hw _ (List.mem_of_getElem? (i := 82) rfl))) Via.refl e0 SGT (g := (mkF m 40 #[.val (.int p1)] [])) rfl (hb hby d1_40)
            refine own_back st5 ?_
            show own_Gl _ _ _ _ (T5.setTop (mkF m 43 #[.val (.int p1)] [(.ref oGT)]))
            exact own_rA X5 hx hlk Bd.returns rfl rfl rfl (hb hby d1_43) (by show Qrm1 p1 oEQ oNE oLT oLE oGT oGE h0 n0 _ T5.heap _; rw [e5]; exact ⟨by unfold own_sel; rw [if_neg k0, if_neg k1, if_neg k2, if_neg k3, if_pos k4], N0, rfl⟩) (by decide) (by decide)
          · skip
            refine own_back (fun t_ q_ => XS.icmpYes X0.here hx rfl (pc0 := 37) (pc' := 44) rfl (hb hby d1_37) rfl (feq (k4 : ¬ (p1 = (4 : Int32)))).2 (by decide) (by decide) q_) ?_
            show own_Gl _ _ _ _ (s₁.setTop (mkF m 44 #[.val (.int p1)] []))
            obtain ⟨T6, X6, e6, st6⟩ := getS2 X0 hx hZ hown (host := "") (Or.inl (hw _ (List.mem_of_getElem? (i := 79) rfl))) Via.refl e0 SGE (g := (mkF m 44 #[.val (.int p1)] [])) rfl (hb hby d1_44)
            refine own_back st6 ?_
            show own_Gl _ _ _ _ (T6.setTop (mkF m 47 #[.val (.int p1)] [(.ref oGE)]))
            exact own_rA X6 hx hlk Bd.returns rfl rfl rfl (hb hby d1_47) (by show Qrm1 p1 oEQ oNE oLT oLE oGT oGE h0 n0 _ T6.heap _; rw [e6]; exact ⟨by unfold own_sel; rw [if_neg k0, if_neg k1, if_neg k2, if_neg k3, if_neg k4], N0, rfl⟩) (by decide) (by decide)
theorem d2_0 : decode prog_92_method_7_code 0 = .ok (.aload_n 0, 1) := by decide +kernel
theorem d2_1 : decode prog_92_method_7_code 1 = .ok (.getstatic 3, 3) := by decide +kernel
theorem d2_4 : decode prog_92_method_7_code 4 = .ok (.if_acmp .eq 14, 3) := by decide +kernel
theorem d2_7 : decode prog_92_method_7_code 7 = .ok (.aload_n 0, 1) := by decide +kernel
theorem d2_8 : decode prog_92_method_7_code 8 = .ok (.getstatic 7, 3) := by decide +kernel
theorem d2_11 : decode prog_92_method_7_code 11 = .ok (.if_acmp .eq 7, 3) := by decide +kernel
theorem d2_14 : decode prog_92_method_7_code 14 = .ok (.iconst 1, 1) := by decide +kernel
theorem d2_15 : decode prog_92_method_7_code 15 = .ok (.goto 4, 3) := by decide +kernel
theorem d2_18 : decode prog_92_method_7_code 18 = .ok (.iconst 0, 1) := by decide +kernel
theorem d2_19 : decode prog_92_method_7_code 19 = .ok (.ireturn, 1) := by decide +kernel
theorem pn_2 : plainFor (⟨"com/example/valenciennes/valenciennes/model/Operator", "isOrdering", "()Z"⟩ : MethodName) = true := plainFor_of_name (by first | (simp [plainName, overriddenIn]; done) | decide +kernel)
def Qrm2 (a1 oEQ oNE : Addr) (h0 : Heap) (n0 : Nat) (v : Option Value) (h : Heap) (L : List Loc) : Prop := v = some (.int (if a1 = oEQ ∨ a1 = oNE then 0 else 1)) ∧ Fr n0 L ∧ h = h0
set_option maxRecDepth 65536 in
set_option maxHeartbeats 40000000 in
theorem rm2 (l : Launch) (Z : State) (a0 : Array Value) (hw : ∀ d ∈ tables_1, d.before a0 Z = true) (ws : List Jvm.Cond) (a1 : Addr) (h0 : Heap) (n0 : Nat) (Z0 : n0 ≤ h0.size) (oEQ oNE : Addr) (SEQ : Sta Z h0 "com/example/valenciennes/valenciennes/model/Operator" "EQ" "Lcom/example/valenciennes/valenciennes/model/Operator;" (.ref oEQ)) (SNE : Sta Z h0 "com/example/valenciennes/valenciennes/model/Operator" "NE" "Lcom/example/valenciennes/valenciennes/model/Operator;" (.ref oNE)) :
    MetFree l (⟨"com/example/valenciennes/valenciennes/model/Operator", "isOrdering", "()Z"⟩ : MethodName) (head1 (Jvm.Cond.code (⟨"com/example/valenciennes/valenciennes/model/Operator", "isOrdering", "()Z"⟩ : MethodName) prog_92_method_7_code 1 (some .boolean) :: ws) ({ frames := 0, cells := 0, slots := 0, locals := 0 } : Room)) (fun a_ U_ => a_ = #[(.ref a1)] ∧ Z.Warmed39 U_.vm ∧ U_.heap = h0) (fun _ _ _ _ _ => True) (fun _ U_ o_ U'_ => ∃ v_ L_, o_ = .returned v_ ∧ (Qrm2 a1 oEQ oNE h0 n0) v_ U'_.heap L_ ∧ FrameEnd U_ o_ U'_ L_ 0 0) := by
  refine MetFree.of_bodySF pn_2 hisR ?_
  intro p e s m args below meth c s₁ Bd hml0 hP hK
  obtain ⟨rfl, hZ, hh⟩ := hP
  have hx := Bd.exec
  have hby := Bd.bytes
  have hlk : meth.locks = false := Bd.notSynchronized
  have hml : c.maxLocals = 1 := hml0
  have hown : s.vm.findClass "com/example/valenciennes/valenciennes/model/Operator" = some m.cls := findClass_of_methodNamed Bd.named
  have hnm := (name_of_methodNamed Bd.named Bd.method).1
  have X0 : Stand p l e ({ frames := 0, cells := 0, slots := 0, locals := 0 } : Room) s m #[(.ref a1)] below meth c s₁ [] 0 0 := Stand.of_body Bd
  have e0 : s₁.heap = h0 := by rw [← hh, Bd.state]; rfl
  have N0 := Fr.nil n0
  refine own_start (Q := Qrm2 a1 oEQ oNE h0 n0) (g' := (mkF m 0 #[.val (.ref a1)] [])) (by first | (simp [entryFrame, mkF, argsToLocals, Value.category]; done) | rfl) ?_
  show own_Gl _ _ _ _ (s₁.setTop (mkF m 0 #[.val (.ref a1)] []))
  refine own_back (fun t_ q_ => XS.aloadN X0.here hx rfl (hb hby d2_0) rfl rfl q_) ?_
  show own_Gl _ _ _ _ (s₁.setTop (mkF m 1 #[.val (.ref a1)] [(.ref a1)]))
  obtain ⟨T7, X7, e7, st7⟩ := getS2 X0 hx hZ hown (host := "") (Or.inl (hw _ (List.mem_of_getElem? (i := 13) rfl))) Via.refl e0 SEQ (g := (mkF m 1 #[.val (.ref a1)] [(.ref a1)])) rfl (hb hby d2_1)
  refine own_back st7 ?_
  show own_Gl _ _ _ _ (T7.setTop (mkF m 4 #[.val (.ref a1)] [(.ref oEQ), (.ref a1)]))
  by_cases k1 : a1 = oEQ
  · skip
    refine own_back (fun t_ q_ => Jvm.RoadKit.acmp (g := (mkF m 4 #[.val (.ref a1)] [(.ref oEQ), (.ref a1)])) X7 hx rfl rfl rfl (pc0 := 4) (pc' := 18) (same := true) rfl (hb hby d2_4) rfl (decide_eq_true (congrArg Value.ref (k1))) (by decide) (by decide) q_) ?_
    show own_Gl _ _ _ _ (T7.setTop (mkF m 18 #[.val (.ref a1)] []))
    refine own_back (fun t_ q_ => XS.iconst X7.here hx rfl (hb hby d2_18) q_) ?_
    show own_Gl _ _ _ _ (T7.setTop (mkF m 19 #[.val (.ref a1)] [(.int (0 : Int32))]))
    exact own_rZ X7 hx hlk Bd.returns (hb hby d2_19) (own_zero rfl) (by show Qrm2 a1 oEQ oNE h0 n0 _ T7.heap _; rw [e7]; exact ⟨by rw [if_pos (Or.inl k1)], N0, rfl⟩) (by decide) (by decide)
  · skip
    refine own_back (fun t_ q_ => Jvm.RoadKit.acmp (g := (mkF m 4 #[.val (.ref a1)] [(.ref oEQ), (.ref a1)])) X7 hx rfl rfl rfl (pc0 := 4) (pc' := 7) (same := false) rfl (hb hby d2_4) rfl (decide_eq_false fun q => (k1) (Value.ref.inj q)) (by decide) (by decide) q_) ?_
    show own_Gl _ _ _ _ (T7.setTop (mkF m 7 #[.val (.ref a1)] []))
    refine own_back (fun t_ q_ => XS.aloadN X7.here hx rfl (hb hby d2_7) rfl rfl q_) ?_
    show own_Gl _ _ _ _ (T7.setTop (mkF m 8 #[.val (.ref a1)] [(.ref a1)]))
    obtain ⟨T8, X8, e8, st8⟩ := getS2 X7 hx hZ hown (host := "") (Or.inl (hw _ (List.mem_of_getElem? (i := 63) rfl))) Via.refl e7 SNE (g := (mkF m 8 #[.val (.ref a1)] [(.ref a1)])) rfl (hb hby d2_8)
    refine own_back st8 ?_
    show own_Gl _ _ _ _ (T8.setTop (mkF m 11 #[.val (.ref a1)] [(.ref oNE), (.ref a1)]))
    by_cases k2 : a1 = oNE
    · skip
      refine own_back (fun t_ q_ => Jvm.RoadKit.acmp (g := (mkF m 11 #[.val (.ref a1)] [(.ref oNE), (.ref a1)])) X8 hx rfl rfl rfl (pc0 := 11) (pc' := 18) (same := true) rfl (hb hby d2_11) rfl (decide_eq_true (congrArg Value.ref (k2))) (by decide) (by decide) q_) ?_
      show own_Gl _ _ _ _ (T8.setTop (mkF m 18 #[.val (.ref a1)] []))
      refine own_back (fun t_ q_ => XS.iconst X8.here hx rfl (hb hby d2_18) q_) ?_
      show own_Gl _ _ _ _ (T8.setTop (mkF m 19 #[.val (.ref a1)] [(.int (0 : Int32))]))
      exact own_rZ X8 hx hlk Bd.returns (hb hby d2_19) (own_zero rfl) (by show Qrm2 a1 oEQ oNE h0 n0 _ T8.heap _; rw [e8]; exact ⟨by rw [if_pos (Or.inr k2)], N0, rfl⟩) (by decide) (by decide)
    · skip
      refine own_back (fun t_ q_ => Jvm.RoadKit.acmp (g := (mkF m 11 #[.val (.ref a1)] [(.ref oNE), (.ref a1)])) X8 hx rfl rfl rfl (pc0 := 11) (pc' := 14) (same := false) rfl (hb hby d2_11) rfl (decide_eq_false fun q => (k2) (Value.ref.inj q)) (by decide) (by decide) q_) ?_
      show own_Gl _ _ _ _ (T8.setTop (mkF m 14 #[.val (.ref a1)] []))
      refine own_back (fun t_ q_ => XS.iconst X8.here hx rfl (hb hby d2_14) q_) ?_
      show own_Gl _ _ _ _ (T8.setTop (mkF m 15 #[.val (.ref a1)] [(.int (1 : Int32))]))
      refine own_back (fun t_ q_ => XS.goto X8.here hx rfl (pc0 := 15) (pc' := 19) rfl (hb hby d2_15) (by decide) (by decide) q_) ?_
      show own_Gl _ _ _ _ (T8.setTop (mkF m 19 #[.val (.ref a1)] [(.int (1 : Int32))]))
      exact own_rZ X8 hx hlk Bd.returns (hb hby d2_19) (own_one rfl) (by show Qrm2 a1 oEQ oNE h0 n0 _ T8.heap _; rw [e8]; exact ⟨by rw [if_neg (fun q => q.elim k1 k2)], N0, rfl⟩) (by decide) (by decide)
theorem d3_0 : decode prog_92_method_4_code 0 = .ok (.aload_n 0, 1) := by decide +kernel
theorem d3_1 : decode prog_92_method_4_code 1 = .ok (.getfield 41, 3) := by decide +kernel
theorem d3_4 : decode prog_92_method_4_code 4 = .ok (.areturn, 1) := by decide +kernel
theorem pn_3 : plainFor (⟨"com/example/valenciennes/valenciennes/model/Operator", "symbol", "()Ljava/lang/String;"⟩ : MethodName) = true := plainFor_of_name (by first | (simp [plainName, overriddenIn]; done) | decide +kernel)
def Qrm3 (st : Addr) (h0 : Heap) (n0 : Nat) (v : Option Value) (h : Heap) (L : List Loc) : Prop := v = some (.ref st) ∧ Fr n0 L ∧ h = h0
set_option maxRecDepth 65536 in
set_option maxHeartbeats 40000000 in
theorem rm3 (l : Launch) (Z : State) (a0 : Array Value) (hw : ∀ d ∈ tables_1, d.before a0 Z = true) (ws : List Jvm.Cond) (a1 : Addr) (h0 : Heap) (n0 : Nat) (Z0 : n0 ≤ h0.size) (st : Addr) (F : Fld Z h0 a1 "com/example/valenciennes/valenciennes/model/Operator" "symbol" "Ljava/lang/String;" (.ref st)) :
    MetFree l (⟨"com/example/valenciennes/valenciennes/model/Operator", "symbol", "()Ljava/lang/String;"⟩ : MethodName) (head1 (Jvm.Cond.code (⟨"com/example/valenciennes/valenciennes/model/Operator", "symbol", "()Ljava/lang/String;"⟩ : MethodName) prog_92_method_4_code 1 (some (.object "java/lang/String")) :: ws) ({ frames := 0, cells := 0, slots := 0, locals := 0 } : Room)) (fun a_ U_ => a_ = #[(.ref a1)] ∧ Z.Warmed39 U_.vm ∧ U_.heap = h0) (fun _ _ _ _ _ => True) (fun _ U_ o_ U'_ => ∃ v_ L_, o_ = .returned v_ ∧ (Qrm3 st h0 n0) v_ U'_.heap L_ ∧ FrameEnd U_ o_ U'_ L_ 0 0) := by
  refine MetFree.of_bodySF pn_3 hisR ?_
  intro p e s m args below meth c s₁ Bd hml0 hP hK
  obtain ⟨rfl, hZ, hh⟩ := hP
  have hx := Bd.exec
  have hby := Bd.bytes
  have hlk : meth.locks = false := Bd.notSynchronized
  have hml : c.maxLocals = 1 := hml0
  have hown : s.vm.findClass "com/example/valenciennes/valenciennes/model/Operator" = some m.cls := findClass_of_methodNamed Bd.named
  have hnm := (name_of_methodNamed Bd.named Bd.method).1
  have X0 : Stand p l e ({ frames := 0, cells := 0, slots := 0, locals := 0 } : Room) s m #[(.ref a1)] below meth c s₁ [] 0 0 := Stand.of_body Bd
  have e0 : s₁.heap = h0 := by rw [← hh, Bd.state]; rfl
  have N0 := Fr.nil n0
  refine own_start (Q := Qrm3 st h0 n0) (g' := (mkF m 0 #[.val (.ref a1)] [])) (by first | (simp [entryFrame, mkF, argsToLocals, Value.category]; done) | rfl) ?_
  show own_Gl _ _ _ _ (s₁.setTop (mkF m 0 #[.val (.ref a1)] []))
  refine own_back (fun t_ q_ => XS.aloadN X0.here hx rfl (hb hby d3_0) rfl rfl q_) ?_
  show own_Gl _ _ _ _ (s₁.setTop (mkF m 1 #[.val (.ref a1)] [(.ref a1)]))
  obtain ⟨T9, X9, e9, st9⟩ := getF X0 hx hZ hown (host := "") (Or.inl (hw _ (List.mem_of_getElem? (i := 19) rfl))) Via.refl e0 F (g := (mkF m 1 #[.val (.ref a1)] [(.ref a1)])) rfl rfl (hb hby d3_1)
  refine own_back st9 ?_
  show own_Gl _ _ _ _ (T9.setTop (mkF m 4 #[.val (.ref a1)] [(.ref st)]))
  exact own_rA X9 hx hlk Bd.returns rfl rfl rfl (hb hby d3_4) (by show Qrm3 st h0 n0 _ T9.heap _; rw [e9]; exact ⟨rfl, N0, rfl⟩) (by decide) (by decide)
theorem d10_0 : decode jdk_37_method_2_code 0 = .ok (.aload_n 0, 1) := by decide +kernel
theorem d10_1 : decode jdk_37_method_2_code 1 = .ok (.getfield 7, 3) := by decide +kernel
theorem d10_4 : decode jdk_37_method_2_code 4 = .ok (.ireturn, 1) := by decide +kernel
theorem pn_10 : plainFor (⟨"java/lang/Enum", "ordinal", "()I"⟩ : MethodName) = true := plainFor_of_name (by first | (simp [plainName, overriddenIn]; done) | decide +kernel)
def Qrm10 (k : Int32) (h0 : Heap) (n0 : Nat) (v : Option Value) (h : Heap) (L : List Loc) : Prop := v = some (.int k) ∧ Fr n0 L ∧ h = h0
set_option maxRecDepth 65536 in
set_option maxHeartbeats 40000000 in
theorem rm10 (l : Launch) (Z : State) (a0 : Array Value) (hw : ∀ d ∈ tables_1, d.before a0 Z = true) (ws : List Jvm.Cond) (a1 : Addr) (h0 : Heap) (n0 : Nat) (Z0 : n0 ≤ h0.size) (k : Int32) (F : Fld Z h0 a1 "java/lang/Enum" "ordinal" "I" (.int k)) :
    MetFree l (⟨"java/lang/Enum", "ordinal", "()I"⟩ : MethodName) (head1 (Jvm.Cond.code (⟨"java/lang/Enum", "ordinal", "()I"⟩ : MethodName) jdk_37_method_2_code 1 (some .int) :: ws) ({ frames := 0, cells := 0, slots := 0, locals := 0 } : Room)) (fun a_ U_ => a_ = #[(.ref a1)] ∧ Z.Warmed39 U_.vm ∧ U_.heap = h0) (fun _ _ _ _ _ => True) (fun _ U_ o_ U'_ => ∃ v_ L_, o_ = .returned v_ ∧ (Qrm10 k h0 n0) v_ U'_.heap L_ ∧ FrameEnd U_ o_ U'_ L_ 0 0) := by
  refine MetFree.of_bodySF pn_10 hisR ?_
  intro p e s m args below meth c s₁ Bd hml0 hP hK
  obtain ⟨rfl, hZ, hh⟩ := hP
  have hx := Bd.exec
  have hby := Bd.bytes
  have hlk : meth.locks = false := Bd.notSynchronized
  have hml : c.maxLocals = 1 := hml0
  have hown : s.vm.findClass "java/lang/Enum" = some m.cls := findClass_of_methodNamed Bd.named
  have hnm := (name_of_methodNamed Bd.named Bd.method).1
  have X0 : Stand p l e ({ frames := 0, cells := 0, slots := 0, locals := 0 } : Room) s m #[(.ref a1)] below meth c s₁ [] 0 0 := Stand.of_body Bd
  have e0 : s₁.heap = h0 := by rw [← hh, Bd.state]; rfl
  have N0 := Fr.nil n0
  refine own_start (Q := Qrm10 k h0 n0) (g' := (mkF m 0 #[.val (.ref a1)] [])) (by first | (simp [entryFrame, mkF, argsToLocals, Value.category]; done) | rfl) ?_
  show own_Gl _ _ _ _ (s₁.setTop (mkF m 0 #[.val (.ref a1)] []))
  refine own_back (fun t_ q_ => XS.aloadN X0.here hx rfl (hb hby d10_0) rfl rfl q_) ?_
  show own_Gl _ _ _ _ (s₁.setTop (mkF m 1 #[.val (.ref a1)] [(.ref a1)]))
  obtain ⟨T10, X10, e10, st10⟩ := getF X0 hx hZ hown (host := "") (Or.inl (hw _ (List.mem_of_getElem? (i := 61) rfl))) Via.refl e0 F (g := (mkF m 1 #[.val (.ref a1)] [(.ref a1)])) rfl rfl (hb hby d10_1)
  refine own_back st10 ?_
  show own_Gl _ _ _ _ (T10.setTop (mkF m 4 #[.val (.ref a1)] [(.int k)]))
  exact own_rI X10 hx hlk Bd.returns (hb hby d10_4) (by show Qrm10 k h0 n0 _ T10.heap _; rw [e10]; exact ⟨rfl, N0, rfl⟩) (by decide) (by decide)
theorem d8_0 : decode jdk_41_method_11_code 0 = .ok (.iload_n 0, 1) := by decide +kernel
theorem d8_1 : decode jdk_41_method_11_code 1 = .ok (.ifCond .lt 8, 3) := by decide +kernel
theorem d8_4 : decode jdk_41_method_11_code 4 = .ok (.iload_n 0, 1) := by decide +kernel
theorem d8_5 : decode jdk_41_method_11_code 5 = .ok (.iload_n 1, 1) := by decide +kernel
theorem d8_6 : decode jdk_41_method_11_code 6 = .ok (.if_icmp .lt 10, 3) := by decide +kernel
theorem d8_9 : decode jdk_41_method_11_code 9 = .ok (.aload_n 2, 1) := by decide +kernel
theorem d8_10 : decode jdk_41_method_11_code 10 = .ok (.iload_n 0, 1) := by decide +kernel
theorem d8_11 : decode jdk_41_method_11_code 11 = .ok (.iload_n 1, 1) := by decide +kernel
theorem d8_12 : decode jdk_41_method_11_code 12 = .ok (.invokestatic 95, 3) := by decide +kernel
theorem d8_15 : decode jdk_41_method_11_code 15 = .ok (.athrow, 1) := by decide +kernel
theorem d8_16 : decode jdk_41_method_11_code 16 = .ok (.iload_n 0, 1) := by decide +kernel
theorem d8_17 : decode jdk_41_method_11_code 17 = .ok (.ireturn, 1) := by decide +kernel
theorem pn_8 : plainFor (⟨"jdk/internal/util/Preconditions", "checkIndex", "(IILjava/util/function/BiFunction;)I"⟩ : MethodName) = true := plainFor_of_name (by first | (simp [plainName, overriddenIn]; done) | decide +kernel)
def Qrm8 (p1 : Int32) (h0 : Heap) (n0 : Nat) (v : Option Value) (h : Heap) (L : List Loc) : Prop := v = some (.int p1) ∧ Fr n0 L ∧ h = h0
set_option maxRecDepth 65536 in
set_option maxHeartbeats 40000000 in
theorem rm8 (l : Launch) (Z : State) (a0 : Array Value) (hw : ∀ d ∈ tables_1, d.before a0 Z = true) (ws : List Jvm.Cond) (p1 : Int32) (p2 : Int32) (fm : Value) (h0 : Heap) (n0 : Nat) (Z0 : n0 ≤ h0.size) (hf : fm.isRef = true) (h1 : ¬ p1 < (0 : Int32)) (h2 : p1 < p2) :
    MetFree l (⟨"jdk/internal/util/Preconditions", "checkIndex", "(IILjava/util/function/BiFunction;)I"⟩ : MethodName) (head1 (Jvm.Cond.code (⟨"jdk/internal/util/Preconditions", "checkIndex", "(IILjava/util/function/BiFunction;)I"⟩ : MethodName) jdk_41_method_11_code 3 (some .int) :: ws) ({ frames := 0, cells := 0, slots := 0, locals := 0 } : Room)) (fun a_ U_ => a_ = #[(.int p1), (.int p2), fm] ∧ Z.Warmed39 U_.vm ∧ U_.heap = h0) (fun _ _ _ _ _ => True) (fun _ U_ o_ U'_ => ∃ v_ L_, o_ = .returned v_ ∧ (Qrm8 p1 h0 n0) v_ U'_.heap L_ ∧ FrameEnd U_ o_ U'_ L_ 0 0) := by
  refine MetFree.of_bodySF pn_8 hisR ?_
  intro p e s m args below meth c s₁ Bd hml0 hP hK
  obtain ⟨rfl, hZ, hh⟩ := hP
  have hx := Bd.exec
  have hby := Bd.bytes
  have hlk : meth.locks = false := Bd.notSynchronized
  have hml : c.maxLocals = 3 := hml0
  have hown : s.vm.findClass "jdk/internal/util/Preconditions" = some m.cls := findClass_of_methodNamed Bd.named
  have hnm := (name_of_methodNamed Bd.named Bd.method).1
  have X0 : Stand p l e ({ frames := 0, cells := 0, slots := 0, locals := 0 } : Room) s m #[(.int p1), (.int p2), fm] below meth c s₁ [] 0 0 := Stand.of_body Bd
  have e0 : s₁.heap = h0 := by rw [← hh, Bd.state]; rfl
  have N0 := Fr.nil n0
  refine own_start (Q := Qrm8 p1 h0 n0) (g' := (mkF m 0 #[.val (.int p1), .val (.int p2), .val fm] [])) (by rcases Jvm.Free.XT.refc hf with q | ⟨r, q⟩ <;> subst q <;> first | (simp [entryFrame, mkF, argsToLocals, Value.category]; done) | rfl) ?_
  show own_Gl _ _ _ _ (s₁.setTop (mkF m 0 #[.val (.int p1), .val (.int p2), .val fm] []))
  refine own_back (fun t_ q_ => XS.iloadN X0.here hx rfl (hb hby d8_0) rfl q_) ?_
  show own_Gl _ _ _ _ (s₁.setTop (mkF m 1 #[.val (.int p1), .val (.int p2), .val fm] [(.int p1)]))
  refine own_back (fun t_ q_ => XS.ifNo X0.here hx rfl (hb hby d8_1) rfl ((if0 _ _).trans (flt (h1 : ¬ (p1 < (0 : Int32)))).1) q_) ?_
  show own_Gl _ _ _ _ (s₁.setTop (mkF m 4 #[.val (.int p1), .val (.int p2), .val fm] []))
  refine own_back (fun t_ q_ => XS.iloadN X0.here hx rfl (hb hby d8_4) rfl q_) ?_
  show own_Gl _ _ _ _ (s₁.setTop (mkF m 5 #[.val (.int p1), .val (.int p2), .val fm] [(.int p1)]))
  refine own_back (fun t_ q_ => XS.iloadN X0.here hx rfl (hb hby d8_5) rfl q_) ?_
  show own_Gl _ _ _ _ (s₁.setTop (mkF m 6 #[.val (.int p1), .val (.int p2), .val fm] [(.int p2), (.int p1)]))
  refine own_back (fun t_ q_ => XS.icmpYes X0.here hx rfl (pc0 := 6) (pc' := 16) rfl (hb hby d8_6) rfl (tlt (h2 : p1 < p2)).1 (by decide) (by decide) q_) ?_
  show own_Gl _ _ _ _ (s₁.setTop (mkF m 16 #[.val (.int p1), .val (.int p2), .val fm] []))
  refine own_back (fun t_ q_ => XS.iloadN X0.here hx rfl (hb hby d8_16) rfl q_) ?_
  show own_Gl _ _ _ _ (s₁.setTop (mkF m 17 #[.val (.int p1), .val (.int p2), .val fm] [(.int p1)]))
  exact own_rI X0 hx hlk Bd.returns (hb hby d8_17) (by show Qrm8 p1 h0 n0 _ s₁.heap _; rw [e0]; exact ⟨rfl, N0, rfl⟩) (by decide) (by decide)
theorem d7_0 : decode jdk_42_method_155_code 0 = .ok (.iload_n 0, 1) := by decide +kernel
theorem d7_1 : decode jdk_42_method_155_code 1 = .ok (.iload_n 1, 1) := by decide +kernel
theorem d7_2 : decode jdk_42_method_155_code 2 = .ok (.getstatic 1053, 3) := by decide +kernel
theorem d7_5 : decode jdk_42_method_155_code 5 = .ok (.invokestatic 1059, 3) := by decide +kernel
theorem pd_0 : parseMethodDescriptor "(IILjava/util/function/BiFunction;)I" = some ⟨[.int, .int, (.object "java/util/function/BiFunction")], some .int⟩ := by decide +kernel
theorem d7_8 : decode jdk_42_method_155_code 8 = .ok (.pop, 1) := by decide +kernel
theorem d7_9 : decode jdk_42_method_155_code 9 = .ok (.return_, 1) := by decide +kernel
theorem pn_7 : plainFor (⟨"java/lang/String", "checkIndex", "(II)V"⟩ : MethodName) = true := plainFor_of_name (by first | (simp [plainName, overriddenIn]; done) | decide +kernel)
def Qrm7 (h0 : Heap) (n0 : Nat) (v : Option Value) (h : Heap) (L : List Loc) : Prop := v = none ∧ Fr n0 L ∧ h = h0
set_option maxRecDepth 65536 in
set_option maxHeartbeats 40000000 in
theorem rm7 (l : Launch) (Z : State) (a0 : Array Value) (hw : ∀ d ∈ tables_1, d.before a0 Z = true) (ws : List Jvm.Cond) (p1 : Int32) (p2 : Int32) (h0 : Heap) (n0 : Nat) (Z0 : n0 ≤ h0.size) (fm : Value) (hf : fm.isRef = true) (Sf : Sta Z h0 "jdk/internal/util/Preconditions" "SIOOBE_FORMATTER" "Ljava/util/function/BiFunction;" fm) (h1 : ¬ p1 < (0 : Int32)) (h2 : p1 < p2) :
    MetFree l (⟨"java/lang/String", "checkIndex", "(II)V"⟩ : MethodName) (head1 (Jvm.Cond.code (⟨"java/lang/String", "checkIndex", "(II)V"⟩ : MethodName) jdk_42_method_155_code 2 none :: ws) ({ frames := 1, cells := 0, slots := 0, locals := 14 } : Room)) (fun a_ U_ => a_ = #[(.int p1), (.int p2)] ∧ Z.Warmed39 U_.vm ∧ U_.heap = h0) (fun _ _ _ _ _ => True) (fun _ U_ o_ U'_ => ∃ v_ L_, o_ = .returned v_ ∧ (Qrm7 h0 n0) v_ U'_.heap L_ ∧ FrameEnd U_ o_ U'_ L_ 0 0) := by
  refine MetFree.of_bodySF pn_7 hisR ?_
  intro p e s m args below meth c s₁ Bd hml0 hP hK
  obtain ⟨rfl, hZ, hh⟩ := hP
  have hx := Bd.exec
  have hby := Bd.bytes
  have hlk : meth.locks = false := Bd.notSynchronized
  have hml : c.maxLocals = 2 := hml0
  have hown : s.vm.findClass "java/lang/String" = some m.cls := findClass_of_methodNamed Bd.named
  have hnm := (name_of_methodNamed Bd.named Bd.method).1
  have X0 : Stand p l e ({ frames := 1, cells := 0, slots := 0, locals := 14 } : Room) s m #[(.int p1), (.int p2)] below meth c s₁ [] 0 0 := Stand.of_body Bd
  have e0 : s₁.heap = h0 := by rw [← hh, Bd.state]; rfl
  have N0 := Fr.nil n0
  refine own_start (Q := Qrm7 h0 n0) (g' := (mkF m 0 #[.val (.int p1), .val (.int p2)] [])) (by first | (simp [entryFrame, mkF, argsToLocals, Value.category]; done) | rfl) ?_
  show own_Gl _ _ _ _ (s₁.setTop (mkF m 0 #[.val (.int p1), .val (.int p2)] []))
  refine own_back (fun t_ q_ => XS.iloadN X0.here hx rfl (hb hby d7_0) rfl q_) ?_
  show own_Gl _ _ _ _ (s₁.setTop (mkF m 1 #[.val (.int p1), .val (.int p2)] [(.int p1)]))
  refine own_back (fun t_ q_ => XS.iloadN X0.here hx rfl (hb hby d7_1) rfl q_) ?_
  show own_Gl _ _ _ _ (s₁.setTop (mkF m 2 #[.val (.int p1), .val (.int p2)] [(.int p2), (.int p1)]))
  obtain ⟨T11, X11, e11, st11⟩ := getS2 X0 hx hZ hown (host := "") (Or.inl (hw _ (List.mem_of_getElem? (i := 44) rfl))) Via.refl e0 Sf (g := (mkF m 2 #[.val (.int p1), .val (.int p2)] [(.int p2), (.int p1)])) rfl (hb hby d7_2)
  refine own_back st11 ?_
  show own_Gl _ _ _ _ (T11.setTop (mkF m 5 #[.val (.int p1), .val (.int p2)] [fm, (.int p2), (.int p1)]))
  obtain ⟨_, _, ⟨T12, L12, k12, n12⟩, -, X12, ⟨Lc12, hQ12, l12, y12, z12⟩, st12⟩ := Jvm.LawKit.callS X11 hx (y := (⟨"jdk/internal/util/Preconditions", "checkIndex", "(IILjava/util/function/BiFunction;)I"⟩ : MethodName)) hown (mvT hZ (hw _ (List.mem_of_getElem? (i := 46) rfl))) (mvT hZ (hw _ (List.mem_of_getElem? (i := 47) rfl))) (mvT hZ (hw _ (List.mem_of_getElem? (i := 45) rfl))) (mvT hZ (hw _ (List.mem_of_getElem? (i := 48) rfl))) (by decide) (backOf (W := 0) (rm8 l Z a0 hw [] p1 p2 fm h0 n0 Z0 hf h1 h2) hZ (hw _ (List.mem_of_getElem? (i := 48) rfl)) (hw _ (List.mem_of_getElem? (i := 45) rfl)) (by decide) (by decide)) (g := (mkF m 5 #[.val (.int p1), .val (.int p2)] [fm, (.int p2), (.int p1)])) rfl (by rw [hml]; rfl) (argsL := [(.int p1), (.int p2), fm]) (rest := []) (lenOf pd_0 rfl) rfl (by show 2 * 0 + _ ≤ _; exact Nat.le_of_eq rfl) (hb hby d7_5) (fun _ _ => ⟨rfl, e11, (by decide : 0 + 0 ≤ _), (by decide : 0 + 0 ≤ _)⟩)
  dsimp only [Pt.U, Pt.locs, Pt.cells, Pt.slots] at X12 l12 y12 z12 st12 hQ12
  subst l12 y12 z12
  obtain ⟨rfl, M12, e12⟩ := hQ12
  have N12 := Fr.app N0 M12
  refine own_back st12 ?_
  show own_Gl _ _ _ _ (T12.setTop (mkF m 8 #[.val (.int p1), .val (.int p2)] [(.int p1)]))
  refine own_back (fun t_ q_ => XS.pop X12.here hx rfl (hb hby d7_8) rfl rfl q_) ?_
  show own_Gl _ _ _ _ (T12.setTop (mkF m 9 #[.val (.int p1), .val (.int p2)] []))
  exact own_rV X12 hx hlk Bd.returns (hb hby d7_9) (by show Qrm7 h0 n0 _ T12.heap _; rw [e12]; exact ⟨rfl, N12, rfl⟩) (by decide) (by decide)
theorem d6_0 : decode jdk_43_method_2_code 0 = .ok (.iload_n 1, 1) := by decide +kernel
theorem d6_1 : decode jdk_43_method_2_code 1 = .ok (.aload_n 0, 1) := by decide +kernel
theorem d6_2 : decode jdk_43_method_2_code 2 = .ok (.arraylength, 1) := by decide +kernel
theorem d6_3 : decode jdk_43_method_2_code 3 = .ok (.invokestatic 9, 3) := by decide +kernel
theorem pd_1 : parseMethodDescriptor "(II)V" = some ⟨[.int, .int], none⟩ := by decide +kernel
theorem d6_6 : decode jdk_43_method_2_code 6 = .ok (.aload_n 0, 1) := by decide +kernel
theorem d6_7 : decode jdk_43_method_2_code 7 = .ok (.iload_n 1, 1) := by decide +kernel
theorem d6_8 : decode jdk_43_method_2_code 8 = .ok (.baload, 1) := by decide +kernel
theorem d6_9 : decode jdk_43_method_2_code 9 = .ok (.sipush 255, 3) := by decide +kernel
theorem d6_12 : decode jdk_43_method_2_code 12 = .ok (.iand, 1) := by decide +kernel
theorem d6_13 : decode jdk_43_method_2_code 13 = .ok (.i2c, 1) := by decide +kernel
theorem d6_14 : decode jdk_43_method_2_code 14 = .ok (.ireturn, 1) := by decide +kernel
theorem pn_6 : plainFor (⟨"java/lang/StringLatin1", "charAt", "([BI)C"⟩ : MethodName) = true := plainFor_of_name (by first | (simp [plainName, overriddenIn]; done) | decide +kernel)
def Qrm6 (ch : Int32) (h0 : Heap) (n0 : Nat) (v : Option Value) (h : Heap) (L : List Loc) : Prop := v = some (.int (own_c ch)) ∧ Fr n0 L ∧ h = h0
set_option maxRecDepth 65536 in
set_option maxHeartbeats 40000000 in
theorem rm6 (l : Launch) (Z : State) (a0 : Array Value) (hw : ∀ d ∈ tables_1, d.before a0 Z = true) (ws : List Jvm.Cond) (a1 : Addr) (p2 : Int32) (h0 : Heap) (n0 : Nat) (Z0 : n0 ≤ h0.size) (fm : Value) (hf : fm.isRef = true) (Sf : Sta Z h0 "jdk/internal/util/Preconditions" "SIOOBE_FORMATTER" "Ljava/util/function/BiFunction;" fm) (cl : Cell) (ch : Int32) (A : Arr Z h0 a1 cl .byte) (h1 : (0 : Int32) < cl.slots.size.toInt32) (hin : ¬ ((0 : Int32) < 0 ∨ cl.slots.size ≤ (0 : Int32).toNatClampNeg)) (hat : cl.slots[(0 : Int32).toNatClampNeg]? = some (.int ch)) (hp : p2 = 0) :
    MetFree l (⟨"java/lang/StringLatin1", "charAt", "([BI)C"⟩ : MethodName) (head1 (Jvm.Cond.code (⟨"java/lang/StringLatin1", "charAt", "([BI)C"⟩ : MethodName) jdk_43_method_2_code 2 (some .char) :: ws) ({ frames := 2, cells := 0, slots := 0, locals := 29 } : Room)) (fun a_ U_ => a_ = #[(.ref a1), (.int p2)] ∧ Z.Warmed39 U_.vm ∧ U_.heap = h0) (fun _ _ _ _ _ => True) (fun _ U_ o_ U'_ => ∃ v_ L_, o_ = .returned v_ ∧ (Qrm6 ch h0 n0) v_ U'_.heap L_ ∧ FrameEnd U_ o_ U'_ L_ 0 0) := by
  refine MetFree.of_bodySF pn_6 hisR ?_
  intro p e s m args below meth c s₁ Bd hml0 hP hK
  obtain ⟨rfl, hZ, hh⟩ := hP
  have hx := Bd.exec
  have hby := Bd.bytes
  have hlk : meth.locks = false := Bd.notSynchronized
  have hml : c.maxLocals = 2 := hml0
  have hown : s.vm.findClass "java/lang/StringLatin1" = some m.cls := findClass_of_methodNamed Bd.named
  have hnm := (name_of_methodNamed Bd.named Bd.method).1
  have X0 : Stand p l e ({ frames := 2, cells := 0, slots := 0, locals := 29 } : Room) s m #[(.ref a1), (.int p2)] below meth c s₁ [] 0 0 := Stand.of_body Bd
  have e0 : s₁.heap = h0 := by rw [← hh, Bd.state]; rfl
  have N0 := Fr.nil n0
  refine own_start (Q := Qrm6 ch h0 n0) (g' := (mkF m 0 #[.val (.ref a1), .val (.int p2)] [])) (by first | (simp [entryFrame, mkF, argsToLocals, Value.category]; done) | rfl) ?_
  show own_Gl _ _ _ _ (s₁.setTop (mkF m 0 #[.val (.ref a1), .val (.int p2)] []))
  subst hp
  obtain ⟨zl, hzl⟩ : ∃ z, z = cl.slots.size.toInt32 := ⟨_, rfl⟩
  rw [← hzl] at h1
  show own_Gl _ _ _ _ (s₁.setTop (mkF m 0 #[.val (.ref a1), .val (.int (0 : Int32))] []))
  refine own_back (fun t_ q_ => XS.iloadN X0.here hx rfl (hb hby d6_0) rfl q_) ?_
  show own_Gl _ _ _ _ (s₁.setTop (mkF m 1 #[.val (.ref a1), .val (.int (0 : Int32))] [(.int (0 : Int32))]))
  refine own_back (fun t_ q_ => XS.aloadN X0.here hx rfl (hb hby d6_1) rfl rfl q_) ?_
  show own_Gl _ _ _ _ (s₁.setTop (mkF m 2 #[.val (.ref a1), .val (.int (0 : Int32))] [(.ref a1), (.int (0 : Int32))]))
  refine own_back (fun t_ q_ => X0.arraylength hx (by rw [e0]; exact A.1) (State.isArrayOf_alike hZ.alike A.2.1) (g := (mkF m 2 #[.val (.ref a1), .val (.int (0 : Int32))] [(.ref a1), (.int (0 : Int32))])) rfl rfl (hb hby d6_2) t_ q_) ?_
  rw [← hzl]
  show own_Gl _ _ _ _ (s₁.setTop (mkF m 3 #[.val (.ref a1), .val (.int (0 : Int32))] [(.int zl), (.int (0 : Int32))]))
  obtain ⟨_, _, ⟨T13, L13, k13, n13⟩, -, X13, ⟨Lc13, hQ13, l13, y13, z13⟩, st13⟩ := Jvm.LawKit.callS X0 hx (y := (⟨"java/lang/String", "checkIndex", "(II)V"⟩ : MethodName)) hown (mvT hZ (hw _ (List.mem_of_getElem? (i := 41) rfl))) (mvT hZ (hw _ (List.mem_of_getElem? (i := 42) rfl))) (mvT hZ (hw _ (List.mem_of_getElem? (i := 25) rfl))) (mvT hZ (hw _ (List.mem_of_getElem? (i := 43) rfl))) (by decide) (backOf (W := 0) (rm7 l Z a0 hw [] 0 zl h0 n0 Z0 fm hf Sf (by decide) h1) hZ (hw _ (List.mem_of_getElem? (i := 43) rfl)) (hw _ (List.mem_of_getElem? (i := 25) rfl)) (by decide) (by decide)) (g := (mkF m 3 #[.val (.ref a1), .val (.int (0 : Int32))] [(.int zl), (.int (0 : Int32))])) rfl (by rw [hml]; rfl) (argsL := [(.int (0 : Int32)), (.int zl)]) (rest := []) (lenOf pd_1 rfl) rfl (by show 2 * 0 + _ ≤ _; exact Nat.le_of_eq rfl) (hb hby d6_3) (fun _ _ => ⟨rfl, e0, (by decide : 0 + 0 ≤ _), (by decide : 0 + 0 ≤ _)⟩)
  dsimp only [Pt.U, Pt.locs, Pt.cells, Pt.slots] at X13 l13 y13 z13 st13 hQ13
  subst l13 y13 z13
  obtain ⟨rfl, M13, e13⟩ := hQ13
  have N13 := Fr.app N0 M13
  refine own_back st13 ?_
  show own_Gl _ _ _ _ (T13.setTop (mkF m 6 #[.val (.ref a1), .val (.int (0 : Int32))] []))
  refine own_back (fun t_ q_ => XS.aloadN X13.here hx rfl (hb hby d6_6) rfl rfl q_) ?_
  show own_Gl _ _ _ _ (T13.setTop (mkF m 7 #[.val (.ref a1), .val (.int (0 : Int32))] [(.ref a1)]))
  refine own_back (fun t_ q_ => XS.iloadN X13.here hx rfl (hb hby d6_7) rfl q_) ?_
  show own_Gl _ _ _ _ (T13.setTop (mkF m 8 #[.val (.ref a1), .val (.int (0 : Int32))] [(.int (0 : Int32)), (.ref a1)]))
  refine own_back (fun t_ q_ => X13.baloadBytes hx (j := (0 : Int32)) (v := (.int ch)) (by rw [e13]; exact A.1) (State.isArrayOf_alike hZ.alike A.2.1) A.2.2 hin hat (g := (mkF m 8 #[.val (.ref a1), .val (.int (0 : Int32))] [(.int (0 : Int32)), (.ref a1)])) rfl rfl (hb hby d6_8) t_ q_) ?_
  show own_Gl _ _ _ _ (T13.setTop (mkF m 9 #[.val (.ref a1), .val (.int (0 : Int32))] [(.int ch)]))
  refine own_back (fun t_ q_ => XS.sipush X13.here hx rfl (hb hby d6_9) q_) ?_
  show own_Gl _ _ _ _ (T13.setTop (mkF m 12 #[.val (.ref a1), .val (.int (0 : Int32))] [(.int (255 : Int32)), (.int ch)]))
  refine own_back (fun t_ q_ => XS.iand X13.here hx rfl (hb hby d6_12) rfl q_) ?_
  show own_Gl _ _ _ _ (T13.setTop (mkF m 13 #[.val (.ref a1), .val (.int (0 : Int32))] [(.int (ch &&& (255 : Int32)))]))
  refine own_back (fun t_ q_ => XS.i2c X13.here hx rfl (hb hby d6_13) rfl q_) ?_
  show own_Gl _ _ _ _ (T13.setTop (mkF m 14 #[.val (.ref a1), .val (.int (0 : Int32))] [(.int ((ch &&& (255 : Int32)).toUInt32.toUInt16.toUInt32.toInt32))]))
  exact own_rC X13 hx hlk Bd.returns (hb hby d6_14) rfl (by show Qrm6 ch h0 n0 _ T13.heap _; rw [e13]; exact ⟨rfl, N13, rfl⟩) (by decide) (by decide)
theorem d5_0 : decode jdk_42_method_154_code 0 = .ok (.getstatic 38, 3) := by decide +kernel
theorem d5_3 : decode jdk_42_method_154_code 3 = .ok (.ifCond .eq 14, 3) := by decide +kernel
theorem d5_6 : decode jdk_42_method_154_code 6 = .ok (.aload_n 0, 1) := by decide +kernel
theorem d5_7 : decode jdk_42_method_154_code 7 = .ok (.getfield 15, 3) := by decide +kernel
theorem d5_10 : decode jdk_42_method_154_code 10 = .ok (.ifCond .ne 7, 3) := by decide +kernel
theorem d5_13 : decode jdk_42_method_154_code 13 = .ok (.iconst 1, 1) := by decide +kernel
theorem d5_14 : decode jdk_42_method_154_code 14 = .ok (.goto 4, 3) := by decide +kernel
theorem d5_17 : decode jdk_42_method_154_code 17 = .ok (.iconst 0, 1) := by decide +kernel
theorem d5_18 : decode jdk_42_method_154_code 18 = .ok (.ireturn, 1) := by decide +kernel
theorem pn_5 : plainFor (⟨"java/lang/String", "isLatin1", "()Z"⟩ : MethodName) = true := plainFor_of_name (by first | (simp [plainName, overriddenIn]; done) | decide +kernel)
def Qrm5 (h0 : Heap) (n0 : Nat) (v : Option Value) (h : Heap) (L : List Loc) : Prop := v = some (.int 1) ∧ Fr n0 L ∧ h = h0
set_option maxRecDepth 65536 in
set_option maxHeartbeats 40000000 in
theorem rm5 (l : Launch) (Z : State) (a0 : Array Value) (hw : ∀ d ∈ tables_1, d.before a0 Z = true) (ws : List Jvm.Cond) (a1 : Addr) (h0 : Heap) (n0 : Nat) (Z0 : n0 ≤ h0.size) (cs : Int32) (hcs : ¬ cs = (0 : Int32)) (Sc : Sta Z h0 "java/lang/String" "COMPACT_STRINGS" "Z" (.int cs)) (F : Fld Z h0 a1 "java/lang/String" "coder" "B" (.int 0)) :
    MetFree l (⟨"java/lang/String", "isLatin1", "()Z"⟩ : MethodName) (head1 (Jvm.Cond.code (⟨"java/lang/String", "isLatin1", "()Z"⟩ : MethodName) jdk_42_method_154_code 1 (some .boolean) :: ws) ({ frames := 0, cells := 0, slots := 0, locals := 0 } : Room)) (fun a_ U_ => a_ = #[(.ref a1)] ∧ Z.Warmed39 U_.vm ∧ U_.heap = h0) (fun _ _ _ _ _ => True) (fun _ U_ o_ U'_ => ∃ v_ L_, o_ = .returned v_ ∧ (Qrm5 h0 n0) v_ U'_.heap L_ ∧ FrameEnd U_ o_ U'_ L_ 0 0) := by
  refine MetFree.of_bodySF pn_5 hisR ?_
  intro p e s m args below meth c s₁ Bd hml0 hP hK
  obtain ⟨rfl, hZ, hh⟩ := hP
  have hx := Bd.exec
  have hby := Bd.bytes
  have hlk : meth.locks = false := Bd.notSynchronized
  have hml : c.maxLocals = 1 := hml0
  have hown : s.vm.findClass "java/lang/String" = some m.cls := findClass_of_methodNamed Bd.named
  have hnm := (name_of_methodNamed Bd.named Bd.method).1
  have X0 : Stand p l e ({ frames := 0, cells := 0, slots := 0, locals := 0 } : Room) s m #[(.ref a1)] below meth c s₁ [] 0 0 := Stand.of_body Bd
  have e0 : s₁.heap = h0 := by rw [← hh, Bd.state]; rfl
  have N0 := Fr.nil n0
  refine own_start (Q := Qrm5 h0 n0) (g' := (mkF m 0 #[.val (.ref a1)] [])) (by first | (simp [entryFrame, mkF, argsToLocals, Value.category]; done) | rfl) ?_
  show own_Gl _ _ _ _ (s₁.setTop (mkF m 0 #[.val (.ref a1)] []))
  obtain ⟨T14, X14, e14, st14⟩ := getS2 X0 hx hZ hown (host := "") (Or.inl (hw _ (List.mem_of_getElem? (i := 32) rfl))) Via.refl e0 Sc (g := (mkF m 0 #[.val (.ref a1)] [])) rfl (hb hby d5_0)
  refine own_back st14 ?_
  show own_Gl _ _ _ _ (T14.setTop (mkF m 3 #[.val (.ref a1)] [(.int cs)]))
  refine own_back (fun t_ q_ => XS.ifNo X14.here hx rfl (hb hby d5_3) rfl ((if0 _ _).trans (feq (hcs : ¬ (cs = (0 : Int32)))).1) q_) ?_
  show own_Gl _ _ _ _ (T14.setTop (mkF m 6 #[.val (.ref a1)] []))
  refine own_back (fun t_ q_ => XS.aloadN X14.here hx rfl (hb hby d5_6) rfl rfl q_) ?_
  show own_Gl _ _ _ _ (T14.setTop (mkF m 7 #[.val (.ref a1)] [(.ref a1)]))
  obtain ⟨T15, X15, e15, st15⟩ := getF X14 hx hZ hown (host := "") (Or.inl (hw _ (List.mem_of_getElem? (i := 33) rfl))) Via.refl e14 F (g := (mkF m 7 #[.val (.ref a1)] [(.ref a1)])) rfl rfl (hb hby d5_7)
  refine own_back st15 ?_
  show own_Gl _ _ _ _ (T15.setTop (mkF m 10 #[.val (.ref a1)] [(.int (0 : Int32))]))
  refine own_back (fun t_ q_ => XS.ifNo X15.here hx rfl (hb hby d5_10) rfl ((if0 _ _).trans (teq (rfl : (0 : Int32) = (0 : Int32))).2) q_) ?_
  show own_Gl _ _ _ _ (T15.setTop (mkF m 13 #[.val (.ref a1)] []))
  refine own_back (fun t_ q_ => XS.iconst X15.here hx rfl (hb hby d5_13) q_) ?_
  show own_Gl _ _ _ _ (T15.setTop (mkF m 14 #[.val (.ref a1)] [(.int (1 : Int32))]))
  refine own_back (fun t_ q_ => XS.goto X15.here hx rfl (pc0 := 14) (pc' := 18) rfl (hb hby d5_14) (by decide) (by decide) q_) ?_
  show own_Gl _ _ _ _ (T15.setTop (mkF m 18 #[.val (.ref a1)] [(.int (1 : Int32))]))
  exact own_rZ X15 hx hlk Bd.returns (hb hby d5_18) (own_one rfl) (by show Qrm5 h0 n0 _ T15.heap _; rw [e15]; exact ⟨rfl, N0, rfl⟩) (by decide) (by decide)
theorem d4_0 : decode jdk_42_method_56_code 0 = .ok (.aload_n 0, 1) := by decide +kernel
theorem d4_1 : decode jdk_42_method_56_code 1 = .ok (.invokevirtual 492, 3) := by decide +kernel
theorem pd_2 : parseMethodDescriptor "()Z" = some ⟨[], some .boolean⟩ := by decide +kernel
theorem d4_4 : decode jdk_42_method_56_code 4 = .ok (.ifCond .eq 12, 3) := by decide +kernel
theorem d4_7 : decode jdk_42_method_56_code 7 = .ok (.aload_n 0, 1) := by decide +kernel
theorem d4_8 : decode jdk_42_method_56_code 8 = .ok (.getfield 9, 3) := by decide +kernel
theorem d4_11 : decode jdk_42_method_56_code 11 = .ok (.iload_n 1, 1) := by decide +kernel
theorem d4_12 : decode jdk_42_method_56_code 12 = .ok (.invokestatic 495, 3) := by decide +kernel
theorem pd_3 : parseMethodDescriptor "([BI)C" = some ⟨[(.array .byte), .int], some .char⟩ := by decide +kernel
theorem d4_15 : decode jdk_42_method_56_code 15 = .ok (.ireturn, 1) := by decide +kernel
theorem d4_16 : decode jdk_42_method_56_code 16 = .ok (.aload_n 0, 1) := by decide +kernel
theorem d4_17 : decode jdk_42_method_56_code 17 = .ok (.getfield 9, 3) := by decide +kernel
theorem d4_20 : decode jdk_42_method_56_code 20 = .ok (.iload_n 1, 1) := by decide +kernel
theorem d4_21 : decode jdk_42_method_56_code 21 = .ok (.invokestatic 498, 3) := by decide +kernel
theorem d4_24 : decode jdk_42_method_56_code 24 = .ok (.ireturn, 1) := by decide +kernel
theorem pn_4 : plainFor (⟨"java/lang/String", "charAt", "(I)C"⟩ : MethodName) = true := plainFor_of_name (by first | (simp [plainName, overriddenIn]; done) | decide +kernel)
def Qrm4 (ch : Int32) (h0 : Heap) (n0 : Nat) (v : Option Value) (h : Heap) (L : List Loc) : Prop := v = some (.int (nar .char (own_c ch))) ∧ Fr n0 L ∧ h = h0
set_option maxRecDepth 65536 in
set_option maxHeartbeats 40000000 in
theorem rm4 (l : Launch) (Z : State) (a0 : Array Value) (hw : ∀ d ∈ tables_1, d.before a0 Z = true) (ws : List Jvm.Cond) (a1 : Addr) (p2 : Int32) (h0 : Heap) (n0 : Nat) (Z0 : n0 ≤ h0.size) (ch : Int32) (hp : p2 = 0) (K : own_Sys Z h0) (B : own_Str Z h0 a1 ch) :
    MetFree l (⟨"java/lang/String", "charAt", "(I)C"⟩ : MethodName) (head1 (Jvm.Cond.code (⟨"java/lang/String", "charAt", "(I)C"⟩ : MethodName) jdk_42_method_56_code 2 (some .char) :: ws) ({ frames := 3, cells := 0, slots := 0, locals := 42 } : Room)) (fun a_ U_ => a_ = #[(.ref a1), (.int p2)] ∧ Z.Warmed39 U_.vm ∧ U_.heap = h0) (fun _ _ _ _ _ => True) (fun _ U_ o_ U'_ => ∃ v_ L_, o_ = .returned v_ ∧ (Qrm4 ch h0 n0) v_ U'_.heap L_ ∧ FrameEnd U_ o_ U'_ L_ 0 0) := by
  refine MetFree.of_bodySF pn_4 hisR ?_
  intro p e s m args below meth c s₁ Bd hml0 hP hK
  obtain ⟨rfl, hZ, hh⟩ := hP
  have hx := Bd.exec
  have hby := Bd.bytes
  have hlk : meth.locks = false := Bd.notSynchronized
  have hml : c.maxLocals = 2 := hml0
  have hown : s.vm.findClass "java/lang/String" = some m.cls := findClass_of_methodNamed Bd.named
  have hnm := (name_of_methodNamed Bd.named Bd.method).1
  have X0 : Stand p l e ({ frames := 3, cells := 0, slots := 0, locals := 42 } : Room) s m #[(.ref a1), (.int p2)] below meth c s₁ [] 0 0 := Stand.of_body Bd
  have e0 : s₁.heap = h0 := by rw [← hh, Bd.state]; rfl
  have N0 := Fr.nil n0
  refine own_start (Q := Qrm4 ch h0 n0) (g' := (mkF m 0 #[.val (.ref a1), .val (.int p2)] [])) (by first | (simp [entryFrame, mkF, argsToLocals, Value.category]; done) | rfl) ?_
  show own_Gl _ _ _ _ (s₁.setTop (mkF m 0 #[.val (.ref a1), .val (.int p2)] []))
  subst hp
  obtain ⟨cs, fm, hcs, Sc, hf, Sf⟩ := K
  obtain ⟨Ex, Fc, va, cl, Fv, A, h1, hin, hat⟩ := B
  show own_Gl _ _ _ _ (s₁.setTop (mkF m 0 #[.val (.ref a1), .val (.int (0 : Int32))] []))
  refine own_back (fun t_ q_ => XS.aloadN X0.here hx rfl (hb hby d4_0) rfl rfl q_) ?_
  show own_Gl _ _ _ _ (s₁.setTop (mkF m 1 #[.val (.ref a1), .val (.int (0 : Int32))] [(.ref a1)]))
  obtain ⟨cq16, kq16, q16a, q16b, q16c⟩ := isOf hZ e0 Ex
  obtain ⟨_, _, ⟨T16, L16, k16, n16⟩, -, X16, ⟨Lc16, hQ16, l16, y16, z16⟩, st16⟩ := X0.virtualBack hx (y := (⟨"java/lang/String", "isLatin1", "()Z"⟩ : MethodName)) (z := (⟨"java/lang/String", "isLatin1", "()Z"⟩ : MethodName)) hown (mvT hZ (hw _ (List.mem_of_getElem? (i := 27) rfl))) (mvT hZ (hw _ (List.mem_of_getElem? (i := 28) rfl))) (notFace_of_selects (args := #[]) (mvT hZ (hw _ (List.mem_of_getElem? (i := 30) rfl)))) (mvT hZ (hw _ (List.mem_of_getElem? (i := 30) rfl))) (mvT hZ (hw _ (List.mem_of_getElem? (i := 29) rfl))) (by decide) (backOf (W := 0) (rm5 l Z a0 hw [] a1 h0 n0 Z0 cs hcs Sc Fc) hZ (hw _ (List.mem_of_getElem? (i := 31) rfl)) (hw _ (List.mem_of_getElem? (i := 25) rfl)) (by decide) (by decide)) q16a q16c (g := (mkF m 1 #[.val (.ref a1), .val (.int (0 : Int32))] [(.ref a1)])) rfl (by rw [hml]; rfl) (Steps.refl _) (argsL := []) (rest := []) (lenOf pd_2 rfl) rfl (by show 2 * 0 + _ ≤ _; exact Nat.le_of_eq rfl) (hb hby d4_1) (fun _ _ => ⟨rfl, e0, (by decide : 0 + 0 ≤ _), (by decide : 0 + 0 ≤ _)⟩)
  dsimp only [Pt.U, Pt.locs, Pt.cells, Pt.slots] at X16 l16 y16 z16 st16 hQ16
  subst l16 y16 z16
  obtain ⟨rfl, M16, e16⟩ := hQ16
  have N16 := Fr.app N0 M16
  refine own_trans st16 ?_
  show own_Gl _ _ _ _ (T16.setTop (mkF m 4 #[.val (.ref a1), .val (.int (0 : Int32))] [(.int (1 : Int32))]))
  refine own_back (fun t_ q_ => XS.ifNo X16.here hx rfl (hb hby d4_4) rfl ((if0 _ _).trans (feq (by decide : ¬ ((1 : Int32) = (0 : Int32)))).1) q_) ?_
  show own_Gl _ _ _ _ (T16.setTop (mkF m 7 #[.val (.ref a1), .val (.int (0 : Int32))] []))
  refine own_back (fun t_ q_ => XS.aloadN X16.here hx rfl (hb hby d4_7) rfl rfl q_) ?_
  show own_Gl _ _ _ _ (T16.setTop (mkF m 8 #[.val (.ref a1), .val (.int (0 : Int32))] [(.ref a1)]))
  obtain ⟨T17, X17, e17, st17⟩ := getF X16 hx hZ hown (host := "") (Or.inl (hw _ (List.mem_of_getElem? (i := 35) rfl))) Via.refl e16 Fv (g := (mkF m 8 #[.val (.ref a1), .val (.int (0 : Int32))] [(.ref a1)])) rfl rfl (hb hby d4_8)
  refine own_back st17 ?_
  show own_Gl _ _ _ _ (T17.setTop (mkF m 11 #[.val (.ref a1), .val (.int (0 : Int32))] [(.ref va)]))
  refine own_back (fun t_ q_ => XS.iloadN X17.here hx rfl (hb hby d4_11) rfl q_) ?_
  show own_Gl _ _ _ _ (T17.setTop (mkF m 12 #[.val (.ref a1), .val (.int (0 : Int32))] [(.int (0 : Int32)), (.ref va)]))
  obtain ⟨_, _, ⟨T18, L18, k18, n18⟩, -, X18, ⟨Lc18, hQ18, l18, y18, z18⟩, st18⟩ := Jvm.LawKit.callS X17 hx (y := (⟨"java/lang/StringLatin1", "charAt", "([BI)C"⟩ : MethodName)) hown (mvT hZ (hw _ (List.mem_of_getElem? (i := 37) rfl))) (mvT hZ (hw _ (List.mem_of_getElem? (i := 38) rfl))) (mvT hZ (hw _ (List.mem_of_getElem? (i := 39) rfl))) (mvT hZ (hw _ (List.mem_of_getElem? (i := 40) rfl))) (by decide) (backOf (W := 0) (rm6 l Z a0 hw [] va 0 h0 n0 Z0 fm hf Sf cl ch A h1 hin hat rfl) hZ (hw _ (List.mem_of_getElem? (i := 40) rfl)) (hw _ (List.mem_of_getElem? (i := 39) rfl)) (by decide) (by decide)) (g := (mkF m 12 #[.val (.ref a1), .val (.int (0 : Int32))] [(.int (0 : Int32)), (.ref va)])) rfl (by rw [hml]; rfl) (argsL := [(.ref va), (.int (0 : Int32))]) (rest := []) (lenOf pd_3 rfl) rfl (by show 2 * 0 + _ ≤ _; exact Nat.le_of_eq rfl) (hb hby d4_12) (fun _ _ => ⟨rfl, e17, (by decide : 0 + 0 ≤ _), (by decide : 0 + 0 ≤ _)⟩)
  dsimp only [Pt.U, Pt.locs, Pt.cells, Pt.slots] at X18 l18 y18 z18 st18 hQ18
  subst l18 y18 z18
  obtain ⟨rfl, M18, e18⟩ := hQ18
  have N18 := Fr.app N16 M18
  refine own_back st18 ?_
  show own_Gl _ _ _ _ (T18.setTop (mkF m 15 #[.val (.ref a1), .val (.int (0 : Int32))] [(.int (own_c ch))]))
  exact own_rC X18 hx hlk Bd.returns (hb hby d4_15) rfl (by show Qrm4 ch h0 n0 _ T18.heap _; rw [e18]; exact ⟨rfl, N18, rfl⟩) (by decide) (by decide)
theorem d9_0 : decode prog_92_method_5_code 0 = .ok (.aload_n 0, 1) := by decide +kernel
theorem d9_1 : decode prog_92_method_5_code 1 = .ok (.invokevirtual 45, 3) := by decide +kernel
theorem pd_4 : parseMethodDescriptor "()I" = some ⟨[], some .int⟩ := by decide +kernel
theorem d9_4 : decode prog_92_method_5_code 4 = .ok (.tableswitch 40 0 5 #[50, 56, 62, 68, 74, 80], 40) := by decide +kernel
theorem d9_44 : decode prog_92_method_5_code 44 = .ok (.new 49, 3) := by decide +kernel
theorem d9_47 : decode prog_92_method_5_code 47 = .ok (.dup, 1) := by decide +kernel
theorem d9_48 : decode prog_92_method_5_code 48 = .ok (.aconst_null, 1) := by decide +kernel
theorem d9_49 : decode prog_92_method_5_code 49 = .ok (.aconst_null, 1) := by decide +kernel
theorem d9_50 : decode prog_92_method_5_code 50 = .ok (.invokespecial 51, 3) := by decide +kernel
theorem d9_53 : decode prog_92_method_5_code 53 = .ok (.athrow, 1) := by decide +kernel
theorem d9_54 : decode prog_92_method_5_code 54 = .ok (.getstatic 7, 3) := by decide +kernel
theorem d9_57 : decode prog_92_method_5_code 57 = .ok (.goto 30, 3) := by decide +kernel
theorem d9_60 : decode prog_92_method_5_code 60 = .ok (.getstatic 3, 3) := by decide +kernel
theorem d9_63 : decode prog_92_method_5_code 63 = .ok (.goto 24, 3) := by decide +kernel
theorem d9_66 : decode prog_92_method_5_code 66 = .ok (.getstatic 19, 3) := by decide +kernel
theorem d9_69 : decode prog_92_method_5_code 69 = .ok (.goto 18, 3) := by decide +kernel
theorem d9_72 : decode prog_92_method_5_code 72 = .ok (.getstatic 16, 3) := by decide +kernel
theorem d9_75 : decode prog_92_method_5_code 75 = .ok (.goto 12, 3) := by decide +kernel
theorem d9_78 : decode prog_92_method_5_code 78 = .ok (.getstatic 13, 3) := by decide +kernel
theorem d9_81 : decode prog_92_method_5_code 81 = .ok (.goto 6, 3) := by decide +kernel
theorem d9_84 : decode prog_92_method_5_code 84 = .ok (.getstatic 10, 3) := by decide +kernel
theorem d9_87 : decode prog_92_method_5_code 87 = .ok (.areturn, 1) := by decide +kernel
theorem pn_9 : plainFor (⟨"com/example/valenciennes/valenciennes/model/Operator", "negated", "()Lcom/example/valenciennes/valenciennes/model/Operator;"⟩ : MethodName) = true := plainFor_of_name (by first | (simp [plainName, overriddenIn]; done) | decide +kernel)
def Qrm9 (a1 : Addr) (k : Int32) (oEQ oNE oLT oLE oGT oGE : Addr) (h0 : Heap) (n0 : Nat) (v : Option Value) (h : Heap) (L : List Loc) : Prop := v = some (.ref (own_sel k oNE oEQ oGE oGT oLE oLT)) ∧ Fr n0 L ∧ h = h0
set_option maxRecDepth 65536 in
set_option maxHeartbeats 40000000 in
theorem rm9 (l : Launch) (Z : State) (a0 : Array Value) (hw : ∀ d ∈ tables_1, d.before a0 Z = true) (ws : List Jvm.Cond) (a1 : Addr) (h0 : Heap) (n0 : Nat) (Z0 : n0 ≤ h0.size) (k : Int32) (oEQ oNE oLT oLE oGT oGE : Addr) (SEQ : Sta Z h0 "com/example/valenciennes/valenciennes/model/Operator" "EQ" "Lcom/example/valenciennes/valenciennes/model/Operator;" (.ref oEQ)) (SNE : Sta Z h0 "com/example/valenciennes/valenciennes/model/Operator" "NE" "Lcom/example/valenciennes/valenciennes/model/Operator;" (.ref oNE)) (SLT : Sta Z h0 "com/example/valenciennes/valenciennes/model/Operator" "LT" "Lcom/example/valenciennes/valenciennes/model/Operator;" (.ref oLT)) (SLE : Sta Z h0 "com/example/valenciennes/valenciennes/model/Operator" "LE" "Lcom/example/valenciennes/valenciennes/model/Operator;" (.ref oLE)) (SGT : Sta Z h0 "com/example/valenciennes/valenciennes/model/Operator" "GT" "Lcom/example/valenciennes/valenciennes/model/Operator;" (.ref oGT)) (SGE : Sta Z h0 "com/example/valenciennes/valenciennes/model/Operator" "GE" "Lcom/example/valenciennes/valenciennes/model/Operator;" (.ref oGE)) (Ex : Exa Z h0 a1 "com/example/valenciennes/valenciennes/model/Operator") (F : Fld Z h0 a1 "java/lang/Enum" "ordinal" "I" (.int k)) (hk : k = 0 ∨ k = 1 ∨ k = 2 ∨ k = 3 ∨ k = 4 ∨ k = 5) :
    MetFree l (⟨"com/example/valenciennes/valenciennes/model/Operator", "negated", "()Lcom/example/valenciennes/valenciennes/model/Operator;"⟩ : MethodName) (head1 (Jvm.Cond.code (⟨"com/example/valenciennes/valenciennes/model/Operator", "negated", "()Lcom/example/valenciennes/valenciennes/model/Operator;"⟩ : MethodName) prog_92_method_5_code 1 (some (.object "com/example/valenciennes/valenciennes/model/Operator")) :: ws) ({ frames := 1, cells := 0, slots := 0, locals := 12 } : Room)) (fun a_ U_ => a_ = #[(.ref a1)] ∧ Z.Warmed39 U_.vm ∧ U_.heap = h0) (fun _ _ _ _ _ => True) (fun _ U_ o_ U'_ => ∃ v_ L_, o_ = .returned v_ ∧ (Qrm9 a1 k oEQ oNE oLT oLE oGT oGE h0 n0) v_ U'_.heap L_ ∧ FrameEnd U_ o_ U'_ L_ 0 0) := by
  refine MetFree.of_bodySF pn_9 hisR ?_
  intro p e s m args below meth c s₁ Bd hml0 hP hK
  obtain ⟨rfl, hZ, hh⟩ := hP
  have hx := Bd.exec
  have hby := Bd.bytes
  have hlk : meth.locks = false := Bd.notSynchronized
  have hml : c.maxLocals = 1 := hml0
  have hown : s.vm.findClass "com/example/valenciennes/valenciennes/model/Operator" = some m.cls := findClass_of_methodNamed Bd.named
  have hnm := (name_of_methodNamed Bd.named Bd.method).1
  have X0 : Stand p l e ({ frames := 1, cells := 0, slots := 0, locals := 12 } : Room) s m #[(.ref a1)] below meth c s₁ [] 0 0 := Stand.of_body Bd
  have e0 : s₁.heap = h0 := by rw [← hh, Bd.state]; rfl
  have N0 := Fr.nil n0
  refine own_start (Q := Qrm9 a1 k oEQ oNE oLT oLE oGT oGE h0 n0) (g' := (mkF m 0 #[.val (.ref a1)] [])) (by first | (simp [entryFrame, mkF, argsToLocals, Value.category]; done) | rfl) ?_
  show own_Gl _ _ _ _ (s₁.setTop (mkF m 0 #[.val (.ref a1)] []))
  refine own_back (fun t_ q_ => XS.aloadN X0.here hx rfl (hb hby d9_0) rfl rfl q_) ?_
  show own_Gl _ _ _ _ (s₁.setTop (mkF m 1 #[.val (.ref a1)] [(.ref a1)]))
  obtain ⟨cq19, kq19, q19a, q19b, q19c⟩ := isOf hZ e0 Ex
  obtain ⟨_, _, ⟨T19, L19, k19, n19⟩, -, X19, ⟨Lc19, hQ19, l19, y19, z19⟩, st19⟩ := X0.virtualBackUp hx (x := (⟨"com/example/valenciennes/valenciennes/model/Operator", "ordinal", "()I"⟩ : MethodName)) (y := (⟨"java/lang/Enum", "ordinal", "()I"⟩ : MethodName)) (owner := "java/lang/Enum") hown (mvT hZ (hw _ (List.mem_of_getElem? (i := 54) rfl))) (mvT hZ (hw _ (List.mem_of_getElem? (i := 55) rfl))) (mvT hZ (hw _ (List.mem_of_getElem? (i := 56) rfl))) (by decide) (mvT hZ (hw _ (List.mem_of_getElem? (i := 58) rfl))) (mvT hZ (hw _ (List.mem_of_getElem? (i := 57) rfl))) (backOf (W := 0) (rm10 l Z a0 hw [] a1 h0 n0 Z0 k F) hZ (hw _ (List.mem_of_getElem? (i := 60) rfl)) (hw _ (List.mem_of_getElem? (i := 59) rfl)) (by decide) (by decide)) q19a q19c (g := (mkF m 1 #[.val (.ref a1)] [(.ref a1)])) rfl (by rw [hml]; rfl) (Steps.refl _) (argsL := []) (rest := []) (lenOf pd_4 rfl) rfl (by show 2 * 0 + _ ≤ _; exact Nat.le_of_eq rfl) (hb hby d9_1) (fun _ _ => ⟨rfl, e0, (by decide : 0 + 0 ≤ _), (by decide : 0 + 0 ≤ _)⟩)
  dsimp only [Pt.U, Pt.locs, Pt.cells, Pt.slots] at X19 l19 y19 z19 st19 hQ19
  subst l19 y19 z19
  obtain ⟨rfl, M19, e19⟩ := hQ19
  have N19 := Fr.app N0 M19
  refine own_trans st19 ?_
  show own_Gl _ _ _ _ (T19.setTop (mkF m 4 #[.val (.ref a1)] [(.int k)]))
  rcases hk with rfl | rfl | rfl | rfl | rfl | rfl
  · skip
    show own_Gl _ _ _ _ (T19.setTop (mkF m 4 #[.val (.ref a1)] [(.int (0 : Int32))]))
    refine own_back (fun t_ q_ => XS.tswIn X19.here hx rfl (pc0 := 4) (pc' := 54) rfl (hb hby d9_4) rfl (by decide) (o := 50) rfl (by decide) (by decide) q_) ?_
    show own_Gl _ _ _ _ (T19.setTop (mkF m 54 #[.val (.ref a1)] []))
    obtain ⟨T20, X20, e20, st20⟩ := getS2 X19 hx hZ hown (host := "") (Or.inl (hw _ (List.mem_of_getElem? (i := 63) rfl))) Via.refl e19 SNE (g := (mkF m 54 #[.val (.ref a1)] [])) rfl (hb hby d9_54)
    refine own_back st20 ?_
    show own_Gl _ _ _ _ (T20.setTop (mkF m 57 #[.val (.ref a1)] [(.ref oNE)]))
    refine own_back (fun t_ q_ => XS.goto X20.here hx rfl (pc0 := 57) (pc' := 87) rfl (hb hby d9_57) (by decide) (by decide) q_) ?_
    show own_Gl _ _ _ _ (T20.setTop (mkF m 87 #[.val (.ref a1)] [(.ref oNE)]))
    exact own_rA X20 hx hlk Bd.returns rfl rfl rfl (hb hby d9_87) (by show Qrm9 a1 0 oEQ oNE oLT oLE oGT oGE h0 n0 _ T20.heap _; rw [e20]; exact ⟨rfl, N19, rfl⟩) (by decide) (by decide)
  · skip
    show own_Gl _ _ _ _ (T19.setTop (mkF m 4 #[.val (.ref a1)] [(.int (1 : Int32))]))
    refine own_back (fun t_ q_ => XS.tswIn X19.here hx rfl (pc0 := 4) (pc' := 60) rfl (hb hby d9_4) rfl (by decide) (o := 56) rfl (by decide) (by decide) q_) ?_
    show own_Gl _ _ _ _ (T19.setTop (mkF m 60 #[.val (.ref a1)] []))
    obtain ⟨T21, X21, e21, st21⟩ := getS2 X19 hx hZ hown (host := "") (Or.inl (hw _ (List.mem_of_getElem? (i := 13) rfl))) Via.refl e19 SEQ (g := (mkF m 60 #[.val (.ref a1)] [])) rfl (hb hby d9_60)
    refine own_back st21 ?_
    show own_Gl _ _ _ _ (T21.setTop (mkF m 63 #[.val (.ref a1)] [(.ref oEQ)]))
    refine own_back (fun t_ q_ => XS.goto X21.here hx rfl (pc0 := 63) (pc' := 87) rfl (hb hby d9_63) (by decide) (by decide) q_) ?_
    show own_Gl _ _ _ _ (T21.setTop (mkF m 87 #[.val (.ref a1)] [(.ref oEQ)]))
    exact own_rA X21 hx hlk Bd.returns rfl rfl rfl (hb hby d9_87) (by show Qrm9 a1 1 oEQ oNE oLT oLE oGT oGE h0 n0 _ T21.heap _; rw [e21]; exact ⟨rfl, N19, rfl⟩) (by decide) (by decide)
  · skip
    show own_Gl _ _ _ _ (T19.setTop (mkF m 4 #[.val (.ref a1)] [(.int (2 : Int32))]))
    refine own_back (fun t_ q_ => XS.tswIn X19.here hx rfl (pc0 := 4) (pc' := 66) rfl (hb hby d9_4) rfl (by decide) (o := 62) rfl (by decide) (by decide) q_) ?_
    show own_Gl _ _ _ _ (T19.setTop (mkF m 66 #[.val (.ref a1)] []))
    obtain ⟨T22, X22, e22, st22⟩ := getS2 X19 hx hZ hown (host := "") (Or.inl (hw _ (List.mem_of_getElem? (i := 74) rfl))) Via.refl e19 SGE (g := (mkF m 66 #[.val (.ref a1)] [])) rfl (hb hby d9_66)
    refine own_back st22 ?_
    show own_Gl _ _ _ _ (T22.setTop (mkF m 69 #[.val (.ref a1)] [(.ref oGE)]))
    refine own_back (fun t_ q_ => XS.goto X22.here hx rfl (pc0 := 69) (pc' := 87) rfl (hb hby d9_69) (by decide) (by decide) q_) ?_
    show own_Gl _ _ _ _ (T22.setTop (mkF m 87 #[.val (.ref a1)] [(.ref oGE)]))
    exact own_rA X22 hx hlk Bd.returns rfl rfl rfl (hb hby d9_87) (by show Qrm9 a1 2 oEQ oNE oLT oLE oGT oGE h0 n0 _ T22.heap _; rw [e22]; exact ⟨rfl, N19, rfl⟩) (by decide) (by decide)
  · skip
    show own_Gl _ _ _ _ (T19.setTop (mkF m 4 #[.val (.ref a1)] [(.int (3 : Int32))]))
    refine own_back (fun t_ q_ => XS.tswIn X19.here hx rfl (pc0 := 4) (pc' := 72) rfl (hb hby d9_4) rfl (by decide) (o := 68) rfl (by decide) (by decide) q_) ?_
    show own_Gl _ _ _ _ (T19.setTop (mkF m 72 #[.val (.ref a1)] []))
    obtain ⟨T23, X23, e23, st23⟩ := getS2 X19 hx hZ hown (host := "") (Or.inl (hw _ (List.mem_of_getElem? (i := 72) rfl))) Via.refl e19 SGT (g := (mkF m 72 #[.val (.ref a1)] [])) rfl (hb hby d9_72)
    refine own_back st23 ?_
    show own_Gl _ _ _ _ (T23.setTop (mkF m 75 #[.val (.ref a1)] [(.ref oGT)]))
    refine own_back (fun t_ q_ => XS.goto X23.here hx rfl (pc0 := 75) (pc' := 87) rfl (hb hby d9_75) (by decide) (by decide) q_) ?_
    show own_Gl _ _ _ _ (T23.setTop (mkF m 87 #[.val (.ref a1)] [(.ref oGT)]))
    exact own_rA X23 hx hlk Bd.returns rfl rfl rfl (hb hby d9_87) (by show Qrm9 a1 3 oEQ oNE oLT oLE oGT oGE h0 n0 _ T23.heap _; rw [e23]; exact ⟨rfl, N19, rfl⟩) (by decide) (by decide)
  · skip
    show own_Gl _ _ _ _ (T19.setTop (mkF m 4 #[.val (.ref a1)] [(.int (4 : Int32))]))
    refine own_back (fun t_ q_ => XS.tswIn X19.here hx rfl (pc0 := 4) (pc' := 78) rfl (hb hby d9_4) rfl (by decide) (o := 74) rfl (by decide) (by decide) q_) ?_
    show own_Gl _ _ _ _ (T19.setTop (mkF m 78 #[.val (.ref a1)] []))
    obtain ⟨T24, X24, e24, st24⟩ := getS2 X19 hx hZ hown (host := "") (Or.inl (hw _ (List.mem_of_getElem? (i := 81) rfl))) Via.refl e19 SLE (g := (mkF m 78 #[.val (.ref a1)] [])) rfl (hb hby d9_78)
    refine own_back st24 ?_
    show own_Gl _ _ _ _ (T24.setTop (mkF m 81 #[.val (.ref a1)] [(.ref oLE)]))
    refine own_back (fun t_ q_ => XS.goto X24.here hx rfl (pc0 := 81) (pc' := 87) rfl (hb hby d9_81) (by decide) (by decide) q_) ?_
    show own_Gl _ _ _ _ (T24.setTop (mkF m 87 #[.val (.ref a1)] [(.ref oLE)]))
    exact own_rA X24 hx hlk Bd.returns rfl rfl rfl (hb hby d9_87) (by show Qrm9 a1 4 oEQ oNE oLT oLE oGT oGE h0 n0 _ T24.heap _; rw [e24]; exact ⟨rfl, N19, rfl⟩) (by decide) (by decide)
  · skip
    show own_Gl _ _ _ _ (T19.setTop (mkF m 4 #[.val (.ref a1)] [(.int (5 : Int32))]))
    refine own_back (fun t_ q_ => XS.tswIn X19.here hx rfl (pc0 := 4) (pc' := 84) rfl (hb hby d9_4) rfl (by decide) (o := 80) rfl (by decide) (by decide) q_) ?_
    show own_Gl _ _ _ _ (T19.setTop (mkF m 84 #[.val (.ref a1)] []))
    obtain ⟨T25, X25, e25, st25⟩ := getS2 X19 hx hZ hown (host := "") (Or.inl (hw _ (List.mem_of_getElem? (i := 80) rfl))) Via.refl e19 SLT (g := (mkF m 84 #[.val (.ref a1)] [])) rfl (hb hby d9_84)
    refine own_back st25 ?_
    show own_Gl _ _ _ _ (T25.setTop (mkF m 87 #[.val (.ref a1)] [(.ref oLT)]))
    exact own_rA X25 hx hlk Bd.returns rfl rfl rfl (hb hby d9_87) (by show Qrm9 a1 5 oEQ oNE oLT oLE oGT oGE h0 n0 _ T25.heap _; rw [e25]; exact ⟨rfl, N19, rfl⟩) (by decide) (by decide)
theorem d11_0 : decode prog_92_method_6_code 0 = .ok (.aload_n 0, 1) := by decide +kernel
theorem d11_1 : decode prog_92_method_6_code 1 = .ok (.invokevirtual 45, 3) := by decide +kernel
theorem d11_4 : decode prog_92_method_6_code 4 = .ok (.tableswitch 40 0 5 #[50, 50, 54, 60, 66, 72], 40) := by decide +kernel
theorem d11_44 : decode prog_92_method_6_code 44 = .ok (.new 49, 3) := by decide +kernel
theorem d11_47 : decode prog_92_method_6_code 47 = .ok (.dup, 1) := by decide +kernel
theorem d11_48 : decode prog_92_method_6_code 48 = .ok (.aconst_null, 1) := by decide +kernel
theorem d11_49 : decode prog_92_method_6_code 49 = .ok (.aconst_null, 1) := by decide +kernel
theorem d11_50 : decode prog_92_method_6_code 50 = .ok (.invokespecial 51, 3) := by decide +kernel
theorem d11_53 : decode prog_92_method_6_code 53 = .ok (.athrow, 1) := by decide +kernel
theorem d11_54 : decode prog_92_method_6_code 54 = .ok (.aload_n 0, 1) := by decide +kernel
theorem d11_55 : decode prog_92_method_6_code 55 = .ok (.goto 24, 3) := by decide +kernel
theorem d11_58 : decode prog_92_method_6_code 58 = .ok (.getstatic 16, 3) := by decide +kernel
theorem d11_61 : decode prog_92_method_6_code 61 = .ok (.goto 18, 3) := by decide +kernel
theorem d11_64 : decode prog_92_method_6_code 64 = .ok (.getstatic 19, 3) := by decide +kernel
theorem d11_67 : decode prog_92_method_6_code 67 = .ok (.goto 12, 3) := by decide +kernel
theorem d11_70 : decode prog_92_method_6_code 70 = .ok (.getstatic 10, 3) := by decide +kernel
theorem d11_73 : decode prog_92_method_6_code 73 = .ok (.goto 6, 3) := by decide +kernel
theorem d11_76 : decode prog_92_method_6_code 76 = .ok (.getstatic 13, 3) := by decide +kernel
theorem d11_79 : decode prog_92_method_6_code 79 = .ok (.areturn, 1) := by decide +kernel
theorem pn_11 : plainFor (⟨"com/example/valenciennes/valenciennes/model/Operator", "mirrored", "()Lcom/example/valenciennes/valenciennes/model/Operator;"⟩ : MethodName) = true := plainFor_of_name (by first | (simp [plainName, overriddenIn]; done) | decide +kernel)
def Qrm11 (a1 : Addr) (k : Int32) (oEQ oNE oLT oLE oGT oGE : Addr) (h0 : Heap) (n0 : Nat) (v : Option Value) (h : Heap) (L : List Loc) : Prop := v = some (.ref (own_sel k a1 a1 oGT oGE oLT oLE)) ∧ Fr n0 L ∧ h = h0
set_option maxRecDepth 65536 in
set_option maxHeartbeats 40000000 in
theorem rm11 (l : Launch) (Z : State) (a0 : Array Value) (hw : ∀ d ∈ tables_1, d.before a0 Z = true) (ws : List Jvm.Cond) (a1 : Addr) (h0 : Heap) (n0 : Nat) (Z0 : n0 ≤ h0.size) (k : Int32) (oEQ oNE oLT oLE oGT oGE : Addr) (SEQ : Sta Z h0 "com/example/valenciennes/valenciennes/model/Operator" "EQ" "Lcom/example/valenciennes/valenciennes/model/Operator;" (.ref oEQ)) (SNE : Sta Z h0 "com/example/valenciennes/valenciennes/model/Operator" "NE" "Lcom/example/valenciennes/valenciennes/model/Operator;" (.ref oNE)) (SLT : Sta Z h0 "com/example/valenciennes/valenciennes/model/Operator" "LT" "Lcom/example/valenciennes/valenciennes/model/Operator;" (.ref oLT)) (SLE : Sta Z h0 "com/example/valenciennes/valenciennes/model/Operator" "LE" "Lcom/example/valenciennes/valenciennes/model/Operator;" (.ref oLE)) (SGT : Sta Z h0 "com/example/valenciennes/valenciennes/model/Operator" "GT" "Lcom/example/valenciennes/valenciennes/model/Operator;" (.ref oGT)) (SGE : Sta Z h0 "com/example/valenciennes/valenciennes/model/Operator" "GE" "Lcom/example/valenciennes/valenciennes/model/Operator;" (.ref oGE)) (Ex : Exa Z h0 a1 "com/example/valenciennes/valenciennes/model/Operator") (F : Fld Z h0 a1 "java/lang/Enum" "ordinal" "I" (.int k)) (hk : k = 0 ∨ k = 1 ∨ k = 2 ∨ k = 3 ∨ k = 4 ∨ k = 5) :
    MetFree l (⟨"com/example/valenciennes/valenciennes/model/Operator", "mirrored", "()Lcom/example/valenciennes/valenciennes/model/Operator;"⟩ : MethodName) (head1 (Jvm.Cond.code (⟨"com/example/valenciennes/valenciennes/model/Operator", "mirrored", "()Lcom/example/valenciennes/valenciennes/model/Operator;"⟩ : MethodName) prog_92_method_6_code 1 (some (.object "com/example/valenciennes/valenciennes/model/Operator")) :: ws) ({ frames := 1, cells := 0, slots := 0, locals := 12 } : Room)) (fun a_ U_ => a_ = #[(.ref a1)] ∧ Z.Warmed39 U_.vm ∧ U_.heap = h0) (fun _ _ _ _ _ => True) (fun _ U_ o_ U'_ => ∃ v_ L_, o_ = .returned v_ ∧ (Qrm11 a1 k oEQ oNE oLT oLE oGT oGE h0 n0) v_ U'_.heap L_ ∧ FrameEnd U_ o_ U'_ L_ 0 0) := by
  refine MetFree.of_bodySF pn_11 hisR ?_
  intro p e s m args below meth c s₁ Bd hml0 hP hK
  obtain ⟨rfl, hZ, hh⟩ := hP
  have hx := Bd.exec
  have hby := Bd.bytes
  have hlk : meth.locks = false := Bd.notSynchronized
  have hml : c.maxLocals = 1 := hml0
  have hown : s.vm.findClass "com/example/valenciennes/valenciennes/model/Operator" = some m.cls := findClass_of_methodNamed Bd.named
  have hnm := (name_of_methodNamed Bd.named Bd.method).1
  have X0 : Stand p l e ({ frames := 1, cells := 0, slots := 0, locals := 12 } : Room) s m #[(.ref a1)] below meth c s₁ [] 0 0 := Stand.of_body Bd
  have e0 : s₁.heap = h0 := by rw [← hh, Bd.state]; rfl
  have N0 := Fr.nil n0
  refine own_start (Q := Qrm11 a1 k oEQ oNE oLT oLE oGT oGE h0 n0) (g' := (mkF m 0 #[.val (.ref a1)] [])) (by first | (simp [entryFrame, mkF, argsToLocals, Value.category]; done) | rfl) ?_
  show own_Gl _ _ _ _ (s₁.setTop (mkF m 0 #[.val (.ref a1)] []))
  refine own_back (fun t_ q_ => XS.aloadN X0.here hx rfl (hb hby d11_0) rfl rfl q_) ?_
  show own_Gl _ _ _ _ (s₁.setTop (mkF m 1 #[.val (.ref a1)] [(.ref a1)]))
  obtain ⟨cq26, kq26, q26a, q26b, q26c⟩ := isOf hZ e0 Ex
  obtain ⟨_, _, ⟨T26, L26, k26, n26⟩, -, X26, ⟨Lc26, hQ26, l26, y26, z26⟩, st26⟩ := X0.virtualBackUp hx (x := (⟨"com/example/valenciennes/valenciennes/model/Operator", "ordinal", "()I"⟩ : MethodName)) (y := (⟨"java/lang/Enum", "ordinal", "()I"⟩ : MethodName)) (owner := "java/lang/Enum") hown (mvT hZ (hw _ (List.mem_of_getElem? (i := 54) rfl))) (mvT hZ (hw _ (List.mem_of_getElem? (i := 55) rfl))) (mvT hZ (hw _ (List.mem_of_getElem? (i := 56) rfl))) (by decide) (mvT hZ (hw _ (List.mem_of_getElem? (i := 58) rfl))) (mvT hZ (hw _ (List.mem_of_getElem? (i := 57) rfl))) (backOf (W := 0) (rm10 l Z a0 hw [] a1 h0 n0 Z0 k F) hZ (hw _ (List.mem_of_getElem? (i := 60) rfl)) (hw _ (List.mem_of_getElem? (i := 59) rfl)) (by decide) (by decide)) q26a q26c (g := (mkF m 1 #[.val (.ref a1)] [(.ref a1)])) rfl (by rw [hml]; rfl) (Steps.refl _) (argsL := []) (rest := []) (lenOf pd_4 rfl) rfl (by show 2 * 0 + _ ≤ _; exact Nat.le_of_eq rfl) (hb hby d11_1) (fun _ _ => ⟨rfl, e0, (by decide : 0 + 0 ≤ _), (by decide : 0 + 0 ≤ _)⟩)
  dsimp only [Pt.U, Pt.locs, Pt.cells, Pt.slots] at X26 l26 y26 z26 st26 hQ26
  subst l26 y26 z26
  obtain ⟨rfl, M26, e26⟩ := hQ26
  have N26 := Fr.app N0 M26
  refine own_trans st26 ?_
  show own_Gl _ _ _ _ (T26.setTop (mkF m 4 #[.val (.ref a1)] [(.int k)]))
  rcases hk with rfl | rfl | rfl | rfl | rfl | rfl
  · skip
    show own_Gl _ _ _ _ (T26.setTop (mkF m 4 #[.val (.ref a1)] [(.int (0 : Int32))]))
    refine own_back (fun t_ q_ => XS.tswIn X26.here hx rfl (pc0 := 4) (pc' := 54) rfl (hb hby d11_4) rfl (by decide) (o := 50) rfl (by decide) (by decide) q_) ?_
    show own_Gl _ _ _ _ (T26.setTop (mkF m 54 #[.val (.ref a1)] []))
    refine own_back (fun t_ q_ => XS.aloadN X26.here hx rfl (hb hby d11_54) rfl rfl q_) ?_
    show own_Gl _ _ _ _ (T26.setTop (mkF m 55 #[.val (.ref a1)] [(.ref a1)]))
    refine own_back (fun t_ q_ => XS.goto X26.here hx rfl (pc0 := 55) (pc' := 79) rfl (hb hby d11_55) (by decide) (by decide) q_) ?_
    show own_Gl _ _ _ _ (T26.setTop (mkF m 79 #[.val (.ref a1)] [(.ref a1)]))
    exact own_rA X26 hx hlk Bd.returns rfl rfl rfl (hb hby d11_79) (by show Qrm11 a1 0 oEQ oNE oLT oLE oGT oGE h0 n0 _ T26.heap _; rw [e26]; exact ⟨rfl, N26, rfl⟩) (by decide) (by decide)
  · skip
    show own_Gl _ _ _ _ (T26.setTop (mkF m 4 #[.val (.ref a1)] [(.int (1 : Int32))]))
    refine own_back (fun t_ q_ => XS.tswIn X26.here hx rfl (pc0 := 4) (pc' := 54) rfl (hb hby d11_4) rfl (by decide) (o := 50) rfl (by decide) (by decide) q_) ?_
    show own_Gl _ _ _ _ (T26.setTop (mkF m 54 #[.val (.ref a1)] []))
    refine own_back (fun t_ q_ => XS.aloadN X26.here hx rfl (hb hby d11_54) rfl rfl q_) ?_
    show own_Gl _ _ _ _ (T26.setTop (mkF m 55 #[.val (.ref a1)] [(.ref a1)]))
    refine own_back (fun t_ q_ => XS.goto X26.here hx rfl (pc0 := 55) (pc' := 79) rfl (hb hby d11_55) (by decide) (by decide) q_) ?_
    show own_Gl _ _ _ _ (T26.setTop (mkF m 79 #[.val (.ref a1)] [(.ref a1)]))
    exact own_rA X26 hx hlk Bd.returns rfl rfl rfl (hb hby d11_79) (by show Qrm11 a1 1 oEQ oNE oLT oLE oGT oGE h0 n0 _ T26.heap _; rw [e26]; exact ⟨rfl, N26, rfl⟩) (by decide) (by decide)
  · skip
    show own_Gl _ _ _ _ (T26.setTop (mkF m 4 #[.val (.ref a1)] [(.int (2 : Int32))]))
    refine own_back (fun t_ q_ => XS.tswIn X26.here hx rfl (pc0 := 4) (pc' := 58) rfl (hb hby d11_4) rfl (by decide) (o := 54) rfl (by decide) (by decide) q_) ?_
    show own_Gl _ _ _ _ (T26.setTop (mkF m 58 #[.val (.ref a1)] []))
    obtain ⟨T27, X27, e27, st27⟩ := getS2 X26 hx hZ hown (host := "") (Or.inl (hw _ (List.mem_of_getElem? (i := 72) rfl))) Via.refl e26 SGT (g := (mkF m 58 #[.val (.ref a1)] [])) rfl (hb hby d11_58)
    refine own_back st27 ?_
    show own_Gl _ _ _ _ (T27.setTop (mkF m 61 #[.val (.ref a1)] [(.ref oGT)]))
    refine own_back (fun t_ q_ => XS.goto X27.here hx rfl (pc0 := 61) (pc' := 79) rfl (hb hby d11_61) (by decide) (by decide) q_) ?_
    show own_Gl _ _ _ _ (T27.setTop (mkF m 79 #[.val (.ref a1)] [(.ref oGT)]))
    exact own_rA X27 hx hlk Bd.returns rfl rfl rfl (hb hby d11_79) (by show Qrm11 a1 2 oEQ oNE oLT oLE oGT oGE h0 n0 _ T27.heap _; rw [e27]; exact ⟨rfl, N26, rfl⟩) (by decide) (by decide)
  · skip
    show own_Gl _ _ _ _ (T26.setTop (mkF m 4 #[.val (.ref a1)] [(.int (3 : Int32))]))
    refine own_back (fun t_ q_ => XS.tswIn X26.here hx rfl (pc0 := 4) (pc' := 64) rfl (hb hby d11_4) rfl (by decide) (o := 60) rfl (by decide) (by decide) q_) ?_
    show own_Gl _ _ _ _ (T26.setTop (mkF m 64 #[.val (.ref a1)] []))
    obtain ⟨T28, X28, e28, st28⟩ := getS2 X26 hx hZ hown (host := "") (Or.inl (hw _ (List.mem_of_getElem? (i := 74) rfl))) Via.refl e26 SGE (g := (mkF m 64 #[.val (.ref a1)] [])) rfl (hb hby d11_64)
    refine own_back st28 ?_
    show own_Gl _ _ _ _ (T28.setTop (mkF m 67 #[.val (.ref a1)] [(.ref oGE)]))
    refine own_back (fun t_ q_ => XS.goto X28.here hx rfl (pc0 := 67) (pc' := 79) rfl (hb hby d11_67) (by decide) (by decide) q_) ?_
    show own_Gl _ _ _ _ (T28.setTop (mkF m 79 #[.val (.ref a1)] [(.ref oGE)]))
    exact own_rA X28 hx hlk Bd.returns rfl rfl rfl (hb hby d11_79) (by show Qrm11 a1 3 oEQ oNE oLT oLE oGT oGE h0 n0 _ T28.heap _; rw [e28]; exact ⟨rfl, N26, rfl⟩) (by decide) (by decide)
  · skip
    show own_Gl _ _ _ _ (T26.setTop (mkF m 4 #[.val (.ref a1)] [(.int (4 : Int32))]))
    refine own_back (fun t_ q_ => XS.tswIn X26.here hx rfl (pc0 := 4) (pc' := 70) rfl (hb hby d11_4) rfl (by decide) (o := 66) rfl (by decide) (by decide) q_) ?_
    show own_Gl _ _ _ _ (T26.setTop (mkF m 70 #[.val (.ref a1)] []))
    obtain ⟨T29, X29, e29, st29⟩ := getS2 X26 hx hZ hown (host := "") (Or.inl (hw _ (List.mem_of_getElem? (i := 80) rfl))) Via.refl e26 SLT (g := (mkF m 70 #[.val (.ref a1)] [])) rfl (hb hby d11_70)
    refine own_back st29 ?_
    show own_Gl _ _ _ _ (T29.setTop (mkF m 73 #[.val (.ref a1)] [(.ref oLT)]))
    refine own_back (fun t_ q_ => XS.goto X29.here hx rfl (pc0 := 73) (pc' := 79) rfl (hb hby d11_73) (by decide) (by decide) q_) ?_
    show own_Gl _ _ _ _ (T29.setTop (mkF m 79 #[.val (.ref a1)] [(.ref oLT)]))
    exact own_rA X29 hx hlk Bd.returns rfl rfl rfl (hb hby d11_79) (by show Qrm11 a1 4 oEQ oNE oLT oLE oGT oGE h0 n0 _ T29.heap _; rw [e29]; exact ⟨rfl, N26, rfl⟩) (by decide) (by decide)
  · skip
    show own_Gl _ _ _ _ (T26.setTop (mkF m 4 #[.val (.ref a1)] [(.int (5 : Int32))]))
    refine own_back (fun t_ q_ => XS.tswIn X26.here hx rfl (pc0 := 4) (pc' := 76) rfl (hb hby d11_4) rfl (by decide) (o := 72) rfl (by decide) (by decide) q_) ?_
    show own_Gl _ _ _ _ (T26.setTop (mkF m 76 #[.val (.ref a1)] []))
    obtain ⟨T30, X30, e30, st30⟩ := getS2 X26 hx hZ hown (host := "") (Or.inl (hw _ (List.mem_of_getElem? (i := 81) rfl))) Via.refl e26 SLE (g := (mkF m 76 #[.val (.ref a1)] [])) rfl (hb hby d11_76)
    refine own_back st30 ?_
    show own_Gl _ _ _ _ (T30.setTop (mkF m 79 #[.val (.ref a1)] [(.ref oLE)]))
    exact own_rA X30 hx hlk Bd.returns rfl rfl rfl (hb hby d11_79) (by show Qrm11 a1 5 oEQ oNE oLT oLE oGT oGE h0 n0 _ T30.heap _; rw [e30]; exact ⟨rfl, N26, rfl⟩) (by decide) (by decide)
theorem pd_5 : parseMethodDescriptor "(I)Lcom/example/valenciennes/valenciennes/model/Operator;" = some ⟨[.int], some (.object "com/example/valenciennes/valenciennes/model/Operator")⟩ := by decide +kernel
theorem pd_6 : parseMethodDescriptor "()Ljava/lang/String;" = some ⟨[], some (.object "java/lang/String")⟩ := by decide +kernel
theorem pd_7 : parseMethodDescriptor "(I)C" = some ⟨[.int], some .char⟩ := by decide +kernel
theorem pd_8 : parseMethodDescriptor "()Lcom/example/valenciennes/valenciennes/model/Operator;" = some ⟨[], some (.object "com/example/valenciennes/valenciennes/model/Operator")⟩ := by decide +kernel
theorem pn_0 : plainFor x = true := plainFor_of_name (by first | (simp [plainName, overriddenIn, x]; done) | decide +kernel)
def Qrm0 (h0 : Heap) (n0 : Nat) (v : Option Value) (h : Heap) (L : List Loc) : Prop := v = some (.int 1) ∧ Fr n0 L
set_option maxRecDepth 65536 in
set_option maxHeartbeats 40000000 in
theorem rm0 (l : Launch) (Z : State) (a0 : Array Value) (hw : ∀ d ∈ tables_1, d.before a0 Z = true) (ws : List Jvm.Cond) (k : Int32) (h0 : Heap) (n0 : Nat) (Z0 : n0 ≤ h0.size) (oEQ oNE oLT oLE oGT oGE : Addr) (K : own_Sys Z h0) (PEQ : own_Op Z h0 "EQ" oEQ 0 61) (PNE : own_Op Z h0 "NE" oNE 1 33) (PLT : own_Op Z h0 "LT" oLT 2 60) (PLE : own_Op Z h0 "LE" oLE 3 60) (PGT : own_Op Z h0 "GT" oGT 4 62) (PGE : own_Op Z h0 "GE" oGE 5 62) :
    MetFree l x (head1 (Jvm.Cond.code x code maxLocals ret :: ws) room_1) (fun a_ U_ => a_ = #[(.int k)] ∧ Z.Warmed39 U_.vm ∧ U_.heap = h0) (fun _ _ _ _ _ => True) (fun _ U_ o_ U'_ => ∃ v_ L_, o_ = .returned v_ ∧ (Qrm0 h0 n0) v_ U'_.heap L_ ∧ FrameEnd U_ o_ U'_ L_ 0 0) := by
  refine MetFree.of_bodySF pn_0 hisR ?_
  intro p e s m args below meth c s₁ Bd hml0 hP hK
  obtain ⟨rfl, hZ, hh⟩ := hP
  have hx := Bd.exec
  have hby := Bd.bytes
  have hlk : meth.locks = false := Bd.notSynchronized
  have hml : c.maxLocals = 10 := hml0
  have hown : s.vm.findClass "com/example/valenciennes/valenciennes/model/OperatorIsOrderingPinLaw" = some m.cls := findClass_of_methodNamed Bd.named
  have hnm := (name_of_methodNamed Bd.named Bd.method).1
  have X0 : Stand p l e room_1 s m #[(.int k)] below meth c s₁ [] 0 0 := Stand.of_body Bd
  have e0 : s₁.heap = h0 := by rw [← hh, Bd.state]; rfl
  have N0 := Fr.nil n0
  refine own_start (Q := Qrm0 h0 n0) (g' := (mkF m 0 #[.val (.int k), .unset, .unset, .unset, .unset, .unset, .unset, .unset, .unset, .unset] [])) (by first | (simp [entryFrame, mkF, argsToLocals, Value.category, maxLocals]; done) | rfl) ?_
  show own_Gl _ _ _ _ (s₁.setTop (mkF m 0 #[.val (.int k), .unset, .unset, .unset, .unset, .unset, .unset, .unset, .unset, .unset] []))
  obtain ⟨SEQ, XEQ, OEQ, tEQ, YEQ, BEQ⟩ := PEQ
  obtain ⟨SNE, XNE, ONE, tNE, YNE, BNE⟩ := PNE
  obtain ⟨SLT, XLT, OLT, tLT, YLT, BLT⟩ := PLT
  obtain ⟨SLE, XLE, OLE, tLE, YLE, BLE⟩ := PLE
  obtain ⟨SGT, XGT, OGT, tGT, YGT, BGT⟩ := PGT
  obtain ⟨SGE, XGE, OGE, tGE, YGE, BGE⟩ := PGE
  have dEQNE : oEQ ≠ oNE := Fld.ne OEQ ONE (by decide)
  have dEQLT : oEQ ≠ oLT := Fld.ne OEQ OLT (by decide)
  have dEQLE : oEQ ≠ oLE := Fld.ne OEQ OLE (by decide)
  have dEQGT : oEQ ≠ oGT := Fld.ne OEQ OGT (by decide)
  have dEQGE : oEQ ≠ oGE := Fld.ne OEQ OGE (by decide)
  have dNEEQ : oNE ≠ oEQ := Fld.ne ONE OEQ (by decide)
  have dNELT : oNE ≠ oLT := Fld.ne ONE OLT (by decide)
  have dNELE : oNE ≠ oLE := Fld.ne ONE OLE (by decide)
  have dNEGT : oNE ≠ oGT := Fld.ne ONE OGT (by decide)
  have dNEGE : oNE ≠ oGE := Fld.ne ONE OGE (by decide)
  have dLTEQ : oLT ≠ oEQ := Fld.ne OLT OEQ (by decide)
  have dLTNE : oLT ≠ oNE := Fld.ne OLT ONE (by decide)
  have dLTLE : oLT ≠ oLE := Fld.ne OLT OLE (by decide)
  have dLTGT : oLT ≠ oGT := Fld.ne OLT OGT (by decide)
  have dLTGE : oLT ≠ oGE := Fld.ne OLT OGE (by decide)
  have dLEEQ : oLE ≠ oEQ := Fld.ne OLE OEQ (by decide)
  have dLENE : oLE ≠ oNE := Fld.ne OLE ONE (by decide)
  have dLELT : oLE ≠ oLT := Fld.ne OLE OLT (by decide)
  have dLEGT : oLE ≠ oGT := Fld.ne OLE OGT (by decide)
  have dLEGE : oLE ≠ oGE := Fld.ne OLE OGE (by decide)
  have dGTEQ : oGT ≠ oEQ := Fld.ne OGT OEQ (by decide)
  have dGTNE : oGT ≠ oNE := Fld.ne OGT ONE (by decide)
  have dGTLT : oGT ≠ oLT := Fld.ne OGT OLT (by decide)
  have dGTLE : oGT ≠ oLE := Fld.ne OGT OLE (by decide)
  have dGTGE : oGT ≠ oGE := Fld.ne OGT OGE (by decide)
  have dGEEQ : oGE ≠ oEQ := Fld.ne OGE OEQ (by decide)
  have dGENE : oGE ≠ oNE := Fld.ne OGE ONE (by decide)
  have dGELT : oGE ≠ oLT := Fld.ne OGE OLT (by decide)
  have dGELE : oGE ≠ oLE := Fld.ne OGE OLE (by decide)
  have dGEGT : oGE ≠ oGT := Fld.ne OGE OGT (by decide)
  refine own_back (fun t_ q_ => XS.iloadN X0.here hx rfl (hb hby at_0) rfl q_) ?_
  show own_Gl _ _ _ _ (s₁.setTop (mkF m 1 #[.val (.int k), .unset, .unset, .unset, .unset, .unset, .unset, .unset, .unset, .unset] [(.int k)]))
  refine own_back (fun t_ q_ => X0.ldcInt hx hown (mvT hZ (hw _ (List.mem_of_getElem? (i := 0) rfl))) (g := (mkF m 1 #[.val (.int k), .unset, .unset, .unset, .unset, .unset, .unset, .unset, .unset, .unset] [(.int k)])) rfl (hb hby at_1) t_ q_) ?_
  show own_Gl _ _ _ _ (s₁.setTop (mkF m 3 #[.val (.int k), .unset, .unset, .unset, .unset, .unset, .unset, .unset, .unset, .unset] [(.int (2147483647 : Int32)), (.int k)]))
  refine own_back (fun t_ q_ => XS.iand X0.here hx rfl (hb hby at_3) rfl q_) ?_
  show own_Gl _ _ _ _ (s₁.setTop (mkF m 4 #[.val (.int k), .unset, .unset, .unset, .unset, .unset, .unset, .unset, .unset, .unset] [(.int (k &&& (2147483647 : Int32)))]))
  refine own_back (fun t_ q_ => XS.bipush X0.here hx rfl (hb hby at_4) q_) ?_
  show own_Gl _ _ _ _ (s₁.setTop (mkF m 6 #[.val (.int k), .unset, .unset, .unset, .unset, .unset, .unset, .unset, .unset, .unset] [(.int (6 : Int32)), (.int (k &&& (2147483647 : Int32)))]))
  refine own_back (fun t_ q_ => Jvm.RoadKit.iremM (g := (mkF m 6 #[.val (.int k), .unset, .unset, .unset, .unset, .unset, .unset, .unset, .unset, .unset] [(.int (6 : Int32)), (.int (k &&& (2147483647 : Int32)))])) X0 hx rfl (hb hby at_6) rfl (by decide) q_) ?_
  show own_Gl _ _ _ _ (s₁.setTop (mkF m 7 #[.val (.int k), .unset, .unset, .unset, .unset, .unset, .unset, .unset, .unset, .unset] [(.int ((k &&& (2147483647 : Int32)) % (6 : Int32)))]))
  obtain ⟨ii, hii⟩ : ∃ z, z = ((k &&& (2147483647 : Int32)) % (6 : Int32)) := ⟨_, rfl⟩
  rw [← hii]
  show own_Gl _ _ _ _ (s₁.setTop (mkF m 7 #[.val (.int k), .unset, .unset, .unset, .unset, .unset, .unset, .unset, .unset, .unset] [(.int ii)]))
  rcases own_r6 k ii hii with rfl | rfl | rfl | rfl | rfl | rfl
  · skip
    show own_Gl _ _ _ _ (s₁.setTop (mkF m 7 #[.val (.int k), .unset, .unset, .unset, .unset, .unset, .unset, .unset, .unset, .unset] [(.int (0 : Int32))]))
    refine own_back (fun t_ q_ => XS.istoreN X0.here hx rfl (hb hby at_7) rfl (l' := #[.val (.int k), .val (.int (0 : Int32)), .unset, .unset, .unset, .unset, .unset, .unset, .unset, .unset]) rfl q_) ?_
    show own_Gl _ _ _ _ (s₁.setTop (mkF m 8 #[.val (.int k), .val (.int (0 : Int32)), .unset, .unset, .unset, .unset, .unset, .unset, .unset, .unset] []))
    refine own_back (fun t_ q_ => XS.iloadN X0.here hx rfl (hb hby at_8) rfl q_) ?_
    show own_Gl _ _ _ _ (s₁.setTop (mkF m 9 #[.val (.int k), .val (.int (0 : Int32)), .unset, .unset, .unset, .unset, .unset, .unset, .unset, .unset] [(.int (0 : Int32))]))
    obtain ⟨_, _, ⟨T31, L31, k31, n31⟩, -, X31, ⟨Lc31, hQ31, l31, y31, z31⟩, st31⟩ := Jvm.LawKit.callS X0 hx (y := (⟨"com/example/valenciennes/valenciennes/model/OperatorIsOrderingPinLaw", "pick", "(I)Lcom/example/valenciennes/valenciennes/model/Operator;"⟩ : MethodName)) hown (mvT hZ (hw _ (List.mem_of_getElem? (i := 1) rfl))) (mvT hZ (hw _ (List.mem_of_getElem? (i := 2) rfl))) (mvT hZ (hw _ (List.mem_of_getElem? (i := 3) rfl))) (mvT hZ (hw _ (List.mem_of_getElem? (i := 4) rfl))) (by decide) (backOf (W := 0) (rm1 l Z a0 hw [] 0 h0 n0 Z0 oEQ oNE oLT oLE oGT oGE SEQ SNE SLT SLE SGT SGE) hZ (hw _ (List.mem_of_getElem? (i := 4) rfl)) (hw _ (List.mem_of_getElem? (i := 3) rfl)) (by decide) (by decide)) (g := (mkF m 9 #[.val (.int k), .val (.int (0 : Int32)), .unset, .unset, .unset, .unset, .unset, .unset, .unset, .unset] [(.int (0 : Int32))])) rfl (by rw [hml]; rfl) (argsL := [(.int (0 : Int32))]) (rest := []) (lenOf pd_5 rfl) rfl (by show 2 * 0 + _ ≤ _; exact Nat.le_of_eq rfl) (hb hby at_9) (fun _ _ => ⟨rfl, e0, (by decide : 0 + 0 ≤ _), (by decide : 0 + 0 ≤ _)⟩)
    dsimp only [Pt.U, Pt.locs, Pt.cells, Pt.slots] at X31 l31 y31 z31 st31 hQ31
    subst l31 y31 z31
    obtain ⟨rfl, M31, e31⟩ := hQ31
    have N31 := Fr.app N0 M31
    refine own_back st31 ?_
    show own_Gl _ _ _ _ (T31.setTop (mkF m 12 #[.val (.int k), .val (.int (0 : Int32)), .unset, .unset, .unset, .unset, .unset, .unset, .unset, .unset] [(.ref (own_sel 0 oEQ oNE oLT oLE oGT oGE))]))
    show own_Gl _ _ _ _ (T31.setTop (mkF m 12 #[.val (.int k), .val (.int (0 : Int32)), .unset, .unset, .unset, .unset, .unset, .unset, .unset, .unset] [(.ref oEQ)]))
    refine own_back (fun t_ q_ => XS.astoreN X31.here hx rfl (hb hby at_12) rfl rfl (l' := #[.val (.int k), .val (.int (0 : Int32)), .val (.ref oEQ), .unset, .unset, .unset, .unset, .unset, .unset, .unset]) rfl q_) ?_
    show own_Gl _ _ _ _ (T31.setTop (mkF m 13 #[.val (.int k), .val (.int (0 : Int32)), .val (.ref oEQ), .unset, .unset, .unset, .unset, .unset, .unset, .unset] []))
    refine own_back (fun t_ q_ => XS.aloadN X31.here hx rfl (hb hby at_13) rfl rfl q_) ?_
    show own_Gl _ _ _ _ (T31.setTop (mkF m 14 #[.val (.int k), .val (.int (0 : Int32)), .val (.ref oEQ), .unset, .unset, .unset, .unset, .unset, .unset, .unset] [(.ref oEQ)]))
    obtain ⟨cq32, kq32, q32a, q32b, q32c⟩ := isOf hZ e31 XEQ
    obtain ⟨_, _, ⟨T32, L32, k32, n32⟩, -, X32, ⟨Lc32, hQ32, l32, y32, z32⟩, st32⟩ := X31.virtualBack hx (y := (⟨"com/example/valenciennes/valenciennes/model/Operator", "isOrdering", "()Z"⟩ : MethodName)) (z := (⟨"com/example/valenciennes/valenciennes/model/Operator", "isOrdering", "()Z"⟩ : MethodName)) hown (mvT hZ (hw _ (List.mem_of_getElem? (i := 8) rfl))) (mvT hZ (hw _ (List.mem_of_getElem? (i := 9) rfl))) (notFace_of_selects (args := #[]) (mvT hZ (hw _ (List.mem_of_getElem? (i := 11) rfl)))) (mvT hZ (hw _ (List.mem_of_getElem? (i := 11) rfl))) (mvT hZ (hw _ (List.mem_of_getElem? (i := 10) rfl))) (by decide) (backOf (W := 0) (rm2 l Z a0 hw [] oEQ h0 n0 Z0 oEQ oNE SEQ SNE) hZ (hw _ (List.mem_of_getElem? (i := 12) rfl)) (hw _ (List.mem_of_getElem? (i := 6) rfl)) (by decide) (by decide)) q32a q32c (g := (mkF m 14 #[.val (.int k), .val (.int (0 : Int32)), .val (.ref oEQ), .unset, .unset, .unset, .unset, .unset, .unset, .unset] [(.ref oEQ)])) rfl (by rw [hml]; rfl) (Steps.refl _) (argsL := []) (rest := []) (lenOf pd_2 rfl) rfl (by show 2 * 0 + _ ≤ _; exact Nat.le_of_eq rfl) (hb hby at_14) (fun _ _ => ⟨rfl, e31, (by decide : 0 + 0 ≤ _), (by decide : 0 + 0 ≤ _)⟩)
    dsimp only [Pt.U, Pt.locs, Pt.cells, Pt.slots] at X32 l32 y32 z32 st32 hQ32
    subst l32 y32 z32
    obtain ⟨rfl, M32, e32⟩ := hQ32
    have N32 := Fr.app N31 M32
    refine own_trans st32 ?_
    show own_Gl _ _ _ _ (T32.setTop (mkF m 17 #[.val (.int k), .val (.int (0 : Int32)), .val (.ref oEQ), .unset, .unset, .unset, .unset, .unset, .unset, .unset] [(.int (if oEQ = oEQ ∨ oEQ = oNE then (0 : Int32) else 1))]))
    rw [if_pos (Or.inl rfl)]
    show own_Gl _ _ _ _ (T32.setTop (mkF m 17 #[.val (.int k), .val (.int (0 : Int32)), .val (.ref oEQ), .unset, .unset, .unset, .unset, .unset, .unset, .unset] [(.int (0 : Int32))]))
    refine own_back (fun t_ q_ => XS.istoreN X32.here hx rfl (hb hby at_17) rfl (l' := #[.val (.int k), .val (.int (0 : Int32)), .val (.ref oEQ), .val (.int (0 : Int32)), .unset, .unset, .unset, .unset, .unset, .unset]) rfl q_) ?_
    show own_Gl _ _ _ _ (T32.setTop (mkF m 18 #[.val (.int k), .val (.int (0 : Int32)), .val (.ref oEQ), .val (.int (0 : Int32)), .unset, .unset, .unset, .unset, .unset, .unset] []))
    refine own_back (fun t_ q_ => XS.aloadN X32.here hx rfl (hb hby at_18) rfl rfl q_) ?_
    show own_Gl _ _ _ _ (T32.setTop (mkF m 19 #[.val (.int k), .val (.int (0 : Int32)), .val (.ref oEQ), .val (.int (0 : Int32)), .unset, .unset, .unset, .unset, .unset, .unset] [(.ref oEQ)]))
    obtain ⟨cq33, kq33, q33a, q33b, q33c⟩ := isOf hZ e32 XEQ
    obtain ⟨_, _, ⟨T33, L33, k33, n33⟩, -, X33, ⟨Lc33, hQ33, l33, y33, z33⟩, st33⟩ := X32.virtualBack hx (y := (⟨"com/example/valenciennes/valenciennes/model/Operator", "symbol", "()Ljava/lang/String;"⟩ : MethodName)) (z := (⟨"com/example/valenciennes/valenciennes/model/Operator", "symbol", "()Ljava/lang/String;"⟩ : MethodName)) hown (mvT hZ (hw _ (List.mem_of_getElem? (i := 14) rfl))) (mvT hZ (hw _ (List.mem_of_getElem? (i := 15) rfl))) (notFace_of_selects (args := #[]) (mvT hZ (hw _ (List.mem_of_getElem? (i := 17) rfl)))) (mvT hZ (hw _ (List.mem_of_getElem? (i := 17) rfl))) (mvT hZ (hw _ (List.mem_of_getElem? (i := 16) rfl))) (by decide) (backOf (W := 0) (rm3 l Z a0 hw [] oEQ h0 n0 Z0 tEQ YEQ) hZ (hw _ (List.mem_of_getElem? (i := 18) rfl)) (hw _ (List.mem_of_getElem? (i := 6) rfl)) (by decide) (by decide)) q33a q33c (g := (mkF m 19 #[.val (.int k), .val (.int (0 : Int32)), .val (.ref oEQ), .val (.int (0 : Int32)), .unset, .unset, .unset, .unset, .unset, .unset] [(.ref oEQ)])) rfl (by rw [hml]; rfl) (Steps.refl _) (argsL := []) (rest := []) (lenOf pd_6 rfl) rfl (by show 2 * 0 + _ ≤ _; exact Nat.le_of_eq rfl) (hb hby at_19) (fun _ _ => ⟨rfl, e32, (by decide : 0 + 0 ≤ _), (by decide : 0 + 0 ≤ _)⟩)
    dsimp only [Pt.U, Pt.locs, Pt.cells, Pt.slots] at X33 l33 y33 z33 st33 hQ33
    subst l33 y33 z33
    obtain ⟨rfl, M33, e33⟩ := hQ33
    have N33 := Fr.app N32 M33
    refine own_trans st33 ?_
    show own_Gl _ _ _ _ (T33.setTop (mkF m 22 #[.val (.int k), .val (.int (0 : Int32)), .val (.ref oEQ), .val (.int (0 : Int32)), .unset, .unset, .unset, .unset, .unset, .unset] [(.ref tEQ)]))
    refine own_back (fun t_ q_ => XS.astore X33.here hx rfl (hb hby at_22) rfl rfl (l' := #[.val (.int k), .val (.int (0 : Int32)), .val (.ref oEQ), .val (.int (0 : Int32)), .val (.ref tEQ), .unset, .unset, .unset, .unset, .unset]) rfl q_) ?_
    show own_Gl _ _ _ _ (T33.setTop (mkF m 24 #[.val (.int k), .val (.int (0 : Int32)), .val (.ref oEQ), .val (.int (0 : Int32)), .val (.ref tEQ), .unset, .unset, .unset, .unset, .unset] []))
    refine own_back (fun t_ q_ => XS.aload X33.here hx rfl (hb hby at_24) rfl rfl q_) ?_
    show own_Gl _ _ _ _ (T33.setTop (mkF m 26 #[.val (.int k), .val (.int (0 : Int32)), .val (.ref oEQ), .val (.int (0 : Int32)), .val (.ref tEQ), .unset, .unset, .unset, .unset, .unset] [(.ref tEQ)]))
    refine own_back (fun t_ q_ => XS.iconst X33.here hx rfl (hb hby at_26) q_) ?_
    show own_Gl _ _ _ _ (T33.setTop (mkF m 27 #[.val (.int k), .val (.int (0 : Int32)), .val (.ref oEQ), .val (.int (0 : Int32)), .val (.ref tEQ), .unset, .unset, .unset, .unset, .unset] [(.int (0 : Int32)), (.ref tEQ)]))
    obtain ⟨cq34, kq34, q34a, q34b, q34c⟩ := isOf hZ e33 BEQ.1
    obtain ⟨_, _, ⟨T34, L34, k34, n34⟩, -, X34, ⟨Lc34, hQ34, l34, y34, z34⟩, st34⟩ := X33.virtualBack hx (y := (⟨"java/lang/String", "charAt", "(I)C"⟩ : MethodName)) (z := (⟨"java/lang/String", "charAt", "(I)C"⟩ : MethodName)) hown (mvT hZ (hw _ (List.mem_of_getElem? (i := 21) rfl))) (mvT hZ (hw _ (List.mem_of_getElem? (i := 22) rfl))) (notFace_of_selects (args := #[]) (mvT hZ (hw _ (List.mem_of_getElem? (i := 24) rfl)))) (mvT hZ (hw _ (List.mem_of_getElem? (i := 24) rfl))) (mvT hZ (hw _ (List.mem_of_getElem? (i := 23) rfl))) (by decide) (backOf (W := 0) (rm4 l Z a0 hw [] tEQ 0 h0 n0 Z0 61 rfl K BEQ) hZ (hw _ (List.mem_of_getElem? (i := 26) rfl)) (hw _ (List.mem_of_getElem? (i := 25) rfl)) (by decide) (by decide)) q34a q34c (g := (mkF m 27 #[.val (.int k), .val (.int (0 : Int32)), .val (.ref oEQ), .val (.int (0 : Int32)), .val (.ref tEQ), .unset, .unset, .unset, .unset, .unset] [(.int (0 : Int32)), (.ref tEQ)])) rfl (by rw [hml]; rfl) (Steps.refl _) (argsL := [(.int (0 : Int32))]) (rest := []) (lenOf pd_7 rfl) rfl (by show 2 * 0 + _ ≤ _; exact Nat.le_of_eq rfl) (hb hby at_27) (fun _ _ => ⟨rfl, e33, (by decide : 0 + 0 ≤ _), (by decide : 0 + 0 ≤ _)⟩)
    dsimp only [Pt.U, Pt.locs, Pt.cells, Pt.slots] at X34 l34 y34 z34 st34 hQ34
    subst l34 y34 z34
    obtain ⟨rfl, M34, e34⟩ := hQ34
    have N34 := Fr.app N33 M34
    refine own_trans st34 ?_
    show own_Gl _ _ _ _ (T34.setTop (mkF m 30 #[.val (.int k), .val (.int (0 : Int32)), .val (.ref oEQ), .val (.int (0 : Int32)), .val (.ref tEQ), .unset, .unset, .unset, .unset, .unset] [(.int (nar .char (own_c 61)))]))
    rw [show nar .char (own_c 61) = 61 by decide]
    show own_Gl _ _ _ _ (T34.setTop (mkF m 30 #[.val (.int k), .val (.int (0 : Int32)), .val (.ref oEQ), .val (.int (0 : Int32)), .val (.ref tEQ), .unset, .unset, .unset, .unset, .unset] [(.int (61 : Int32))]))
    refine own_back (fun t_ q_ => XS.istore X34.here hx rfl (hb hby at_30) rfl (l' := #[.val (.int k), .val (.int (0 : Int32)), .val (.ref oEQ), .val (.int (0 : Int32)), .val (.ref tEQ), .val (.int (61 : Int32)), .unset, .unset, .unset, .unset]) rfl q_) ?_
    show own_Gl _ _ _ _ (T34.setTop (mkF m 32 #[.val (.int k), .val (.int (0 : Int32)), .val (.ref oEQ), .val (.int (0 : Int32)), .val (.ref tEQ), .val (.int (61 : Int32)), .unset, .unset, .unset, .unset] []))
    refine own_back (fun t_ q_ => XS.iload X34.here hx rfl (hb hby at_32) rfl q_) ?_
    show own_Gl _ _ _ _ (T34.setTop (mkF m 34 #[.val (.int k), .val (.int (0 : Int32)), .val (.ref oEQ), .val (.int (0 : Int32)), .val (.ref tEQ), .val (.int (61 : Int32)), .unset, .unset, .unset, .unset] [(.int (61 : Int32))]))
    refine own_back (fun t_ q_ => XS.bipush X34.here hx rfl (hb hby at_34) q_) ?_
    show own_Gl _ _ _ _ (T34.setTop (mkF m 36 #[.val (.int k), .val (.int (0 : Int32)), .val (.ref oEQ), .val (.int (0 : Int32)), .val (.ref tEQ), .val (.int (61 : Int32)), .unset, .unset, .unset, .unset] [(.int (60 : Int32)), (.int (61 : Int32))]))
    refine own_back (fun t_ q_ => XS.icmpNo X34.here hx rfl (hb hby at_36) rfl (feq (by decide : ¬ ((61 : Int32) = (60 : Int32)))).1 q_) ?_
    show own_Gl _ _ _ _ (T34.setTop (mkF m 39 #[.val (.int k), .val (.int (0 : Int32)), .val (.ref oEQ), .val (.int (0 : Int32)), .val (.ref tEQ), .val (.int (61 : Int32)), .unset, .unset, .unset, .unset] []))
    refine own_back (fun t_ q_ => XS.iload X34.here hx rfl (hb hby at_39) rfl q_) ?_
    show own_Gl _ _ _ _ (T34.setTop (mkF m 41 #[.val (.int k), .val (.int (0 : Int32)), .val (.ref oEQ), .val (.int (0 : Int32)), .val (.ref tEQ), .val (.int (61 : Int32)), .unset, .unset, .unset, .unset] [(.int (61 : Int32))]))
    refine own_back (fun t_ q_ => XS.bipush X34.here hx rfl (hb hby at_41) q_) ?_
    show own_Gl _ _ _ _ (T34.setTop (mkF m 43 #[.val (.int k), .val (.int (0 : Int32)), .val (.ref oEQ), .val (.int (0 : Int32)), .val (.ref tEQ), .val (.int (61 : Int32)), .unset, .unset, .unset, .unset] [(.int (62 : Int32)), (.int (61 : Int32))]))
    refine own_back (fun t_ q_ => XS.icmpYes X34.here hx rfl (pc0 := 43) (pc' := 50) rfl (hb hby at_43) rfl (feq (by decide : ¬ ((61 : Int32) = (62 : Int32)))).2 (by decide) (by decide) q_) ?_
    show own_Gl _ _ _ _ (T34.setTop (mkF m 50 #[.val (.int k), .val (.int (0 : Int32)), .val (.ref oEQ), .val (.int (0 : Int32)), .val (.ref tEQ), .val (.int (61 : Int32)), .unset, .unset, .unset, .unset] []))
    refine own_back (fun t_ q_ => XS.iconst X34.here hx rfl (hb hby at_50) q_) ?_
    show own_Gl _ _ _ _ (T34.setTop (mkF m 51 #[.val (.int k), .val (.int (0 : Int32)), .val (.ref oEQ), .val (.int (0 : Int32)), .val (.ref tEQ), .val (.int (61 : Int32)), .unset, .unset, .unset, .unset] [(.int (0 : Int32))]))
    refine own_back (fun t_ q_ => XS.istore X34.here hx rfl (hb hby at_51) rfl (l' := #[.val (.int k), .val (.int (0 : Int32)), .val (.ref oEQ), .val (.int (0 : Int32)), .val (.ref tEQ), .val (.int (61 : Int32)), .val (.int (0 : Int32)), .unset, .unset, .unset]) rfl q_) ?_
    show own_Gl _ _ _ _ (T34.setTop (mkF m 53 #[.val (.int k), .val (.int (0 : Int32)), .val (.ref oEQ), .val (.int (0 : Int32)), .val (.ref tEQ), .val (.int (61 : Int32)), .val (.int (0 : Int32)), .unset, .unset, .unset] []))
    refine own_back (fun t_ q_ => XS.iloadN X34.here hx rfl (hb hby at_53) rfl q_) ?_
    show own_Gl _ _ _ _ (T34.setTop (mkF m 54 #[.val (.int k), .val (.int (0 : Int32)), .val (.ref oEQ), .val (.int (0 : Int32)), .val (.ref tEQ), .val (.int (61 : Int32)), .val (.int (0 : Int32)), .unset, .unset, .unset] [(.int (0 : Int32))]))
    refine own_back (fun t_ q_ => XS.iconst X34.here hx rfl (hb hby at_54) q_) ?_
    show own_Gl _ _ _ _ (T34.setTop (mkF m 55 #[.val (.int k), .val (.int (0 : Int32)), .val (.ref oEQ), .val (.int (0 : Int32)), .val (.ref tEQ), .val (.int (61 : Int32)), .val (.int (0 : Int32)), .unset, .unset, .unset] [(.int (2 : Int32)), (.int (0 : Int32))]))
    refine own_back (fun t_ q_ => XS.icmpYes X34.here hx rfl (pc0 := 55) (pc' := 62) rfl (hb hby at_55) rfl (tlt (by decide : (0 : Int32) < (2 : Int32))).1 (by decide) (by decide) q_) ?_
    show own_Gl _ _ _ _ (T34.setTop (mkF m 62 #[.val (.int k), .val (.int (0 : Int32)), .val (.ref oEQ), .val (.int (0 : Int32)), .val (.ref tEQ), .val (.int (61 : Int32)), .val (.int (0 : Int32)), .unset, .unset, .unset] []))
    refine own_back (fun t_ q_ => XS.iconst X34.here hx rfl (hb hby at_62) q_) ?_
    show own_Gl _ _ _ _ (T34.setTop (mkF m 63 #[.val (.int k), .val (.int (0 : Int32)), .val (.ref oEQ), .val (.int (0 : Int32)), .val (.ref tEQ), .val (.int (61 : Int32)), .val (.int (0 : Int32)), .unset, .unset, .unset] [(.int (0 : Int32))]))
    refine own_back (fun t_ q_ => XS.istore X34.here hx rfl (hb hby at_63) rfl (l' := #[.val (.int k), .val (.int (0 : Int32)), .val (.ref oEQ), .val (.int (0 : Int32)), .val (.ref tEQ), .val (.int (61 : Int32)), .val (.int (0 : Int32)), .val (.int (0 : Int32)), .unset, .unset]) rfl q_) ?_
    show own_Gl _ _ _ _ (T34.setTop (mkF m 65 #[.val (.int k), .val (.int (0 : Int32)), .val (.ref oEQ), .val (.int (0 : Int32)), .val (.ref tEQ), .val (.int (61 : Int32)), .val (.int (0 : Int32)), .val (.int (0 : Int32)), .unset, .unset] []))
    refine own_back (fun t_ q_ => XS.aloadN X34.here hx rfl (hb hby at_65) rfl rfl q_) ?_
    show own_Gl _ _ _ _ (T34.setTop (mkF m 66 #[.val (.int k), .val (.int (0 : Int32)), .val (.ref oEQ), .val (.int (0 : Int32)), .val (.ref tEQ), .val (.int (61 : Int32)), .val (.int (0 : Int32)), .val (.int (0 : Int32)), .unset, .unset] [(.ref oEQ)]))
    obtain ⟨cq35, kq35, q35a, q35b, q35c⟩ := isOf hZ e34 XEQ
    obtain ⟨_, _, ⟨T35, L35, k35, n35⟩, -, X35, ⟨Lc35, hQ35, l35, y35, z35⟩, st35⟩ := X34.virtualBack hx (y := (⟨"com/example/valenciennes/valenciennes/model/Operator", "negated", "()Lcom/example/valenciennes/valenciennes/model/Operator;"⟩ : MethodName)) (z := (⟨"com/example/valenciennes/valenciennes/model/Operator", "negated", "()Lcom/example/valenciennes/valenciennes/model/Operator;"⟩ : MethodName)) hown (mvT hZ (hw _ (List.mem_of_getElem? (i := 49) rfl))) (mvT hZ (hw _ (List.mem_of_getElem? (i := 50) rfl))) (notFace_of_selects (args := #[]) (mvT hZ (hw _ (List.mem_of_getElem? (i := 52) rfl)))) (mvT hZ (hw _ (List.mem_of_getElem? (i := 52) rfl))) (mvT hZ (hw _ (List.mem_of_getElem? (i := 51) rfl))) (by decide) (backOf (W := 0) (rm9 l Z a0 hw [] oEQ h0 n0 Z0 0 oEQ oNE oLT oLE oGT oGE SEQ SNE SLT SLE SGT SGE XEQ OEQ (by decide)) hZ (hw _ (List.mem_of_getElem? (i := 53) rfl)) (hw _ (List.mem_of_getElem? (i := 6) rfl)) (by decide) (by decide)) q35a q35c (g := (mkF m 66 #[.val (.int k), .val (.int (0 : Int32)), .val (.ref oEQ), .val (.int (0 : Int32)), .val (.ref tEQ), .val (.int (61 : Int32)), .val (.int (0 : Int32)), .val (.int (0 : Int32)), .unset, .unset] [(.ref oEQ)])) rfl (by rw [hml]; rfl) (Steps.refl _) (argsL := []) (rest := []) (lenOf pd_8 rfl) rfl (by show 2 * 0 + _ ≤ _; exact Nat.le_of_eq rfl) (hb hby at_66) (fun _ _ => ⟨rfl, e34, (by decide : 0 + 0 ≤ _), (by decide : 0 + 0 ≤ _)⟩)
    dsimp only [Pt.U, Pt.locs, Pt.cells, Pt.slots] at X35 l35 y35 z35 st35 hQ35
    subst l35 y35 z35
    obtain ⟨rfl, M35, e35⟩ := hQ35
    have N35 := Fr.app N34 M35
    refine own_trans st35 ?_
    show own_Gl _ _ _ _ (T35.setTop (mkF m 69 #[.val (.int k), .val (.int (0 : Int32)), .val (.ref oEQ), .val (.int (0 : Int32)), .val (.ref tEQ), .val (.int (61 : Int32)), .val (.int (0 : Int32)), .val (.int (0 : Int32)), .unset, .unset] [(.ref (own_sel 0 oNE oEQ oGE oGT oLE oLT))]))
    show own_Gl _ _ _ _ (T35.setTop (mkF m 69 #[.val (.int k), .val (.int (0 : Int32)), .val (.ref oEQ), .val (.int (0 : Int32)), .val (.ref tEQ), .val (.int (61 : Int32)), .val (.int (0 : Int32)), .val (.int (0 : Int32)), .unset, .unset] [(.ref oNE)]))
    obtain ⟨cq36, kq36, q36a, q36b, q36c⟩ := isOf hZ e35 XNE
    obtain ⟨_, _, ⟨T36, L36, k36, n36⟩, -, X36, ⟨Lc36, hQ36, l36, y36, z36⟩, st36⟩ := X35.virtualBack hx (y := (⟨"com/example/valenciennes/valenciennes/model/Operator", "isOrdering", "()Z"⟩ : MethodName)) (z := (⟨"com/example/valenciennes/valenciennes/model/Operator", "isOrdering", "()Z"⟩ : MethodName)) hown (mvT hZ (hw _ (List.mem_of_getElem? (i := 8) rfl))) (mvT hZ (hw _ (List.mem_of_getElem? (i := 9) rfl))) (notFace_of_selects (args := #[]) (mvT hZ (hw _ (List.mem_of_getElem? (i := 11) rfl)))) (mvT hZ (hw _ (List.mem_of_getElem? (i := 11) rfl))) (mvT hZ (hw _ (List.mem_of_getElem? (i := 10) rfl))) (by decide) (backOf (W := 0) (rm2 l Z a0 hw [] oNE h0 n0 Z0 oEQ oNE SEQ SNE) hZ (hw _ (List.mem_of_getElem? (i := 12) rfl)) (hw _ (List.mem_of_getElem? (i := 6) rfl)) (by decide) (by decide)) q36a q36c (g := (mkF m 69 #[.val (.int k), .val (.int (0 : Int32)), .val (.ref oEQ), .val (.int (0 : Int32)), .val (.ref tEQ), .val (.int (61 : Int32)), .val (.int (0 : Int32)), .val (.int (0 : Int32)), .unset, .unset] [(.ref oNE)])) rfl (by rw [hml]; rfl) (Steps.refl _) (argsL := []) (rest := []) (lenOf pd_2 rfl) rfl (by show 2 * 0 + _ ≤ _; exact Nat.le_of_eq rfl) (hb hby at_69) (fun _ _ => ⟨rfl, e35, (by decide : 0 + 0 ≤ _), (by decide : 0 + 0 ≤ _)⟩)
    dsimp only [Pt.U, Pt.locs, Pt.cells, Pt.slots] at X36 l36 y36 z36 st36 hQ36
    subst l36 y36 z36
    obtain ⟨rfl, M36, e36⟩ := hQ36
    have N36 := Fr.app N35 M36
    refine own_trans st36 ?_
    show own_Gl _ _ _ _ (T36.setTop (mkF m 72 #[.val (.int k), .val (.int (0 : Int32)), .val (.ref oEQ), .val (.int (0 : Int32)), .val (.ref tEQ), .val (.int (61 : Int32)), .val (.int (0 : Int32)), .val (.int (0 : Int32)), .unset, .unset] [(.int (if oNE = oEQ ∨ oNE = oNE then (0 : Int32) else 1))]))
    rw [if_pos (Or.inr rfl)]
    show own_Gl _ _ _ _ (T36.setTop (mkF m 72 #[.val (.int k), .val (.int (0 : Int32)), .val (.ref oEQ), .val (.int (0 : Int32)), .val (.ref tEQ), .val (.int (61 : Int32)), .val (.int (0 : Int32)), .val (.int (0 : Int32)), .unset, .unset] [(.int (0 : Int32))]))
    refine own_back (fun t_ q_ => XS.iloadN X36.here hx rfl (hb hby at_72) rfl q_) ?_
    show own_Gl _ _ _ _ (T36.setTop (mkF m 73 #[.val (.int k), .val (.int (0 : Int32)), .val (.ref oEQ), .val (.int (0 : Int32)), .val (.ref tEQ), .val (.int (61 : Int32)), .val (.int (0 : Int32)), .val (.int (0 : Int32)), .unset, .unset] [(.int (0 : Int32)), (.int (0 : Int32))]))
    refine own_back (fun t_ q_ => XS.icmpNo X36.here hx rfl (hb hby at_73) rfl (teq (rfl : (0 : Int32) = (0 : Int32))).2 q_) ?_
    show own_Gl _ _ _ _ (T36.setTop (mkF m 76 #[.val (.int k), .val (.int (0 : Int32)), .val (.ref oEQ), .val (.int (0 : Int32)), .val (.ref tEQ), .val (.int (61 : Int32)), .val (.int (0 : Int32)), .val (.int (0 : Int32)), .unset, .unset] []))
    refine own_back (fun t_ q_ => XS.iconst X36.here hx rfl (hb hby at_76) q_) ?_
    show own_Gl _ _ _ _ (T36.setTop (mkF m 77 #[.val (.int k), .val (.int (0 : Int32)), .val (.ref oEQ), .val (.int (0 : Int32)), .val (.ref tEQ), .val (.int (61 : Int32)), .val (.int (0 : Int32)), .val (.int (0 : Int32)), .unset, .unset] [(.int (1 : Int32))]))
    refine own_back (fun t_ q_ => XS.goto X36.here hx rfl (pc0 := 77) (pc' := 81) rfl (hb hby at_77) (by decide) (by decide) q_) ?_
    show own_Gl _ _ _ _ (T36.setTop (mkF m 81 #[.val (.int k), .val (.int (0 : Int32)), .val (.ref oEQ), .val (.int (0 : Int32)), .val (.ref tEQ), .val (.int (61 : Int32)), .val (.int (0 : Int32)), .val (.int (0 : Int32)), .unset, .unset] [(.int (1 : Int32))]))
    refine own_back (fun t_ q_ => XS.istore X36.here hx rfl (hb hby at_81) rfl (l' := #[.val (.int k), .val (.int (0 : Int32)), .val (.ref oEQ), .val (.int (0 : Int32)), .val (.ref tEQ), .val (.int (61 : Int32)), .val (.int (0 : Int32)), .val (.int (0 : Int32)), .val (.int (1 : Int32)), .unset]) rfl q_) ?_
    show own_Gl _ _ _ _ (T36.setTop (mkF m 83 #[.val (.int k), .val (.int (0 : Int32)), .val (.ref oEQ), .val (.int (0 : Int32)), .val (.ref tEQ), .val (.int (61 : Int32)), .val (.int (0 : Int32)), .val (.int (0 : Int32)), .val (.int (1 : Int32)), .unset] []))
    refine own_back (fun t_ q_ => XS.aloadN X36.here hx rfl (hb hby at_83) rfl rfl q_) ?_
    show own_Gl _ _ _ _ (T36.setTop (mkF m 84 #[.val (.int k), .val (.int (0 : Int32)), .val (.ref oEQ), .val (.int (0 : Int32)), .val (.ref tEQ), .val (.int (61 : Int32)), .val (.int (0 : Int32)), .val (.int (0 : Int32)), .val (.int (1 : Int32)), .unset] [(.ref oEQ)]))
    obtain ⟨cq37, kq37, q37a, q37b, q37c⟩ := isOf hZ e36 XEQ
    obtain ⟨_, _, ⟨T37, L37, k37, n37⟩, -, X37, ⟨Lc37, hQ37, l37, y37, z37⟩, st37⟩ := X36.virtualBack hx (y := (⟨"com/example/valenciennes/valenciennes/model/Operator", "mirrored", "()Lcom/example/valenciennes/valenciennes/model/Operator;"⟩ : MethodName)) (z := (⟨"com/example/valenciennes/valenciennes/model/Operator", "mirrored", "()Lcom/example/valenciennes/valenciennes/model/Operator;"⟩ : MethodName)) hown (mvT hZ (hw _ (List.mem_of_getElem? (i := 65) rfl))) (mvT hZ (hw _ (List.mem_of_getElem? (i := 66) rfl))) (notFace_of_selects (args := #[]) (mvT hZ (hw _ (List.mem_of_getElem? (i := 68) rfl)))) (mvT hZ (hw _ (List.mem_of_getElem? (i := 68) rfl))) (mvT hZ (hw _ (List.mem_of_getElem? (i := 67) rfl))) (by decide) (backOf (W := 0) (rm11 l Z a0 hw [] oEQ h0 n0 Z0 0 oEQ oNE oLT oLE oGT oGE SEQ SNE SLT SLE SGT SGE XEQ OEQ (by decide)) hZ (hw _ (List.mem_of_getElem? (i := 69) rfl)) (hw _ (List.mem_of_getElem? (i := 6) rfl)) (by decide) (by decide)) q37a q37c (g := (mkF m 84 #[.val (.int k), .val (.int (0 : Int32)), .val (.ref oEQ), .val (.int (0 : Int32)), .val (.ref tEQ), .val (.int (61 : Int32)), .val (.int (0 : Int32)), .val (.int (0 : Int32)), .val (.int (1 : Int32)), .unset] [(.ref oEQ)])) rfl (by rw [hml]; rfl) (Steps.refl _) (argsL := []) (rest := []) (lenOf pd_8 rfl) rfl (by show 2 * 0 + _ ≤ _; exact Nat.le_of_eq rfl) (hb hby at_84) (fun _ _ => ⟨rfl, e36, (by decide : 0 + 0 ≤ _), (by decide : 0 + 0 ≤ _)⟩)
    dsimp only [Pt.U, Pt.locs, Pt.cells, Pt.slots] at X37 l37 y37 z37 st37 hQ37
    subst l37 y37 z37
    obtain ⟨rfl, M37, e37⟩ := hQ37
    have N37 := Fr.app N36 M37
    refine own_trans st37 ?_
    show own_Gl _ _ _ _ (T37.setTop (mkF m 87 #[.val (.int k), .val (.int (0 : Int32)), .val (.ref oEQ), .val (.int (0 : Int32)), .val (.ref tEQ), .val (.int (61 : Int32)), .val (.int (0 : Int32)), .val (.int (0 : Int32)), .val (.int (1 : Int32)), .unset] [(.ref (own_sel 0 oEQ oEQ oGT oGE oLT oLE))]))
    show own_Gl _ _ _ _ (T37.setTop (mkF m 87 #[.val (.int k), .val (.int (0 : Int32)), .val (.ref oEQ), .val (.int (0 : Int32)), .val (.ref tEQ), .val (.int (61 : Int32)), .val (.int (0 : Int32)), .val (.int (0 : Int32)), .val (.int (1 : Int32)), .unset] [(.ref oEQ)]))
    refine own_back (fun t_ q_ => XS.aloadN X37.here hx rfl (hb hby at_87) rfl rfl q_) ?_
    show own_Gl _ _ _ _ (T37.setTop (mkF m 88 #[.val (.int k), .val (.int (0 : Int32)), .val (.ref oEQ), .val (.int (0 : Int32)), .val (.ref tEQ), .val (.int (61 : Int32)), .val (.int (0 : Int32)), .val (.int (0 : Int32)), .val (.int (1 : Int32)), .unset] [(.ref oEQ), (.ref oEQ)]))
    refine own_back (fun t_ q_ => Jvm.RoadKit.acmp (g := (mkF m 88 #[.val (.int k), .val (.int (0 : Int32)), .val (.ref oEQ), .val (.int (0 : Int32)), .val (.ref tEQ), .val (.int (61 : Int32)), .val (.int (0 : Int32)), .val (.int (0 : Int32)), .val (.int (1 : Int32)), .unset] [(.ref oEQ), (.ref oEQ)])) X37 hx rfl rfl rfl (pc0 := 88) (pc' := 95) (same := true) rfl (hb hby at_88) rfl (decide_eq_true (congrArg Value.ref (rfl))) (by decide) (by decide) q_) ?_
    show own_Gl _ _ _ _ (T37.setTop (mkF m 95 #[.val (.int k), .val (.int (0 : Int32)), .val (.ref oEQ), .val (.int (0 : Int32)), .val (.ref tEQ), .val (.int (61 : Int32)), .val (.int (0 : Int32)), .val (.int (0 : Int32)), .val (.int (1 : Int32)), .unset] []))
    refine own_back (fun t_ q_ => XS.iconst X37.here hx rfl (hb hby at_95) q_) ?_
    show own_Gl _ _ _ _ (T37.setTop (mkF m 96 #[.val (.int k), .val (.int (0 : Int32)), .val (.ref oEQ), .val (.int (0 : Int32)), .val (.ref tEQ), .val (.int (61 : Int32)), .val (.int (0 : Int32)), .val (.int (0 : Int32)), .val (.int (1 : Int32)), .unset] [(.int (0 : Int32))]))
    refine own_back (fun t_ q_ => XS.iloadN X37.here hx rfl (hb hby at_96) rfl q_) ?_
    show own_Gl _ _ _ _ (T37.setTop (mkF m 97 #[.val (.int k), .val (.int (0 : Int32)), .val (.ref oEQ), .val (.int (0 : Int32)), .val (.ref tEQ), .val (.int (61 : Int32)), .val (.int (0 : Int32)), .val (.int (0 : Int32)), .val (.int (1 : Int32)), .unset] [(.int (0 : Int32)), (.int (0 : Int32))]))
    refine own_back (fun t_ q_ => XS.icmpNo X37.here hx rfl (hb hby at_97) rfl (teq (rfl : (0 : Int32) = (0 : Int32))).2 q_) ?_
    show own_Gl _ _ _ _ (T37.setTop (mkF m 100 #[.val (.int k), .val (.int (0 : Int32)), .val (.ref oEQ), .val (.int (0 : Int32)), .val (.ref tEQ), .val (.int (61 : Int32)), .val (.int (0 : Int32)), .val (.int (0 : Int32)), .val (.int (1 : Int32)), .unset] []))
    refine own_back (fun t_ q_ => XS.iconst X37.here hx rfl (hb hby at_100) q_) ?_
    show own_Gl _ _ _ _ (T37.setTop (mkF m 101 #[.val (.int k), .val (.int (0 : Int32)), .val (.ref oEQ), .val (.int (0 : Int32)), .val (.ref tEQ), .val (.int (61 : Int32)), .val (.int (0 : Int32)), .val (.int (0 : Int32)), .val (.int (1 : Int32)), .unset] [(.int (1 : Int32))]))
    refine own_back (fun t_ q_ => XS.goto X37.here hx rfl (pc0 := 101) (pc' := 105) rfl (hb hby at_101) (by decide) (by decide) q_) ?_
    show own_Gl _ _ _ _ (T37.setTop (mkF m 105 #[.val (.int k), .val (.int (0 : Int32)), .val (.ref oEQ), .val (.int (0 : Int32)), .val (.ref tEQ), .val (.int (61 : Int32)), .val (.int (0 : Int32)), .val (.int (0 : Int32)), .val (.int (1 : Int32)), .unset] [(.int (1 : Int32))]))
    refine own_back (fun t_ q_ => XS.istore X37.here hx rfl (hb hby at_105) rfl (l' := #[.val (.int k), .val (.int (0 : Int32)), .val (.ref oEQ), .val (.int (0 : Int32)), .val (.ref tEQ), .val (.int (61 : Int32)), .val (.int (0 : Int32)), .val (.int (0 : Int32)), .val (.int (1 : Int32)), .val (.int (1 : Int32))]) rfl q_) ?_
    show own_Gl _ _ _ _ (T37.setTop (mkF m 107 #[.val (.int k), .val (.int (0 : Int32)), .val (.ref oEQ), .val (.int (0 : Int32)), .val (.ref tEQ), .val (.int (61 : Int32)), .val (.int (0 : Int32)), .val (.int (0 : Int32)), .val (.int (1 : Int32)), .val (.int (1 : Int32))] []))
    refine own_back (fun t_ q_ => XS.iloadN X37.here hx rfl (hb hby at_107) rfl q_) ?_
    show own_Gl _ _ _ _ (T37.setTop (mkF m 108 #[.val (.int k), .val (.int (0 : Int32)), .val (.ref oEQ), .val (.int (0 : Int32)), .val (.ref tEQ), .val (.int (61 : Int32)), .val (.int (0 : Int32)), .val (.int (0 : Int32)), .val (.int (1 : Int32)), .val (.int (1 : Int32))] [(.int (0 : Int32))]))
    refine own_back (fun t_ q_ => XS.iload X37.here hx rfl (hb hby at_108) rfl q_) ?_
    show own_Gl _ _ _ _ (T37.setTop (mkF m 110 #[.val (.int k), .val (.int (0 : Int32)), .val (.ref oEQ), .val (.int (0 : Int32)), .val (.ref tEQ), .val (.int (61 : Int32)), .val (.int (0 : Int32)), .val (.int (0 : Int32)), .val (.int (1 : Int32)), .val (.int (1 : Int32))] [(.int (0 : Int32)), (.int (0 : Int32))]))
    refine own_back (fun t_ q_ => XS.icmpNo X37.here hx rfl (hb hby at_110) rfl (teq (rfl : (0 : Int32) = (0 : Int32))).2 q_) ?_
    show own_Gl _ _ _ _ (T37.setTop (mkF m 113 #[.val (.int k), .val (.int (0 : Int32)), .val (.ref oEQ), .val (.int (0 : Int32)), .val (.ref tEQ), .val (.int (61 : Int32)), .val (.int (0 : Int32)), .val (.int (0 : Int32)), .val (.int (1 : Int32)), .val (.int (1 : Int32))] []))
    refine own_back (fun t_ q_ => XS.iloadN X37.here hx rfl (hb hby at_113) rfl q_) ?_
    show own_Gl _ _ _ _ (T37.setTop (mkF m 114 #[.val (.int k), .val (.int (0 : Int32)), .val (.ref oEQ), .val (.int (0 : Int32)), .val (.ref tEQ), .val (.int (61 : Int32)), .val (.int (0 : Int32)), .val (.int (0 : Int32)), .val (.int (1 : Int32)), .val (.int (1 : Int32))] [(.int (0 : Int32))]))
    refine own_back (fun t_ q_ => XS.iload X37.here hx rfl (hb hby at_114) rfl q_) ?_
    show own_Gl _ _ _ _ (T37.setTop (mkF m 116 #[.val (.int k), .val (.int (0 : Int32)), .val (.ref oEQ), .val (.int (0 : Int32)), .val (.ref tEQ), .val (.int (61 : Int32)), .val (.int (0 : Int32)), .val (.int (0 : Int32)), .val (.int (1 : Int32)), .val (.int (1 : Int32))] [(.int (0 : Int32)), (.int (0 : Int32))]))
    refine own_back (fun t_ q_ => XS.icmpNo X37.here hx rfl (hb hby at_116) rfl (teq (rfl : (0 : Int32) = (0 : Int32))).2 q_) ?_
    show own_Gl _ _ _ _ (T37.setTop (mkF m 119 #[.val (.int k), .val (.int (0 : Int32)), .val (.ref oEQ), .val (.int (0 : Int32)), .val (.ref tEQ), .val (.int (61 : Int32)), .val (.int (0 : Int32)), .val (.int (0 : Int32)), .val (.int (1 : Int32)), .val (.int (1 : Int32))] []))
    refine own_back (fun t_ q_ => XS.iload X37.here hx rfl (hb hby at_119) rfl q_) ?_
    show own_Gl _ _ _ _ (T37.setTop (mkF m 121 #[.val (.int k), .val (.int (0 : Int32)), .val (.ref oEQ), .val (.int (0 : Int32)), .val (.ref tEQ), .val (.int (61 : Int32)), .val (.int (0 : Int32)), .val (.int (0 : Int32)), .val (.int (1 : Int32)), .val (.int (1 : Int32))] [(.int (1 : Int32))]))
    refine own_back (fun t_ q_ => XS.ifNo X37.here hx rfl (hb hby at_121) rfl ((if0 _ _).trans (feq (by decide : ¬ ((1 : Int32) = (0 : Int32)))).1) q_) ?_
    show own_Gl _ _ _ _ (T37.setTop (mkF m 124 #[.val (.int k), .val (.int (0 : Int32)), .val (.ref oEQ), .val (.int (0 : Int32)), .val (.ref tEQ), .val (.int (61 : Int32)), .val (.int (0 : Int32)), .val (.int (0 : Int32)), .val (.int (1 : Int32)), .val (.int (1 : Int32))] []))
    refine own_back (fun t_ q_ => XS.iload X37.here hx rfl (hb hby at_124) rfl q_) ?_
    show own_Gl _ _ _ _ (T37.setTop (mkF m 126 #[.val (.int k), .val (.int (0 : Int32)), .val (.ref oEQ), .val (.int (0 : Int32)), .val (.ref tEQ), .val (.int (61 : Int32)), .val (.int (0 : Int32)), .val (.int (0 : Int32)), .val (.int (1 : Int32)), .val (.int (1 : Int32))] [(.int (1 : Int32))]))
    refine own_back (fun t_ q_ => XS.ifNo X37.here hx rfl (hb hby at_126) rfl ((if0 _ _).trans (feq (by decide : ¬ ((1 : Int32) = (0 : Int32)))).1) q_) ?_
    show own_Gl _ _ _ _ (T37.setTop (mkF m 129 #[.val (.int k), .val (.int (0 : Int32)), .val (.ref oEQ), .val (.int (0 : Int32)), .val (.ref tEQ), .val (.int (61 : Int32)), .val (.int (0 : Int32)), .val (.int (0 : Int32)), .val (.int (1 : Int32)), .val (.int (1 : Int32))] []))
    refine own_back (fun t_ q_ => XS.iconst X37.here hx rfl (hb hby at_129) q_) ?_
    show own_Gl _ _ _ _ (T37.setTop (mkF m 130 #[.val (.int k), .val (.int (0 : Int32)), .val (.ref oEQ), .val (.int (0 : Int32)), .val (.ref tEQ), .val (.int (61 : Int32)), .val (.int (0 : Int32)), .val (.int (0 : Int32)), .val (.int (1 : Int32)), .val (.int (1 : Int32))] [(.int (1 : Int32))]))
    refine own_back (fun t_ q_ => XS.goto X37.here hx rfl (pc0 := 130) (pc' := 134) rfl (hb hby at_130) (by decide) (by decide) q_) ?_
    show own_Gl _ _ _ _ (T37.setTop (mkF m 134 #[.val (.int k), .val (.int (0 : Int32)), .val (.ref oEQ), .val (.int (0 : Int32)), .val (.ref tEQ), .val (.int (61 : Int32)), .val (.int (0 : Int32)), .val (.int (0 : Int32)), .val (.int (1 : Int32)), .val (.int (1 : Int32))] [(.int (1 : Int32))]))
    exact own_rZ X37 hx hlk Bd.returns (hb hby at_134) (own_one rfl) (by show Qrm0 h0 n0 _ T37.heap _; rw [e37]; exact ⟨rfl, N37⟩) (by decide) (by decide)
  · skip
    show own_Gl _ _ _ _ (s₁.setTop (mkF m 7 #[.val (.int k), .unset, .unset, .unset, .unset, .unset, .unset, .unset, .unset, .unset] [(.int (1 : Int32))]))
    refine own_back (fun t_ q_ => XS.istoreN X0.here hx rfl (hb hby at_7) rfl (l' := #[.val (.int k), .val (.int (1 : Int32)), .unset, .unset, .unset, .unset, .unset, .unset, .unset, .unset]) rfl q_) ?_
    show own_Gl _ _ _ _ (s₁.setTop (mkF m 8 #[.val (.int k), .val (.int (1 : Int32)), .unset, .unset, .unset, .unset, .unset, .unset, .unset, .unset] []))
    refine own_back (fun t_ q_ => XS.iloadN X0.here hx rfl (hb hby at_8) rfl q_) ?_
    show own_Gl _ _ _ _ (s₁.setTop (mkF m 9 #[.val (.int k), .val (.int (1 : Int32)), .unset, .unset, .unset, .unset, .unset, .unset, .unset, .unset] [(.int (1 : Int32))]))
    obtain ⟨_, _, ⟨T38, L38, k38, n38⟩, -, X38, ⟨Lc38, hQ38, l38, y38, z38⟩, st38⟩ := Jvm.LawKit.callS X0 hx (y := (⟨"com/example/valenciennes/valenciennes/model/OperatorIsOrderingPinLaw", "pick", "(I)Lcom/example/valenciennes/valenciennes/model/Operator;"⟩ : MethodName)) hown (mvT hZ (hw _ (List.mem_of_getElem? (i := 1) rfl))) (mvT hZ (hw _ (List.mem_of_getElem? (i := 2) rfl))) (mvT hZ (hw _ (List.mem_of_getElem? (i := 3) rfl))) (mvT hZ (hw _ (List.mem_of_getElem? (i := 4) rfl))) (by decide) (backOf (W := 0) (rm1 l Z a0 hw [] 1 h0 n0 Z0 oEQ oNE oLT oLE oGT oGE SEQ SNE SLT SLE SGT SGE) hZ (hw _ (List.mem_of_getElem? (i := 4) rfl)) (hw _ (List.mem_of_getElem? (i := 3) rfl)) (by decide) (by decide)) (g := (mkF m 9 #[.val (.int k), .val (.int (1 : Int32)), .unset, .unset, .unset, .unset, .unset, .unset, .unset, .unset] [(.int (1 : Int32))])) rfl (by rw [hml]; rfl) (argsL := [(.int (1 : Int32))]) (rest := []) (lenOf pd_5 rfl) rfl (by show 2 * 0 + _ ≤ _; exact Nat.le_of_eq rfl) (hb hby at_9) (fun _ _ => ⟨rfl, e0, (by decide : 0 + 0 ≤ _), (by decide : 0 + 0 ≤ _)⟩)
    dsimp only [Pt.U, Pt.locs, Pt.cells, Pt.slots] at X38 l38 y38 z38 st38 hQ38
    subst l38 y38 z38
    obtain ⟨rfl, M38, e38⟩ := hQ38
    have N38 := Fr.app N0 M38
    refine own_back st38 ?_
    show own_Gl _ _ _ _ (T38.setTop (mkF m 12 #[.val (.int k), .val (.int (1 : Int32)), .unset, .unset, .unset, .unset, .unset, .unset, .unset, .unset] [(.ref (own_sel 1 oEQ oNE oLT oLE oGT oGE))]))
    show own_Gl _ _ _ _ (T38.setTop (mkF m 12 #[.val (.int k), .val (.int (1 : Int32)), .unset, .unset, .unset, .unset, .unset, .unset, .unset, .unset] [(.ref oNE)]))
    refine own_back (fun t_ q_ => XS.astoreN X38.here hx rfl (hb hby at_12) rfl rfl (l' := #[.val (.int k), .val (.int (1 : Int32)), .val (.ref oNE), .unset, .unset, .unset, .unset, .unset, .unset, .unset]) rfl q_) ?_
    show own_Gl _ _ _ _ (T38.setTop (mkF m 13 #[.val (.int k), .val (.int (1 : Int32)), .val (.ref oNE), .unset, .unset, .unset, .unset, .unset, .unset, .unset] []))
    refine own_back (fun t_ q_ => XS.aloadN X38.here hx rfl (hb hby at_13) rfl rfl q_) ?_
    show own_Gl _ _ _ _ (T38.setTop (mkF m 14 #[.val (.int k), .val (.int (1 : Int32)), .val (.ref oNE), .unset, .unset, .unset, .unset, .unset, .unset, .unset] [(.ref oNE)]))
    obtain ⟨cq39, kq39, q39a, q39b, q39c⟩ := isOf hZ e38 XNE
    obtain ⟨_, _, ⟨T39, L39, k39, n39⟩, -, X39, ⟨Lc39, hQ39, l39, y39, z39⟩, st39⟩ := X38.virtualBack hx (y := (⟨"com/example/valenciennes/valenciennes/model/Operator", "isOrdering", "()Z"⟩ : MethodName)) (z := (⟨"com/example/valenciennes/valenciennes/model/Operator", "isOrdering", "()Z"⟩ : MethodName)) hown (mvT hZ (hw _ (List.mem_of_getElem? (i := 8) rfl))) (mvT hZ (hw _ (List.mem_of_getElem? (i := 9) rfl))) (notFace_of_selects (args := #[]) (mvT hZ (hw _ (List.mem_of_getElem? (i := 11) rfl)))) (mvT hZ (hw _ (List.mem_of_getElem? (i := 11) rfl))) (mvT hZ (hw _ (List.mem_of_getElem? (i := 10) rfl))) (by decide) (backOf (W := 0) (rm2 l Z a0 hw [] oNE h0 n0 Z0 oEQ oNE SEQ SNE) hZ (hw _ (List.mem_of_getElem? (i := 12) rfl)) (hw _ (List.mem_of_getElem? (i := 6) rfl)) (by decide) (by decide)) q39a q39c (g := (mkF m 14 #[.val (.int k), .val (.int (1 : Int32)), .val (.ref oNE), .unset, .unset, .unset, .unset, .unset, .unset, .unset] [(.ref oNE)])) rfl (by rw [hml]; rfl) (Steps.refl _) (argsL := []) (rest := []) (lenOf pd_2 rfl) rfl (by show 2 * 0 + _ ≤ _; exact Nat.le_of_eq rfl) (hb hby at_14) (fun _ _ => ⟨rfl, e38, (by decide : 0 + 0 ≤ _), (by decide : 0 + 0 ≤ _)⟩)
    dsimp only [Pt.U, Pt.locs, Pt.cells, Pt.slots] at X39 l39 y39 z39 st39 hQ39
    subst l39 y39 z39
    obtain ⟨rfl, M39, e39⟩ := hQ39
    have N39 := Fr.app N38 M39
    refine own_trans st39 ?_
    show own_Gl _ _ _ _ (T39.setTop (mkF m 17 #[.val (.int k), .val (.int (1 : Int32)), .val (.ref oNE), .unset, .unset, .unset, .unset, .unset, .unset, .unset] [(.int (if oNE = oEQ ∨ oNE = oNE then (0 : Int32) else 1))]))
    rw [if_pos (Or.inr rfl)]
    show own_Gl _ _ _ _ (T39.setTop (mkF m 17 #[.val (.int k), .val (.int (1 : Int32)), .val (.ref oNE), .unset, .unset, .unset, .unset, .unset, .unset, .unset] [(.int (0 : Int32))]))
    refine own_back (fun t_ q_ => XS.istoreN X39.here hx rfl (hb hby at_17) rfl (l' := #[.val (.int k), .val (.int (1 : Int32)), .val (.ref oNE), .val (.int (0 : Int32)), .unset, .unset, .unset, .unset, .unset, .unset]) rfl q_) ?_
    show own_Gl _ _ _ _ (T39.setTop (mkF m 18 #[.val (.int k), .val (.int (1 : Int32)), .val (.ref oNE), .val (.int (0 : Int32)), .unset, .unset, .unset, .unset, .unset, .unset] []))
    refine own_back (fun t_ q_ => XS.aloadN X39.here hx rfl (hb hby at_18) rfl rfl q_) ?_
    show own_Gl _ _ _ _ (T39.setTop (mkF m 19 #[.val (.int k), .val (.int (1 : Int32)), .val (.ref oNE), .val (.int (0 : Int32)), .unset, .unset, .unset, .unset, .unset, .unset] [(.ref oNE)]))
    obtain ⟨cq40, kq40, q40a, q40b, q40c⟩ := isOf hZ e39 XNE
    obtain ⟨_, _, ⟨T40, L40, k40, n40⟩, -, X40, ⟨Lc40, hQ40, l40, y40, z40⟩, st40⟩ := X39.virtualBack hx (y := (⟨"com/example/valenciennes/valenciennes/model/Operator", "symbol", "()Ljava/lang/String;"⟩ : MethodName)) (z := (⟨"com/example/valenciennes/valenciennes/model/Operator", "symbol", "()Ljava/lang/String;"⟩ : MethodName)) hown (mvT hZ (hw _ (List.mem_of_getElem? (i := 14) rfl))) (mvT hZ (hw _ (List.mem_of_getElem? (i := 15) rfl))) (notFace_of_selects (args := #[]) (mvT hZ (hw _ (List.mem_of_getElem? (i := 17) rfl)))) (mvT hZ (hw _ (List.mem_of_getElem? (i := 17) rfl))) (mvT hZ (hw _ (List.mem_of_getElem? (i := 16) rfl))) (by decide) (backOf (W := 0) (rm3 l Z a0 hw [] oNE h0 n0 Z0 tNE YNE) hZ (hw _ (List.mem_of_getElem? (i := 18) rfl)) (hw _ (List.mem_of_getElem? (i := 6) rfl)) (by decide) (by decide)) q40a q40c (g := (mkF m 19 #[.val (.int k), .val (.int (1 : Int32)), .val (.ref oNE), .val (.int (0 : Int32)), .unset, .unset, .unset, .unset, .unset, .unset] [(.ref oNE)])) rfl (by rw [hml]; rfl) (Steps.refl _) (argsL := []) (rest := []) (lenOf pd_6 rfl) rfl (by show 2 * 0 + _ ≤ _; exact Nat.le_of_eq rfl) (hb hby at_19) (fun _ _ => ⟨rfl, e39, (by decide : 0 + 0 ≤ _), (by decide : 0 + 0 ≤ _)⟩)
    dsimp only [Pt.U, Pt.locs, Pt.cells, Pt.slots] at X40 l40 y40 z40 st40 hQ40
    subst l40 y40 z40
    obtain ⟨rfl, M40, e40⟩ := hQ40
    have N40 := Fr.app N39 M40
    refine own_trans st40 ?_
    show own_Gl _ _ _ _ (T40.setTop (mkF m 22 #[.val (.int k), .val (.int (1 : Int32)), .val (.ref oNE), .val (.int (0 : Int32)), .unset, .unset, .unset, .unset, .unset, .unset] [(.ref tNE)]))
    refine own_back (fun t_ q_ => XS.astore X40.here hx rfl (hb hby at_22) rfl rfl (l' := #[.val (.int k), .val (.int (1 : Int32)), .val (.ref oNE), .val (.int (0 : Int32)), .val (.ref tNE), .unset, .unset, .unset, .unset, .unset]) rfl q_) ?_
    show own_Gl _ _ _ _ (T40.setTop (mkF m 24 #[.val (.int k), .val (.int (1 : Int32)), .val (.ref oNE), .val (.int (0 : Int32)), .val (.ref tNE), .unset, .unset, .unset, .unset, .unset] []))
    refine own_back (fun t_ q_ => XS.aload X40.here hx rfl (hb hby at_24) rfl rfl q_) ?_
    show own_Gl _ _ _ _ (T40.setTop (mkF m 26 #[.val (.int k), .val (.int (1 : Int32)), .val (.ref oNE), .val (.int (0 : Int32)), .val (.ref tNE), .unset, .unset, .unset, .unset, .unset] [(.ref tNE)]))
    refine own_back (fun t_ q_ => XS.iconst X40.here hx rfl (hb hby at_26) q_) ?_
    show own_Gl _ _ _ _ (T40.setTop (mkF m 27 #[.val (.int k), .val (.int (1 : Int32)), .val (.ref oNE), .val (.int (0 : Int32)), .val (.ref tNE), .unset, .unset, .unset, .unset, .unset] [(.int (0 : Int32)), (.ref tNE)]))
    obtain ⟨cq41, kq41, q41a, q41b, q41c⟩ := isOf hZ e40 BNE.1
    obtain ⟨_, _, ⟨T41, L41, k41, n41⟩, -, X41, ⟨Lc41, hQ41, l41, y41, z41⟩, st41⟩ := X40.virtualBack hx (y := (⟨"java/lang/String", "charAt", "(I)C"⟩ : MethodName)) (z := (⟨"java/lang/String", "charAt", "(I)C"⟩ : MethodName)) hown (mvT hZ (hw _ (List.mem_of_getElem? (i := 21) rfl))) (mvT hZ (hw _ (List.mem_of_getElem? (i := 22) rfl))) (notFace_of_selects (args := #[]) (mvT hZ (hw _ (List.mem_of_getElem? (i := 24) rfl)))) (mvT hZ (hw _ (List.mem_of_getElem? (i := 24) rfl))) (mvT hZ (hw _ (List.mem_of_getElem? (i := 23) rfl))) (by decide) (backOf (W := 0) (rm4 l Z a0 hw [] tNE 0 h0 n0 Z0 33 rfl K BNE) hZ (hw _ (List.mem_of_getElem? (i := 26) rfl)) (hw _ (List.mem_of_getElem? (i := 25) rfl)) (by decide) (by decide)) q41a q41c (g := (mkF m 27 #[.val (.int k), .val (.int (1 : Int32)), .val (.ref oNE), .val (.int (0 : Int32)), .val (.ref tNE), .unset, .unset, .unset, .unset, .unset] [(.int (0 : Int32)), (.ref tNE)])) rfl (by rw [hml]; rfl) (Steps.refl _) (argsL := [(.int (0 : Int32))]) (rest := []) (lenOf pd_7 rfl) rfl (by show 2 * 0 + _ ≤ _; exact Nat.le_of_eq rfl) (hb hby at_27) (fun _ _ => ⟨rfl, e40, (by decide : 0 + 0 ≤ _), (by decide : 0 + 0 ≤ _)⟩)
    dsimp only [Pt.U, Pt.locs, Pt.cells, Pt.slots] at X41 l41 y41 z41 st41 hQ41
    subst l41 y41 z41
    obtain ⟨rfl, M41, e41⟩ := hQ41
    have N41 := Fr.app N40 M41
    refine own_trans st41 ?_
    show own_Gl _ _ _ _ (T41.setTop (mkF m 30 #[.val (.int k), .val (.int (1 : Int32)), .val (.ref oNE), .val (.int (0 : Int32)), .val (.ref tNE), .unset, .unset, .unset, .unset, .unset] [(.int (nar .char (own_c 33)))]))
    rw [show nar .char (own_c 33) = 33 by decide]
    show own_Gl _ _ _ _ (T41.setTop (mkF m 30 #[.val (.int k), .val (.int (1 : Int32)), .val (.ref oNE), .val (.int (0 : Int32)), .val (.ref tNE), .unset, .unset, .unset, .unset, .unset] [(.int (33 : Int32))]))
    refine own_back (fun t_ q_ => XS.istore X41.here hx rfl (hb hby at_30) rfl (l' := #[.val (.int k), .val (.int (1 : Int32)), .val (.ref oNE), .val (.int (0 : Int32)), .val (.ref tNE), .val (.int (33 : Int32)), .unset, .unset, .unset, .unset]) rfl q_) ?_
    show own_Gl _ _ _ _ (T41.setTop (mkF m 32 #[.val (.int k), .val (.int (1 : Int32)), .val (.ref oNE), .val (.int (0 : Int32)), .val (.ref tNE), .val (.int (33 : Int32)), .unset, .unset, .unset, .unset] []))
    refine own_back (fun t_ q_ => XS.iload X41.here hx rfl (hb hby at_32) rfl q_) ?_
    show own_Gl _ _ _ _ (T41.setTop (mkF m 34 #[.val (.int k), .val (.int (1 : Int32)), .val (.ref oNE), .val (.int (0 : Int32)), .val (.ref tNE), .val (.int (33 : Int32)), .unset, .unset, .unset, .unset] [(.int (33 : Int32))]))
    refine own_back (fun t_ q_ => XS.bipush X41.here hx rfl (hb hby at_34) q_) ?_
    show own_Gl _ _ _ _ (T41.setTop (mkF m 36 #[.val (.int k), .val (.int (1 : Int32)), .val (.ref oNE), .val (.int (0 : Int32)), .val (.ref tNE), .val (.int (33 : Int32)), .unset, .unset, .unset, .unset] [(.int (60 : Int32)), (.int (33 : Int32))]))
    refine own_back (fun t_ q_ => XS.icmpNo X41.here hx rfl (hb hby at_36) rfl (feq (by decide : ¬ ((33 : Int32) = (60 : Int32)))).1 q_) ?_
    show own_Gl _ _ _ _ (T41.setTop (mkF m 39 #[.val (.int k), .val (.int (1 : Int32)), .val (.ref oNE), .val (.int (0 : Int32)), .val (.ref tNE), .val (.int (33 : Int32)), .unset, .unset, .unset, .unset] []))
    refine own_back (fun t_ q_ => XS.iload X41.here hx rfl (hb hby at_39) rfl q_) ?_
    show own_Gl _ _ _ _ (T41.setTop (mkF m 41 #[.val (.int k), .val (.int (1 : Int32)), .val (.ref oNE), .val (.int (0 : Int32)), .val (.ref tNE), .val (.int (33 : Int32)), .unset, .unset, .unset, .unset] [(.int (33 : Int32))]))
    refine own_back (fun t_ q_ => XS.bipush X41.here hx rfl (hb hby at_41) q_) ?_
    show own_Gl _ _ _ _ (T41.setTop (mkF m 43 #[.val (.int k), .val (.int (1 : Int32)), .val (.ref oNE), .val (.int (0 : Int32)), .val (.ref tNE), .val (.int (33 : Int32)), .unset, .unset, .unset, .unset] [(.int (62 : Int32)), (.int (33 : Int32))]))
    refine own_back (fun t_ q_ => XS.icmpYes X41.here hx rfl (pc0 := 43) (pc' := 50) rfl (hb hby at_43) rfl (feq (by decide : ¬ ((33 : Int32) = (62 : Int32)))).2 (by decide) (by decide) q_) ?_
    show own_Gl _ _ _ _ (T41.setTop (mkF m 50 #[.val (.int k), .val (.int (1 : Int32)), .val (.ref oNE), .val (.int (0 : Int32)), .val (.ref tNE), .val (.int (33 : Int32)), .unset, .unset, .unset, .unset] []))
    refine own_back (fun t_ q_ => XS.iconst X41.here hx rfl (hb hby at_50) q_) ?_
    show own_Gl _ _ _ _ (T41.setTop (mkF m 51 #[.val (.int k), .val (.int (1 : Int32)), .val (.ref oNE), .val (.int (0 : Int32)), .val (.ref tNE), .val (.int (33 : Int32)), .unset, .unset, .unset, .unset] [(.int (0 : Int32))]))
    refine own_back (fun t_ q_ => XS.istore X41.here hx rfl (hb hby at_51) rfl (l' := #[.val (.int k), .val (.int (1 : Int32)), .val (.ref oNE), .val (.int (0 : Int32)), .val (.ref tNE), .val (.int (33 : Int32)), .val (.int (0 : Int32)), .unset, .unset, .unset]) rfl q_) ?_
    show own_Gl _ _ _ _ (T41.setTop (mkF m 53 #[.val (.int k), .val (.int (1 : Int32)), .val (.ref oNE), .val (.int (0 : Int32)), .val (.ref tNE), .val (.int (33 : Int32)), .val (.int (0 : Int32)), .unset, .unset, .unset] []))
    refine own_back (fun t_ q_ => XS.iloadN X41.here hx rfl (hb hby at_53) rfl q_) ?_
    show own_Gl _ _ _ _ (T41.setTop (mkF m 54 #[.val (.int k), .val (.int (1 : Int32)), .val (.ref oNE), .val (.int (0 : Int32)), .val (.ref tNE), .val (.int (33 : Int32)), .val (.int (0 : Int32)), .unset, .unset, .unset] [(.int (1 : Int32))]))
    refine own_back (fun t_ q_ => XS.iconst X41.here hx rfl (hb hby at_54) q_) ?_
    show own_Gl _ _ _ _ (T41.setTop (mkF m 55 #[.val (.int k), .val (.int (1 : Int32)), .val (.ref oNE), .val (.int (0 : Int32)), .val (.ref tNE), .val (.int (33 : Int32)), .val (.int (0 : Int32)), .unset, .unset, .unset] [(.int (2 : Int32)), (.int (1 : Int32))]))
    refine own_back (fun t_ q_ => XS.icmpYes X41.here hx rfl (pc0 := 55) (pc' := 62) rfl (hb hby at_55) rfl (tlt (by decide : (1 : Int32) < (2 : Int32))).1 (by decide) (by decide) q_) ?_
    show own_Gl _ _ _ _ (T41.setTop (mkF m 62 #[.val (.int k), .val (.int (1 : Int32)), .val (.ref oNE), .val (.int (0 : Int32)), .val (.ref tNE), .val (.int (33 : Int32)), .val (.int (0 : Int32)), .unset, .unset, .unset] []))
    refine own_back (fun t_ q_ => XS.iconst X41.here hx rfl (hb hby at_62) q_) ?_
    show own_Gl _ _ _ _ (T41.setTop (mkF m 63 #[.val (.int k), .val (.int (1 : Int32)), .val (.ref oNE), .val (.int (0 : Int32)), .val (.ref tNE), .val (.int (33 : Int32)), .val (.int (0 : Int32)), .unset, .unset, .unset] [(.int (0 : Int32))]))
    refine own_back (fun t_ q_ => XS.istore X41.here hx rfl (hb hby at_63) rfl (l' := #[.val (.int k), .val (.int (1 : Int32)), .val (.ref oNE), .val (.int (0 : Int32)), .val (.ref tNE), .val (.int (33 : Int32)), .val (.int (0 : Int32)), .val (.int (0 : Int32)), .unset, .unset]) rfl q_) ?_
    show own_Gl _ _ _ _ (T41.setTop (mkF m 65 #[.val (.int k), .val (.int (1 : Int32)), .val (.ref oNE), .val (.int (0 : Int32)), .val (.ref tNE), .val (.int (33 : Int32)), .val (.int (0 : Int32)), .val (.int (0 : Int32)), .unset, .unset] []))
    refine own_back (fun t_ q_ => XS.aloadN X41.here hx rfl (hb hby at_65) rfl rfl q_) ?_
    show own_Gl _ _ _ _ (T41.setTop (mkF m 66 #[.val (.int k), .val (.int (1 : Int32)), .val (.ref oNE), .val (.int (0 : Int32)), .val (.ref tNE), .val (.int (33 : Int32)), .val (.int (0 : Int32)), .val (.int (0 : Int32)), .unset, .unset] [(.ref oNE)]))
    obtain ⟨cq42, kq42, q42a, q42b, q42c⟩ := isOf hZ e41 XNE
    obtain ⟨_, _, ⟨T42, L42, k42, n42⟩, -, X42, ⟨Lc42, hQ42, l42, y42, z42⟩, st42⟩ := X41.virtualBack hx (y := (⟨"com/example/valenciennes/valenciennes/model/Operator", "negated", "()Lcom/example/valenciennes/valenciennes/model/Operator;"⟩ : MethodName)) (z := (⟨"com/example/valenciennes/valenciennes/model/Operator", "negated", "()Lcom/example/valenciennes/valenciennes/model/Operator;"⟩ : MethodName)) hown (mvT hZ (hw _ (List.mem_of_getElem? (i := 49) rfl))) (mvT hZ (hw _ (List.mem_of_getElem? (i := 50) rfl))) (notFace_of_selects (args := #[]) (mvT hZ (hw _ (List.mem_of_getElem? (i := 52) rfl)))) (mvT hZ (hw _ (List.mem_of_getElem? (i := 52) rfl))) (mvT hZ (hw _ (List.mem_of_getElem? (i := 51) rfl))) (by decide) (backOf (W := 0) (rm9 l Z a0 hw [] oNE h0 n0 Z0 1 oEQ oNE oLT oLE oGT oGE SEQ SNE SLT SLE SGT SGE XNE ONE (by decide)) hZ (hw _ (List.mem_of_getElem? (i := 53) rfl)) (hw _ (List.mem_of_getElem? (i := 6) rfl)) (by decide) (by decide)) q42a q42c (g := (mkF m 66 #[.val (.int k), .val (.int (1 : Int32)), .val (.ref oNE), .val (.int (0 : Int32)), .val (.ref tNE), .val (.int (33 : Int32)), .val (.int (0 : Int32)), .val (.int (0 : Int32)), .unset, .unset] [(.ref oNE)])) rfl (by rw [hml]; rfl) (Steps.refl _) (argsL := []) (rest := []) (lenOf pd_8 rfl) rfl (by show 2 * 0 + _ ≤ _; exact Nat.le_of_eq rfl) (hb hby at_66) (fun _ _ => ⟨rfl, e41, (by decide : 0 + 0 ≤ _), (by decide : 0 + 0 ≤ _)⟩)
    dsimp only [Pt.U, Pt.locs, Pt.cells, Pt.slots] at X42 l42 y42 z42 st42 hQ42
    subst l42 y42 z42
    obtain ⟨rfl, M42, e42⟩ := hQ42
    have N42 := Fr.app N41 M42
    refine own_trans st42 ?_
    show own_Gl _ _ _ _ (T42.setTop (mkF m 69 #[.val (.int k), .val (.int (1 : Int32)), .val (.ref oNE), .val (.int (0 : Int32)), .val (.ref tNE), .val (.int (33 : Int32)), .val (.int (0 : Int32)), .val (.int (0 : Int32)), .unset, .unset] [(.ref (own_sel 1 oNE oEQ oGE oGT oLE oLT))]))
    show own_Gl _ _ _ _ (T42.setTop (mkF m 69 #[.val (.int k), .val (.int (1 : Int32)), .val (.ref oNE), .val (.int (0 : Int32)), .val (.ref tNE), .val (.int (33 : Int32)), .val (.int (0 : Int32)), .val (.int (0 : Int32)), .unset, .unset] [(.ref oEQ)]))
    obtain ⟨cq43, kq43, q43a, q43b, q43c⟩ := isOf hZ e42 XEQ
    obtain ⟨_, _, ⟨T43, L43, k43, n43⟩, -, X43, ⟨Lc43, hQ43, l43, y43, z43⟩, st43⟩ := X42.virtualBack hx (y := (⟨"com/example/valenciennes/valenciennes/model/Operator", "isOrdering", "()Z"⟩ : MethodName)) (z := (⟨"com/example/valenciennes/valenciennes/model/Operator", "isOrdering", "()Z"⟩ : MethodName)) hown (mvT hZ (hw _ (List.mem_of_getElem? (i := 8) rfl))) (mvT hZ (hw _ (List.mem_of_getElem? (i := 9) rfl))) (notFace_of_selects (args := #[]) (mvT hZ (hw _ (List.mem_of_getElem? (i := 11) rfl)))) (mvT hZ (hw _ (List.mem_of_getElem? (i := 11) rfl))) (mvT hZ (hw _ (List.mem_of_getElem? (i := 10) rfl))) (by decide) (backOf (W := 0) (rm2 l Z a0 hw [] oEQ h0 n0 Z0 oEQ oNE SEQ SNE) hZ (hw _ (List.mem_of_getElem? (i := 12) rfl)) (hw _ (List.mem_of_getElem? (i := 6) rfl)) (by decide) (by decide)) q43a q43c (g := (mkF m 69 #[.val (.int k), .val (.int (1 : Int32)), .val (.ref oNE), .val (.int (0 : Int32)), .val (.ref tNE), .val (.int (33 : Int32)), .val (.int (0 : Int32)), .val (.int (0 : Int32)), .unset, .unset] [(.ref oEQ)])) rfl (by rw [hml]; rfl) (Steps.refl _) (argsL := []) (rest := []) (lenOf pd_2 rfl) rfl (by show 2 * 0 + _ ≤ _; exact Nat.le_of_eq rfl) (hb hby at_69) (fun _ _ => ⟨rfl, e42, (by decide : 0 + 0 ≤ _), (by decide : 0 + 0 ≤ _)⟩)
    dsimp only [Pt.U, Pt.locs, Pt.cells, Pt.slots] at X43 l43 y43 z43 st43 hQ43
    subst l43 y43 z43
    obtain ⟨rfl, M43, e43⟩ := hQ43
    have N43 := Fr.app N42 M43
    refine own_trans st43 ?_
    show own_Gl _ _ _ _ (T43.setTop (mkF m 72 #[.val (.int k), .val (.int (1 : Int32)), .val (.ref oNE), .val (.int (0 : Int32)), .val (.ref tNE), .val (.int (33 : Int32)), .val (.int (0 : Int32)), .val (.int (0 : Int32)), .unset, .unset] [(.int (if oEQ = oEQ ∨ oEQ = oNE then (0 : Int32) else 1))]))
    rw [if_pos (Or.inl rfl)]
    show own_Gl _ _ _ _ (T43.setTop (mkF m 72 #[.val (.int k), .val (.int (1 : Int32)), .val (.ref oNE), .val (.int (0 : Int32)), .val (.ref tNE), .val (.int (33 : Int32)), .val (.int (0 : Int32)), .val (.int (0 : Int32)), .unset, .unset] [(.int (0 : Int32))]))
    refine own_back (fun t_ q_ => XS.iloadN X43.here hx rfl (hb hby at_72) rfl q_) ?_
    show own_Gl _ _ _ _ (T43.setTop (mkF m 73 #[.val (.int k), .val (.int (1 : Int32)), .val (.ref oNE), .val (.int (0 : Int32)), .val (.ref tNE), .val (.int (33 : Int32)), .val (.int (0 : Int32)), .val (.int (0 : Int32)), .unset, .unset] [(.int (0 : Int32)), (.int (0 : Int32))]))
    refine own_back (fun t_ q_ => XS.icmpNo X43.here hx rfl (hb hby at_73) rfl (teq (rfl : (0 : Int32) = (0 : Int32))).2 q_) ?_
    show own_Gl _ _ _ _ (T43.setTop (mkF m 76 #[.val (.int k), .val (.int (1 : Int32)), .val (.ref oNE), .val (.int (0 : Int32)), .val (.ref tNE), .val (.int (33 : Int32)), .val (.int (0 : Int32)), .val (.int (0 : Int32)), .unset, .unset] []))
    refine own_back (fun t_ q_ => XS.iconst X43.here hx rfl (hb hby at_76) q_) ?_
    show own_Gl _ _ _ _ (T43.setTop (mkF m 77 #[.val (.int k), .val (.int (1 : Int32)), .val (.ref oNE), .val (.int (0 : Int32)), .val (.ref tNE), .val (.int (33 : Int32)), .val (.int (0 : Int32)), .val (.int (0 : Int32)), .unset, .unset] [(.int (1 : Int32))]))
    refine own_back (fun t_ q_ => XS.goto X43.here hx rfl (pc0 := 77) (pc' := 81) rfl (hb hby at_77) (by decide) (by decide) q_) ?_
    show own_Gl _ _ _ _ (T43.setTop (mkF m 81 #[.val (.int k), .val (.int (1 : Int32)), .val (.ref oNE), .val (.int (0 : Int32)), .val (.ref tNE), .val (.int (33 : Int32)), .val (.int (0 : Int32)), .val (.int (0 : Int32)), .unset, .unset] [(.int (1 : Int32))]))
    refine own_back (fun t_ q_ => XS.istore X43.here hx rfl (hb hby at_81) rfl (l' := #[.val (.int k), .val (.int (1 : Int32)), .val (.ref oNE), .val (.int (0 : Int32)), .val (.ref tNE), .val (.int (33 : Int32)), .val (.int (0 : Int32)), .val (.int (0 : Int32)), .val (.int (1 : Int32)), .unset]) rfl q_) ?_
    show own_Gl _ _ _ _ (T43.setTop (mkF m 83 #[.val (.int k), .val (.int (1 : Int32)), .val (.ref oNE), .val (.int (0 : Int32)), .val (.ref tNE), .val (.int (33 : Int32)), .val (.int (0 : Int32)), .val (.int (0 : Int32)), .val (.int (1 : Int32)), .unset] []))
    refine own_back (fun t_ q_ => XS.aloadN X43.here hx rfl (hb hby at_83) rfl rfl q_) ?_
    show own_Gl _ _ _ _ (T43.setTop (mkF m 84 #[.val (.int k), .val (.int (1 : Int32)), .val (.ref oNE), .val (.int (0 : Int32)), .val (.ref tNE), .val (.int (33 : Int32)), .val (.int (0 : Int32)), .val (.int (0 : Int32)), .val (.int (1 : Int32)), .unset] [(.ref oNE)]))
    obtain ⟨cq44, kq44, q44a, q44b, q44c⟩ := isOf hZ e43 XNE
    obtain ⟨_, _, ⟨T44, L44, k44, n44⟩, -, X44, ⟨Lc44, hQ44, l44, y44, z44⟩, st44⟩ := X43.virtualBack hx (y := (⟨"com/example/valenciennes/valenciennes/model/Operator", "mirrored", "()Lcom/example/valenciennes/valenciennes/model/Operator;"⟩ : MethodName)) (z := (⟨"com/example/valenciennes/valenciennes/model/Operator", "mirrored", "()Lcom/example/valenciennes/valenciennes/model/Operator;"⟩ : MethodName)) hown (mvT hZ (hw _ (List.mem_of_getElem? (i := 65) rfl))) (mvT hZ (hw _ (List.mem_of_getElem? (i := 66) rfl))) (notFace_of_selects (args := #[]) (mvT hZ (hw _ (List.mem_of_getElem? (i := 68) rfl)))) (mvT hZ (hw _ (List.mem_of_getElem? (i := 68) rfl))) (mvT hZ (hw _ (List.mem_of_getElem? (i := 67) rfl))) (by decide) (backOf (W := 0) (rm11 l Z a0 hw [] oNE h0 n0 Z0 1 oEQ oNE oLT oLE oGT oGE SEQ SNE SLT SLE SGT SGE XNE ONE (by decide)) hZ (hw _ (List.mem_of_getElem? (i := 69) rfl)) (hw _ (List.mem_of_getElem? (i := 6) rfl)) (by decide) (by decide)) q44a q44c (g := (mkF m 84 #[.val (.int k), .val (.int (1 : Int32)), .val (.ref oNE), .val (.int (0 : Int32)), .val (.ref tNE), .val (.int (33 : Int32)), .val (.int (0 : Int32)), .val (.int (0 : Int32)), .val (.int (1 : Int32)), .unset] [(.ref oNE)])) rfl (by rw [hml]; rfl) (Steps.refl _) (argsL := []) (rest := []) (lenOf pd_8 rfl) rfl (by show 2 * 0 + _ ≤ _; exact Nat.le_of_eq rfl) (hb hby at_84) (fun _ _ => ⟨rfl, e43, (by decide : 0 + 0 ≤ _), (by decide : 0 + 0 ≤ _)⟩)
    dsimp only [Pt.U, Pt.locs, Pt.cells, Pt.slots] at X44 l44 y44 z44 st44 hQ44
    subst l44 y44 z44
    obtain ⟨rfl, M44, e44⟩ := hQ44
    have N44 := Fr.app N43 M44
    refine own_trans st44 ?_
    show own_Gl _ _ _ _ (T44.setTop (mkF m 87 #[.val (.int k), .val (.int (1 : Int32)), .val (.ref oNE), .val (.int (0 : Int32)), .val (.ref tNE), .val (.int (33 : Int32)), .val (.int (0 : Int32)), .val (.int (0 : Int32)), .val (.int (1 : Int32)), .unset] [(.ref (own_sel 1 oNE oNE oGT oGE oLT oLE))]))
    show own_Gl _ _ _ _ (T44.setTop (mkF m 87 #[.val (.int k), .val (.int (1 : Int32)), .val (.ref oNE), .val (.int (0 : Int32)), .val (.ref tNE), .val (.int (33 : Int32)), .val (.int (0 : Int32)), .val (.int (0 : Int32)), .val (.int (1 : Int32)), .unset] [(.ref oNE)]))
    refine own_back (fun t_ q_ => XS.aloadN X44.here hx rfl (hb hby at_87) rfl rfl q_) ?_
    show own_Gl _ _ _ _ (T44.setTop (mkF m 88 #[.val (.int k), .val (.int (1 : Int32)), .val (.ref oNE), .val (.int (0 : Int32)), .val (.ref tNE), .val (.int (33 : Int32)), .val (.int (0 : Int32)), .val (.int (0 : Int32)), .val (.int (1 : Int32)), .unset] [(.ref oNE), (.ref oNE)]))
    refine own_back (fun t_ q_ => Jvm.RoadKit.acmp (g := (mkF m 88 #[.val (.int k), .val (.int (1 : Int32)), .val (.ref oNE), .val (.int (0 : Int32)), .val (.ref tNE), .val (.int (33 : Int32)), .val (.int (0 : Int32)), .val (.int (0 : Int32)), .val (.int (1 : Int32)), .unset] [(.ref oNE), (.ref oNE)])) X44 hx rfl rfl rfl (pc0 := 88) (pc' := 95) (same := true) rfl (hb hby at_88) rfl (decide_eq_true (congrArg Value.ref (rfl))) (by decide) (by decide) q_) ?_
    show own_Gl _ _ _ _ (T44.setTop (mkF m 95 #[.val (.int k), .val (.int (1 : Int32)), .val (.ref oNE), .val (.int (0 : Int32)), .val (.ref tNE), .val (.int (33 : Int32)), .val (.int (0 : Int32)), .val (.int (0 : Int32)), .val (.int (1 : Int32)), .unset] []))
    refine own_back (fun t_ q_ => XS.iconst X44.here hx rfl (hb hby at_95) q_) ?_
    show own_Gl _ _ _ _ (T44.setTop (mkF m 96 #[.val (.int k), .val (.int (1 : Int32)), .val (.ref oNE), .val (.int (0 : Int32)), .val (.ref tNE), .val (.int (33 : Int32)), .val (.int (0 : Int32)), .val (.int (0 : Int32)), .val (.int (1 : Int32)), .unset] [(.int (0 : Int32))]))
    refine own_back (fun t_ q_ => XS.iloadN X44.here hx rfl (hb hby at_96) rfl q_) ?_
    show own_Gl _ _ _ _ (T44.setTop (mkF m 97 #[.val (.int k), .val (.int (1 : Int32)), .val (.ref oNE), .val (.int (0 : Int32)), .val (.ref tNE), .val (.int (33 : Int32)), .val (.int (0 : Int32)), .val (.int (0 : Int32)), .val (.int (1 : Int32)), .unset] [(.int (0 : Int32)), (.int (0 : Int32))]))
    refine own_back (fun t_ q_ => XS.icmpNo X44.here hx rfl (hb hby at_97) rfl (teq (rfl : (0 : Int32) = (0 : Int32))).2 q_) ?_
    show own_Gl _ _ _ _ (T44.setTop (mkF m 100 #[.val (.int k), .val (.int (1 : Int32)), .val (.ref oNE), .val (.int (0 : Int32)), .val (.ref tNE), .val (.int (33 : Int32)), .val (.int (0 : Int32)), .val (.int (0 : Int32)), .val (.int (1 : Int32)), .unset] []))
    refine own_back (fun t_ q_ => XS.iconst X44.here hx rfl (hb hby at_100) q_) ?_
    show own_Gl _ _ _ _ (T44.setTop (mkF m 101 #[.val (.int k), .val (.int (1 : Int32)), .val (.ref oNE), .val (.int (0 : Int32)), .val (.ref tNE), .val (.int (33 : Int32)), .val (.int (0 : Int32)), .val (.int (0 : Int32)), .val (.int (1 : Int32)), .unset] [(.int (1 : Int32))]))
    refine own_back (fun t_ q_ => XS.goto X44.here hx rfl (pc0 := 101) (pc' := 105) rfl (hb hby at_101) (by decide) (by decide) q_) ?_
    show own_Gl _ _ _ _ (T44.setTop (mkF m 105 #[.val (.int k), .val (.int (1 : Int32)), .val (.ref oNE), .val (.int (0 : Int32)), .val (.ref tNE), .val (.int (33 : Int32)), .val (.int (0 : Int32)), .val (.int (0 : Int32)), .val (.int (1 : Int32)), .unset] [(.int (1 : Int32))]))
    refine own_back (fun t_ q_ => XS.istore X44.here hx rfl (hb hby at_105) rfl (l' := #[.val (.int k), .val (.int (1 : Int32)), .val (.ref oNE), .val (.int (0 : Int32)), .val (.ref tNE), .val (.int (33 : Int32)), .val (.int (0 : Int32)), .val (.int (0 : Int32)), .val (.int (1 : Int32)), .val (.int (1 : Int32))]) rfl q_) ?_
    show own_Gl _ _ _ _ (T44.setTop (mkF m 107 #[.val (.int k), .val (.int (1 : Int32)), .val (.ref oNE), .val (.int (0 : Int32)), .val (.ref tNE), .val (.int (33 : Int32)), .val (.int (0 : Int32)), .val (.int (0 : Int32)), .val (.int (1 : Int32)), .val (.int (1 : Int32))] []))
    refine own_back (fun t_ q_ => XS.iloadN X44.here hx rfl (hb hby at_107) rfl q_) ?_
    show own_Gl _ _ _ _ (T44.setTop (mkF m 108 #[.val (.int k), .val (.int (1 : Int32)), .val (.ref oNE), .val (.int (0 : Int32)), .val (.ref tNE), .val (.int (33 : Int32)), .val (.int (0 : Int32)), .val (.int (0 : Int32)), .val (.int (1 : Int32)), .val (.int (1 : Int32))] [(.int (0 : Int32))]))
    refine own_back (fun t_ q_ => XS.iload X44.here hx rfl (hb hby at_108) rfl q_) ?_
    show own_Gl _ _ _ _ (T44.setTop (mkF m 110 #[.val (.int k), .val (.int (1 : Int32)), .val (.ref oNE), .val (.int (0 : Int32)), .val (.ref tNE), .val (.int (33 : Int32)), .val (.int (0 : Int32)), .val (.int (0 : Int32)), .val (.int (1 : Int32)), .val (.int (1 : Int32))] [(.int (0 : Int32)), (.int (0 : Int32))]))
    refine own_back (fun t_ q_ => XS.icmpNo X44.here hx rfl (hb hby at_110) rfl (teq (rfl : (0 : Int32) = (0 : Int32))).2 q_) ?_
    show own_Gl _ _ _ _ (T44.setTop (mkF m 113 #[.val (.int k), .val (.int (1 : Int32)), .val (.ref oNE), .val (.int (0 : Int32)), .val (.ref tNE), .val (.int (33 : Int32)), .val (.int (0 : Int32)), .val (.int (0 : Int32)), .val (.int (1 : Int32)), .val (.int (1 : Int32))] []))
    refine own_back (fun t_ q_ => XS.iloadN X44.here hx rfl (hb hby at_113) rfl q_) ?_
    show own_Gl _ _ _ _ (T44.setTop (mkF m 114 #[.val (.int k), .val (.int (1 : Int32)), .val (.ref oNE), .val (.int (0 : Int32)), .val (.ref tNE), .val (.int (33 : Int32)), .val (.int (0 : Int32)), .val (.int (0 : Int32)), .val (.int (1 : Int32)), .val (.int (1 : Int32))] [(.int (0 : Int32))]))
    refine own_back (fun t_ q_ => XS.iload X44.here hx rfl (hb hby at_114) rfl q_) ?_
    show own_Gl _ _ _ _ (T44.setTop (mkF m 116 #[.val (.int k), .val (.int (1 : Int32)), .val (.ref oNE), .val (.int (0 : Int32)), .val (.ref tNE), .val (.int (33 : Int32)), .val (.int (0 : Int32)), .val (.int (0 : Int32)), .val (.int (1 : Int32)), .val (.int (1 : Int32))] [(.int (0 : Int32)), (.int (0 : Int32))]))
    refine own_back (fun t_ q_ => XS.icmpNo X44.here hx rfl (hb hby at_116) rfl (teq (rfl : (0 : Int32) = (0 : Int32))).2 q_) ?_
    show own_Gl _ _ _ _ (T44.setTop (mkF m 119 #[.val (.int k), .val (.int (1 : Int32)), .val (.ref oNE), .val (.int (0 : Int32)), .val (.ref tNE), .val (.int (33 : Int32)), .val (.int (0 : Int32)), .val (.int (0 : Int32)), .val (.int (1 : Int32)), .val (.int (1 : Int32))] []))
    refine own_back (fun t_ q_ => XS.iload X44.here hx rfl (hb hby at_119) rfl q_) ?_
    show own_Gl _ _ _ _ (T44.setTop (mkF m 121 #[.val (.int k), .val (.int (1 : Int32)), .val (.ref oNE), .val (.int (0 : Int32)), .val (.ref tNE), .val (.int (33 : Int32)), .val (.int (0 : Int32)), .val (.int (0 : Int32)), .val (.int (1 : Int32)), .val (.int (1 : Int32))] [(.int (1 : Int32))]))
    refine own_back (fun t_ q_ => XS.ifNo X44.here hx rfl (hb hby at_121) rfl ((if0 _ _).trans (feq (by decide : ¬ ((1 : Int32) = (0 : Int32)))).1) q_) ?_
    show own_Gl _ _ _ _ (T44.setTop (mkF m 124 #[.val (.int k), .val (.int (1 : Int32)), .val (.ref oNE), .val (.int (0 : Int32)), .val (.ref tNE), .val (.int (33 : Int32)), .val (.int (0 : Int32)), .val (.int (0 : Int32)), .val (.int (1 : Int32)), .val (.int (1 : Int32))] []))
    refine own_back (fun t_ q_ => XS.iload X44.here hx rfl (hb hby at_124) rfl q_) ?_
    show own_Gl _ _ _ _ (T44.setTop (mkF m 126 #[.val (.int k), .val (.int (1 : Int32)), .val (.ref oNE), .val (.int (0 : Int32)), .val (.ref tNE), .val (.int (33 : Int32)), .val (.int (0 : Int32)), .val (.int (0 : Int32)), .val (.int (1 : Int32)), .val (.int (1 : Int32))] [(.int (1 : Int32))]))
    refine own_back (fun t_ q_ => XS.ifNo X44.here hx rfl (hb hby at_126) rfl ((if0 _ _).trans (feq (by decide : ¬ ((1 : Int32) = (0 : Int32)))).1) q_) ?_
    show own_Gl _ _ _ _ (T44.setTop (mkF m 129 #[.val (.int k), .val (.int (1 : Int32)), .val (.ref oNE), .val (.int (0 : Int32)), .val (.ref tNE), .val (.int (33 : Int32)), .val (.int (0 : Int32)), .val (.int (0 : Int32)), .val (.int (1 : Int32)), .val (.int (1 : Int32))] []))
    refine own_back (fun t_ q_ => XS.iconst X44.here hx rfl (hb hby at_129) q_) ?_
    show own_Gl _ _ _ _ (T44.setTop (mkF m 130 #[.val (.int k), .val (.int (1 : Int32)), .val (.ref oNE), .val (.int (0 : Int32)), .val (.ref tNE), .val (.int (33 : Int32)), .val (.int (0 : Int32)), .val (.int (0 : Int32)), .val (.int (1 : Int32)), .val (.int (1 : Int32))] [(.int (1 : Int32))]))
    refine own_back (fun t_ q_ => XS.goto X44.here hx rfl (pc0 := 130) (pc' := 134) rfl (hb hby at_130) (by decide) (by decide) q_) ?_
    show own_Gl _ _ _ _ (T44.setTop (mkF m 134 #[.val (.int k), .val (.int (1 : Int32)), .val (.ref oNE), .val (.int (0 : Int32)), .val (.ref tNE), .val (.int (33 : Int32)), .val (.int (0 : Int32)), .val (.int (0 : Int32)), .val (.int (1 : Int32)), .val (.int (1 : Int32))] [(.int (1 : Int32))]))
    exact own_rZ X44 hx hlk Bd.returns (hb hby at_134) (own_one rfl) (by show Qrm0 h0 n0 _ T44.heap _; rw [e44]; exact ⟨rfl, N44⟩) (by decide) (by decide)
  · skip
    show own_Gl _ _ _ _ (s₁.setTop (mkF m 7 #[.val (.int k), .unset, .unset, .unset, .unset, .unset, .unset, .unset, .unset, .unset] [(.int (2 : Int32))]))
    refine own_back (fun t_ q_ => XS.istoreN X0.here hx rfl (hb hby at_7) rfl (l' := #[.val (.int k), .val (.int (2 : Int32)), .unset, .unset, .unset, .unset, .unset, .unset, .unset, .unset]) rfl q_) ?_
    show own_Gl _ _ _ _ (s₁.setTop (mkF m 8 #[.val (.int k), .val (.int (2 : Int32)), .unset, .unset, .unset, .unset, .unset, .unset, .unset, .unset] []))
    refine own_back (fun t_ q_ => XS.iloadN X0.here hx rfl (hb hby at_8) rfl q_) ?_
    show own_Gl _ _ _ _ (s₁.setTop (mkF m 9 #[.val (.int k), .val (.int (2 : Int32)), .unset, .unset, .unset, .unset, .unset, .unset, .unset, .unset] [(.int (2 : Int32))]))
    obtain ⟨_, _, ⟨T45, L45, k45, n45⟩, -, X45, ⟨Lc45, hQ45, l45, y45, z45⟩, st45⟩ := Jvm.LawKit.callS X0 hx (y := (⟨"com/example/valenciennes/valenciennes/model/OperatorIsOrderingPinLaw", "pick", "(I)Lcom/example/valenciennes/valenciennes/model/Operator;"⟩ : MethodName)) hown (mvT hZ (hw _ (List.mem_of_getElem? (i := 1) rfl))) (mvT hZ (hw _ (List.mem_of_getElem? (i := 2) rfl))) (mvT hZ (hw _ (List.mem_of_getElem? (i := 3) rfl))) (mvT hZ (hw _ (List.mem_of_getElem? (i := 4) rfl))) (by decide) (backOf (W := 0) (rm1 l Z a0 hw [] 2 h0 n0 Z0 oEQ oNE oLT oLE oGT oGE SEQ SNE SLT SLE SGT SGE) hZ (hw _ (List.mem_of_getElem? (i := 4) rfl)) (hw _ (List.mem_of_getElem? (i := 3) rfl)) (by decide) (by decide)) (g := (mkF m 9 #[.val (.int k), .val (.int (2 : Int32)), .unset, .unset, .unset, .unset, .unset, .unset, .unset, .unset] [(.int (2 : Int32))])) rfl (by rw [hml]; rfl) (argsL := [(.int (2 : Int32))]) (rest := []) (lenOf pd_5 rfl) rfl (by show 2 * 0 + _ ≤ _; exact Nat.le_of_eq rfl) (hb hby at_9) (fun _ _ => ⟨rfl, e0, (by decide : 0 + 0 ≤ _), (by decide : 0 + 0 ≤ _)⟩)
    dsimp only [Pt.U, Pt.locs, Pt.cells, Pt.slots] at X45 l45 y45 z45 st45 hQ45
    subst l45 y45 z45
    obtain ⟨rfl, M45, e45⟩ := hQ45
    have N45 := Fr.app N0 M45
    refine own_back st45 ?_
    show own_Gl _ _ _ _ (T45.setTop (mkF m 12 #[.val (.int k), .val (.int (2 : Int32)), .unset, .unset, .unset, .unset, .unset, .unset, .unset, .unset] [(.ref (own_sel 2 oEQ oNE oLT oLE oGT oGE))]))
    show own_Gl _ _ _ _ (T45.setTop (mkF m 12 #[.val (.int k), .val (.int (2 : Int32)), .unset, .unset, .unset, .unset, .unset, .unset, .unset, .unset] [(.ref oLT)]))
    refine own_back (fun t_ q_ => XS.astoreN X45.here hx rfl (hb hby at_12) rfl rfl (l' := #[.val (.int k), .val (.int (2 : Int32)), .val (.ref oLT), .unset, .unset, .unset, .unset, .unset, .unset, .unset]) rfl q_) ?_
    show own_Gl _ _ _ _ (T45.setTop (mkF m 13 #[.val (.int k), .val (.int (2 : Int32)), .val (.ref oLT), .unset, .unset, .unset, .unset, .unset, .unset, .unset] []))
    refine own_back (fun t_ q_ => XS.aloadN X45.here hx rfl (hb hby at_13) rfl rfl q_) ?_
    show own_Gl _ _ _ _ (T45.setTop (mkF m 14 #[.val (.int k), .val (.int (2 : Int32)), .val (.ref oLT), .unset, .unset, .unset, .unset, .unset, .unset, .unset] [(.ref oLT)]))
    obtain ⟨cq46, kq46, q46a, q46b, q46c⟩ := isOf hZ e45 XLT
    obtain ⟨_, _, ⟨T46, L46, k46, n46⟩, -, X46, ⟨Lc46, hQ46, l46, y46, z46⟩, st46⟩ := X45.virtualBack hx (y := (⟨"com/example/valenciennes/valenciennes/model/Operator", "isOrdering", "()Z"⟩ : MethodName)) (z := (⟨"com/example/valenciennes/valenciennes/model/Operator", "isOrdering", "()Z"⟩ : MethodName)) hown (mvT hZ (hw _ (List.mem_of_getElem? (i := 8) rfl))) (mvT hZ (hw _ (List.mem_of_getElem? (i := 9) rfl))) (notFace_of_selects (args := #[]) (mvT hZ (hw _ (List.mem_of_getElem? (i := 11) rfl)))) (mvT hZ (hw _ (List.mem_of_getElem? (i := 11) rfl))) (mvT hZ (hw _ (List.mem_of_getElem? (i := 10) rfl))) (by decide) (backOf (W := 0) (rm2 l Z a0 hw [] oLT h0 n0 Z0 oEQ oNE SEQ SNE) hZ (hw _ (List.mem_of_getElem? (i := 12) rfl)) (hw _ (List.mem_of_getElem? (i := 6) rfl)) (by decide) (by decide)) q46a q46c (g := (mkF m 14 #[.val (.int k), .val (.int (2 : Int32)), .val (.ref oLT), .unset, .unset, .unset, .unset, .unset, .unset, .unset] [(.ref oLT)])) rfl (by rw [hml]; rfl) (Steps.refl _) (argsL := []) (rest := []) (lenOf pd_2 rfl) rfl (by show 2 * 0 + _ ≤ _; exact Nat.le_of_eq rfl) (hb hby at_14) (fun _ _ => ⟨rfl, e45, (by decide : 0 + 0 ≤ _), (by decide : 0 + 0 ≤ _)⟩)
    dsimp only [Pt.U, Pt.locs, Pt.cells, Pt.slots] at X46 l46 y46 z46 st46 hQ46
    subst l46 y46 z46
    obtain ⟨rfl, M46, e46⟩ := hQ46
    have N46 := Fr.app N45 M46
    refine own_trans st46 ?_
    show own_Gl _ _ _ _ (T46.setTop (mkF m 17 #[.val (.int k), .val (.int (2 : Int32)), .val (.ref oLT), .unset, .unset, .unset, .unset, .unset, .unset, .unset] [(.int (if oLT = oEQ ∨ oLT = oNE then (0 : Int32) else 1))]))
    rw [if_neg (fun q => q.elim dLTEQ dLTNE)]
    show own_Gl _ _ _ _ (T46.setTop (mkF m 17 #[.val (.int k), .val (.int (2 : Int32)), .val (.ref oLT), .unset, .unset, .unset, .unset, .unset, .unset, .unset] [(.int (1 : Int32))]))
    refine own_back (fun t_ q_ => XS.istoreN X46.here hx rfl (hb hby at_17) rfl (l' := #[.val (.int k), .val (.int (2 : Int32)), .val (.ref oLT), .val (.int (1 : Int32)), .unset, .unset, .unset, .unset, .unset, .unset]) rfl q_) ?_
    show own_Gl _ _ _ _ (T46.setTop (mkF m 18 #[.val (.int k), .val (.int (2 : Int32)), .val (.ref oLT), .val (.int (1 : Int32)), .unset, .unset, .unset, .unset, .unset, .unset] []))
    refine own_back (fun t_ q_ => XS.aloadN X46.here hx rfl (hb hby at_18) rfl rfl q_) ?_
    show own_Gl _ _ _ _ (T46.setTop (mkF m 19 #[.val (.int k), .val (.int (2 : Int32)), .val (.ref oLT), .val (.int (1 : Int32)), .unset, .unset, .unset, .unset, .unset, .unset] [(.ref oLT)]))
    obtain ⟨cq47, kq47, q47a, q47b, q47c⟩ := isOf hZ e46 XLT
    obtain ⟨_, _, ⟨T47, L47, k47, n47⟩, -, X47, ⟨Lc47, hQ47, l47, y47, z47⟩, st47⟩ := X46.virtualBack hx (y := (⟨"com/example/valenciennes/valenciennes/model/Operator", "symbol", "()Ljava/lang/String;"⟩ : MethodName)) (z := (⟨"com/example/valenciennes/valenciennes/model/Operator", "symbol", "()Ljava/lang/String;"⟩ : MethodName)) hown (mvT hZ (hw _ (List.mem_of_getElem? (i := 14) rfl))) (mvT hZ (hw _ (List.mem_of_getElem? (i := 15) rfl))) (notFace_of_selects (args := #[]) (mvT hZ (hw _ (List.mem_of_getElem? (i := 17) rfl)))) (mvT hZ (hw _ (List.mem_of_getElem? (i := 17) rfl))) (mvT hZ (hw _ (List.mem_of_getElem? (i := 16) rfl))) (by decide) (backOf (W := 0) (rm3 l Z a0 hw [] oLT h0 n0 Z0 tLT YLT) hZ (hw _ (List.mem_of_getElem? (i := 18) rfl)) (hw _ (List.mem_of_getElem? (i := 6) rfl)) (by decide) (by decide)) q47a q47c (g := (mkF m 19 #[.val (.int k), .val (.int (2 : Int32)), .val (.ref oLT), .val (.int (1 : Int32)), .unset, .unset, .unset, .unset, .unset, .unset] [(.ref oLT)])) rfl (by rw [hml]; rfl) (Steps.refl _) (argsL := []) (rest := []) (lenOf pd_6 rfl) rfl (by show 2 * 0 + _ ≤ _; exact Nat.le_of_eq rfl) (hb hby at_19) (fun _ _ => ⟨rfl, e46, (by decide : 0 + 0 ≤ _), (by decide : 0 + 0 ≤ _)⟩)
    dsimp only [Pt.U, Pt.locs, Pt.cells, Pt.slots] at X47 l47 y47 z47 st47 hQ47
    subst l47 y47 z47
    obtain ⟨rfl, M47, e47⟩ := hQ47
    have N47 := Fr.app N46 M47
    refine own_trans st47 ?_
    show own_Gl _ _ _ _ (T47.setTop (mkF m 22 #[.val (.int k), .val (.int (2 : Int32)), .val (.ref oLT), .val (.int (1 : Int32)), .unset, .unset, .unset, .unset, .unset, .unset] [(.ref tLT)]))
    refine own_back (fun t_ q_ => XS.astore X47.here hx rfl (hb hby at_22) rfl rfl (l' := #[.val (.int k), .val (.int (2 : Int32)), .val (.ref oLT), .val (.int (1 : Int32)), .val (.ref tLT), .unset, .unset, .unset, .unset, .unset]) rfl q_) ?_
    show own_Gl _ _ _ _ (T47.setTop (mkF m 24 #[.val (.int k), .val (.int (2 : Int32)), .val (.ref oLT), .val (.int (1 : Int32)), .val (.ref tLT), .unset, .unset, .unset, .unset, .unset] []))
    refine own_back (fun t_ q_ => XS.aload X47.here hx rfl (hb hby at_24) rfl rfl q_) ?_
    show own_Gl _ _ _ _ (T47.setTop (mkF m 26 #[.val (.int k), .val (.int (2 : Int32)), .val (.ref oLT), .val (.int (1 : Int32)), .val (.ref tLT), .unset, .unset, .unset, .unset, .unset] [(.ref tLT)]))
    refine own_back (fun t_ q_ => XS.iconst X47.here hx rfl (hb hby at_26) q_) ?_
    show own_Gl _ _ _ _ (T47.setTop (mkF m 27 #[.val (.int k), .val (.int (2 : Int32)), .val (.ref oLT), .val (.int (1 : Int32)), .val (.ref tLT), .unset, .unset, .unset, .unset, .unset] [(.int (0 : Int32)), (.ref tLT)]))
    obtain ⟨cq48, kq48, q48a, q48b, q48c⟩ := isOf hZ e47 BLT.1
    obtain ⟨_, _, ⟨T48, L48, k48, n48⟩, -, X48, ⟨Lc48, hQ48, l48, y48, z48⟩, st48⟩ := X47.virtualBack hx (y := (⟨"java/lang/String", "charAt", "(I)C"⟩ : MethodName)) (z := (⟨"java/lang/String", "charAt", "(I)C"⟩ : MethodName)) hown (mvT hZ (hw _ (List.mem_of_getElem? (i := 21) rfl))) (mvT hZ (hw _ (List.mem_of_getElem? (i := 22) rfl))) (notFace_of_selects (args := #[]) (mvT hZ (hw _ (List.mem_of_getElem? (i := 24) rfl)))) (mvT hZ (hw _ (List.mem_of_getElem? (i := 24) rfl))) (mvT hZ (hw _ (List.mem_of_getElem? (i := 23) rfl))) (by decide) (backOf (W := 0) (rm4 l Z a0 hw [] tLT 0 h0 n0 Z0 60 rfl K BLT) hZ (hw _ (List.mem_of_getElem? (i := 26) rfl)) (hw _ (List.mem_of_getElem? (i := 25) rfl)) (by decide) (by decide)) q48a q48c (g := (mkF m 27 #[.val (.int k), .val (.int (2 : Int32)), .val (.ref oLT), .val (.int (1 : Int32)), .val (.ref tLT), .unset, .unset, .unset, .unset, .unset] [(.int (0 : Int32)), (.ref tLT)])) rfl (by rw [hml]; rfl) (Steps.refl _) (argsL := [(.int (0 : Int32))]) (rest := []) (lenOf pd_7 rfl) rfl (by show 2 * 0 + _ ≤ _; exact Nat.le_of_eq rfl) (hb hby at_27) (fun _ _ => ⟨rfl, e47, (by decide : 0 + 0 ≤ _), (by decide : 0 + 0 ≤ _)⟩)
    dsimp only [Pt.U, Pt.locs, Pt.cells, Pt.slots] at X48 l48 y48 z48 st48 hQ48
    subst l48 y48 z48
    obtain ⟨rfl, M48, e48⟩ := hQ48
    have N48 := Fr.app N47 M48
    refine own_trans st48 ?_
    show own_Gl _ _ _ _ (T48.setTop (mkF m 30 #[.val (.int k), .val (.int (2 : Int32)), .val (.ref oLT), .val (.int (1 : Int32)), .val (.ref tLT), .unset, .unset, .unset, .unset, .unset] [(.int (nar .char (own_c 60)))]))
    rw [show nar .char (own_c 60) = 60 by decide]
    show own_Gl _ _ _ _ (T48.setTop (mkF m 30 #[.val (.int k), .val (.int (2 : Int32)), .val (.ref oLT), .val (.int (1 : Int32)), .val (.ref tLT), .unset, .unset, .unset, .unset, .unset] [(.int (60 : Int32))]))
    refine own_back (fun t_ q_ => XS.istore X48.here hx rfl (hb hby at_30) rfl (l' := #[.val (.int k), .val (.int (2 : Int32)), .val (.ref oLT), .val (.int (1 : Int32)), .val (.ref tLT), .val (.int (60 : Int32)), .unset, .unset, .unset, .unset]) rfl q_) ?_
    show own_Gl _ _ _ _ (T48.setTop (mkF m 32 #[.val (.int k), .val (.int (2 : Int32)), .val (.ref oLT), .val (.int (1 : Int32)), .val (.ref tLT), .val (.int (60 : Int32)), .unset, .unset, .unset, .unset] []))
    refine own_back (fun t_ q_ => XS.iload X48.here hx rfl (hb hby at_32) rfl q_) ?_
    show own_Gl _ _ _ _ (T48.setTop (mkF m 34 #[.val (.int k), .val (.int (2 : Int32)), .val (.ref oLT), .val (.int (1 : Int32)), .val (.ref tLT), .val (.int (60 : Int32)), .unset, .unset, .unset, .unset] [(.int (60 : Int32))]))
    refine own_back (fun t_ q_ => XS.bipush X48.here hx rfl (hb hby at_34) q_) ?_
    show own_Gl _ _ _ _ (T48.setTop (mkF m 36 #[.val (.int k), .val (.int (2 : Int32)), .val (.ref oLT), .val (.int (1 : Int32)), .val (.ref tLT), .val (.int (60 : Int32)), .unset, .unset, .unset, .unset] [(.int (60 : Int32)), (.int (60 : Int32))]))
    refine own_back (fun t_ q_ => XS.icmpYes X48.here hx rfl (pc0 := 36) (pc' := 46) rfl (hb hby at_36) rfl (teq (by decide : (60 : Int32) = (60 : Int32))).1 (by decide) (by decide) q_) ?_
    show own_Gl _ _ _ _ (T48.setTop (mkF m 46 #[.val (.int k), .val (.int (2 : Int32)), .val (.ref oLT), .val (.int (1 : Int32)), .val (.ref tLT), .val (.int (60 : Int32)), .unset, .unset, .unset, .unset] []))
    refine own_back (fun t_ q_ => XS.iconst X48.here hx rfl (hb hby at_46) q_) ?_
    show own_Gl _ _ _ _ (T48.setTop (mkF m 47 #[.val (.int k), .val (.int (2 : Int32)), .val (.ref oLT), .val (.int (1 : Int32)), .val (.ref tLT), .val (.int (60 : Int32)), .unset, .unset, .unset, .unset] [(.int (1 : Int32))]))
    refine own_back (fun t_ q_ => XS.goto X48.here hx rfl (pc0 := 47) (pc' := 51) rfl (hb hby at_47) (by decide) (by decide) q_) ?_
    show own_Gl _ _ _ _ (T48.setTop (mkF m 51 #[.val (.int k), .val (.int (2 : Int32)), .val (.ref oLT), .val (.int (1 : Int32)), .val (.ref tLT), .val (.int (60 : Int32)), .unset, .unset, .unset, .unset] [(.int (1 : Int32))]))
    refine own_back (fun t_ q_ => XS.istore X48.here hx rfl (hb hby at_51) rfl (l' := #[.val (.int k), .val (.int (2 : Int32)), .val (.ref oLT), .val (.int (1 : Int32)), .val (.ref tLT), .val (.int (60 : Int32)), .val (.int (1 : Int32)), .unset, .unset, .unset]) rfl q_) ?_
    show own_Gl _ _ _ _ (T48.setTop (mkF m 53 #[.val (.int k), .val (.int (2 : Int32)), .val (.ref oLT), .val (.int (1 : Int32)), .val (.ref tLT), .val (.int (60 : Int32)), .val (.int (1 : Int32)), .unset, .unset, .unset] []))
    refine own_back (fun t_ q_ => XS.iloadN X48.here hx rfl (hb hby at_53) rfl q_) ?_
    show own_Gl _ _ _ _ (T48.setTop (mkF m 54 #[.val (.int k), .val (.int (2 : Int32)), .val (.ref oLT), .val (.int (1 : Int32)), .val (.ref tLT), .val (.int (60 : Int32)), .val (.int (1 : Int32)), .unset, .unset, .unset] [(.int (2 : Int32))]))
    refine own_back (fun t_ q_ => XS.iconst X48.here hx rfl (hb hby at_54) q_) ?_
    show own_Gl _ _ _ _ (T48.setTop (mkF m 55 #[.val (.int k), .val (.int (2 : Int32)), .val (.ref oLT), .val (.int (1 : Int32)), .val (.ref tLT), .val (.int (60 : Int32)), .val (.int (1 : Int32)), .unset, .unset, .unset] [(.int (2 : Int32)), (.int (2 : Int32))]))
    refine own_back (fun t_ q_ => XS.icmpNo X48.here hx rfl (hb hby at_55) rfl (flt (by decide : ¬ ((2 : Int32) < (2 : Int32)))).1 q_) ?_
    show own_Gl _ _ _ _ (T48.setTop (mkF m 58 #[.val (.int k), .val (.int (2 : Int32)), .val (.ref oLT), .val (.int (1 : Int32)), .val (.ref tLT), .val (.int (60 : Int32)), .val (.int (1 : Int32)), .unset, .unset, .unset] []))
    refine own_back (fun t_ q_ => XS.iconst X48.here hx rfl (hb hby at_58) q_) ?_
    show own_Gl _ _ _ _ (T48.setTop (mkF m 59 #[.val (.int k), .val (.int (2 : Int32)), .val (.ref oLT), .val (.int (1 : Int32)), .val (.ref tLT), .val (.int (60 : Int32)), .val (.int (1 : Int32)), .unset, .unset, .unset] [(.int (1 : Int32))]))
    refine own_back (fun t_ q_ => XS.goto X48.here hx rfl (pc0 := 59) (pc' := 63) rfl (hb hby at_59) (by decide) (by decide) q_) ?_
    show own_Gl _ _ _ _ (T48.setTop (mkF m 63 #[.val (.int k), .val (.int (2 : Int32)), .val (.ref oLT), .val (.int (1 : Int32)), .val (.ref tLT), .val (.int (60 : Int32)), .val (.int (1 : Int32)), .unset, .unset, .unset] [(.int (1 : Int32))]))
    refine own_back (fun t_ q_ => XS.istore X48.here hx rfl (hb hby at_63) rfl (l' := #[.val (.int k), .val (.int (2 : Int32)), .val (.ref oLT), .val (.int (1 : Int32)), .val (.ref tLT), .val (.int (60 : Int32)), .val (.int (1 : Int32)), .val (.int (1 : Int32)), .unset, .unset]) rfl q_) ?_
    show own_Gl _ _ _ _ (T48.setTop (mkF m 65 #[.val (.int k), .val (.int (2 : Int32)), .val (.ref oLT), .val (.int (1 : Int32)), .val (.ref tLT), .val (.int (60 : Int32)), .val (.int (1 : Int32)), .val (.int (1 : Int32)), .unset, .unset] []))
    refine own_back (fun t_ q_ => XS.aloadN X48.here hx rfl (hb hby at_65) rfl rfl q_) ?_
    show own_Gl _ _ _ _ (T48.setTop (mkF m 66 #[.val (.int k), .val (.int (2 : Int32)), .val (.ref oLT), .val (.int (1 : Int32)), .val (.ref tLT), .val (.int (60 : Int32)), .val (.int (1 : Int32)), .val (.int (1 : Int32)), .unset, .unset] [(.ref oLT)]))
    obtain ⟨cq49, kq49, q49a, q49b, q49c⟩ := isOf hZ e48 XLT
    obtain ⟨_, _, ⟨T49, L49, k49, n49⟩, -, X49, ⟨Lc49, hQ49, l49, y49, z49⟩, st49⟩ := X48.virtualBack hx (y := (⟨"com/example/valenciennes/valenciennes/model/Operator", "negated", "()Lcom/example/valenciennes/valenciennes/model/Operator;"⟩ : MethodName)) (z := (⟨"com/example/valenciennes/valenciennes/model/Operator", "negated", "()Lcom/example/valenciennes/valenciennes/model/Operator;"⟩ : MethodName)) hown (mvT hZ (hw _ (List.mem_of_getElem? (i := 49) rfl))) (mvT hZ (hw _ (List.mem_of_getElem? (i := 50) rfl))) (notFace_of_selects (args := #[]) (mvT hZ (hw _ (List.mem_of_getElem? (i := 52) rfl)))) (mvT hZ (hw _ (List.mem_of_getElem? (i := 52) rfl))) (mvT hZ (hw _ (List.mem_of_getElem? (i := 51) rfl))) (by decide) (backOf (W := 0) (rm9 l Z a0 hw [] oLT h0 n0 Z0 2 oEQ oNE oLT oLE oGT oGE SEQ SNE SLT SLE SGT SGE XLT OLT (by decide)) hZ (hw _ (List.mem_of_getElem? (i := 53) rfl)) (hw _ (List.mem_of_getElem? (i := 6) rfl)) (by decide) (by decide)) q49a q49c (g := (mkF m 66 #[.val (.int k), .val (.int (2 : Int32)), .val (.ref oLT), .val (.int (1 : Int32)), .val (.ref tLT), .val (.int (60 : Int32)), .val (.int (1 : Int32)), .val (.int (1 : Int32)), .unset, .unset] [(.ref oLT)])) rfl (by rw [hml]; rfl) (Steps.refl _) (argsL := []) (rest := []) (lenOf pd_8 rfl) rfl (by show 2 * 0 + _ ≤ _; exact Nat.le_of_eq rfl) (hb hby at_66) (fun _ _ => ⟨rfl, e48, (by decide : 0 + 0 ≤ _), (by decide : 0 + 0 ≤ _)⟩)
    dsimp only [Pt.U, Pt.locs, Pt.cells, Pt.slots] at X49 l49 y49 z49 st49 hQ49
    subst l49 y49 z49
    obtain ⟨rfl, M49, e49⟩ := hQ49
    have N49 := Fr.app N48 M49
    refine own_trans st49 ?_
    show own_Gl _ _ _ _ (T49.setTop (mkF m 69 #[.val (.int k), .val (.int (2 : Int32)), .val (.ref oLT), .val (.int (1 : Int32)), .val (.ref tLT), .val (.int (60 : Int32)), .val (.int (1 : Int32)), .val (.int (1 : Int32)), .unset, .unset] [(.ref (own_sel 2 oNE oEQ oGE oGT oLE oLT))]))
    show own_Gl _ _ _ _ (T49.setTop (mkF m 69 #[.val (.int k), .val (.int (2 : Int32)), .val (.ref oLT), .val (.int (1 : Int32)), .val (.ref tLT), .val (.int (60 : Int32)), .val (.int (1 : Int32)), .val (.int (1 : Int32)), .unset, .unset] [(.ref oGE)]))
    obtain ⟨cq50, kq50, q50a, q50b, q50c⟩ := isOf hZ e49 XGE
    obtain ⟨_, _, ⟨T50, L50, k50, n50⟩, -, X50, ⟨Lc50, hQ50, l50, y50, z50⟩, st50⟩ := X49.virtualBack hx (y := (⟨"com/example/valenciennes/valenciennes/model/Operator", "isOrdering", "()Z"⟩ : MethodName)) (z := (⟨"com/example/valenciennes/valenciennes/model/Operator", "isOrdering", "()Z"⟩ : MethodName)) hown (mvT hZ (hw _ (List.mem_of_getElem? (i := 8) rfl))) (mvT hZ (hw _ (List.mem_of_getElem? (i := 9) rfl))) (notFace_of_selects (args := #[]) (mvT hZ (hw _ (List.mem_of_getElem? (i := 11) rfl)))) (mvT hZ (hw _ (List.mem_of_getElem? (i := 11) rfl))) (mvT hZ (hw _ (List.mem_of_getElem? (i := 10) rfl))) (by decide) (backOf (W := 0) (rm2 l Z a0 hw [] oGE h0 n0 Z0 oEQ oNE SEQ SNE) hZ (hw _ (List.mem_of_getElem? (i := 12) rfl)) (hw _ (List.mem_of_getElem? (i := 6) rfl)) (by decide) (by decide)) q50a q50c (g := (mkF m 69 #[.val (.int k), .val (.int (2 : Int32)), .val (.ref oLT), .val (.int (1 : Int32)), .val (.ref tLT), .val (.int (60 : Int32)), .val (.int (1 : Int32)), .val (.int (1 : Int32)), .unset, .unset] [(.ref oGE)])) rfl (by rw [hml]; rfl) (Steps.refl _) (argsL := []) (rest := []) (lenOf pd_2 rfl) rfl (by show 2 * 0 + _ ≤ _; exact Nat.le_of_eq rfl) (hb hby at_69) (fun _ _ => ⟨rfl, e49, (by decide : 0 + 0 ≤ _), (by decide : 0 + 0 ≤ _)⟩)
    dsimp only [Pt.U, Pt.locs, Pt.cells, Pt.slots] at X50 l50 y50 z50 st50 hQ50
    subst l50 y50 z50
    obtain ⟨rfl, M50, e50⟩ := hQ50
    have N50 := Fr.app N49 M50
    refine own_trans st50 ?_
    show own_Gl _ _ _ _ (T50.setTop (mkF m 72 #[.val (.int k), .val (.int (2 : Int32)), .val (.ref oLT), .val (.int (1 : Int32)), .val (.ref tLT), .val (.int (60 : Int32)), .val (.int (1 : Int32)), .val (.int (1 : Int32)), .unset, .unset] [(.int (if oGE = oEQ ∨ oGE = oNE then (0 : Int32) else 1))]))
    rw [if_neg (fun q => q.elim dGEEQ dGENE)]
    show own_Gl _ _ _ _ (T50.setTop (mkF m 72 #[.val (.int k), .val (.int (2 : Int32)), .val (.ref oLT), .val (.int (1 : Int32)), .val (.ref tLT), .val (.int (60 : Int32)), .val (.int (1 : Int32)), .val (.int (1 : Int32)), .unset, .unset] [(.int (1 : Int32))]))
    refine own_back (fun t_ q_ => XS.iloadN X50.here hx rfl (hb hby at_72) rfl q_) ?_
    show own_Gl _ _ _ _ (T50.setTop (mkF m 73 #[.val (.int k), .val (.int (2 : Int32)), .val (.ref oLT), .val (.int (1 : Int32)), .val (.ref tLT), .val (.int (60 : Int32)), .val (.int (1 : Int32)), .val (.int (1 : Int32)), .unset, .unset] [(.int (1 : Int32)), (.int (1 : Int32))]))
    refine own_back (fun t_ q_ => XS.icmpNo X50.here hx rfl (hb hby at_73) rfl (teq (rfl : (1 : Int32) = (1 : Int32))).2 q_) ?_
    show own_Gl _ _ _ _ (T50.setTop (mkF m 76 #[.val (.int k), .val (.int (2 : Int32)), .val (.ref oLT), .val (.int (1 : Int32)), .val (.ref tLT), .val (.int (60 : Int32)), .val (.int (1 : Int32)), .val (.int (1 : Int32)), .unset, .unset] []))
    refine own_back (fun t_ q_ => XS.iconst X50.here hx rfl (hb hby at_76) q_) ?_
    show own_Gl _ _ _ _ (T50.setTop (mkF m 77 #[.val (.int k), .val (.int (2 : Int32)), .val (.ref oLT), .val (.int (1 : Int32)), .val (.ref tLT), .val (.int (60 : Int32)), .val (.int (1 : Int32)), .val (.int (1 : Int32)), .unset, .unset] [(.int (1 : Int32))]))
    refine own_back (fun t_ q_ => XS.goto X50.here hx rfl (pc0 := 77) (pc' := 81) rfl (hb hby at_77) (by decide) (by decide) q_) ?_
    show own_Gl _ _ _ _ (T50.setTop (mkF m 81 #[.val (.int k), .val (.int (2 : Int32)), .val (.ref oLT), .val (.int (1 : Int32)), .val (.ref tLT), .val (.int (60 : Int32)), .val (.int (1 : Int32)), .val (.int (1 : Int32)), .unset, .unset] [(.int (1 : Int32))]))
    refine own_back (fun t_ q_ => XS.istore X50.here hx rfl (hb hby at_81) rfl (l' := #[.val (.int k), .val (.int (2 : Int32)), .val (.ref oLT), .val (.int (1 : Int32)), .val (.ref tLT), .val (.int (60 : Int32)), .val (.int (1 : Int32)), .val (.int (1 : Int32)), .val (.int (1 : Int32)), .unset]) rfl q_) ?_
    show own_Gl _ _ _ _ (T50.setTop (mkF m 83 #[.val (.int k), .val (.int (2 : Int32)), .val (.ref oLT), .val (.int (1 : Int32)), .val (.ref tLT), .val (.int (60 : Int32)), .val (.int (1 : Int32)), .val (.int (1 : Int32)), .val (.int (1 : Int32)), .unset] []))
    refine own_back (fun t_ q_ => XS.aloadN X50.here hx rfl (hb hby at_83) rfl rfl q_) ?_
    show own_Gl _ _ _ _ (T50.setTop (mkF m 84 #[.val (.int k), .val (.int (2 : Int32)), .val (.ref oLT), .val (.int (1 : Int32)), .val (.ref tLT), .val (.int (60 : Int32)), .val (.int (1 : Int32)), .val (.int (1 : Int32)), .val (.int (1 : Int32)), .unset] [(.ref oLT)]))
    obtain ⟨cq51, kq51, q51a, q51b, q51c⟩ := isOf hZ e50 XLT
    obtain ⟨_, _, ⟨T51, L51, k51, n51⟩, -, X51, ⟨Lc51, hQ51, l51, y51, z51⟩, st51⟩ := X50.virtualBack hx (y := (⟨"com/example/valenciennes/valenciennes/model/Operator", "mirrored", "()Lcom/example/valenciennes/valenciennes/model/Operator;"⟩ : MethodName)) (z := (⟨"com/example/valenciennes/valenciennes/model/Operator", "mirrored", "()Lcom/example/valenciennes/valenciennes/model/Operator;"⟩ : MethodName)) hown (mvT hZ (hw _ (List.mem_of_getElem? (i := 65) rfl))) (mvT hZ (hw _ (List.mem_of_getElem? (i := 66) rfl))) (notFace_of_selects (args := #[]) (mvT hZ (hw _ (List.mem_of_getElem? (i := 68) rfl)))) (mvT hZ (hw _ (List.mem_of_getElem? (i := 68) rfl))) (mvT hZ (hw _ (List.mem_of_getElem? (i := 67) rfl))) (by decide) (backOf (W := 0) (rm11 l Z a0 hw [] oLT h0 n0 Z0 2 oEQ oNE oLT oLE oGT oGE SEQ SNE SLT SLE SGT SGE XLT OLT (by decide)) hZ (hw _ (List.mem_of_getElem? (i := 69) rfl)) (hw _ (List.mem_of_getElem? (i := 6) rfl)) (by decide) (by decide)) q51a q51c (g := (mkF m 84 #[.val (.int k), .val (.int (2 : Int32)), .val (.ref oLT), .val (.int (1 : Int32)), .val (.ref tLT), .val (.int (60 : Int32)), .val (.int (1 : Int32)), .val (.int (1 : Int32)), .val (.int (1 : Int32)), .unset] [(.ref oLT)])) rfl (by rw [hml]; rfl) (Steps.refl _) (argsL := []) (rest := []) (lenOf pd_8 rfl) rfl (by show 2 * 0 + _ ≤ _; exact Nat.le_of_eq rfl) (hb hby at_84) (fun _ _ => ⟨rfl, e50, (by decide : 0 + 0 ≤ _), (by decide : 0 + 0 ≤ _)⟩)
    dsimp only [Pt.U, Pt.locs, Pt.cells, Pt.slots] at X51 l51 y51 z51 st51 hQ51
    subst l51 y51 z51
    obtain ⟨rfl, M51, e51⟩ := hQ51
    have N51 := Fr.app N50 M51
    refine own_trans st51 ?_
    show own_Gl _ _ _ _ (T51.setTop (mkF m 87 #[.val (.int k), .val (.int (2 : Int32)), .val (.ref oLT), .val (.int (1 : Int32)), .val (.ref tLT), .val (.int (60 : Int32)), .val (.int (1 : Int32)), .val (.int (1 : Int32)), .val (.int (1 : Int32)), .unset] [(.ref (own_sel 2 oLT oLT oGT oGE oLT oLE))]))
    show own_Gl _ _ _ _ (T51.setTop (mkF m 87 #[.val (.int k), .val (.int (2 : Int32)), .val (.ref oLT), .val (.int (1 : Int32)), .val (.ref tLT), .val (.int (60 : Int32)), .val (.int (1 : Int32)), .val (.int (1 : Int32)), .val (.int (1 : Int32)), .unset] [(.ref oGT)]))
    refine own_back (fun t_ q_ => XS.aloadN X51.here hx rfl (hb hby at_87) rfl rfl q_) ?_
    show own_Gl _ _ _ _ (T51.setTop (mkF m 88 #[.val (.int k), .val (.int (2 : Int32)), .val (.ref oLT), .val (.int (1 : Int32)), .val (.ref tLT), .val (.int (60 : Int32)), .val (.int (1 : Int32)), .val (.int (1 : Int32)), .val (.int (1 : Int32)), .unset] [(.ref oLT), (.ref oGT)]))
    refine own_back (fun t_ q_ => Jvm.RoadKit.acmp (g := (mkF m 88 #[.val (.int k), .val (.int (2 : Int32)), .val (.ref oLT), .val (.int (1 : Int32)), .val (.ref tLT), .val (.int (60 : Int32)), .val (.int (1 : Int32)), .val (.int (1 : Int32)), .val (.int (1 : Int32)), .unset] [(.ref oLT), (.ref oGT)])) X51 hx rfl rfl rfl (pc0 := 88) (pc' := 91) (same := false) rfl (hb hby at_88) rfl (decide_eq_false fun q => (dGTLT) (Value.ref.inj q)) (by decide) (by decide) q_) ?_
    show own_Gl _ _ _ _ (T51.setTop (mkF m 91 #[.val (.int k), .val (.int (2 : Int32)), .val (.ref oLT), .val (.int (1 : Int32)), .val (.ref tLT), .val (.int (60 : Int32)), .val (.int (1 : Int32)), .val (.int (1 : Int32)), .val (.int (1 : Int32)), .unset] []))
    refine own_back (fun t_ q_ => XS.iconst X51.here hx rfl (hb hby at_91) q_) ?_
    show own_Gl _ _ _ _ (T51.setTop (mkF m 92 #[.val (.int k), .val (.int (2 : Int32)), .val (.ref oLT), .val (.int (1 : Int32)), .val (.ref tLT), .val (.int (60 : Int32)), .val (.int (1 : Int32)), .val (.int (1 : Int32)), .val (.int (1 : Int32)), .unset] [(.int (1 : Int32))]))
    refine own_back (fun t_ q_ => XS.goto X51.here hx rfl (pc0 := 92) (pc' := 96) rfl (hb hby at_92) (by decide) (by decide) q_) ?_
    show own_Gl _ _ _ _ (T51.setTop (mkF m 96 #[.val (.int k), .val (.int (2 : Int32)), .val (.ref oLT), .val (.int (1 : Int32)), .val (.ref tLT), .val (.int (60 : Int32)), .val (.int (1 : Int32)), .val (.int (1 : Int32)), .val (.int (1 : Int32)), .unset] [(.int (1 : Int32))]))
    refine own_back (fun t_ q_ => XS.iloadN X51.here hx rfl (hb hby at_96) rfl q_) ?_
    show own_Gl _ _ _ _ (T51.setTop (mkF m 97 #[.val (.int k), .val (.int (2 : Int32)), .val (.ref oLT), .val (.int (1 : Int32)), .val (.ref tLT), .val (.int (60 : Int32)), .val (.int (1 : Int32)), .val (.int (1 : Int32)), .val (.int (1 : Int32)), .unset] [(.int (1 : Int32)), (.int (1 : Int32))]))
    refine own_back (fun t_ q_ => XS.icmpNo X51.here hx rfl (hb hby at_97) rfl (teq (rfl : (1 : Int32) = (1 : Int32))).2 q_) ?_
    show own_Gl _ _ _ _ (T51.setTop (mkF m 100 #[.val (.int k), .val (.int (2 : Int32)), .val (.ref oLT), .val (.int (1 : Int32)), .val (.ref tLT), .val (.int (60 : Int32)), .val (.int (1 : Int32)), .val (.int (1 : Int32)), .val (.int (1 : Int32)), .unset] []))
    refine own_back (fun t_ q_ => XS.iconst X51.here hx rfl (hb hby at_100) q_) ?_
    show own_Gl _ _ _ _ (T51.setTop (mkF m 101 #[.val (.int k), .val (.int (2 : Int32)), .val (.ref oLT), .val (.int (1 : Int32)), .val (.ref tLT), .val (.int (60 : Int32)), .val (.int (1 : Int32)), .val (.int (1 : Int32)), .val (.int (1 : Int32)), .unset] [(.int (1 : Int32))]))
    refine own_back (fun t_ q_ => XS.goto X51.here hx rfl (pc0 := 101) (pc' := 105) rfl (hb hby at_101) (by decide) (by decide) q_) ?_
    show own_Gl _ _ _ _ (T51.setTop (mkF m 105 #[.val (.int k), .val (.int (2 : Int32)), .val (.ref oLT), .val (.int (1 : Int32)), .val (.ref tLT), .val (.int (60 : Int32)), .val (.int (1 : Int32)), .val (.int (1 : Int32)), .val (.int (1 : Int32)), .unset] [(.int (1 : Int32))]))
    refine own_back (fun t_ q_ => XS.istore X51.here hx rfl (hb hby at_105) rfl (l' := #[.val (.int k), .val (.int (2 : Int32)), .val (.ref oLT), .val (.int (1 : Int32)), .val (.ref tLT), .val (.int (60 : Int32)), .val (.int (1 : Int32)), .val (.int (1 : Int32)), .val (.int (1 : Int32)), .val (.int (1 : Int32))]) rfl q_) ?_
    show own_Gl _ _ _ _ (T51.setTop (mkF m 107 #[.val (.int k), .val (.int (2 : Int32)), .val (.ref oLT), .val (.int (1 : Int32)), .val (.ref tLT), .val (.int (60 : Int32)), .val (.int (1 : Int32)), .val (.int (1 : Int32)), .val (.int (1 : Int32)), .val (.int (1 : Int32))] []))
    refine own_back (fun t_ q_ => XS.iloadN X51.here hx rfl (hb hby at_107) rfl q_) ?_
    show own_Gl _ _ _ _ (T51.setTop (mkF m 108 #[.val (.int k), .val (.int (2 : Int32)), .val (.ref oLT), .val (.int (1 : Int32)), .val (.ref tLT), .val (.int (60 : Int32)), .val (.int (1 : Int32)), .val (.int (1 : Int32)), .val (.int (1 : Int32)), .val (.int (1 : Int32))] [(.int (1 : Int32))]))
    refine own_back (fun t_ q_ => XS.iload X51.here hx rfl (hb hby at_108) rfl q_) ?_
    show own_Gl _ _ _ _ (T51.setTop (mkF m 110 #[.val (.int k), .val (.int (2 : Int32)), .val (.ref oLT), .val (.int (1 : Int32)), .val (.ref tLT), .val (.int (60 : Int32)), .val (.int (1 : Int32)), .val (.int (1 : Int32)), .val (.int (1 : Int32)), .val (.int (1 : Int32))] [(.int (1 : Int32)), (.int (1 : Int32))]))
    refine own_back (fun t_ q_ => XS.icmpNo X51.here hx rfl (hb hby at_110) rfl (teq (rfl : (1 : Int32) = (1 : Int32))).2 q_) ?_
    show own_Gl _ _ _ _ (T51.setTop (mkF m 113 #[.val (.int k), .val (.int (2 : Int32)), .val (.ref oLT), .val (.int (1 : Int32)), .val (.ref tLT), .val (.int (60 : Int32)), .val (.int (1 : Int32)), .val (.int (1 : Int32)), .val (.int (1 : Int32)), .val (.int (1 : Int32))] []))
    refine own_back (fun t_ q_ => XS.iloadN X51.here hx rfl (hb hby at_113) rfl q_) ?_
    show own_Gl _ _ _ _ (T51.setTop (mkF m 114 #[.val (.int k), .val (.int (2 : Int32)), .val (.ref oLT), .val (.int (1 : Int32)), .val (.ref tLT), .val (.int (60 : Int32)), .val (.int (1 : Int32)), .val (.int (1 : Int32)), .val (.int (1 : Int32)), .val (.int (1 : Int32))] [(.int (1 : Int32))]))
    refine own_back (fun t_ q_ => XS.iload X51.here hx rfl (hb hby at_114) rfl q_) ?_
    show own_Gl _ _ _ _ (T51.setTop (mkF m 116 #[.val (.int k), .val (.int (2 : Int32)), .val (.ref oLT), .val (.int (1 : Int32)), .val (.ref tLT), .val (.int (60 : Int32)), .val (.int (1 : Int32)), .val (.int (1 : Int32)), .val (.int (1 : Int32)), .val (.int (1 : Int32))] [(.int (1 : Int32)), (.int (1 : Int32))]))
    refine own_back (fun t_ q_ => XS.icmpNo X51.here hx rfl (hb hby at_116) rfl (teq (rfl : (1 : Int32) = (1 : Int32))).2 q_) ?_
    show own_Gl _ _ _ _ (T51.setTop (mkF m 119 #[.val (.int k), .val (.int (2 : Int32)), .val (.ref oLT), .val (.int (1 : Int32)), .val (.ref tLT), .val (.int (60 : Int32)), .val (.int (1 : Int32)), .val (.int (1 : Int32)), .val (.int (1 : Int32)), .val (.int (1 : Int32))] []))
    refine own_back (fun t_ q_ => XS.iload X51.here hx rfl (hb hby at_119) rfl q_) ?_
    show own_Gl _ _ _ _ (T51.setTop (mkF m 121 #[.val (.int k), .val (.int (2 : Int32)), .val (.ref oLT), .val (.int (1 : Int32)), .val (.ref tLT), .val (.int (60 : Int32)), .val (.int (1 : Int32)), .val (.int (1 : Int32)), .val (.int (1 : Int32)), .val (.int (1 : Int32))] [(.int (1 : Int32))]))
    refine own_back (fun t_ q_ => XS.ifNo X51.here hx rfl (hb hby at_121) rfl ((if0 _ _).trans (feq (by decide : ¬ ((1 : Int32) = (0 : Int32)))).1) q_) ?_
    show own_Gl _ _ _ _ (T51.setTop (mkF m 124 #[.val (.int k), .val (.int (2 : Int32)), .val (.ref oLT), .val (.int (1 : Int32)), .val (.ref tLT), .val (.int (60 : Int32)), .val (.int (1 : Int32)), .val (.int (1 : Int32)), .val (.int (1 : Int32)), .val (.int (1 : Int32))] []))
    refine own_back (fun t_ q_ => XS.iload X51.here hx rfl (hb hby at_124) rfl q_) ?_
    show own_Gl _ _ _ _ (T51.setTop (mkF m 126 #[.val (.int k), .val (.int (2 : Int32)), .val (.ref oLT), .val (.int (1 : Int32)), .val (.ref tLT), .val (.int (60 : Int32)), .val (.int (1 : Int32)), .val (.int (1 : Int32)), .val (.int (1 : Int32)), .val (.int (1 : Int32))] [(.int (1 : Int32))]))
    refine own_back (fun t_ q_ => XS.ifNo X51.here hx rfl (hb hby at_126) rfl ((if0 _ _).trans (feq (by decide : ¬ ((1 : Int32) = (0 : Int32)))).1) q_) ?_
    show own_Gl _ _ _ _ (T51.setTop (mkF m 129 #[.val (.int k), .val (.int (2 : Int32)), .val (.ref oLT), .val (.int (1 : Int32)), .val (.ref tLT), .val (.int (60 : Int32)), .val (.int (1 : Int32)), .val (.int (1 : Int32)), .val (.int (1 : Int32)), .val (.int (1 : Int32))] []))
    refine own_back (fun t_ q_ => XS.iconst X51.here hx rfl (hb hby at_129) q_) ?_
    show own_Gl _ _ _ _ (T51.setTop (mkF m 130 #[.val (.int k), .val (.int (2 : Int32)), .val (.ref oLT), .val (.int (1 : Int32)), .val (.ref tLT), .val (.int (60 : Int32)), .val (.int (1 : Int32)), .val (.int (1 : Int32)), .val (.int (1 : Int32)), .val (.int (1 : Int32))] [(.int (1 : Int32))]))
    refine own_back (fun t_ q_ => XS.goto X51.here hx rfl (pc0 := 130) (pc' := 134) rfl (hb hby at_130) (by decide) (by decide) q_) ?_
    show own_Gl _ _ _ _ (T51.setTop (mkF m 134 #[.val (.int k), .val (.int (2 : Int32)), .val (.ref oLT), .val (.int (1 : Int32)), .val (.ref tLT), .val (.int (60 : Int32)), .val (.int (1 : Int32)), .val (.int (1 : Int32)), .val (.int (1 : Int32)), .val (.int (1 : Int32))] [(.int (1 : Int32))]))
    exact own_rZ X51 hx hlk Bd.returns (hb hby at_134) (own_one rfl) (by show Qrm0 h0 n0 _ T51.heap _; rw [e51]; exact ⟨rfl, N51⟩) (by decide) (by decide)
  · skip
    show own_Gl _ _ _ _ (s₁.setTop (mkF m 7 #[.val (.int k), .unset, .unset, .unset, .unset, .unset, .unset, .unset, .unset, .unset] [(.int (3 : Int32))]))
    refine own_back (fun t_ q_ => XS.istoreN X0.here hx rfl (hb hby at_7) rfl (l' := #[.val (.int k), .val (.int (3 : Int32)), .unset, .unset, .unset, .unset, .unset, .unset, .unset, .unset]) rfl q_) ?_
    show own_Gl _ _ _ _ (s₁.setTop (mkF m 8 #[.val (.int k), .val (.int (3 : Int32)), .unset, .unset, .unset, .unset, .unset, .unset, .unset, .unset] []))
    refine own_back (fun t_ q_ => XS.iloadN X0.here hx rfl (hb hby at_8) rfl q_) ?_
    show own_Gl _ _ _ _ (s₁.setTop (mkF m 9 #[.val (.int k), .val (.int (3 : Int32)), .unset, .unset, .unset, .unset, .unset, .unset, .unset, .unset] [(.int (3 : Int32))]))
    obtain ⟨_, _, ⟨T52, L52, k52, n52⟩, -, X52, ⟨Lc52, hQ52, l52, y52, z52⟩, st52⟩ := Jvm.LawKit.callS X0 hx (y := (⟨"com/example/valenciennes/valenciennes/model/OperatorIsOrderingPinLaw", "pick", "(I)Lcom/example/valenciennes/valenciennes/model/Operator;"⟩ : MethodName)) hown (mvT hZ (hw _ (List.mem_of_getElem? (i := 1) rfl))) (mvT hZ (hw _ (List.mem_of_getElem? (i := 2) rfl))) (mvT hZ (hw _ (List.mem_of_getElem? (i := 3) rfl))) (mvT hZ (hw _ (List.mem_of_getElem? (i := 4) rfl))) (by decide) (backOf (W := 0) (rm1 l Z a0 hw [] 3 h0 n0 Z0 oEQ oNE oLT oLE oGT oGE SEQ SNE SLT SLE SGT SGE) hZ (hw _ (List.mem_of_getElem? (i := 4) rfl)) (hw _ (List.mem_of_getElem? (i := 3) rfl)) (by decide) (by decide)) (g := (mkF m 9 #[.val (.int k), .val (.int (3 : Int32)), .unset, .unset, .unset, .unset, .unset, .unset, .unset, .unset] [(.int (3 : Int32))])) rfl (by rw [hml]; rfl) (argsL := [(.int (3 : Int32))]) (rest := []) (lenOf pd_5 rfl) rfl (by show 2 * 0 + _ ≤ _; exact Nat.le_of_eq rfl) (hb hby at_9) (fun _ _ => ⟨rfl, e0, (by decide : 0 + 0 ≤ _), (by decide : 0 + 0 ≤ _)⟩)
    dsimp only [Pt.U, Pt.locs, Pt.cells, Pt.slots] at X52 l52 y52 z52 st52 hQ52
    subst l52 y52 z52
    obtain ⟨rfl, M52, e52⟩ := hQ52
    have N52 := Fr.app N0 M52
    refine own_back st52 ?_
    show own_Gl _ _ _ _ (T52.setTop (mkF m 12 #[.val (.int k), .val (.int (3 : Int32)), .unset, .unset, .unset, .unset, .unset, .unset, .unset, .unset] [(.ref (own_sel 3 oEQ oNE oLT oLE oGT oGE))]))
    show own_Gl _ _ _ _ (T52.setTop (mkF m 12 #[.val (.int k), .val (.int (3 : Int32)), .unset, .unset, .unset, .unset, .unset, .unset, .unset, .unset] [(.ref oLE)]))
    refine own_back (fun t_ q_ => XS.astoreN X52.here hx rfl (hb hby at_12) rfl rfl (l' := #[.val (.int k), .val (.int (3 : Int32)), .val (.ref oLE), .unset, .unset, .unset, .unset, .unset, .unset, .unset]) rfl q_) ?_
    show own_Gl _ _ _ _ (T52.setTop (mkF m 13 #[.val (.int k), .val (.int (3 : Int32)), .val (.ref oLE), .unset, .unset, .unset, .unset, .unset, .unset, .unset] []))
    refine own_back (fun t_ q_ => XS.aloadN X52.here hx rfl (hb hby at_13) rfl rfl q_) ?_
    show own_Gl _ _ _ _ (T52.setTop (mkF m 14 #[.val (.int k), .val (.int (3 : Int32)), .val (.ref oLE), .unset, .unset, .unset, .unset, .unset, .unset, .unset] [(.ref oLE)]))
    obtain ⟨cq53, kq53, q53a, q53b, q53c⟩ := isOf hZ e52 XLE
    obtain ⟨_, _, ⟨T53, L53, k53, n53⟩, -, X53, ⟨Lc53, hQ53, l53, y53, z53⟩, st53⟩ := X52.virtualBack hx (y := (⟨"com/example/valenciennes/valenciennes/model/Operator", "isOrdering", "()Z"⟩ : MethodName)) (z := (⟨"com/example/valenciennes/valenciennes/model/Operator", "isOrdering", "()Z"⟩ : MethodName)) hown (mvT hZ (hw _ (List.mem_of_getElem? (i := 8) rfl))) (mvT hZ (hw _ (List.mem_of_getElem? (i := 9) rfl))) (notFace_of_selects (args := #[]) (mvT hZ (hw _ (List.mem_of_getElem? (i := 11) rfl)))) (mvT hZ (hw _ (List.mem_of_getElem? (i := 11) rfl))) (mvT hZ (hw _ (List.mem_of_getElem? (i := 10) rfl))) (by decide) (backOf (W := 0) (rm2 l Z a0 hw [] oLE h0 n0 Z0 oEQ oNE SEQ SNE) hZ (hw _ (List.mem_of_getElem? (i := 12) rfl)) (hw _ (List.mem_of_getElem? (i := 6) rfl)) (by decide) (by decide)) q53a q53c (g := (mkF m 14 #[.val (.int k), .val (.int (3 : Int32)), .val (.ref oLE), .unset, .unset, .unset, .unset, .unset, .unset, .unset] [(.ref oLE)])) rfl (by rw [hml]; rfl) (Steps.refl _) (argsL := []) (rest := []) (lenOf pd_2 rfl) rfl (by show 2 * 0 + _ ≤ _; exact Nat.le_of_eq rfl) (hb hby at_14) (fun _ _ => ⟨rfl, e52, (by decide : 0 + 0 ≤ _), (by decide : 0 + 0 ≤ _)⟩)
    dsimp only [Pt.U, Pt.locs, Pt.cells, Pt.slots] at X53 l53 y53 z53 st53 hQ53
    subst l53 y53 z53
    obtain ⟨rfl, M53, e53⟩ := hQ53
    have N53 := Fr.app N52 M53
    refine own_trans st53 ?_
    show own_Gl _ _ _ _ (T53.setTop (mkF m 17 #[.val (.int k), .val (.int (3 : Int32)), .val (.ref oLE), .unset, .unset, .unset, .unset, .unset, .unset, .unset] [(.int (if oLE = oEQ ∨ oLE = oNE then (0 : Int32) else 1))]))
    rw [if_neg (fun q => q.elim dLEEQ dLENE)]
    show own_Gl _ _ _ _ (T53.setTop (mkF m 17 #[.val (.int k), .val (.int (3 : Int32)), .val (.ref oLE), .unset, .unset, .unset, .unset, .unset, .unset, .unset] [(.int (1 : Int32))]))
    refine own_back (fun t_ q_ => XS.istoreN X53.here hx rfl (hb hby at_17) rfl (l' := #[.val (.int k), .val (.int (3 : Int32)), .val (.ref oLE), .val (.int (1 : Int32)), .unset, .unset, .unset, .unset, .unset, .unset]) rfl q_) ?_
    show own_Gl _ _ _ _ (T53.setTop (mkF m 18 #[.val (.int k), .val (.int (3 : Int32)), .val (.ref oLE), .val (.int (1 : Int32)), .unset, .unset, .unset, .unset, .unset, .unset] []))
    refine own_back (fun t_ q_ => XS.aloadN X53.here hx rfl (hb hby at_18) rfl rfl q_) ?_
    show own_Gl _ _ _ _ (T53.setTop (mkF m 19 #[.val (.int k), .val (.int (3 : Int32)), .val (.ref oLE), .val (.int (1 : Int32)), .unset, .unset, .unset, .unset, .unset, .unset] [(.ref oLE)]))
    obtain ⟨cq54, kq54, q54a, q54b, q54c⟩ := isOf hZ e53 XLE
    obtain ⟨_, _, ⟨T54, L54, k54, n54⟩, -, X54, ⟨Lc54, hQ54, l54, y54, z54⟩, st54⟩ := X53.virtualBack hx (y := (⟨"com/example/valenciennes/valenciennes/model/Operator", "symbol", "()Ljava/lang/String;"⟩ : MethodName)) (z := (⟨"com/example/valenciennes/valenciennes/model/Operator", "symbol", "()Ljava/lang/String;"⟩ : MethodName)) hown (mvT hZ (hw _ (List.mem_of_getElem? (i := 14) rfl))) (mvT hZ (hw _ (List.mem_of_getElem? (i := 15) rfl))) (notFace_of_selects (args := #[]) (mvT hZ (hw _ (List.mem_of_getElem? (i := 17) rfl)))) (mvT hZ (hw _ (List.mem_of_getElem? (i := 17) rfl))) (mvT hZ (hw _ (List.mem_of_getElem? (i := 16) rfl))) (by decide) (backOf (W := 0) (rm3 l Z a0 hw [] oLE h0 n0 Z0 tLE YLE) hZ (hw _ (List.mem_of_getElem? (i := 18) rfl)) (hw _ (List.mem_of_getElem? (i := 6) rfl)) (by decide) (by decide)) q54a q54c (g := (mkF m 19 #[.val (.int k), .val (.int (3 : Int32)), .val (.ref oLE), .val (.int (1 : Int32)), .unset, .unset, .unset, .unset, .unset, .unset] [(.ref oLE)])) rfl (by rw [hml]; rfl) (Steps.refl _) (argsL := []) (rest := []) (lenOf pd_6 rfl) rfl (by show 2 * 0 + _ ≤ _; exact Nat.le_of_eq rfl) (hb hby at_19) (fun _ _ => ⟨rfl, e53, (by decide : 0 + 0 ≤ _), (by decide : 0 + 0 ≤ _)⟩)
    dsimp only [Pt.U, Pt.locs, Pt.cells, Pt.slots] at X54 l54 y54 z54 st54 hQ54
    subst l54 y54 z54
    obtain ⟨rfl, M54, e54⟩ := hQ54
    have N54 := Fr.app N53 M54
    refine own_trans st54 ?_
    show own_Gl _ _ _ _ (T54.setTop (mkF m 22 #[.val (.int k), .val (.int (3 : Int32)), .val (.ref oLE), .val (.int (1 : Int32)), .unset, .unset, .unset, .unset, .unset, .unset] [(.ref tLE)]))
    refine own_back (fun t_ q_ => XS.astore X54.here hx rfl (hb hby at_22) rfl rfl (l' := #[.val (.int k), .val (.int (3 : Int32)), .val (.ref oLE), .val (.int (1 : Int32)), .val (.ref tLE), .unset, .unset, .unset, .unset, .unset]) rfl q_) ?_
    show own_Gl _ _ _ _ (T54.setTop (mkF m 24 #[.val (.int k), .val (.int (3 : Int32)), .val (.ref oLE), .val (.int (1 : Int32)), .val (.ref tLE), .unset, .unset, .unset, .unset, .unset] []))
    refine own_back (fun t_ q_ => XS.aload X54.here hx rfl (hb hby at_24) rfl rfl q_) ?_
    show own_Gl _ _ _ _ (T54.setTop (mkF m 26 #[.val (.int k), .val (.int (3 : Int32)), .val (.ref oLE), .val (.int (1 : Int32)), .val (.ref tLE), .unset, .unset, .unset, .unset, .unset] [(.ref tLE)]))
    refine own_back (fun t_ q_ => XS.iconst X54.here hx rfl (hb hby at_26) q_) ?_
    show own_Gl _ _ _ _ (T54.setTop (mkF m 27 #[.val (.int k), .val (.int (3 : Int32)), .val (.ref oLE), .val (.int (1 : Int32)), .val (.ref tLE), .unset, .unset, .unset, .unset, .unset] [(.int (0 : Int32)), (.ref tLE)]))
    obtain ⟨cq55, kq55, q55a, q55b, q55c⟩ := isOf hZ e54 BLE.1
    obtain ⟨_, _, ⟨T55, L55, k55, n55⟩, -, X55, ⟨Lc55, hQ55, l55, y55, z55⟩, st55⟩ := X54.virtualBack hx (y := (⟨"java/lang/String", "charAt", "(I)C"⟩ : MethodName)) (z := (⟨"java/lang/String", "charAt", "(I)C"⟩ : MethodName)) hown (mvT hZ (hw _ (List.mem_of_getElem? (i := 21) rfl))) (mvT hZ (hw _ (List.mem_of_getElem? (i := 22) rfl))) (notFace_of_selects (args := #[]) (mvT hZ (hw _ (List.mem_of_getElem? (i := 24) rfl)))) (mvT hZ (hw _ (List.mem_of_getElem? (i := 24) rfl))) (mvT hZ (hw _ (List.mem_of_getElem? (i := 23) rfl))) (by decide) (backOf (W := 0) (rm4 l Z a0 hw [] tLE 0 h0 n0 Z0 60 rfl K BLE) hZ (hw _ (List.mem_of_getElem? (i := 26) rfl)) (hw _ (List.mem_of_getElem? (i := 25) rfl)) (by decide) (by decide)) q55a q55c (g := (mkF m 27 #[.val (.int k), .val (.int (3 : Int32)), .val (.ref oLE), .val (.int (1 : Int32)), .val (.ref tLE), .unset, .unset, .unset, .unset, .unset] [(.int (0 : Int32)), (.ref tLE)])) rfl (by rw [hml]; rfl) (Steps.refl _) (argsL := [(.int (0 : Int32))]) (rest := []) (lenOf pd_7 rfl) rfl (by show 2 * 0 + _ ≤ _; exact Nat.le_of_eq rfl) (hb hby at_27) (fun _ _ => ⟨rfl, e54, (by decide : 0 + 0 ≤ _), (by decide : 0 + 0 ≤ _)⟩)
    dsimp only [Pt.U, Pt.locs, Pt.cells, Pt.slots] at X55 l55 y55 z55 st55 hQ55
    subst l55 y55 z55
    obtain ⟨rfl, M55, e55⟩ := hQ55
    have N55 := Fr.app N54 M55
    refine own_trans st55 ?_
    show own_Gl _ _ _ _ (T55.setTop (mkF m 30 #[.val (.int k), .val (.int (3 : Int32)), .val (.ref oLE), .val (.int (1 : Int32)), .val (.ref tLE), .unset, .unset, .unset, .unset, .unset] [(.int (nar .char (own_c 60)))]))
    rw [show nar .char (own_c 60) = 60 by decide]
    show own_Gl _ _ _ _ (T55.setTop (mkF m 30 #[.val (.int k), .val (.int (3 : Int32)), .val (.ref oLE), .val (.int (1 : Int32)), .val (.ref tLE), .unset, .unset, .unset, .unset, .unset] [(.int (60 : Int32))]))
    refine own_back (fun t_ q_ => XS.istore X55.here hx rfl (hb hby at_30) rfl (l' := #[.val (.int k), .val (.int (3 : Int32)), .val (.ref oLE), .val (.int (1 : Int32)), .val (.ref tLE), .val (.int (60 : Int32)), .unset, .unset, .unset, .unset]) rfl q_) ?_
    show own_Gl _ _ _ _ (T55.setTop (mkF m 32 #[.val (.int k), .val (.int (3 : Int32)), .val (.ref oLE), .val (.int (1 : Int32)), .val (.ref tLE), .val (.int (60 : Int32)), .unset, .unset, .unset, .unset] []))
    refine own_back (fun t_ q_ => XS.iload X55.here hx rfl (hb hby at_32) rfl q_) ?_
    show own_Gl _ _ _ _ (T55.setTop (mkF m 34 #[.val (.int k), .val (.int (3 : Int32)), .val (.ref oLE), .val (.int (1 : Int32)), .val (.ref tLE), .val (.int (60 : Int32)), .unset, .unset, .unset, .unset] [(.int (60 : Int32))]))
    refine own_back (fun t_ q_ => XS.bipush X55.here hx rfl (hb hby at_34) q_) ?_
    show own_Gl _ _ _ _ (T55.setTop (mkF m 36 #[.val (.int k), .val (.int (3 : Int32)), .val (.ref oLE), .val (.int (1 : Int32)), .val (.ref tLE), .val (.int (60 : Int32)), .unset, .unset, .unset, .unset] [(.int (60 : Int32)), (.int (60 : Int32))]))
    refine own_back (fun t_ q_ => XS.icmpYes X55.here hx rfl (pc0 := 36) (pc' := 46) rfl (hb hby at_36) rfl (teq (by decide : (60 : Int32) = (60 : Int32))).1 (by decide) (by decide) q_) ?_
    show own_Gl _ _ _ _ (T55.setTop (mkF m 46 #[.val (.int k), .val (.int (3 : Int32)), .val (.ref oLE), .val (.int (1 : Int32)), .val (.ref tLE), .val (.int (60 : Int32)), .unset, .unset, .unset, .unset] []))
    refine own_back (fun t_ q_ => XS.iconst X55.here hx rfl (hb hby at_46) q_) ?_
    show own_Gl _ _ _ _ (T55.setTop (mkF m 47 #[.val (.int k), .val (.int (3 : Int32)), .val (.ref oLE), .val (.int (1 : Int32)), .val (.ref tLE), .val (.int (60 : Int32)), .unset, .unset, .unset, .unset] [(.int (1 : Int32))]))
    refine own_back (fun t_ q_ => XS.goto X55.here hx rfl (pc0 := 47) (pc' := 51) rfl (hb hby at_47) (by decide) (by decide) q_) ?_
    show own_Gl _ _ _ _ (T55.setTop (mkF m 51 #[.val (.int k), .val (.int (3 : Int32)), .val (.ref oLE), .val (.int (1 : Int32)), .val (.ref tLE), .val (.int (60 : Int32)), .unset, .unset, .unset, .unset] [(.int (1 : Int32))]))
    refine own_back (fun t_ q_ => XS.istore X55.here hx rfl (hb hby at_51) rfl (l' := #[.val (.int k), .val (.int (3 : Int32)), .val (.ref oLE), .val (.int (1 : Int32)), .val (.ref tLE), .val (.int (60 : Int32)), .val (.int (1 : Int32)), .unset, .unset, .unset]) rfl q_) ?_
    show own_Gl _ _ _ _ (T55.setTop (mkF m 53 #[.val (.int k), .val (.int (3 : Int32)), .val (.ref oLE), .val (.int (1 : Int32)), .val (.ref tLE), .val (.int (60 : Int32)), .val (.int (1 : Int32)), .unset, .unset, .unset] []))
    refine own_back (fun t_ q_ => XS.iloadN X55.here hx rfl (hb hby at_53) rfl q_) ?_
    show own_Gl _ _ _ _ (T55.setTop (mkF m 54 #[.val (.int k), .val (.int (3 : Int32)), .val (.ref oLE), .val (.int (1 : Int32)), .val (.ref tLE), .val (.int (60 : Int32)), .val (.int (1 : Int32)), .unset, .unset, .unset] [(.int (3 : Int32))]))
    refine own_back (fun t_ q_ => XS.iconst X55.here hx rfl (hb hby at_54) q_) ?_
    show own_Gl _ _ _ _ (T55.setTop (mkF m 55 #[.val (.int k), .val (.int (3 : Int32)), .val (.ref oLE), .val (.int (1 : Int32)), .val (.ref tLE), .val (.int (60 : Int32)), .val (.int (1 : Int32)), .unset, .unset, .unset] [(.int (2 : Int32)), (.int (3 : Int32))]))
    refine own_back (fun t_ q_ => XS.icmpNo X55.here hx rfl (hb hby at_55) rfl (flt (by decide : ¬ ((3 : Int32) < (2 : Int32)))).1 q_) ?_
    show own_Gl _ _ _ _ (T55.setTop (mkF m 58 #[.val (.int k), .val (.int (3 : Int32)), .val (.ref oLE), .val (.int (1 : Int32)), .val (.ref tLE), .val (.int (60 : Int32)), .val (.int (1 : Int32)), .unset, .unset, .unset] []))
    refine own_back (fun t_ q_ => XS.iconst X55.here hx rfl (hb hby at_58) q_) ?_
    show own_Gl _ _ _ _ (T55.setTop (mkF m 59 #[.val (.int k), .val (.int (3 : Int32)), .val (.ref oLE), .val (.int (1 : Int32)), .val (.ref tLE), .val (.int (60 : Int32)), .val (.int (1 : Int32)), .unset, .unset, .unset] [(.int (1 : Int32))]))
    refine own_back (fun t_ q_ => XS.goto X55.here hx rfl (pc0 := 59) (pc' := 63) rfl (hb hby at_59) (by decide) (by decide) q_) ?_
    show own_Gl _ _ _ _ (T55.setTop (mkF m 63 #[.val (.int k), .val (.int (3 : Int32)), .val (.ref oLE), .val (.int (1 : Int32)), .val (.ref tLE), .val (.int (60 : Int32)), .val (.int (1 : Int32)), .unset, .unset, .unset] [(.int (1 : Int32))]))
    refine own_back (fun t_ q_ => XS.istore X55.here hx rfl (hb hby at_63) rfl (l' := #[.val (.int k), .val (.int (3 : Int32)), .val (.ref oLE), .val (.int (1 : Int32)), .val (.ref tLE), .val (.int (60 : Int32)), .val (.int (1 : Int32)), .val (.int (1 : Int32)), .unset, .unset]) rfl q_) ?_
    show own_Gl _ _ _ _ (T55.setTop (mkF m 65 #[.val (.int k), .val (.int (3 : Int32)), .val (.ref oLE), .val (.int (1 : Int32)), .val (.ref tLE), .val (.int (60 : Int32)), .val (.int (1 : Int32)), .val (.int (1 : Int32)), .unset, .unset] []))
    refine own_back (fun t_ q_ => XS.aloadN X55.here hx rfl (hb hby at_65) rfl rfl q_) ?_
    show own_Gl _ _ _ _ (T55.setTop (mkF m 66 #[.val (.int k), .val (.int (3 : Int32)), .val (.ref oLE), .val (.int (1 : Int32)), .val (.ref tLE), .val (.int (60 : Int32)), .val (.int (1 : Int32)), .val (.int (1 : Int32)), .unset, .unset] [(.ref oLE)]))
    obtain ⟨cq56, kq56, q56a, q56b, q56c⟩ := isOf hZ e55 XLE
    obtain ⟨_, _, ⟨T56, L56, k56, n56⟩, -, X56, ⟨Lc56, hQ56, l56, y56, z56⟩, st56⟩ := X55.virtualBack hx (y := (⟨"com/example/valenciennes/valenciennes/model/Operator", "negated", "()Lcom/example/valenciennes/valenciennes/model/Operator;"⟩ : MethodName)) (z := (⟨"com/example/valenciennes/valenciennes/model/Operator", "negated", "()Lcom/example/valenciennes/valenciennes/model/Operator;"⟩ : MethodName)) hown (mvT hZ (hw _ (List.mem_of_getElem? (i := 49) rfl))) (mvT hZ (hw _ (List.mem_of_getElem? (i := 50) rfl))) (notFace_of_selects (args := #[]) (mvT hZ (hw _ (List.mem_of_getElem? (i := 52) rfl)))) (mvT hZ (hw _ (List.mem_of_getElem? (i := 52) rfl))) (mvT hZ (hw _ (List.mem_of_getElem? (i := 51) rfl))) (by decide) (backOf (W := 0) (rm9 l Z a0 hw [] oLE h0 n0 Z0 3 oEQ oNE oLT oLE oGT oGE SEQ SNE SLT SLE SGT SGE XLE OLE (by decide)) hZ (hw _ (List.mem_of_getElem? (i := 53) rfl)) (hw _ (List.mem_of_getElem? (i := 6) rfl)) (by decide) (by decide)) q56a q56c (g := (mkF m 66 #[.val (.int k), .val (.int (3 : Int32)), .val (.ref oLE), .val (.int (1 : Int32)), .val (.ref tLE), .val (.int (60 : Int32)), .val (.int (1 : Int32)), .val (.int (1 : Int32)), .unset, .unset] [(.ref oLE)])) rfl (by rw [hml]; rfl) (Steps.refl _) (argsL := []) (rest := []) (lenOf pd_8 rfl) rfl (by show 2 * 0 + _ ≤ _; exact Nat.le_of_eq rfl) (hb hby at_66) (fun _ _ => ⟨rfl, e55, (by decide : 0 + 0 ≤ _), (by decide : 0 + 0 ≤ _)⟩)
    dsimp only [Pt.U, Pt.locs, Pt.cells, Pt.slots] at X56 l56 y56 z56 st56 hQ56
    subst l56 y56 z56
    obtain ⟨rfl, M56, e56⟩ := hQ56
    have N56 := Fr.app N55 M56
    refine own_trans st56 ?_
    show own_Gl _ _ _ _ (T56.setTop (mkF m 69 #[.val (.int k), .val (.int (3 : Int32)), .val (.ref oLE), .val (.int (1 : Int32)), .val (.ref tLE), .val (.int (60 : Int32)), .val (.int (1 : Int32)), .val (.int (1 : Int32)), .unset, .unset] [(.ref (own_sel 3 oNE oEQ oGE oGT oLE oLT))]))
    show own_Gl _ _ _ _ (T56.setTop (mkF m 69 #[.val (.int k), .val (.int (3 : Int32)), .val (.ref oLE), .val (.int (1 : Int32)), .val (.ref tLE), .val (.int (60 : Int32)), .val (.int (1 : Int32)), .val (.int (1 : Int32)), .unset, .unset] [(.ref oGT)]))
    obtain ⟨cq57, kq57, q57a, q57b, q57c⟩ := isOf hZ e56 XGT
    obtain ⟨_, _, ⟨T57, L57, k57, n57⟩, -, X57, ⟨Lc57, hQ57, l57, y57, z57⟩, st57⟩ := X56.virtualBack hx (y := (⟨"com/example/valenciennes/valenciennes/model/Operator", "isOrdering", "()Z"⟩ : MethodName)) (z := (⟨"com/example/valenciennes/valenciennes/model/Operator", "isOrdering", "()Z"⟩ : MethodName)) hown (mvT hZ (hw _ (List.mem_of_getElem? (i := 8) rfl))) (mvT hZ (hw _ (List.mem_of_getElem? (i := 9) rfl))) (notFace_of_selects (args := #[]) (mvT hZ (hw _ (List.mem_of_getElem? (i := 11) rfl)))) (mvT hZ (hw _ (List.mem_of_getElem? (i := 11) rfl))) (mvT hZ (hw _ (List.mem_of_getElem? (i := 10) rfl))) (by decide) (backOf (W := 0) (rm2 l Z a0 hw [] oGT h0 n0 Z0 oEQ oNE SEQ SNE) hZ (hw _ (List.mem_of_getElem? (i := 12) rfl)) (hw _ (List.mem_of_getElem? (i := 6) rfl)) (by decide) (by decide)) q57a q57c (g := (mkF m 69 #[.val (.int k), .val (.int (3 : Int32)), .val (.ref oLE), .val (.int (1 : Int32)), .val (.ref tLE), .val (.int (60 : Int32)), .val (.int (1 : Int32)), .val (.int (1 : Int32)), .unset, .unset] [(.ref oGT)])) rfl (by rw [hml]; rfl) (Steps.refl _) (argsL := []) (rest := []) (lenOf pd_2 rfl) rfl (by show 2 * 0 + _ ≤ _; exact Nat.le_of_eq rfl) (hb hby at_69) (fun _ _ => ⟨rfl, e56, (by decide : 0 + 0 ≤ _), (by decide : 0 + 0 ≤ _)⟩)
    dsimp only [Pt.U, Pt.locs, Pt.cells, Pt.slots] at X57 l57 y57 z57 st57 hQ57
    subst l57 y57 z57
    obtain ⟨rfl, M57, e57⟩ := hQ57
    have N57 := Fr.app N56 M57
    refine own_trans st57 ?_
    show own_Gl _ _ _ _ (T57.setTop (mkF m 72 #[.val (.int k), .val (.int (3 : Int32)), .val (.ref oLE), .val (.int (1 : Int32)), .val (.ref tLE), .val (.int (60 : Int32)), .val (.int (1 : Int32)), .val (.int (1 : Int32)), .unset, .unset] [(.int (if oGT = oEQ ∨ oGT = oNE then (0 : Int32) else 1))]))
    rw [if_neg (fun q => q.elim dGTEQ dGTNE)]
    show own_Gl _ _ _ _ (T57.setTop (mkF m 72 #[.val (.int k), .val (.int (3 : Int32)), .val (.ref oLE), .val (.int (1 : Int32)), .val (.ref tLE), .val (.int (60 : Int32)), .val (.int (1 : Int32)), .val (.int (1 : Int32)), .unset, .unset] [(.int (1 : Int32))]))
    refine own_back (fun t_ q_ => XS.iloadN X57.here hx rfl (hb hby at_72) rfl q_) ?_
    show own_Gl _ _ _ _ (T57.setTop (mkF m 73 #[.val (.int k), .val (.int (3 : Int32)), .val (.ref oLE), .val (.int (1 : Int32)), .val (.ref tLE), .val (.int (60 : Int32)), .val (.int (1 : Int32)), .val (.int (1 : Int32)), .unset, .unset] [(.int (1 : Int32)), (.int (1 : Int32))]))
    refine own_back (fun t_ q_ => XS.icmpNo X57.here hx rfl (hb hby at_73) rfl (teq (rfl : (1 : Int32) = (1 : Int32))).2 q_) ?_
    show own_Gl _ _ _ _ (T57.setTop (mkF m 76 #[.val (.int k), .val (.int (3 : Int32)), .val (.ref oLE), .val (.int (1 : Int32)), .val (.ref tLE), .val (.int (60 : Int32)), .val (.int (1 : Int32)), .val (.int (1 : Int32)), .unset, .unset] []))
    refine own_back (fun t_ q_ => XS.iconst X57.here hx rfl (hb hby at_76) q_) ?_
    show own_Gl _ _ _ _ (T57.setTop (mkF m 77 #[.val (.int k), .val (.int (3 : Int32)), .val (.ref oLE), .val (.int (1 : Int32)), .val (.ref tLE), .val (.int (60 : Int32)), .val (.int (1 : Int32)), .val (.int (1 : Int32)), .unset, .unset] [(.int (1 : Int32))]))
    refine own_back (fun t_ q_ => XS.goto X57.here hx rfl (pc0 := 77) (pc' := 81) rfl (hb hby at_77) (by decide) (by decide) q_) ?_
    show own_Gl _ _ _ _ (T57.setTop (mkF m 81 #[.val (.int k), .val (.int (3 : Int32)), .val (.ref oLE), .val (.int (1 : Int32)), .val (.ref tLE), .val (.int (60 : Int32)), .val (.int (1 : Int32)), .val (.int (1 : Int32)), .unset, .unset] [(.int (1 : Int32))]))
    refine own_back (fun t_ q_ => XS.istore X57.here hx rfl (hb hby at_81) rfl (l' := #[.val (.int k), .val (.int (3 : Int32)), .val (.ref oLE), .val (.int (1 : Int32)), .val (.ref tLE), .val (.int (60 : Int32)), .val (.int (1 : Int32)), .val (.int (1 : Int32)), .val (.int (1 : Int32)), .unset]) rfl q_) ?_
    show own_Gl _ _ _ _ (T57.setTop (mkF m 83 #[.val (.int k), .val (.int (3 : Int32)), .val (.ref oLE), .val (.int (1 : Int32)), .val (.ref tLE), .val (.int (60 : Int32)), .val (.int (1 : Int32)), .val (.int (1 : Int32)), .val (.int (1 : Int32)), .unset] []))
    refine own_back (fun t_ q_ => XS.aloadN X57.here hx rfl (hb hby at_83) rfl rfl q_) ?_
    show own_Gl _ _ _ _ (T57.setTop (mkF m 84 #[.val (.int k), .val (.int (3 : Int32)), .val (.ref oLE), .val (.int (1 : Int32)), .val (.ref tLE), .val (.int (60 : Int32)), .val (.int (1 : Int32)), .val (.int (1 : Int32)), .val (.int (1 : Int32)), .unset] [(.ref oLE)]))
    obtain ⟨cq58, kq58, q58a, q58b, q58c⟩ := isOf hZ e57 XLE
    obtain ⟨_, _, ⟨T58, L58, k58, n58⟩, -, X58, ⟨Lc58, hQ58, l58, y58, z58⟩, st58⟩ := X57.virtualBack hx (y := (⟨"com/example/valenciennes/valenciennes/model/Operator", "mirrored", "()Lcom/example/valenciennes/valenciennes/model/Operator;"⟩ : MethodName)) (z := (⟨"com/example/valenciennes/valenciennes/model/Operator", "mirrored", "()Lcom/example/valenciennes/valenciennes/model/Operator;"⟩ : MethodName)) hown (mvT hZ (hw _ (List.mem_of_getElem? (i := 65) rfl))) (mvT hZ (hw _ (List.mem_of_getElem? (i := 66) rfl))) (notFace_of_selects (args := #[]) (mvT hZ (hw _ (List.mem_of_getElem? (i := 68) rfl)))) (mvT hZ (hw _ (List.mem_of_getElem? (i := 68) rfl))) (mvT hZ (hw _ (List.mem_of_getElem? (i := 67) rfl))) (by decide) (backOf (W := 0) (rm11 l Z a0 hw [] oLE h0 n0 Z0 3 oEQ oNE oLT oLE oGT oGE SEQ SNE SLT SLE SGT SGE XLE OLE (by decide)) hZ (hw _ (List.mem_of_getElem? (i := 69) rfl)) (hw _ (List.mem_of_getElem? (i := 6) rfl)) (by decide) (by decide)) q58a q58c (g := (mkF m 84 #[.val (.int k), .val (.int (3 : Int32)), .val (.ref oLE), .val (.int (1 : Int32)), .val (.ref tLE), .val (.int (60 : Int32)), .val (.int (1 : Int32)), .val (.int (1 : Int32)), .val (.int (1 : Int32)), .unset] [(.ref oLE)])) rfl (by rw [hml]; rfl) (Steps.refl _) (argsL := []) (rest := []) (lenOf pd_8 rfl) rfl (by show 2 * 0 + _ ≤ _; exact Nat.le_of_eq rfl) (hb hby at_84) (fun _ _ => ⟨rfl, e57, (by decide : 0 + 0 ≤ _), (by decide : 0 + 0 ≤ _)⟩)
    dsimp only [Pt.U, Pt.locs, Pt.cells, Pt.slots] at X58 l58 y58 z58 st58 hQ58
    subst l58 y58 z58
    obtain ⟨rfl, M58, e58⟩ := hQ58
    have N58 := Fr.app N57 M58
    refine own_trans st58 ?_
    show own_Gl _ _ _ _ (T58.setTop (mkF m 87 #[.val (.int k), .val (.int (3 : Int32)), .val (.ref oLE), .val (.int (1 : Int32)), .val (.ref tLE), .val (.int (60 : Int32)), .val (.int (1 : Int32)), .val (.int (1 : Int32)), .val (.int (1 : Int32)), .unset] [(.ref (own_sel 3 oLE oLE oGT oGE oLT oLE))]))
    show own_Gl _ _ _ _ (T58.setTop (mkF m 87 #[.val (.int k), .val (.int (3 : Int32)), .val (.ref oLE), .val (.int (1 : Int32)), .val (.ref tLE), .val (.int (60 : Int32)), .val (.int (1 : Int32)), .val (.int (1 : Int32)), .val (.int (1 : Int32)), .unset] [(.ref oGE)]))
    refine own_back (fun t_ q_ => XS.aloadN X58.here hx rfl (hb hby at_87) rfl rfl q_) ?_
    show own_Gl _ _ _ _ (T58.setTop (mkF m 88 #[.val (.int k), .val (.int (3 : Int32)), .val (.ref oLE), .val (.int (1 : Int32)), .val (.ref tLE), .val (.int (60 : Int32)), .val (.int (1 : Int32)), .val (.int (1 : Int32)), .val (.int (1 : Int32)), .unset] [(.ref oLE), (.ref oGE)]))
    refine own_back (fun t_ q_ => Jvm.RoadKit.acmp (g := (mkF m 88 #[.val (.int k), .val (.int (3 : Int32)), .val (.ref oLE), .val (.int (1 : Int32)), .val (.ref tLE), .val (.int (60 : Int32)), .val (.int (1 : Int32)), .val (.int (1 : Int32)), .val (.int (1 : Int32)), .unset] [(.ref oLE), (.ref oGE)])) X58 hx rfl rfl rfl (pc0 := 88) (pc' := 91) (same := false) rfl (hb hby at_88) rfl (decide_eq_false fun q => (dGELE) (Value.ref.inj q)) (by decide) (by decide) q_) ?_
    show own_Gl _ _ _ _ (T58.setTop (mkF m 91 #[.val (.int k), .val (.int (3 : Int32)), .val (.ref oLE), .val (.int (1 : Int32)), .val (.ref tLE), .val (.int (60 : Int32)), .val (.int (1 : Int32)), .val (.int (1 : Int32)), .val (.int (1 : Int32)), .unset] []))
    refine own_back (fun t_ q_ => XS.iconst X58.here hx rfl (hb hby at_91) q_) ?_
    show own_Gl _ _ _ _ (T58.setTop (mkF m 92 #[.val (.int k), .val (.int (3 : Int32)), .val (.ref oLE), .val (.int (1 : Int32)), .val (.ref tLE), .val (.int (60 : Int32)), .val (.int (1 : Int32)), .val (.int (1 : Int32)), .val (.int (1 : Int32)), .unset] [(.int (1 : Int32))]))
    refine own_back (fun t_ q_ => XS.goto X58.here hx rfl (pc0 := 92) (pc' := 96) rfl (hb hby at_92) (by decide) (by decide) q_) ?_
    show own_Gl _ _ _ _ (T58.setTop (mkF m 96 #[.val (.int k), .val (.int (3 : Int32)), .val (.ref oLE), .val (.int (1 : Int32)), .val (.ref tLE), .val (.int (60 : Int32)), .val (.int (1 : Int32)), .val (.int (1 : Int32)), .val (.int (1 : Int32)), .unset] [(.int (1 : Int32))]))
    refine own_back (fun t_ q_ => XS.iloadN X58.here hx rfl (hb hby at_96) rfl q_) ?_
    show own_Gl _ _ _ _ (T58.setTop (mkF m 97 #[.val (.int k), .val (.int (3 : Int32)), .val (.ref oLE), .val (.int (1 : Int32)), .val (.ref tLE), .val (.int (60 : Int32)), .val (.int (1 : Int32)), .val (.int (1 : Int32)), .val (.int (1 : Int32)), .unset] [(.int (1 : Int32)), (.int (1 : Int32))]))
    refine own_back (fun t_ q_ => XS.icmpNo X58.here hx rfl (hb hby at_97) rfl (teq (rfl : (1 : Int32) = (1 : Int32))).2 q_) ?_
    show own_Gl _ _ _ _ (T58.setTop (mkF m 100 #[.val (.int k), .val (.int (3 : Int32)), .val (.ref oLE), .val (.int (1 : Int32)), .val (.ref tLE), .val (.int (60 : Int32)), .val (.int (1 : Int32)), .val (.int (1 : Int32)), .val (.int (1 : Int32)), .unset] []))
    refine own_back (fun t_ q_ => XS.iconst X58.here hx rfl (hb hby at_100) q_) ?_
    show own_Gl _ _ _ _ (T58.setTop (mkF m 101 #[.val (.int k), .val (.int (3 : Int32)), .val (.ref oLE), .val (.int (1 : Int32)), .val (.ref tLE), .val (.int (60 : Int32)), .val (.int (1 : Int32)), .val (.int (1 : Int32)), .val (.int (1 : Int32)), .unset] [(.int (1 : Int32))]))
    refine own_back (fun t_ q_ => XS.goto X58.here hx rfl (pc0 := 101) (pc' := 105) rfl (hb hby at_101) (by decide) (by decide) q_) ?_
    show own_Gl _ _ _ _ (T58.setTop (mkF m 105 #[.val (.int k), .val (.int (3 : Int32)), .val (.ref oLE), .val (.int (1 : Int32)), .val (.ref tLE), .val (.int (60 : Int32)), .val (.int (1 : Int32)), .val (.int (1 : Int32)), .val (.int (1 : Int32)), .unset] [(.int (1 : Int32))]))
    refine own_back (fun t_ q_ => XS.istore X58.here hx rfl (hb hby at_105) rfl (l' := #[.val (.int k), .val (.int (3 : Int32)), .val (.ref oLE), .val (.int (1 : Int32)), .val (.ref tLE), .val (.int (60 : Int32)), .val (.int (1 : Int32)), .val (.int (1 : Int32)), .val (.int (1 : Int32)), .val (.int (1 : Int32))]) rfl q_) ?_
    show own_Gl _ _ _ _ (T58.setTop (mkF m 107 #[.val (.int k), .val (.int (3 : Int32)), .val (.ref oLE), .val (.int (1 : Int32)), .val (.ref tLE), .val (.int (60 : Int32)), .val (.int (1 : Int32)), .val (.int (1 : Int32)), .val (.int (1 : Int32)), .val (.int (1 : Int32))] []))
    refine own_back (fun t_ q_ => XS.iloadN X58.here hx rfl (hb hby at_107) rfl q_) ?_
    show own_Gl _ _ _ _ (T58.setTop (mkF m 108 #[.val (.int k), .val (.int (3 : Int32)), .val (.ref oLE), .val (.int (1 : Int32)), .val (.ref tLE), .val (.int (60 : Int32)), .val (.int (1 : Int32)), .val (.int (1 : Int32)), .val (.int (1 : Int32)), .val (.int (1 : Int32))] [(.int (1 : Int32))]))
    refine own_back (fun t_ q_ => XS.iload X58.here hx rfl (hb hby at_108) rfl q_) ?_
    show own_Gl _ _ _ _ (T58.setTop (mkF m 110 #[.val (.int k), .val (.int (3 : Int32)), .val (.ref oLE), .val (.int (1 : Int32)), .val (.ref tLE), .val (.int (60 : Int32)), .val (.int (1 : Int32)), .val (.int (1 : Int32)), .val (.int (1 : Int32)), .val (.int (1 : Int32))] [(.int (1 : Int32)), (.int (1 : Int32))]))
    refine own_back (fun t_ q_ => XS.icmpNo X58.here hx rfl (hb hby at_110) rfl (teq (rfl : (1 : Int32) = (1 : Int32))).2 q_) ?_
    show own_Gl _ _ _ _ (T58.setTop (mkF m 113 #[.val (.int k), .val (.int (3 : Int32)), .val (.ref oLE), .val (.int (1 : Int32)), .val (.ref tLE), .val (.int (60 : Int32)), .val (.int (1 : Int32)), .val (.int (1 : Int32)), .val (.int (1 : Int32)), .val (.int (1 : Int32))] []))
    refine own_back (fun t_ q_ => XS.iloadN X58.here hx rfl (hb hby at_113) rfl q_) ?_
    show own_Gl _ _ _ _ (T58.setTop (mkF m 114 #[.val (.int k), .val (.int (3 : Int32)), .val (.ref oLE), .val (.int (1 : Int32)), .val (.ref tLE), .val (.int (60 : Int32)), .val (.int (1 : Int32)), .val (.int (1 : Int32)), .val (.int (1 : Int32)), .val (.int (1 : Int32))] [(.int (1 : Int32))]))
    refine own_back (fun t_ q_ => XS.iload X58.here hx rfl (hb hby at_114) rfl q_) ?_
    show own_Gl _ _ _ _ (T58.setTop (mkF m 116 #[.val (.int k), .val (.int (3 : Int32)), .val (.ref oLE), .val (.int (1 : Int32)), .val (.ref tLE), .val (.int (60 : Int32)), .val (.int (1 : Int32)), .val (.int (1 : Int32)), .val (.int (1 : Int32)), .val (.int (1 : Int32))] [(.int (1 : Int32)), (.int (1 : Int32))]))
    refine own_back (fun t_ q_ => XS.icmpNo X58.here hx rfl (hb hby at_116) rfl (teq (rfl : (1 : Int32) = (1 : Int32))).2 q_) ?_
    show own_Gl _ _ _ _ (T58.setTop (mkF m 119 #[.val (.int k), .val (.int (3 : Int32)), .val (.ref oLE), .val (.int (1 : Int32)), .val (.ref tLE), .val (.int (60 : Int32)), .val (.int (1 : Int32)), .val (.int (1 : Int32)), .val (.int (1 : Int32)), .val (.int (1 : Int32))] []))
    refine own_back (fun t_ q_ => XS.iload X58.here hx rfl (hb hby at_119) rfl q_) ?_
    show own_Gl _ _ _ _ (T58.setTop (mkF m 121 #[.val (.int k), .val (.int (3 : Int32)), .val (.ref oLE), .val (.int (1 : Int32)), .val (.ref tLE), .val (.int (60 : Int32)), .val (.int (1 : Int32)), .val (.int (1 : Int32)), .val (.int (1 : Int32)), .val (.int (1 : Int32))] [(.int (1 : Int32))]))
    refine own_back (fun t_ q_ => XS.ifNo X58.here hx rfl (hb hby at_121) rfl ((if0 _ _).trans (feq (by decide : ¬ ((1 : Int32) = (0 : Int32)))).1) q_) ?_
    show own_Gl _ _ _ _ (T58.setTop (mkF m 124 #[.val (.int k), .val (.int (3 : Int32)), .val (.ref oLE), .val (.int (1 : Int32)), .val (.ref tLE), .val (.int (60 : Int32)), .val (.int (1 : Int32)), .val (.int (1 : Int32)), .val (.int (1 : Int32)), .val (.int (1 : Int32))] []))
    refine own_back (fun t_ q_ => XS.iload X58.here hx rfl (hb hby at_124) rfl q_) ?_
    show own_Gl _ _ _ _ (T58.setTop (mkF m 126 #[.val (.int k), .val (.int (3 : Int32)), .val (.ref oLE), .val (.int (1 : Int32)), .val (.ref tLE), .val (.int (60 : Int32)), .val (.int (1 : Int32)), .val (.int (1 : Int32)), .val (.int (1 : Int32)), .val (.int (1 : Int32))] [(.int (1 : Int32))]))
    refine own_back (fun t_ q_ => XS.ifNo X58.here hx rfl (hb hby at_126) rfl ((if0 _ _).trans (feq (by decide : ¬ ((1 : Int32) = (0 : Int32)))).1) q_) ?_
    show own_Gl _ _ _ _ (T58.setTop (mkF m 129 #[.val (.int k), .val (.int (3 : Int32)), .val (.ref oLE), .val (.int (1 : Int32)), .val (.ref tLE), .val (.int (60 : Int32)), .val (.int (1 : Int32)), .val (.int (1 : Int32)), .val (.int (1 : Int32)), .val (.int (1 : Int32))] []))
    refine own_back (fun t_ q_ => XS.iconst X58.here hx rfl (hb hby at_129) q_) ?_
    show own_Gl _ _ _ _ (T58.setTop (mkF m 130 #[.val (.int k), .val (.int (3 : Int32)), .val (.ref oLE), .val (.int (1 : Int32)), .val (.ref tLE), .val (.int (60 : Int32)), .val (.int (1 : Int32)), .val (.int (1 : Int32)), .val (.int (1 : Int32)), .val (.int (1 : Int32))] [(.int (1 : Int32))]))
    refine own_back (fun t_ q_ => XS.goto X58.here hx rfl (pc0 := 130) (pc' := 134) rfl (hb hby at_130) (by decide) (by decide) q_) ?_
    show own_Gl _ _ _ _ (T58.setTop (mkF m 134 #[.val (.int k), .val (.int (3 : Int32)), .val (.ref oLE), .val (.int (1 : Int32)), .val (.ref tLE), .val (.int (60 : Int32)), .val (.int (1 : Int32)), .val (.int (1 : Int32)), .val (.int (1 : Int32)), .val (.int (1 : Int32))] [(.int (1 : Int32))]))
    exact own_rZ X58 hx hlk Bd.returns (hb hby at_134) (own_one rfl) (by show Qrm0 h0 n0 _ T58.heap _; rw [e58]; exact ⟨rfl, N58⟩) (by decide) (by decide)
  · skip
    show own_Gl _ _ _ _ (s₁.setTop (mkF m 7 #[.val (.int k), .unset, .unset, .unset, .unset, .unset, .unset, .unset, .unset, .unset] [(.int (4 : Int32))]))
    refine own_back (fun t_ q_ => XS.istoreN X0.here hx rfl (hb hby at_7) rfl (l' := #[.val (.int k), .val (.int (4 : Int32)), .unset, .unset, .unset, .unset, .unset, .unset, .unset, .unset]) rfl q_) ?_
    show own_Gl _ _ _ _ (s₁.setTop (mkF m 8 #[.val (.int k), .val (.int (4 : Int32)), .unset, .unset, .unset, .unset, .unset, .unset, .unset, .unset] []))
    refine own_back (fun t_ q_ => XS.iloadN X0.here hx rfl (hb hby at_8) rfl q_) ?_
    show own_Gl _ _ _ _ (s₁.setTop (mkF m 9 #[.val (.int k), .val (.int (4 : Int32)), .unset, .unset, .unset, .unset, .unset, .unset, .unset, .unset] [(.int (4 : Int32))]))
    obtain ⟨_, _, ⟨T59, L59, k59, n59⟩, -, X59, ⟨Lc59, hQ59, l59, y59, z59⟩, st59⟩ := Jvm.LawKit.callS X0 hx (y := (⟨"com/example/valenciennes/valenciennes/model/OperatorIsOrderingPinLaw", "pick", "(I)Lcom/example/valenciennes/valenciennes/model/Operator;"⟩ : MethodName)) hown (mvT hZ (hw _ (List.mem_of_getElem? (i := 1) rfl))) (mvT hZ (hw _ (List.mem_of_getElem? (i := 2) rfl))) (mvT hZ (hw _ (List.mem_of_getElem? (i := 3) rfl))) (mvT hZ (hw _ (List.mem_of_getElem? (i := 4) rfl))) (by decide) (backOf (W := 0) (rm1 l Z a0 hw [] 4 h0 n0 Z0 oEQ oNE oLT oLE oGT oGE SEQ SNE SLT SLE SGT SGE) hZ (hw _ (List.mem_of_getElem? (i := 4) rfl)) (hw _ (List.mem_of_getElem? (i := 3) rfl)) (by decide) (by decide)) (g := (mkF m 9 #[.val (.int k), .val (.int (4 : Int32)), .unset, .unset, .unset, .unset, .unset, .unset, .unset, .unset] [(.int (4 : Int32))])) rfl (by rw [hml]; rfl) (argsL := [(.int (4 : Int32))]) (rest := []) (lenOf pd_5 rfl) rfl (by show 2 * 0 + _ ≤ _; exact Nat.le_of_eq rfl) (hb hby at_9) (fun _ _ => ⟨rfl, e0, (by decide : 0 + 0 ≤ _), (by decide : 0 + 0 ≤ _)⟩)
    dsimp only [Pt.U, Pt.locs, Pt.cells, Pt.slots] at X59 l59 y59 z59 st59 hQ59
    subst l59 y59 z59
    obtain ⟨rfl, M59, e59⟩ := hQ59
    have N59 := Fr.app N0 M59
    refine own_back st59 ?_
    show own_Gl _ _ _ _ (T59.setTop (mkF m 12 #[.val (.int k), .val (.int (4 : Int32)), .unset, .unset, .unset, .unset, .unset, .unset, .unset, .unset] [(.ref (own_sel 4 oEQ oNE oLT oLE oGT oGE))]))
    show own_Gl _ _ _ _ (T59.setTop (mkF m 12 #[.val (.int k), .val (.int (4 : Int32)), .unset, .unset, .unset, .unset, .unset, .unset, .unset, .unset] [(.ref oGT)]))
    refine own_back (fun t_ q_ => XS.astoreN X59.here hx rfl (hb hby at_12) rfl rfl (l' := #[.val (.int k), .val (.int (4 : Int32)), .val (.ref oGT), .unset, .unset, .unset, .unset, .unset, .unset, .unset]) rfl q_) ?_
    show own_Gl _ _ _ _ (T59.setTop (mkF m 13 #[.val (.int k), .val (.int (4 : Int32)), .val (.ref oGT), .unset, .unset, .unset, .unset, .unset, .unset, .unset] []))
    refine own_back (fun t_ q_ => XS.aloadN X59.here hx rfl (hb hby at_13) rfl rfl q_) ?_
    show own_Gl _ _ _ _ (T59.setTop (mkF m 14 #[.val (.int k), .val (.int (4 : Int32)), .val (.ref oGT), .unset, .unset, .unset, .unset, .unset, .unset, .unset] [(.ref oGT)]))
    obtain ⟨cq60, kq60, q60a, q60b, q60c⟩ := isOf hZ e59 XGT
    obtain ⟨_, _, ⟨T60, L60, k60, n60⟩, -, X60, ⟨Lc60, hQ60, l60, y60, z60⟩, st60⟩ := X59.virtualBack hx (y := (⟨"com/example/valenciennes/valenciennes/model/Operator", "isOrdering", "()Z"⟩ : MethodName)) (z := (⟨"com/example/valenciennes/valenciennes/model/Operator", "isOrdering", "()Z"⟩ : MethodName)) hown (mvT hZ (hw _ (List.mem_of_getElem? (i := 8) rfl))) (mvT hZ (hw _ (List.mem_of_getElem? (i := 9) rfl))) (notFace_of_selects (args := #[]) (mvT hZ (hw _ (List.mem_of_getElem? (i := 11) rfl)))) (mvT hZ (hw _ (List.mem_of_getElem? (i := 11) rfl))) (mvT hZ (hw _ (List.mem_of_getElem? (i := 10) rfl))) (by decide) (backOf (W := 0) (rm2 l Z a0 hw [] oGT h0 n0 Z0 oEQ oNE SEQ SNE) hZ (hw _ (List.mem_of_getElem? (i := 12) rfl)) (hw _ (List.mem_of_getElem? (i := 6) rfl)) (by decide) (by decide)) q60a q60c (g := (mkF m 14 #[.val (.int k), .val (.int (4 : Int32)), .val (.ref oGT), .unset, .unset, .unset, .unset, .unset, .unset, .unset] [(.ref oGT)])) rfl (by rw [hml]; rfl) (Steps.refl _) (argsL := []) (rest := []) (lenOf pd_2 rfl) rfl (by show 2 * 0 + _ ≤ _; exact Nat.le_of_eq rfl) (hb hby at_14) (fun _ _ => ⟨rfl, e59, (by decide : 0 + 0 ≤ _), (by decide : 0 + 0 ≤ _)⟩)
    dsimp only [Pt.U, Pt.locs, Pt.cells, Pt.slots] at X60 l60 y60 z60 st60 hQ60
    subst l60 y60 z60
    obtain ⟨rfl, M60, e60⟩ := hQ60
    have N60 := Fr.app N59 M60
    refine own_trans st60 ?_
    show own_Gl _ _ _ _ (T60.setTop (mkF m 17 #[.val (.int k), .val (.int (4 : Int32)), .val (.ref oGT), .unset, .unset, .unset, .unset, .unset, .unset, .unset] [(.int (if oGT = oEQ ∨ oGT = oNE then (0 : Int32) else 1))]))
    rw [if_neg (fun q => q.elim dGTEQ dGTNE)]
    show own_Gl _ _ _ _ (T60.setTop (mkF m 17 #[.val (.int k), .val (.int (4 : Int32)), .val (.ref oGT), .unset, .unset, .unset, .unset, .unset, .unset, .unset] [(.int (1 : Int32))]))
    refine own_back (fun t_ q_ => XS.istoreN X60.here hx rfl (hb hby at_17) rfl (l' := #[.val (.int k), .val (.int (4 : Int32)), .val (.ref oGT), .val (.int (1 : Int32)), .unset, .unset, .unset, .unset, .unset, .unset]) rfl q_) ?_
    show own_Gl _ _ _ _ (T60.setTop (mkF m 18 #[.val (.int k), .val (.int (4 : Int32)), .val (.ref oGT), .val (.int (1 : Int32)), .unset, .unset, .unset, .unset, .unset, .unset] []))
    refine own_back (fun t_ q_ => XS.aloadN X60.here hx rfl (hb hby at_18) rfl rfl q_) ?_
    show own_Gl _ _ _ _ (T60.setTop (mkF m 19 #[.val (.int k), .val (.int (4 : Int32)), .val (.ref oGT), .val (.int (1 : Int32)), .unset, .unset, .unset, .unset, .unset, .unset] [(.ref oGT)]))
    obtain ⟨cq61, kq61, q61a, q61b, q61c⟩ := isOf hZ e60 XGT
    obtain ⟨_, _, ⟨T61, L61, k61, n61⟩, -, X61, ⟨Lc61, hQ61, l61, y61, z61⟩, st61⟩ := X60.virtualBack hx (y := (⟨"com/example/valenciennes/valenciennes/model/Operator", "symbol", "()Ljava/lang/String;"⟩ : MethodName)) (z := (⟨"com/example/valenciennes/valenciennes/model/Operator", "symbol", "()Ljava/lang/String;"⟩ : MethodName)) hown (mvT hZ (hw _ (List.mem_of_getElem? (i := 14) rfl))) (mvT hZ (hw _ (List.mem_of_getElem? (i := 15) rfl))) (notFace_of_selects (args := #[]) (mvT hZ (hw _ (List.mem_of_getElem? (i := 17) rfl)))) (mvT hZ (hw _ (List.mem_of_getElem? (i := 17) rfl))) (mvT hZ (hw _ (List.mem_of_getElem? (i := 16) rfl))) (by decide) (backOf (W := 0) (rm3 l Z a0 hw [] oGT h0 n0 Z0 tGT YGT) hZ (hw _ (List.mem_of_getElem? (i := 18) rfl)) (hw _ (List.mem_of_getElem? (i := 6) rfl)) (by decide) (by decide)) q61a q61c (g := (mkF m 19 #[.val (.int k), .val (.int (4 : Int32)), .val (.ref oGT), .val (.int (1 : Int32)), .unset, .unset, .unset, .unset, .unset, .unset] [(.ref oGT)])) rfl (by rw [hml]; rfl) (Steps.refl _) (argsL := []) (rest := []) (lenOf pd_6 rfl) rfl (by show 2 * 0 + _ ≤ _; exact Nat.le_of_eq rfl) (hb hby at_19) (fun _ _ => ⟨rfl, e60, (by decide : 0 + 0 ≤ _), (by decide : 0 + 0 ≤ _)⟩)
    dsimp only [Pt.U, Pt.locs, Pt.cells, Pt.slots] at X61 l61 y61 z61 st61 hQ61
    subst l61 y61 z61
    obtain ⟨rfl, M61, e61⟩ := hQ61
    have N61 := Fr.app N60 M61
    refine own_trans st61 ?_
    show own_Gl _ _ _ _ (T61.setTop (mkF m 22 #[.val (.int k), .val (.int (4 : Int32)), .val (.ref oGT), .val (.int (1 : Int32)), .unset, .unset, .unset, .unset, .unset, .unset] [(.ref tGT)]))
    refine own_back (fun t_ q_ => XS.astore X61.here hx rfl (hb hby at_22) rfl rfl (l' := #[.val (.int k), .val (.int (4 : Int32)), .val (.ref oGT), .val (.int (1 : Int32)), .val (.ref tGT), .unset, .unset, .unset, .unset, .unset]) rfl q_) ?_
    show own_Gl _ _ _ _ (T61.setTop (mkF m 24 #[.val (.int k), .val (.int (4 : Int32)), .val (.ref oGT), .val (.int (1 : Int32)), .val (.ref tGT), .unset, .unset, .unset, .unset, .unset] []))
    refine own_back (fun t_ q_ => XS.aload X61.here hx rfl (hb hby at_24) rfl rfl q_) ?_
    show own_Gl _ _ _ _ (T61.setTop (mkF m 26 #[.val (.int k), .val (.int (4 : Int32)), .val (.ref oGT), .val (.int (1 : Int32)), .val (.ref tGT), .unset, .unset, .unset, .unset, .unset] [(.ref tGT)]))
    refine own_back (fun t_ q_ => XS.iconst X61.here hx rfl (hb hby at_26) q_) ?_
    show own_Gl _ _ _ _ (T61.setTop (mkF m 27 #[.val (.int k), .val (.int (4 : Int32)), .val (.ref oGT), .val (.int (1 : Int32)), .val (.ref tGT), .unset, .unset, .unset, .unset, .unset] [(.int (0 : Int32)), (.ref tGT)]))
    obtain ⟨cq62, kq62, q62a, q62b, q62c⟩ := isOf hZ e61 BGT.1
    obtain ⟨_, _, ⟨T62, L62, k62, n62⟩, -, X62, ⟨Lc62, hQ62, l62, y62, z62⟩, st62⟩ := X61.virtualBack hx (y := (⟨"java/lang/String", "charAt", "(I)C"⟩ : MethodName)) (z := (⟨"java/lang/String", "charAt", "(I)C"⟩ : MethodName)) hown (mvT hZ (hw _ (List.mem_of_getElem? (i := 21) rfl))) (mvT hZ (hw _ (List.mem_of_getElem? (i := 22) rfl))) (notFace_of_selects (args := #[]) (mvT hZ (hw _ (List.mem_of_getElem? (i := 24) rfl)))) (mvT hZ (hw _ (List.mem_of_getElem? (i := 24) rfl))) (mvT hZ (hw _ (List.mem_of_getElem? (i := 23) rfl))) (by decide) (backOf (W := 0) (rm4 l Z a0 hw [] tGT 0 h0 n0 Z0 62 rfl K BGT) hZ (hw _ (List.mem_of_getElem? (i := 26) rfl)) (hw _ (List.mem_of_getElem? (i := 25) rfl)) (by decide) (by decide)) q62a q62c (g := (mkF m 27 #[.val (.int k), .val (.int (4 : Int32)), .val (.ref oGT), .val (.int (1 : Int32)), .val (.ref tGT), .unset, .unset, .unset, .unset, .unset] [(.int (0 : Int32)), (.ref tGT)])) rfl (by rw [hml]; rfl) (Steps.refl _) (argsL := [(.int (0 : Int32))]) (rest := []) (lenOf pd_7 rfl) rfl (by show 2 * 0 + _ ≤ _; exact Nat.le_of_eq rfl) (hb hby at_27) (fun _ _ => ⟨rfl, e61, (by decide : 0 + 0 ≤ _), (by decide : 0 + 0 ≤ _)⟩)
    dsimp only [Pt.U, Pt.locs, Pt.cells, Pt.slots] at X62 l62 y62 z62 st62 hQ62
    subst l62 y62 z62
    obtain ⟨rfl, M62, e62⟩ := hQ62
    have N62 := Fr.app N61 M62
    refine own_trans st62 ?_
    show own_Gl _ _ _ _ (T62.setTop (mkF m 30 #[.val (.int k), .val (.int (4 : Int32)), .val (.ref oGT), .val (.int (1 : Int32)), .val (.ref tGT), .unset, .unset, .unset, .unset, .unset] [(.int (nar .char (own_c 62)))]))
    rw [show nar .char (own_c 62) = 62 by decide]
    show own_Gl _ _ _ _ (T62.setTop (mkF m 30 #[.val (.int k), .val (.int (4 : Int32)), .val (.ref oGT), .val (.int (1 : Int32)), .val (.ref tGT), .unset, .unset, .unset, .unset, .unset] [(.int (62 : Int32))]))
    refine own_back (fun t_ q_ => XS.istore X62.here hx rfl (hb hby at_30) rfl (l' := #[.val (.int k), .val (.int (4 : Int32)), .val (.ref oGT), .val (.int (1 : Int32)), .val (.ref tGT), .val (.int (62 : Int32)), .unset, .unset, .unset, .unset]) rfl q_) ?_
    show own_Gl _ _ _ _ (T62.setTop (mkF m 32 #[.val (.int k), .val (.int (4 : Int32)), .val (.ref oGT), .val (.int (1 : Int32)), .val (.ref tGT), .val (.int (62 : Int32)), .unset, .unset, .unset, .unset] []))
    refine own_back (fun t_ q_ => XS.iload X62.here hx rfl (hb hby at_32) rfl q_) ?_
    show own_Gl _ _ _ _ (T62.setTop (mkF m 34 #[.val (.int k), .val (.int (4 : Int32)), .val (.ref oGT), .val (.int (1 : Int32)), .val (.ref tGT), .val (.int (62 : Int32)), .unset, .unset, .unset, .unset] [(.int (62 : Int32))]))
    refine own_back (fun t_ q_ => XS.bipush X62.here hx rfl (hb hby at_34) q_) ?_
    show own_Gl _ _ _ _ (T62.setTop (mkF m 36 #[.val (.int k), .val (.int (4 : Int32)), .val (.ref oGT), .val (.int (1 : Int32)), .val (.ref tGT), .val (.int (62 : Int32)), .unset, .unset, .unset, .unset] [(.int (60 : Int32)), (.int (62 : Int32))]))
    refine own_back (fun t_ q_ => XS.icmpNo X62.here hx rfl (hb hby at_36) rfl (feq (by decide : ¬ ((62 : Int32) = (60 : Int32)))).1 q_) ?_
    show own_Gl _ _ _ _ (T62.setTop (mkF m 39 #[.val (.int k), .val (.int (4 : Int32)), .val (.ref oGT), .val (.int (1 : Int32)), .val (.ref tGT), .val (.int (62 : Int32)), .unset, .unset, .unset, .unset] []))
    refine own_back (fun t_ q_ => XS.iload X62.here hx rfl (hb hby at_39) rfl q_) ?_
    show own_Gl _ _ _ _ (T62.setTop (mkF m 41 #[.val (.int k), .val (.int (4 : Int32)), .val (.ref oGT), .val (.int (1 : Int32)), .val (.ref tGT), .val (.int (62 : Int32)), .unset, .unset, .unset, .unset] [(.int (62 : Int32))]))
    refine own_back (fun t_ q_ => XS.bipush X62.here hx rfl (hb hby at_41) q_) ?_
    show own_Gl _ _ _ _ (T62.setTop (mkF m 43 #[.val (.int k), .val (.int (4 : Int32)), .val (.ref oGT), .val (.int (1 : Int32)), .val (.ref tGT), .val (.int (62 : Int32)), .unset, .unset, .unset, .unset] [(.int (62 : Int32)), (.int (62 : Int32))]))
    refine own_back (fun t_ q_ => XS.icmpNo X62.here hx rfl (hb hby at_43) rfl (teq (by decide : (62 : Int32) = (62 : Int32))).2 q_) ?_
    show own_Gl _ _ _ _ (T62.setTop (mkF m 46 #[.val (.int k), .val (.int (4 : Int32)), .val (.ref oGT), .val (.int (1 : Int32)), .val (.ref tGT), .val (.int (62 : Int32)), .unset, .unset, .unset, .unset] []))
    refine own_back (fun t_ q_ => XS.iconst X62.here hx rfl (hb hby at_46) q_) ?_
    show own_Gl _ _ _ _ (T62.setTop (mkF m 47 #[.val (.int k), .val (.int (4 : Int32)), .val (.ref oGT), .val (.int (1 : Int32)), .val (.ref tGT), .val (.int (62 : Int32)), .unset, .unset, .unset, .unset] [(.int (1 : Int32))]))
    refine own_back (fun t_ q_ => XS.goto X62.here hx rfl (pc0 := 47) (pc' := 51) rfl (hb hby at_47) (by decide) (by decide) q_) ?_
    show own_Gl _ _ _ _ (T62.setTop (mkF m 51 #[.val (.int k), .val (.int (4 : Int32)), .val (.ref oGT), .val (.int (1 : Int32)), .val (.ref tGT), .val (.int (62 : Int32)), .unset, .unset, .unset, .unset] [(.int (1 : Int32))]))
    refine own_back (fun t_ q_ => XS.istore X62.here hx rfl (hb hby at_51) rfl (l' := #[.val (.int k), .val (.int (4 : Int32)), .val (.ref oGT), .val (.int (1 : Int32)), .val (.ref tGT), .val (.int (62 : Int32)), .val (.int (1 : Int32)), .unset, .unset, .unset]) rfl q_) ?_
    show own_Gl _ _ _ _ (T62.setTop (mkF m 53 #[.val (.int k), .val (.int (4 : Int32)), .val (.ref oGT), .val (.int (1 : Int32)), .val (.ref tGT), .val (.int (62 : Int32)), .val (.int (1 : Int32)), .unset, .unset, .unset] []))
    refine own_back (fun t_ q_ => XS.iloadN X62.here hx rfl (hb hby at_53) rfl q_) ?_
    show own_Gl _ _ _ _ (T62.setTop (mkF m 54 #[.val (.int k), .val (.int (4 : Int32)), .val (.ref oGT), .val (.int (1 : Int32)), .val (.ref tGT), .val (.int (62 : Int32)), .val (.int (1 : Int32)), .unset, .unset, .unset] [(.int (4 : Int32))]))
    refine own_back (fun t_ q_ => XS.iconst X62.here hx rfl (hb hby at_54) q_) ?_
    show own_Gl _ _ _ _ (T62.setTop (mkF m 55 #[.val (.int k), .val (.int (4 : Int32)), .val (.ref oGT), .val (.int (1 : Int32)), .val (.ref tGT), .val (.int (62 : Int32)), .val (.int (1 : Int32)), .unset, .unset, .unset] [(.int (2 : Int32)), (.int (4 : Int32))]))
    refine own_back (fun t_ q_ => XS.icmpNo X62.here hx rfl (hb hby at_55) rfl (flt (by decide : ¬ ((4 : Int32) < (2 : Int32)))).1 q_) ?_
    show own_Gl _ _ _ _ (T62.setTop (mkF m 58 #[.val (.int k), .val (.int (4 : Int32)), .val (.ref oGT), .val (.int (1 : Int32)), .val (.ref tGT), .val (.int (62 : Int32)), .val (.int (1 : Int32)), .unset, .unset, .unset] []))
    refine own_back (fun t_ q_ => XS.iconst X62.here hx rfl (hb hby at_58) q_) ?_
    show own_Gl _ _ _ _ (T62.setTop (mkF m 59 #[.val (.int k), .val (.int (4 : Int32)), .val (.ref oGT), .val (.int (1 : Int32)), .val (.ref tGT), .val (.int (62 : Int32)), .val (.int (1 : Int32)), .unset, .unset, .unset] [(.int (1 : Int32))]))
    refine own_back (fun t_ q_ => XS.goto X62.here hx rfl (pc0 := 59) (pc' := 63) rfl (hb hby at_59) (by decide) (by decide) q_) ?_
    show own_Gl _ _ _ _ (T62.setTop (mkF m 63 #[.val (.int k), .val (.int (4 : Int32)), .val (.ref oGT), .val (.int (1 : Int32)), .val (.ref tGT), .val (.int (62 : Int32)), .val (.int (1 : Int32)), .unset, .unset, .unset] [(.int (1 : Int32))]))
    refine own_back (fun t_ q_ => XS.istore X62.here hx rfl (hb hby at_63) rfl (l' := #[.val (.int k), .val (.int (4 : Int32)), .val (.ref oGT), .val (.int (1 : Int32)), .val (.ref tGT), .val (.int (62 : Int32)), .val (.int (1 : Int32)), .val (.int (1 : Int32)), .unset, .unset]) rfl q_) ?_
    show own_Gl _ _ _ _ (T62.setTop (mkF m 65 #[.val (.int k), .val (.int (4 : Int32)), .val (.ref oGT), .val (.int (1 : Int32)), .val (.ref tGT), .val (.int (62 : Int32)), .val (.int (1 : Int32)), .val (.int (1 : Int32)), .unset, .unset] []))
    refine own_back (fun t_ q_ => XS.aloadN X62.here hx rfl (hb hby at_65) rfl rfl q_) ?_
    show own_Gl _ _ _ _ (T62.setTop (mkF m 66 #[.val (.int k), .val (.int (4 : Int32)), .val (.ref oGT), .val (.int (1 : Int32)), .val (.ref tGT), .val (.int (62 : Int32)), .val (.int (1 : Int32)), .val (.int (1 : Int32)), .unset, .unset] [(.ref oGT)]))
    obtain ⟨cq63, kq63, q63a, q63b, q63c⟩ := isOf hZ e62 XGT
    obtain ⟨_, _, ⟨T63, L63, k63, n63⟩, -, X63, ⟨Lc63, hQ63, l63, y63, z63⟩, st63⟩ := X62.virtualBack hx (y := (⟨"com/example/valenciennes/valenciennes/model/Operator", "negated", "()Lcom/example/valenciennes/valenciennes/model/Operator;"⟩ : MethodName)) (z := (⟨"com/example/valenciennes/valenciennes/model/Operator", "negated", "()Lcom/example/valenciennes/valenciennes/model/Operator;"⟩ : MethodName)) hown (mvT hZ (hw _ (List.mem_of_getElem? (i := 49) rfl))) (mvT hZ (hw _ (List.mem_of_getElem? (i := 50) rfl))) (notFace_of_selects (args := #[]) (mvT hZ (hw _ (List.mem_of_getElem? (i := 52) rfl)))) (mvT hZ (hw _ (List.mem_of_getElem? (i := 52) rfl))) (mvT hZ (hw _ (List.mem_of_getElem? (i := 51) rfl))) (by decide) (backOf (W := 0) (rm9 l Z a0 hw [] oGT h0 n0 Z0 4 oEQ oNE oLT oLE oGT oGE SEQ SNE SLT SLE SGT SGE XGT OGT (by decide)) hZ (hw _ (List.mem_of_getElem? (i := 53) rfl)) (hw _ (List.mem_of_getElem? (i := 6) rfl)) (by decide) (by decide)) q63a q63c (g := (mkF m 66 #[.val (.int k), .val (.int (4 : Int32)), .val (.ref oGT), .val (.int (1 : Int32)), .val (.ref tGT), .val (.int (62 : Int32)), .val (.int (1 : Int32)), .val (.int (1 : Int32)), .unset, .unset] [(.ref oGT)])) rfl (by rw [hml]; rfl) (Steps.refl _) (argsL := []) (rest := []) (lenOf pd_8 rfl) rfl (by show 2 * 0 + _ ≤ _; exact Nat.le_of_eq rfl) (hb hby at_66) (fun _ _ => ⟨rfl, e62, (by decide : 0 + 0 ≤ _), (by decide : 0 + 0 ≤ _)⟩)
    dsimp only [Pt.U, Pt.locs, Pt.cells, Pt.slots] at X63 l63 y63 z63 st63 hQ63
    subst l63 y63 z63
    obtain ⟨rfl, M63, e63⟩ := hQ63
    have N63 := Fr.app N62 M63
    refine own_trans st63 ?_
    show own_Gl _ _ _ _ (T63.setTop (mkF m 69 #[.val (.int k), .val (.int (4 : Int32)), .val (.ref oGT), .val (.int (1 : Int32)), .val (.ref tGT), .val (.int (62 : Int32)), .val (.int (1 : Int32)), .val (.int (1 : Int32)), .unset, .unset] [(.ref (own_sel 4 oNE oEQ oGE oGT oLE oLT))]))
    show own_Gl _ _ _ _ (T63.setTop (mkF m 69 #[.val (.int k), .val (.int (4 : Int32)), .val (.ref oGT), .val (.int (1 : Int32)), .val (.ref tGT), .val (.int (62 : Int32)), .val (.int (1 : Int32)), .val (.int (1 : Int32)), .unset, .unset] [(.ref oLE)]))
    obtain ⟨cq64, kq64, q64a, q64b, q64c⟩ := isOf hZ e63 XLE
    obtain ⟨_, _, ⟨T64, L64, k64, n64⟩, -, X64, ⟨Lc64, hQ64, l64, y64, z64⟩, st64⟩ := X63.virtualBack hx (y := (⟨"com/example/valenciennes/valenciennes/model/Operator", "isOrdering", "()Z"⟩ : MethodName)) (z := (⟨"com/example/valenciennes/valenciennes/model/Operator", "isOrdering", "()Z"⟩ : MethodName)) hown (mvT hZ (hw _ (List.mem_of_getElem? (i := 8) rfl))) (mvT hZ (hw _ (List.mem_of_getElem? (i := 9) rfl))) (notFace_of_selects (args := #[]) (mvT hZ (hw _ (List.mem_of_getElem? (i := 11) rfl)))) (mvT hZ (hw _ (List.mem_of_getElem? (i := 11) rfl))) (mvT hZ (hw _ (List.mem_of_getElem? (i := 10) rfl))) (by decide) (backOf (W := 0) (rm2 l Z a0 hw [] oLE h0 n0 Z0 oEQ oNE SEQ SNE) hZ (hw _ (List.mem_of_getElem? (i := 12) rfl)) (hw _ (List.mem_of_getElem? (i := 6) rfl)) (by decide) (by decide)) q64a q64c (g := (mkF m 69 #[.val (.int k), .val (.int (4 : Int32)), .val (.ref oGT), .val (.int (1 : Int32)), .val (.ref tGT), .val (.int (62 : Int32)), .val (.int (1 : Int32)), .val (.int (1 : Int32)), .unset, .unset] [(.ref oLE)])) rfl (by rw [hml]; rfl) (Steps.refl _) (argsL := []) (rest := []) (lenOf pd_2 rfl) rfl (by show 2 * 0 + _ ≤ _; exact Nat.le_of_eq rfl) (hb hby at_69) (fun _ _ => ⟨rfl, e63, (by decide : 0 + 0 ≤ _), (by decide : 0 + 0 ≤ _)⟩)
    dsimp only [Pt.U, Pt.locs, Pt.cells, Pt.slots] at X64 l64 y64 z64 st64 hQ64
    subst l64 y64 z64
    obtain ⟨rfl, M64, e64⟩ := hQ64
    have N64 := Fr.app N63 M64
    refine own_trans st64 ?_
    show own_Gl _ _ _ _ (T64.setTop (mkF m 72 #[.val (.int k), .val (.int (4 : Int32)), .val (.ref oGT), .val (.int (1 : Int32)), .val (.ref tGT), .val (.int (62 : Int32)), .val (.int (1 : Int32)), .val (.int (1 : Int32)), .unset, .unset] [(.int (if oLE = oEQ ∨ oLE = oNE then (0 : Int32) else 1))]))
    rw [if_neg (fun q => q.elim dLEEQ dLENE)]
    show own_Gl _ _ _ _ (T64.setTop (mkF m 72 #[.val (.int k), .val (.int (4 : Int32)), .val (.ref oGT), .val (.int (1 : Int32)), .val (.ref tGT), .val (.int (62 : Int32)), .val (.int (1 : Int32)), .val (.int (1 : Int32)), .unset, .unset] [(.int (1 : Int32))]))
    refine own_back (fun t_ q_ => XS.iloadN X64.here hx rfl (hb hby at_72) rfl q_) ?_
    show own_Gl _ _ _ _ (T64.setTop (mkF m 73 #[.val (.int k), .val (.int (4 : Int32)), .val (.ref oGT), .val (.int (1 : Int32)), .val (.ref tGT), .val (.int (62 : Int32)), .val (.int (1 : Int32)), .val (.int (1 : Int32)), .unset, .unset] [(.int (1 : Int32)), (.int (1 : Int32))]))
    refine own_back (fun t_ q_ => XS.icmpNo X64.here hx rfl (hb hby at_73) rfl (teq (rfl : (1 : Int32) = (1 : Int32))).2 q_) ?_
    show own_Gl _ _ _ _ (T64.setTop (mkF m 76 #[.val (.int k), .val (.int (4 : Int32)), .val (.ref oGT), .val (.int (1 : Int32)), .val (.ref tGT), .val (.int (62 : Int32)), .val (.int (1 : Int32)), .val (.int (1 : Int32)), .unset, .unset] []))
    refine own_back (fun t_ q_ => XS.iconst X64.here hx rfl (hb hby at_76) q_) ?_
    show own_Gl _ _ _ _ (T64.setTop (mkF m 77 #[.val (.int k), .val (.int (4 : Int32)), .val (.ref oGT), .val (.int (1 : Int32)), .val (.ref tGT), .val (.int (62 : Int32)), .val (.int (1 : Int32)), .val (.int (1 : Int32)), .unset, .unset] [(.int (1 : Int32))]))
    refine own_back (fun t_ q_ => XS.goto X64.here hx rfl (pc0 := 77) (pc' := 81) rfl (hb hby at_77) (by decide) (by decide) q_) ?_
    show own_Gl _ _ _ _ (T64.setTop (mkF m 81 #[.val (.int k), .val (.int (4 : Int32)), .val (.ref oGT), .val (.int (1 : Int32)), .val (.ref tGT), .val (.int (62 : Int32)), .val (.int (1 : Int32)), .val (.int (1 : Int32)), .unset, .unset] [(.int (1 : Int32))]))
    refine own_back (fun t_ q_ => XS.istore X64.here hx rfl (hb hby at_81) rfl (l' := #[.val (.int k), .val (.int (4 : Int32)), .val (.ref oGT), .val (.int (1 : Int32)), .val (.ref tGT), .val (.int (62 : Int32)), .val (.int (1 : Int32)), .val (.int (1 : Int32)), .val (.int (1 : Int32)), .unset]) rfl q_) ?_
    show own_Gl _ _ _ _ (T64.setTop (mkF m 83 #[.val (.int k), .val (.int (4 : Int32)), .val (.ref oGT), .val (.int (1 : Int32)), .val (.ref tGT), .val (.int (62 : Int32)), .val (.int (1 : Int32)), .val (.int (1 : Int32)), .val (.int (1 : Int32)), .unset] []))
    refine own_back (fun t_ q_ => XS.aloadN X64.here hx rfl (hb hby at_83) rfl rfl q_) ?_
    show own_Gl _ _ _ _ (T64.setTop (mkF m 84 #[.val (.int k), .val (.int (4 : Int32)), .val (.ref oGT), .val (.int (1 : Int32)), .val (.ref tGT), .val (.int (62 : Int32)), .val (.int (1 : Int32)), .val (.int (1 : Int32)), .val (.int (1 : Int32)), .unset] [(.ref oGT)]))
    obtain ⟨cq65, kq65, q65a, q65b, q65c⟩ := isOf hZ e64 XGT
    obtain ⟨_, _, ⟨T65, L65, k65, n65⟩, -, X65, ⟨Lc65, hQ65, l65, y65, z65⟩, st65⟩ := X64.virtualBack hx (y := (⟨"com/example/valenciennes/valenciennes/model/Operator", "mirrored", "()Lcom/example/valenciennes/valenciennes/model/Operator;"⟩ : MethodName)) (z := (⟨"com/example/valenciennes/valenciennes/model/Operator", "mirrored", "()Lcom/example/valenciennes/valenciennes/model/Operator;"⟩ : MethodName)) hown (mvT hZ (hw _ (List.mem_of_getElem? (i := 65) rfl))) (mvT hZ (hw _ (List.mem_of_getElem? (i := 66) rfl))) (notFace_of_selects (args := #[]) (mvT hZ (hw _ (List.mem_of_getElem? (i := 68) rfl)))) (mvT hZ (hw _ (List.mem_of_getElem? (i := 68) rfl))) (mvT hZ (hw _ (List.mem_of_getElem? (i := 67) rfl))) (by decide) (backOf (W := 0) (rm11 l Z a0 hw [] oGT h0 n0 Z0 4 oEQ oNE oLT oLE oGT oGE SEQ SNE SLT SLE SGT SGE XGT OGT (by decide)) hZ (hw _ (List.mem_of_getElem? (i := 69) rfl)) (hw _ (List.mem_of_getElem? (i := 6) rfl)) (by decide) (by decide)) q65a q65c (g := (mkF m 84 #[.val (.int k), .val (.int (4 : Int32)), .val (.ref oGT), .val (.int (1 : Int32)), .val (.ref tGT), .val (.int (62 : Int32)), .val (.int (1 : Int32)), .val (.int (1 : Int32)), .val (.int (1 : Int32)), .unset] [(.ref oGT)])) rfl (by rw [hml]; rfl) (Steps.refl _) (argsL := []) (rest := []) (lenOf pd_8 rfl) rfl (by show 2 * 0 + _ ≤ _; exact Nat.le_of_eq rfl) (hb hby at_84) (fun _ _ => ⟨rfl, e64, (by decide : 0 + 0 ≤ _), (by decide : 0 + 0 ≤ _)⟩)
    dsimp only [Pt.U, Pt.locs, Pt.cells, Pt.slots] at X65 l65 y65 z65 st65 hQ65
    subst l65 y65 z65
    obtain ⟨rfl, M65, e65⟩ := hQ65
    have N65 := Fr.app N64 M65
    refine own_trans st65 ?_
    show own_Gl _ _ _ _ (T65.setTop (mkF m 87 #[.val (.int k), .val (.int (4 : Int32)), .val (.ref oGT), .val (.int (1 : Int32)), .val (.ref tGT), .val (.int (62 : Int32)), .val (.int (1 : Int32)), .val (.int (1 : Int32)), .val (.int (1 : Int32)), .unset] [(.ref (own_sel 4 oGT oGT oGT oGE oLT oLE))]))
    show own_Gl _ _ _ _ (T65.setTop (mkF m 87 #[.val (.int k), .val (.int (4 : Int32)), .val (.ref oGT), .val (.int (1 : Int32)), .val (.ref tGT), .val (.int (62 : Int32)), .val (.int (1 : Int32)), .val (.int (1 : Int32)), .val (.int (1 : Int32)), .unset] [(.ref oLT)]))
    refine own_back (fun t_ q_ => XS.aloadN X65.here hx rfl (hb hby at_87) rfl rfl q_) ?_
    show own_Gl _ _ _ _ (T65.setTop (mkF m 88 #[.val (.int k), .val (.int (4 : Int32)), .val (.ref oGT), .val (.int (1 : Int32)), .val (.ref tGT), .val (.int (62 : Int32)), .val (.int (1 : Int32)), .val (.int (1 : Int32)), .val (.int (1 : Int32)), .unset] [(.ref oGT), (.ref oLT)]))
    refine own_back (fun t_ q_ => Jvm.RoadKit.acmp (g := (mkF m 88 #[.val (.int k), .val (.int (4 : Int32)), .val (.ref oGT), .val (.int (1 : Int32)), .val (.ref tGT), .val (.int (62 : Int32)), .val (.int (1 : Int32)), .val (.int (1 : Int32)), .val (.int (1 : Int32)), .unset] [(.ref oGT), (.ref oLT)])) X65 hx rfl rfl rfl (pc0 := 88) (pc' := 91) (same := false) rfl (hb hby at_88) rfl (decide_eq_false fun q => (dLTGT) (Value.ref.inj q)) (by decide) (by decide) q_) ?_
    show own_Gl _ _ _ _ (T65.setTop (mkF m 91 #[.val (.int k), .val (.int (4 : Int32)), .val (.ref oGT), .val (.int (1 : Int32)), .val (.ref tGT), .val (.int (62 : Int32)), .val (.int (1 : Int32)), .val (.int (1 : Int32)), .val (.int (1 : Int32)), .unset] []))
    refine own_back (fun t_ q_ => XS.iconst X65.here hx rfl (hb hby at_91) q_) ?_
    show own_Gl _ _ _ _ (T65.setTop (mkF m 92 #[.val (.int k), .val (.int (4 : Int32)), .val (.ref oGT), .val (.int (1 : Int32)), .val (.ref tGT), .val (.int (62 : Int32)), .val (.int (1 : Int32)), .val (.int (1 : Int32)), .val (.int (1 : Int32)), .unset] [(.int (1 : Int32))]))
    refine own_back (fun t_ q_ => XS.goto X65.here hx rfl (pc0 := 92) (pc' := 96) rfl (hb hby at_92) (by decide) (by decide) q_) ?_
    show own_Gl _ _ _ _ (T65.setTop (mkF m 96 #[.val (.int k), .val (.int (4 : Int32)), .val (.ref oGT), .val (.int (1 : Int32)), .val (.ref tGT), .val (.int (62 : Int32)), .val (.int (1 : Int32)), .val (.int (1 : Int32)), .val (.int (1 : Int32)), .unset] [(.int (1 : Int32))]))
    refine own_back (fun t_ q_ => XS.iloadN X65.here hx rfl (hb hby at_96) rfl q_) ?_
    show own_Gl _ _ _ _ (T65.setTop (mkF m 97 #[.val (.int k), .val (.int (4 : Int32)), .val (.ref oGT), .val (.int (1 : Int32)), .val (.ref tGT), .val (.int (62 : Int32)), .val (.int (1 : Int32)), .val (.int (1 : Int32)), .val (.int (1 : Int32)), .unset] [(.int (1 : Int32)), (.int (1 : Int32))]))
    refine own_back (fun t_ q_ => XS.icmpNo X65.here hx rfl (hb hby at_97) rfl (teq (rfl : (1 : Int32) = (1 : Int32))).2 q_) ?_
    show own_Gl _ _ _ _ (T65.setTop (mkF m 100 #[.val (.int k), .val (.int (4 : Int32)), .val (.ref oGT), .val (.int (1 : Int32)), .val (.ref tGT), .val (.int (62 : Int32)), .val (.int (1 : Int32)), .val (.int (1 : Int32)), .val (.int (1 : Int32)), .unset] []))
    refine own_back (fun t_ q_ => XS.iconst X65.here hx rfl (hb hby at_100) q_) ?_
    show own_Gl _ _ _ _ (T65.setTop (mkF m 101 #[.val (.int k), .val (.int (4 : Int32)), .val (.ref oGT), .val (.int (1 : Int32)), .val (.ref tGT), .val (.int (62 : Int32)), .val (.int (1 : Int32)), .val (.int (1 : Int32)), .val (.int (1 : Int32)), .unset] [(.int (1 : Int32))]))
    refine own_back (fun t_ q_ => XS.goto X65.here hx rfl (pc0 := 101) (pc' := 105) rfl (hb hby at_101) (by decide) (by decide) q_) ?_
    show own_Gl _ _ _ _ (T65.setTop (mkF m 105 #[.val (.int k), .val (.int (4 : Int32)), .val (.ref oGT), .val (.int (1 : Int32)), .val (.ref tGT), .val (.int (62 : Int32)), .val (.int (1 : Int32)), .val (.int (1 : Int32)), .val (.int (1 : Int32)), .unset] [(.int (1 : Int32))]))
    refine own_back (fun t_ q_ => XS.istore X65.here hx rfl (hb hby at_105) rfl (l' := #[.val (.int k), .val (.int (4 : Int32)), .val (.ref oGT), .val (.int (1 : Int32)), .val (.ref tGT), .val (.int (62 : Int32)), .val (.int (1 : Int32)), .val (.int (1 : Int32)), .val (.int (1 : Int32)), .val (.int (1 : Int32))]) rfl q_) ?_
    show own_Gl _ _ _ _ (T65.setTop (mkF m 107 #[.val (.int k), .val (.int (4 : Int32)), .val (.ref oGT), .val (.int (1 : Int32)), .val (.ref tGT), .val (.int (62 : Int32)), .val (.int (1 : Int32)), .val (.int (1 : Int32)), .val (.int (1 : Int32)), .val (.int (1 : Int32))] []))
    refine own_back (fun t_ q_ => XS.iloadN X65.here hx rfl (hb hby at_107) rfl q_) ?_
    show own_Gl _ _ _ _ (T65.setTop (mkF m 108 #[.val (.int k), .val (.int (4 : Int32)), .val (.ref oGT), .val (.int (1 : Int32)), .val (.ref tGT), .val (.int (62 : Int32)), .val (.int (1 : Int32)), .val (.int (1 : Int32)), .val (.int (1 : Int32)), .val (.int (1 : Int32))] [(.int (1 : Int32))]))
    refine own_back (fun t_ q_ => XS.iload X65.here hx rfl (hb hby at_108) rfl q_) ?_
    show own_Gl _ _ _ _ (T65.setTop (mkF m 110 #[.val (.int k), .val (.int (4 : Int32)), .val (.ref oGT), .val (.int (1 : Int32)), .val (.ref tGT), .val (.int (62 : Int32)), .val (.int (1 : Int32)), .val (.int (1 : Int32)), .val (.int (1 : Int32)), .val (.int (1 : Int32))] [(.int (1 : Int32)), (.int (1 : Int32))]))
    refine own_back (fun t_ q_ => XS.icmpNo X65.here hx rfl (hb hby at_110) rfl (teq (rfl : (1 : Int32) = (1 : Int32))).2 q_) ?_
    show own_Gl _ _ _ _ (T65.setTop (mkF m 113 #[.val (.int k), .val (.int (4 : Int32)), .val (.ref oGT), .val (.int (1 : Int32)), .val (.ref tGT), .val (.int (62 : Int32)), .val (.int (1 : Int32)), .val (.int (1 : Int32)), .val (.int (1 : Int32)), .val (.int (1 : Int32))] []))
    refine own_back (fun t_ q_ => XS.iloadN X65.here hx rfl (hb hby at_113) rfl q_) ?_
    show own_Gl _ _ _ _ (T65.setTop (mkF m 114 #[.val (.int k), .val (.int (4 : Int32)), .val (.ref oGT), .val (.int (1 : Int32)), .val (.ref tGT), .val (.int (62 : Int32)), .val (.int (1 : Int32)), .val (.int (1 : Int32)), .val (.int (1 : Int32)), .val (.int (1 : Int32))] [(.int (1 : Int32))]))
    refine own_back (fun t_ q_ => XS.iload X65.here hx rfl (hb hby at_114) rfl q_) ?_
    show own_Gl _ _ _ _ (T65.setTop (mkF m 116 #[.val (.int k), .val (.int (4 : Int32)), .val (.ref oGT), .val (.int (1 : Int32)), .val (.ref tGT), .val (.int (62 : Int32)), .val (.int (1 : Int32)), .val (.int (1 : Int32)), .val (.int (1 : Int32)), .val (.int (1 : Int32))] [(.int (1 : Int32)), (.int (1 : Int32))]))
    refine own_back (fun t_ q_ => XS.icmpNo X65.here hx rfl (hb hby at_116) rfl (teq (rfl : (1 : Int32) = (1 : Int32))).2 q_) ?_
    show own_Gl _ _ _ _ (T65.setTop (mkF m 119 #[.val (.int k), .val (.int (4 : Int32)), .val (.ref oGT), .val (.int (1 : Int32)), .val (.ref tGT), .val (.int (62 : Int32)), .val (.int (1 : Int32)), .val (.int (1 : Int32)), .val (.int (1 : Int32)), .val (.int (1 : Int32))] []))
    refine own_back (fun t_ q_ => XS.iload X65.here hx rfl (hb hby at_119) rfl q_) ?_
    show own_Gl _ _ _ _ (T65.setTop (mkF m 121 #[.val (.int k), .val (.int (4 : Int32)), .val (.ref oGT), .val (.int (1 : Int32)), .val (.ref tGT), .val (.int (62 : Int32)), .val (.int (1 : Int32)), .val (.int (1 : Int32)), .val (.int (1 : Int32)), .val (.int (1 : Int32))] [(.int (1 : Int32))]))
    refine own_back (fun t_ q_ => XS.ifNo X65.here hx rfl (hb hby at_121) rfl ((if0 _ _).trans (feq (by decide : ¬ ((1 : Int32) = (0 : Int32)))).1) q_) ?_
    show own_Gl _ _ _ _ (T65.setTop (mkF m 124 #[.val (.int k), .val (.int (4 : Int32)), .val (.ref oGT), .val (.int (1 : Int32)), .val (.ref tGT), .val (.int (62 : Int32)), .val (.int (1 : Int32)), .val (.int (1 : Int32)), .val (.int (1 : Int32)), .val (.int (1 : Int32))] []))
    refine own_back (fun t_ q_ => XS.iload X65.here hx rfl (hb hby at_124) rfl q_) ?_
    show own_Gl _ _ _ _ (T65.setTop (mkF m 126 #[.val (.int k), .val (.int (4 : Int32)), .val (.ref oGT), .val (.int (1 : Int32)), .val (.ref tGT), .val (.int (62 : Int32)), .val (.int (1 : Int32)), .val (.int (1 : Int32)), .val (.int (1 : Int32)), .val (.int (1 : Int32))] [(.int (1 : Int32))]))
    refine own_back (fun t_ q_ => XS.ifNo X65.here hx rfl (hb hby at_126) rfl ((if0 _ _).trans (feq (by decide : ¬ ((1 : Int32) = (0 : Int32)))).1) q_) ?_
    show own_Gl _ _ _ _ (T65.setTop (mkF m 129 #[.val (.int k), .val (.int (4 : Int32)), .val (.ref oGT), .val (.int (1 : Int32)), .val (.ref tGT), .val (.int (62 : Int32)), .val (.int (1 : Int32)), .val (.int (1 : Int32)), .val (.int (1 : Int32)), .val (.int (1 : Int32))] []))
    refine own_back (fun t_ q_ => XS.iconst X65.here hx rfl (hb hby at_129) q_) ?_
    show own_Gl _ _ _ _ (T65.setTop (mkF m 130 #[.val (.int k), .val (.int (4 : Int32)), .val (.ref oGT), .val (.int (1 : Int32)), .val (.ref tGT), .val (.int (62 : Int32)), .val (.int (1 : Int32)), .val (.int (1 : Int32)), .val (.int (1 : Int32)), .val (.int (1 : Int32))] [(.int (1 : Int32))]))
    refine own_back (fun t_ q_ => XS.goto X65.here hx rfl (pc0 := 130) (pc' := 134) rfl (hb hby at_130) (by decide) (by decide) q_) ?_
    show own_Gl _ _ _ _ (T65.setTop (mkF m 134 #[.val (.int k), .val (.int (4 : Int32)), .val (.ref oGT), .val (.int (1 : Int32)), .val (.ref tGT), .val (.int (62 : Int32)), .val (.int (1 : Int32)), .val (.int (1 : Int32)), .val (.int (1 : Int32)), .val (.int (1 : Int32))] [(.int (1 : Int32))]))
    exact own_rZ X65 hx hlk Bd.returns (hb hby at_134) (own_one rfl) (by show Qrm0 h0 n0 _ T65.heap _; rw [e65]; exact ⟨rfl, N65⟩) (by decide) (by decide)
  · skip
    show own_Gl _ _ _ _ (s₁.setTop (mkF m 7 #[.val (.int k), .unset, .unset, .unset, .unset, .unset, .unset, .unset, .unset, .unset] [(.int (5 : Int32))]))
    refine own_back (fun t_ q_ => XS.istoreN X0.here hx rfl (hb hby at_7) rfl (l' := #[.val (.int k), .val (.int (5 : Int32)), .unset, .unset, .unset, .unset, .unset, .unset, .unset, .unset]) rfl q_) ?_
    show own_Gl _ _ _ _ (s₁.setTop (mkF m 8 #[.val (.int k), .val (.int (5 : Int32)), .unset, .unset, .unset, .unset, .unset, .unset, .unset, .unset] []))
    refine own_back (fun t_ q_ => XS.iloadN X0.here hx rfl (hb hby at_8) rfl q_) ?_
    show own_Gl _ _ _ _ (s₁.setTop (mkF m 9 #[.val (.int k), .val (.int (5 : Int32)), .unset, .unset, .unset, .unset, .unset, .unset, .unset, .unset] [(.int (5 : Int32))]))
    obtain ⟨_, _, ⟨T66, L66, k66, n66⟩, -, X66, ⟨Lc66, hQ66, l66, y66, z66⟩, st66⟩ := Jvm.LawKit.callS X0 hx (y := (⟨"com/example/valenciennes/valenciennes/model/OperatorIsOrderingPinLaw", "pick", "(I)Lcom/example/valenciennes/valenciennes/model/Operator;"⟩ : MethodName)) hown (mvT hZ (hw _ (List.mem_of_getElem? (i := 1) rfl))) (mvT hZ (hw _ (List.mem_of_getElem? (i := 2) rfl))) (mvT hZ (hw _ (List.mem_of_getElem? (i := 3) rfl))) (mvT hZ (hw _ (List.mem_of_getElem? (i := 4) rfl))) (by decide) (backOf (W := 0) (rm1 l Z a0 hw [] 5 h0 n0 Z0 oEQ oNE oLT oLE oGT oGE SEQ SNE SLT SLE SGT SGE) hZ (hw _ (List.mem_of_getElem? (i := 4) rfl)) (hw _ (List.mem_of_getElem? (i := 3) rfl)) (by decide) (by decide)) (g := (mkF m 9 #[.val (.int k), .val (.int (5 : Int32)), .unset, .unset, .unset, .unset, .unset, .unset, .unset, .unset] [(.int (5 : Int32))])) rfl (by rw [hml]; rfl) (argsL := [(.int (5 : Int32))]) (rest := []) (lenOf pd_5 rfl) rfl (by show 2 * 0 + _ ≤ _; exact Nat.le_of_eq rfl) (hb hby at_9) (fun _ _ => ⟨rfl, e0, (by decide : 0 + 0 ≤ _), (by decide : 0 + 0 ≤ _)⟩)
    dsimp only [Pt.U, Pt.locs, Pt.cells, Pt.slots] at X66 l66 y66 z66 st66 hQ66
    subst l66 y66 z66
    obtain ⟨rfl, M66, e66⟩ := hQ66
    have N66 := Fr.app N0 M66
    refine own_back st66 ?_
    show own_Gl _ _ _ _ (T66.setTop (mkF m 12 #[.val (.int k), .val (.int (5 : Int32)), .unset, .unset, .unset, .unset, .unset, .unset, .unset, .unset] [(.ref (own_sel 5 oEQ oNE oLT oLE oGT oGE))]))
    show own_Gl _ _ _ _ (T66.setTop (mkF m 12 #[.val (.int k), .val (.int (5 : Int32)), .unset, .unset, .unset, .unset, .unset, .unset, .unset, .unset] [(.ref oGE)]))
    refine own_back (fun t_ q_ => XS.astoreN X66.here hx rfl (hb hby at_12) rfl rfl (l' := #[.val (.int k), .val (.int (5 : Int32)), .val (.ref oGE), .unset, .unset, .unset, .unset, .unset, .unset, .unset]) rfl q_) ?_
    show own_Gl _ _ _ _ (T66.setTop (mkF m 13 #[.val (.int k), .val (.int (5 : Int32)), .val (.ref oGE), .unset, .unset, .unset, .unset, .unset, .unset, .unset] []))
    refine own_back (fun t_ q_ => XS.aloadN X66.here hx rfl (hb hby at_13) rfl rfl q_) ?_
    show own_Gl _ _ _ _ (T66.setTop (mkF m 14 #[.val (.int k), .val (.int (5 : Int32)), .val (.ref oGE), .unset, .unset, .unset, .unset, .unset, .unset, .unset] [(.ref oGE)]))
    obtain ⟨cq67, kq67, q67a, q67b, q67c⟩ := isOf hZ e66 XGE
    obtain ⟨_, _, ⟨T67, L67, k67, n67⟩, -, X67, ⟨Lc67, hQ67, l67, y67, z67⟩, st67⟩ := X66.virtualBack hx (y := (⟨"com/example/valenciennes/valenciennes/model/Operator", "isOrdering", "()Z"⟩ : MethodName)) (z := (⟨"com/example/valenciennes/valenciennes/model/Operator", "isOrdering", "()Z"⟩ : MethodName)) hown (mvT hZ (hw _ (List.mem_of_getElem? (i := 8) rfl))) (mvT hZ (hw _ (List.mem_of_getElem? (i := 9) rfl))) (notFace_of_selects (args := #[]) (mvT hZ (hw _ (List.mem_of_getElem? (i := 11) rfl)))) (mvT hZ (hw _ (List.mem_of_getElem? (i := 11) rfl))) (mvT hZ (hw _ (List.mem_of_getElem? (i := 10) rfl))) (by decide) (backOf (W := 0) (rm2 l Z a0 hw [] oGE h0 n0 Z0 oEQ oNE SEQ SNE) hZ (hw _ (List.mem_of_getElem? (i := 12) rfl)) (hw _ (List.mem_of_getElem? (i := 6) rfl)) (by decide) (by decide)) q67a q67c (g := (mkF m 14 #[.val (.int k), .val (.int (5 : Int32)), .val (.ref oGE), .unset, .unset, .unset, .unset, .unset, .unset, .unset] [(.ref oGE)])) rfl (by rw [hml]; rfl) (Steps.refl _) (argsL := []) (rest := []) (lenOf pd_2 rfl) rfl (by show 2 * 0 + _ ≤ _; exact Nat.le_of_eq rfl) (hb hby at_14) (fun _ _ => ⟨rfl, e66, (by decide : 0 + 0 ≤ _), (by decide : 0 + 0 ≤ _)⟩)
    dsimp only [Pt.U, Pt.locs, Pt.cells, Pt.slots] at X67 l67 y67 z67 st67 hQ67
    subst l67 y67 z67
    obtain ⟨rfl, M67, e67⟩ := hQ67
    have N67 := Fr.app N66 M67
    refine own_trans st67 ?_
    show own_Gl _ _ _ _ (T67.setTop (mkF m 17 #[.val (.int k), .val (.int (5 : Int32)), .val (.ref oGE), .unset, .unset, .unset, .unset, .unset, .unset, .unset] [(.int (if oGE = oEQ ∨ oGE = oNE then (0 : Int32) else 1))]))
    rw [if_neg (fun q => q.elim dGEEQ dGENE)]
    show own_Gl _ _ _ _ (T67.setTop (mkF m 17 #[.val (.int k), .val (.int (5 : Int32)), .val (.ref oGE), .unset, .unset, .unset, .unset, .unset, .unset, .unset] [(.int (1 : Int32))]))
    refine own_back (fun t_ q_ => XS.istoreN X67.here hx rfl (hb hby at_17) rfl (l' := #[.val (.int k), .val (.int (5 : Int32)), .val (.ref oGE), .val (.int (1 : Int32)), .unset, .unset, .unset, .unset, .unset, .unset]) rfl q_) ?_
    show own_Gl _ _ _ _ (T67.setTop (mkF m 18 #[.val (.int k), .val (.int (5 : Int32)), .val (.ref oGE), .val (.int (1 : Int32)), .unset, .unset, .unset, .unset, .unset, .unset] []))
    refine own_back (fun t_ q_ => XS.aloadN X67.here hx rfl (hb hby at_18) rfl rfl q_) ?_
    show own_Gl _ _ _ _ (T67.setTop (mkF m 19 #[.val (.int k), .val (.int (5 : Int32)), .val (.ref oGE), .val (.int (1 : Int32)), .unset, .unset, .unset, .unset, .unset, .unset] [(.ref oGE)]))
    obtain ⟨cq68, kq68, q68a, q68b, q68c⟩ := isOf hZ e67 XGE
    obtain ⟨_, _, ⟨T68, L68, k68, n68⟩, -, X68, ⟨Lc68, hQ68, l68, y68, z68⟩, st68⟩ := X67.virtualBack hx (y := (⟨"com/example/valenciennes/valenciennes/model/Operator", "symbol", "()Ljava/lang/String;"⟩ : MethodName)) (z := (⟨"com/example/valenciennes/valenciennes/model/Operator", "symbol", "()Ljava/lang/String;"⟩ : MethodName)) hown (mvT hZ (hw _ (List.mem_of_getElem? (i := 14) rfl))) (mvT hZ (hw _ (List.mem_of_getElem? (i := 15) rfl))) (notFace_of_selects (args := #[]) (mvT hZ (hw _ (List.mem_of_getElem? (i := 17) rfl)))) (mvT hZ (hw _ (List.mem_of_getElem? (i := 17) rfl))) (mvT hZ (hw _ (List.mem_of_getElem? (i := 16) rfl))) (by decide) (backOf (W := 0) (rm3 l Z a0 hw [] oGE h0 n0 Z0 tGE YGE) hZ (hw _ (List.mem_of_getElem? (i := 18) rfl)) (hw _ (List.mem_of_getElem? (i := 6) rfl)) (by decide) (by decide)) q68a q68c (g := (mkF m 19 #[.val (.int k), .val (.int (5 : Int32)), .val (.ref oGE), .val (.int (1 : Int32)), .unset, .unset, .unset, .unset, .unset, .unset] [(.ref oGE)])) rfl (by rw [hml]; rfl) (Steps.refl _) (argsL := []) (rest := []) (lenOf pd_6 rfl) rfl (by show 2 * 0 + _ ≤ _; exact Nat.le_of_eq rfl) (hb hby at_19) (fun _ _ => ⟨rfl, e67, (by decide : 0 + 0 ≤ _), (by decide : 0 + 0 ≤ _)⟩)
    dsimp only [Pt.U, Pt.locs, Pt.cells, Pt.slots] at X68 l68 y68 z68 st68 hQ68
    subst l68 y68 z68
    obtain ⟨rfl, M68, e68⟩ := hQ68
    have N68 := Fr.app N67 M68
    refine own_trans st68 ?_
    show own_Gl _ _ _ _ (T68.setTop (mkF m 22 #[.val (.int k), .val (.int (5 : Int32)), .val (.ref oGE), .val (.int (1 : Int32)), .unset, .unset, .unset, .unset, .unset, .unset] [(.ref tGE)]))
    refine own_back (fun t_ q_ => XS.astore X68.here hx rfl (hb hby at_22) rfl rfl (l' := #[.val (.int k), .val (.int (5 : Int32)), .val (.ref oGE), .val (.int (1 : Int32)), .val (.ref tGE), .unset, .unset, .unset, .unset, .unset]) rfl q_) ?_
    show own_Gl _ _ _ _ (T68.setTop (mkF m 24 #[.val (.int k), .val (.int (5 : Int32)), .val (.ref oGE), .val (.int (1 : Int32)), .val (.ref tGE), .unset, .unset, .unset, .unset, .unset] []))
    refine own_back (fun t_ q_ => XS.aload X68.here hx rfl (hb hby at_24) rfl rfl q_) ?_
    show own_Gl _ _ _ _ (T68.setTop (mkF m 26 #[.val (.int k), .val (.int (5 : Int32)), .val (.ref oGE), .val (.int (1 : Int32)), .val (.ref tGE), .unset, .unset, .unset, .unset, .unset] [(.ref tGE)]))
    refine own_back (fun t_ q_ => XS.iconst X68.here hx rfl (hb hby at_26) q_) ?_
    show own_Gl _ _ _ _ (T68.setTop (mkF m 27 #[.val (.int k), .val (.int (5 : Int32)), .val (.ref oGE), .val (.int (1 : Int32)), .val (.ref tGE), .unset, .unset, .unset, .unset, .unset] [(.int (0 : Int32)), (.ref tGE)]))
    obtain ⟨cq69, kq69, q69a, q69b, q69c⟩ := isOf hZ e68 BGE.1
    obtain ⟨_, _, ⟨T69, L69, k69, n69⟩, -, X69, ⟨Lc69, hQ69, l69, y69, z69⟩, st69⟩ := X68.virtualBack hx (y := (⟨"java/lang/String", "charAt", "(I)C"⟩ : MethodName)) (z := (⟨"java/lang/String", "charAt", "(I)C"⟩ : MethodName)) hown (mvT hZ (hw _ (List.mem_of_getElem? (i := 21) rfl))) (mvT hZ (hw _ (List.mem_of_getElem? (i := 22) rfl))) (notFace_of_selects (args := #[]) (mvT hZ (hw _ (List.mem_of_getElem? (i := 24) rfl)))) (mvT hZ (hw _ (List.mem_of_getElem? (i := 24) rfl))) (mvT hZ (hw _ (List.mem_of_getElem? (i := 23) rfl))) (by decide) (backOf (W := 0) (rm4 l Z a0 hw [] tGE 0 h0 n0 Z0 62 rfl K BGE) hZ (hw _ (List.mem_of_getElem? (i := 26) rfl)) (hw _ (List.mem_of_getElem? (i := 25) rfl)) (by decide) (by decide)) q69a q69c (g := (mkF m 27 #[.val (.int k), .val (.int (5 : Int32)), .val (.ref oGE), .val (.int (1 : Int32)), .val (.ref tGE), .unset, .unset, .unset, .unset, .unset] [(.int (0 : Int32)), (.ref tGE)])) rfl (by rw [hml]; rfl) (Steps.refl _) (argsL := [(.int (0 : Int32))]) (rest := []) (lenOf pd_7 rfl) rfl (by show 2 * 0 + _ ≤ _; exact Nat.le_of_eq rfl) (hb hby at_27) (fun _ _ => ⟨rfl, e68, (by decide : 0 + 0 ≤ _), (by decide : 0 + 0 ≤ _)⟩)
    dsimp only [Pt.U, Pt.locs, Pt.cells, Pt.slots] at X69 l69 y69 z69 st69 hQ69
    subst l69 y69 z69
    obtain ⟨rfl, M69, e69⟩ := hQ69
    have N69 := Fr.app N68 M69
    refine own_trans st69 ?_
    show own_Gl _ _ _ _ (T69.setTop (mkF m 30 #[.val (.int k), .val (.int (5 : Int32)), .val (.ref oGE), .val (.int (1 : Int32)), .val (.ref tGE), .unset, .unset, .unset, .unset, .unset] [(.int (nar .char (own_c 62)))]))
    rw [show nar .char (own_c 62) = 62 by decide]
    show own_Gl _ _ _ _ (T69.setTop (mkF m 30 #[.val (.int k), .val (.int (5 : Int32)), .val (.ref oGE), .val (.int (1 : Int32)), .val (.ref tGE), .unset, .unset, .unset, .unset, .unset] [(.int (62 : Int32))]))
    refine own_back (fun t_ q_ => XS.istore X69.here hx rfl (hb hby at_30) rfl (l' := #[.val (.int k), .val (.int (5 : Int32)), .val (.ref oGE), .val (.int (1 : Int32)), .val (.ref tGE), .val (.int (62 : Int32)), .unset, .unset, .unset, .unset]) rfl q_) ?_
    show own_Gl _ _ _ _ (T69.setTop (mkF m 32 #[.val (.int k), .val (.int (5 : Int32)), .val (.ref oGE), .val (.int (1 : Int32)), .val (.ref tGE), .val (.int (62 : Int32)), .unset, .unset, .unset, .unset] []))
    refine own_back (fun t_ q_ => XS.iload X69.here hx rfl (hb hby at_32) rfl q_) ?_
    show own_Gl _ _ _ _ (T69.setTop (mkF m 34 #[.val (.int k), .val (.int (5 : Int32)), .val (.ref oGE), .val (.int (1 : Int32)), .val (.ref tGE), .val (.int (62 : Int32)), .unset, .unset, .unset, .unset] [(.int (62 : Int32))]))
    refine own_back (fun t_ q_ => XS.bipush X69.here hx rfl (hb hby at_34) q_) ?_
    show own_Gl _ _ _ _ (T69.setTop (mkF m 36 #[.val (.int k), .val (.int (5 : Int32)), .val (.ref oGE), .val (.int (1 : Int32)), .val (.ref tGE), .val (.int (62 : Int32)), .unset, .unset, .unset, .unset] [(.int (60 : Int32)), (.int (62 : Int32))]))
    refine own_back (fun t_ q_ => XS.icmpNo X69.here hx rfl (hb hby at_36) rfl (feq (by decide : ¬ ((62 : Int32) = (60 : Int32)))).1 q_) ?_
    show own_Gl _ _ _ _ (T69.setTop (mkF m 39 #[.val (.int k), .val (.int (5 : Int32)), .val (.ref oGE), .val (.int (1 : Int32)), .val (.ref tGE), .val (.int (62 : Int32)), .unset, .unset, .unset, .unset] []))
    refine own_back (fun t_ q_ => XS.iload X69.here hx rfl (hb hby at_39) rfl q_) ?_
    show own_Gl _ _ _ _ (T69.setTop (mkF m 41 #[.val (.int k), .val (.int (5 : Int32)), .val (.ref oGE), .val (.int (1 : Int32)), .val (.ref tGE), .val (.int (62 : Int32)), .unset, .unset, .unset, .unset] [(.int (62 : Int32))]))
    refine own_back (fun t_ q_ => XS.bipush X69.here hx rfl (hb hby at_41) q_) ?_
    show own_Gl _ _ _ _ (T69.setTop (mkF m 43 #[.val (.int k), .val (.int (5 : Int32)), .val (.ref oGE), .val (.int (1 : Int32)), .val (.ref tGE), .val (.int (62 : Int32)), .unset, .unset, .unset, .unset] [(.int (62 : Int32)), (.int (62 : Int32))]))
    refine own_back (fun t_ q_ => XS.icmpNo X69.here hx rfl (hb hby at_43) rfl (teq (by decide : (62 : Int32) = (62 : Int32))).2 q_) ?_
    show own_Gl _ _ _ _ (T69.setTop (mkF m 46 #[.val (.int k), .val (.int (5 : Int32)), .val (.ref oGE), .val (.int (1 : Int32)), .val (.ref tGE), .val (.int (62 : Int32)), .unset, .unset, .unset, .unset] []))
    refine own_back (fun t_ q_ => XS.iconst X69.here hx rfl (hb hby at_46) q_) ?_
    show own_Gl _ _ _ _ (T69.setTop (mkF m 47 #[.val (.int k), .val (.int (5 : Int32)), .val (.ref oGE), .val (.int (1 : Int32)), .val (.ref tGE), .val (.int (62 : Int32)), .unset, .unset, .unset, .unset] [(.int (1 : Int32))]))
    refine own_back (fun t_ q_ => XS.goto X69.here hx rfl (pc0 := 47) (pc' := 51) rfl (hb hby at_47) (by decide) (by decide) q_) ?_
    show own_Gl _ _ _ _ (T69.setTop (mkF m 51 #[.val (.int k), .val (.int (5 : Int32)), .val (.ref oGE), .val (.int (1 : Int32)), .val (.ref tGE), .val (.int (62 : Int32)), .unset, .unset, .unset, .unset] [(.int (1 : Int32))]))
    refine own_back (fun t_ q_ => XS.istore X69.here hx rfl (hb hby at_51) rfl (l' := #[.val (.int k), .val (.int (5 : Int32)), .val (.ref oGE), .val (.int (1 : Int32)), .val (.ref tGE), .val (.int (62 : Int32)), .val (.int (1 : Int32)), .unset, .unset, .unset]) rfl q_) ?_
    show own_Gl _ _ _ _ (T69.setTop (mkF m 53 #[.val (.int k), .val (.int (5 : Int32)), .val (.ref oGE), .val (.int (1 : Int32)), .val (.ref tGE), .val (.int (62 : Int32)), .val (.int (1 : Int32)), .unset, .unset, .unset] []))
    refine own_back (fun t_ q_ => XS.iloadN X69.here hx rfl (hb hby at_53) rfl q_) ?_
    show own_Gl _ _ _ _ (T69.setTop (mkF m 54 #[.val (.int k), .val (.int (5 : Int32)), .val (.ref oGE), .val (.int (1 : Int32)), .val (.ref tGE), .val (.int (62 : Int32)), .val (.int (1 : Int32)), .unset, .unset, .unset] [(.int (5 : Int32))]))
    refine own_back (fun t_ q_ => XS.iconst X69.here hx rfl (hb hby at_54) q_) ?_
    show own_Gl _ _ _ _ (T69.setTop (mkF m 55 #[.val (.int k), .val (.int (5 : Int32)), .val (.ref oGE), .val (.int (1 : Int32)), .val (.ref tGE), .val (.int (62 : Int32)), .val (.int (1 : Int32)), .unset, .unset, .unset] [(.int (2 : Int32)), (.int (5 : Int32))]))
    refine own_back (fun t_ q_ => XS.icmpNo X69.here hx rfl (hb hby at_55) rfl (flt (by decide : ¬ ((5 : Int32) < (2 : Int32)))).1 q_) ?_
    show own_Gl _ _ _ _ (T69.setTop (mkF m 58 #[.val (.int k), .val (.int (5 : Int32)), .val (.ref oGE), .val (.int (1 : Int32)), .val (.ref tGE), .val (.int (62 : Int32)), .val (.int (1 : Int32)), .unset, .unset, .unset] []))
    refine own_back (fun t_ q_ => XS.iconst X69.here hx rfl (hb hby at_58) q_) ?_
    show own_Gl _ _ _ _ (T69.setTop (mkF m 59 #[.val (.int k), .val (.int (5 : Int32)), .val (.ref oGE), .val (.int (1 : Int32)), .val (.ref tGE), .val (.int (62 : Int32)), .val (.int (1 : Int32)), .unset, .unset, .unset] [(.int (1 : Int32))]))
    refine own_back (fun t_ q_ => XS.goto X69.here hx rfl (pc0 := 59) (pc' := 63) rfl (hb hby at_59) (by decide) (by decide) q_) ?_
    show own_Gl _ _ _ _ (T69.setTop (mkF m 63 #[.val (.int k), .val (.int (5 : Int32)), .val (.ref oGE), .val (.int (1 : Int32)), .val (.ref tGE), .val (.int (62 : Int32)), .val (.int (1 : Int32)), .unset, .unset, .unset] [(.int (1 : Int32))]))
    refine own_back (fun t_ q_ => XS.istore X69.here hx rfl (hb hby at_63) rfl (l' := #[.val (.int k), .val (.int (5 : Int32)), .val (.ref oGE), .val (.int (1 : Int32)), .val (.ref tGE), .val (.int (62 : Int32)), .val (.int (1 : Int32)), .val (.int (1 : Int32)), .unset, .unset]) rfl q_) ?_
    show own_Gl _ _ _ _ (T69.setTop (mkF m 65 #[.val (.int k), .val (.int (5 : Int32)), .val (.ref oGE), .val (.int (1 : Int32)), .val (.ref tGE), .val (.int (62 : Int32)), .val (.int (1 : Int32)), .val (.int (1 : Int32)), .unset, .unset] []))
    refine own_back (fun t_ q_ => XS.aloadN X69.here hx rfl (hb hby at_65) rfl rfl q_) ?_
    show own_Gl _ _ _ _ (T69.setTop (mkF m 66 #[.val (.int k), .val (.int (5 : Int32)), .val (.ref oGE), .val (.int (1 : Int32)), .val (.ref tGE), .val (.int (62 : Int32)), .val (.int (1 : Int32)), .val (.int (1 : Int32)), .unset, .unset] [(.ref oGE)]))
    obtain ⟨cq70, kq70, q70a, q70b, q70c⟩ := isOf hZ e69 XGE
    obtain ⟨_, _, ⟨T70, L70, k70, n70⟩, -, X70, ⟨Lc70, hQ70, l70, y70, z70⟩, st70⟩ := X69.virtualBack hx (y := (⟨"com/example/valenciennes/valenciennes/model/Operator", "negated", "()Lcom/example/valenciennes/valenciennes/model/Operator;"⟩ : MethodName)) (z := (⟨"com/example/valenciennes/valenciennes/model/Operator", "negated", "()Lcom/example/valenciennes/valenciennes/model/Operator;"⟩ : MethodName)) hown (mvT hZ (hw _ (List.mem_of_getElem? (i := 49) rfl))) (mvT hZ (hw _ (List.mem_of_getElem? (i := 50) rfl))) (notFace_of_selects (args := #[]) (mvT hZ (hw _ (List.mem_of_getElem? (i := 52) rfl)))) (mvT hZ (hw _ (List.mem_of_getElem? (i := 52) rfl))) (mvT hZ (hw _ (List.mem_of_getElem? (i := 51) rfl))) (by decide) (backOf (W := 0) (rm9 l Z a0 hw [] oGE h0 n0 Z0 5 oEQ oNE oLT oLE oGT oGE SEQ SNE SLT SLE SGT SGE XGE OGE (by decide)) hZ (hw _ (List.mem_of_getElem? (i := 53) rfl)) (hw _ (List.mem_of_getElem? (i := 6) rfl)) (by decide) (by decide)) q70a q70c (g := (mkF m 66 #[.val (.int k), .val (.int (5 : Int32)), .val (.ref oGE), .val (.int (1 : Int32)), .val (.ref tGE), .val (.int (62 : Int32)), .val (.int (1 : Int32)), .val (.int (1 : Int32)), .unset, .unset] [(.ref oGE)])) rfl (by rw [hml]; rfl) (Steps.refl _) (argsL := []) (rest := []) (lenOf pd_8 rfl) rfl (by show 2 * 0 + _ ≤ _; exact Nat.le_of_eq rfl) (hb hby at_66) (fun _ _ => ⟨rfl, e69, (by decide : 0 + 0 ≤ _), (by decide : 0 + 0 ≤ _)⟩)
    dsimp only [Pt.U, Pt.locs, Pt.cells, Pt.slots] at X70 l70 y70 z70 st70 hQ70
    subst l70 y70 z70
    obtain ⟨rfl, M70, e70⟩ := hQ70
    have N70 := Fr.app N69 M70
    refine own_trans st70 ?_
    show own_Gl _ _ _ _ (T70.setTop (mkF m 69 #[.val (.int k), .val (.int (5 : Int32)), .val (.ref oGE), .val (.int (1 : Int32)), .val (.ref tGE), .val (.int (62 : Int32)), .val (.int (1 : Int32)), .val (.int (1 : Int32)), .unset, .unset] [(.ref (own_sel 5 oNE oEQ oGE oGT oLE oLT))]))
    show own_Gl _ _ _ _ (T70.setTop (mkF m 69 #[.val (.int k), .val (.int (5 : Int32)), .val (.ref oGE), .val (.int (1 : Int32)), .val (.ref tGE), .val (.int (62 : Int32)), .val (.int (1 : Int32)), .val (.int (1 : Int32)), .unset, .unset] [(.ref oLT)]))
    obtain ⟨cq71, kq71, q71a, q71b, q71c⟩ := isOf hZ e70 XLT
    obtain ⟨_, _, ⟨T71, L71, k71, n71⟩, -, X71, ⟨Lc71, hQ71, l71, y71, z71⟩, st71⟩ := X70.virtualBack hx (y := (⟨"com/example/valenciennes/valenciennes/model/Operator", "isOrdering", "()Z"⟩ : MethodName)) (z := (⟨"com/example/valenciennes/valenciennes/model/Operator", "isOrdering", "()Z"⟩ : MethodName)) hown (mvT hZ (hw _ (List.mem_of_getElem? (i := 8) rfl))) (mvT hZ (hw _ (List.mem_of_getElem? (i := 9) rfl))) (notFace_of_selects (args := #[]) (mvT hZ (hw _ (List.mem_of_getElem? (i := 11) rfl)))) (mvT hZ (hw _ (List.mem_of_getElem? (i := 11) rfl))) (mvT hZ (hw _ (List.mem_of_getElem? (i := 10) rfl))) (by decide) (backOf (W := 0) (rm2 l Z a0 hw [] oLT h0 n0 Z0 oEQ oNE SEQ SNE) hZ (hw _ (List.mem_of_getElem? (i := 12) rfl)) (hw _ (List.mem_of_getElem? (i := 6) rfl)) (by decide) (by decide)) q71a q71c (g := (mkF m 69 #[.val (.int k), .val (.int (5 : Int32)), .val (.ref oGE), .val (.int (1 : Int32)), .val (.ref tGE), .val (.int (62 : Int32)), .val (.int (1 : Int32)), .val (.int (1 : Int32)), .unset, .unset] [(.ref oLT)])) rfl (by rw [hml]; rfl) (Steps.refl _) (argsL := []) (rest := []) (lenOf pd_2 rfl) rfl (by show 2 * 0 + _ ≤ _; exact Nat.le_of_eq rfl) (hb hby at_69) (fun _ _ => ⟨rfl, e70, (by decide : 0 + 0 ≤ _), (by decide : 0 + 0 ≤ _)⟩)
    dsimp only [Pt.U, Pt.locs, Pt.cells, Pt.slots] at X71 l71 y71 z71 st71 hQ71
    subst l71 y71 z71
    obtain ⟨rfl, M71, e71⟩ := hQ71
    have N71 := Fr.app N70 M71
    refine own_trans st71 ?_
    show own_Gl _ _ _ _ (T71.setTop (mkF m 72 #[.val (.int k), .val (.int (5 : Int32)), .val (.ref oGE), .val (.int (1 : Int32)), .val (.ref tGE), .val (.int (62 : Int32)), .val (.int (1 : Int32)), .val (.int (1 : Int32)), .unset, .unset] [(.int (if oLT = oEQ ∨ oLT = oNE then (0 : Int32) else 1))]))
    rw [if_neg (fun q => q.elim dLTEQ dLTNE)]
    show own_Gl _ _ _ _ (T71.setTop (mkF m 72 #[.val (.int k), .val (.int (5 : Int32)), .val (.ref oGE), .val (.int (1 : Int32)), .val (.ref tGE), .val (.int (62 : Int32)), .val (.int (1 : Int32)), .val (.int (1 : Int32)), .unset, .unset] [(.int (1 : Int32))]))
    refine own_back (fun t_ q_ => XS.iloadN X71.here hx rfl (hb hby at_72) rfl q_) ?_
    show own_Gl _ _ _ _ (T71.setTop (mkF m 73 #[.val (.int k), .val (.int (5 : Int32)), .val (.ref oGE), .val (.int (1 : Int32)), .val (.ref tGE), .val (.int (62 : Int32)), .val (.int (1 : Int32)), .val (.int (1 : Int32)), .unset, .unset] [(.int (1 : Int32)), (.int (1 : Int32))]))
    refine own_back (fun t_ q_ => XS.icmpNo X71.here hx rfl (hb hby at_73) rfl (teq (rfl : (1 : Int32) = (1 : Int32))).2 q_) ?_
    show own_Gl _ _ _ _ (T71.setTop (mkF m 76 #[.val (.int k), .val (.int (5 : Int32)), .val (.ref oGE), .val (.int (1 : Int32)), .val (.ref tGE), .val (.int (62 : Int32)), .val (.int (1 : Int32)), .val (.int (1 : Int32)), .unset, .unset] []))
    refine own_back (fun t_ q_ => XS.iconst X71.here hx rfl (hb hby at_76) q_) ?_
    show own_Gl _ _ _ _ (T71.setTop (mkF m 77 #[.val (.int k), .val (.int (5 : Int32)), .val (.ref oGE), .val (.int (1 : Int32)), .val (.ref tGE), .val (.int (62 : Int32)), .val (.int (1 : Int32)), .val (.int (1 : Int32)), .unset, .unset] [(.int (1 : Int32))]))
    refine own_back (fun t_ q_ => XS.goto X71.here hx rfl (pc0 := 77) (pc' := 81) rfl (hb hby at_77) (by decide) (by decide) q_) ?_
    show own_Gl _ _ _ _ (T71.setTop (mkF m 81 #[.val (.int k), .val (.int (5 : Int32)), .val (.ref oGE), .val (.int (1 : Int32)), .val (.ref tGE), .val (.int (62 : Int32)), .val (.int (1 : Int32)), .val (.int (1 : Int32)), .unset, .unset] [(.int (1 : Int32))]))
    refine own_back (fun t_ q_ => XS.istore X71.here hx rfl (hb hby at_81) rfl (l' := #[.val (.int k), .val (.int (5 : Int32)), .val (.ref oGE), .val (.int (1 : Int32)), .val (.ref tGE), .val (.int (62 : Int32)), .val (.int (1 : Int32)), .val (.int (1 : Int32)), .val (.int (1 : Int32)), .unset]) rfl q_) ?_
    show own_Gl _ _ _ _ (T71.setTop (mkF m 83 #[.val (.int k), .val (.int (5 : Int32)), .val (.ref oGE), .val (.int (1 : Int32)), .val (.ref tGE), .val (.int (62 : Int32)), .val (.int (1 : Int32)), .val (.int (1 : Int32)), .val (.int (1 : Int32)), .unset] []))
    refine own_back (fun t_ q_ => XS.aloadN X71.here hx rfl (hb hby at_83) rfl rfl q_) ?_
    show own_Gl _ _ _ _ (T71.setTop (mkF m 84 #[.val (.int k), .val (.int (5 : Int32)), .val (.ref oGE), .val (.int (1 : Int32)), .val (.ref tGE), .val (.int (62 : Int32)), .val (.int (1 : Int32)), .val (.int (1 : Int32)), .val (.int (1 : Int32)), .unset] [(.ref oGE)]))
    obtain ⟨cq72, kq72, q72a, q72b, q72c⟩ := isOf hZ e71 XGE
    obtain ⟨_, _, ⟨T72, L72, k72, n72⟩, -, X72, ⟨Lc72, hQ72, l72, y72, z72⟩, st72⟩ := X71.virtualBack hx (y := (⟨"com/example/valenciennes/valenciennes/model/Operator", "mirrored", "()Lcom/example/valenciennes/valenciennes/model/Operator;"⟩ : MethodName)) (z := (⟨"com/example/valenciennes/valenciennes/model/Operator", "mirrored", "()Lcom/example/valenciennes/valenciennes/model/Operator;"⟩ : MethodName)) hown (mvT hZ (hw _ (List.mem_of_getElem? (i := 65) rfl))) (mvT hZ (hw _ (List.mem_of_getElem? (i := 66) rfl))) (notFace_of_selects (args := #[]) (mvT hZ (hw _ (List.mem_of_getElem? (i := 68) rfl)))) (mvT hZ (hw _ (List.mem_of_getElem? (i := 68) rfl))) (mvT hZ (hw _ (List.mem_of_getElem? (i := 67) rfl))) (by decide) (backOf (W := 0) (rm11 l Z a0 hw [] oGE h0 n0 Z0 5 oEQ oNE oLT oLE oGT oGE SEQ SNE SLT SLE SGT SGE XGE OGE (by decide)) hZ (hw _ (List.mem_of_getElem? (i := 69) rfl)) (hw _ (List.mem_of_getElem? (i := 6) rfl)) (by decide) (by decide)) q72a q72c (g := (mkF m 84 #[.val (.int k), .val (.int (5 : Int32)), .val (.ref oGE), .val (.int (1 : Int32)), .val (.ref tGE), .val (.int (62 : Int32)), .val (.int (1 : Int32)), .val (.int (1 : Int32)), .val (.int (1 : Int32)), .unset] [(.ref oGE)])) rfl (by rw [hml]; rfl) (Steps.refl _) (argsL := []) (rest := []) (lenOf pd_8 rfl) rfl (by show 2 * 0 + _ ≤ _; exact Nat.le_of_eq rfl) (hb hby at_84) (fun _ _ => ⟨rfl, e71, (by decide : 0 + 0 ≤ _), (by decide : 0 + 0 ≤ _)⟩)
    dsimp only [Pt.U, Pt.locs, Pt.cells, Pt.slots] at X72 l72 y72 z72 st72 hQ72
    subst l72 y72 z72
    obtain ⟨rfl, M72, e72⟩ := hQ72
    have N72 := Fr.app N71 M72
    refine own_trans st72 ?_
    show own_Gl _ _ _ _ (T72.setTop (mkF m 87 #[.val (.int k), .val (.int (5 : Int32)), .val (.ref oGE), .val (.int (1 : Int32)), .val (.ref tGE), .val (.int (62 : Int32)), .val (.int (1 : Int32)), .val (.int (1 : Int32)), .val (.int (1 : Int32)), .unset] [(.ref (own_sel 5 oGE oGE oGT oGE oLT oLE))]))
    show own_Gl _ _ _ _ (T72.setTop (mkF m 87 #[.val (.int k), .val (.int (5 : Int32)), .val (.ref oGE), .val (.int (1 : Int32)), .val (.ref tGE), .val (.int (62 : Int32)), .val (.int (1 : Int32)), .val (.int (1 : Int32)), .val (.int (1 : Int32)), .unset] [(.ref oLE)]))
    refine own_back (fun t_ q_ => XS.aloadN X72.here hx rfl (hb hby at_87) rfl rfl q_) ?_
    show own_Gl _ _ _ _ (T72.setTop (mkF m 88 #[.val (.int k), .val (.int (5 : Int32)), .val (.ref oGE), .val (.int (1 : Int32)), .val (.ref tGE), .val (.int (62 : Int32)), .val (.int (1 : Int32)), .val (.int (1 : Int32)), .val (.int (1 : Int32)), .unset] [(.ref oGE), (.ref oLE)]))
    refine own_back (fun t_ q_ => Jvm.RoadKit.acmp (g := (mkF m 88 #[.val (.int k), .val (.int (5 : Int32)), .val (.ref oGE), .val (.int (1 : Int32)), .val (.ref tGE), .val (.int (62 : Int32)), .val (.int (1 : Int32)), .val (.int (1 : Int32)), .val (.int (1 : Int32)), .unset] [(.ref oGE), (.ref oLE)])) X72 hx rfl rfl rfl (pc0 := 88) (pc' := 91) (same := false) rfl (hb hby at_88) rfl (decide_eq_false fun q => (dLEGE) (Value.ref.inj q)) (by decide) (by decide) q_) ?_
    show own_Gl _ _ _ _ (T72.setTop (mkF m 91 #[.val (.int k), .val (.int (5 : Int32)), .val (.ref oGE), .val (.int (1 : Int32)), .val (.ref tGE), .val (.int (62 : Int32)), .val (.int (1 : Int32)), .val (.int (1 : Int32)), .val (.int (1 : Int32)), .unset] []))
    refine own_back (fun t_ q_ => XS.iconst X72.here hx rfl (hb hby at_91) q_) ?_
    show own_Gl _ _ _ _ (T72.setTop (mkF m 92 #[.val (.int k), .val (.int (5 : Int32)), .val (.ref oGE), .val (.int (1 : Int32)), .val (.ref tGE), .val (.int (62 : Int32)), .val (.int (1 : Int32)), .val (.int (1 : Int32)), .val (.int (1 : Int32)), .unset] [(.int (1 : Int32))]))
    refine own_back (fun t_ q_ => XS.goto X72.here hx rfl (pc0 := 92) (pc' := 96) rfl (hb hby at_92) (by decide) (by decide) q_) ?_
    show own_Gl _ _ _ _ (T72.setTop (mkF m 96 #[.val (.int k), .val (.int (5 : Int32)), .val (.ref oGE), .val (.int (1 : Int32)), .val (.ref tGE), .val (.int (62 : Int32)), .val (.int (1 : Int32)), .val (.int (1 : Int32)), .val (.int (1 : Int32)), .unset] [(.int (1 : Int32))]))
    refine own_back (fun t_ q_ => XS.iloadN X72.here hx rfl (hb hby at_96) rfl q_) ?_
    show own_Gl _ _ _ _ (T72.setTop (mkF m 97 #[.val (.int k), .val (.int (5 : Int32)), .val (.ref oGE), .val (.int (1 : Int32)), .val (.ref tGE), .val (.int (62 : Int32)), .val (.int (1 : Int32)), .val (.int (1 : Int32)), .val (.int (1 : Int32)), .unset] [(.int (1 : Int32)), (.int (1 : Int32))]))
    refine own_back (fun t_ q_ => XS.icmpNo X72.here hx rfl (hb hby at_97) rfl (teq (rfl : (1 : Int32) = (1 : Int32))).2 q_) ?_
    show own_Gl _ _ _ _ (T72.setTop (mkF m 100 #[.val (.int k), .val (.int (5 : Int32)), .val (.ref oGE), .val (.int (1 : Int32)), .val (.ref tGE), .val (.int (62 : Int32)), .val (.int (1 : Int32)), .val (.int (1 : Int32)), .val (.int (1 : Int32)), .unset] []))
    refine own_back (fun t_ q_ => XS.iconst X72.here hx rfl (hb hby at_100) q_) ?_
    show own_Gl _ _ _ _ (T72.setTop (mkF m 101 #[.val (.int k), .val (.int (5 : Int32)), .val (.ref oGE), .val (.int (1 : Int32)), .val (.ref tGE), .val (.int (62 : Int32)), .val (.int (1 : Int32)), .val (.int (1 : Int32)), .val (.int (1 : Int32)), .unset] [(.int (1 : Int32))]))
    refine own_back (fun t_ q_ => XS.goto X72.here hx rfl (pc0 := 101) (pc' := 105) rfl (hb hby at_101) (by decide) (by decide) q_) ?_
    show own_Gl _ _ _ _ (T72.setTop (mkF m 105 #[.val (.int k), .val (.int (5 : Int32)), .val (.ref oGE), .val (.int (1 : Int32)), .val (.ref tGE), .val (.int (62 : Int32)), .val (.int (1 : Int32)), .val (.int (1 : Int32)), .val (.int (1 : Int32)), .unset] [(.int (1 : Int32))]))
    refine own_back (fun t_ q_ => XS.istore X72.here hx rfl (hb hby at_105) rfl (l' := #[.val (.int k), .val (.int (5 : Int32)), .val (.ref oGE), .val (.int (1 : Int32)), .val (.ref tGE), .val (.int (62 : Int32)), .val (.int (1 : Int32)), .val (.int (1 : Int32)), .val (.int (1 : Int32)), .val (.int (1 : Int32))]) rfl q_) ?_
    show own_Gl _ _ _ _ (T72.setTop (mkF m 107 #[.val (.int k), .val (.int (5 : Int32)), .val (.ref oGE), .val (.int (1 : Int32)), .val (.ref tGE), .val (.int (62 : Int32)), .val (.int (1 : Int32)), .val (.int (1 : Int32)), .val (.int (1 : Int32)), .val (.int (1 : Int32))] []))
    refine own_back (fun t_ q_ => XS.iloadN X72.here hx rfl (hb hby at_107) rfl q_) ?_
    show own_Gl _ _ _ _ (T72.setTop (mkF m 108 #[.val (.int k), .val (.int (5 : Int32)), .val (.ref oGE), .val (.int (1 : Int32)), .val (.ref tGE), .val (.int (62 : Int32)), .val (.int (1 : Int32)), .val (.int (1 : Int32)), .val (.int (1 : Int32)), .val (.int (1 : Int32))] [(.int (1 : Int32))]))
    refine own_back (fun t_ q_ => XS.iload X72.here hx rfl (hb hby at_108) rfl q_) ?_
    show own_Gl _ _ _ _ (T72.setTop (mkF m 110 #[.val (.int k), .val (.int (5 : Int32)), .val (.ref oGE), .val (.int (1 : Int32)), .val (.ref tGE), .val (.int (62 : Int32)), .val (.int (1 : Int32)), .val (.int (1 : Int32)), .val (.int (1 : Int32)), .val (.int (1 : Int32))] [(.int (1 : Int32)), (.int (1 : Int32))]))
    refine own_back (fun t_ q_ => XS.icmpNo X72.here hx rfl (hb hby at_110) rfl (teq (rfl : (1 : Int32) = (1 : Int32))).2 q_) ?_
    show own_Gl _ _ _ _ (T72.setTop (mkF m 113 #[.val (.int k), .val (.int (5 : Int32)), .val (.ref oGE), .val (.int (1 : Int32)), .val (.ref tGE), .val (.int (62 : Int32)), .val (.int (1 : Int32)), .val (.int (1 : Int32)), .val (.int (1 : Int32)), .val (.int (1 : Int32))] []))
    refine own_back (fun t_ q_ => XS.iloadN X72.here hx rfl (hb hby at_113) rfl q_) ?_
    show own_Gl _ _ _ _ (T72.setTop (mkF m 114 #[.val (.int k), .val (.int (5 : Int32)), .val (.ref oGE), .val (.int (1 : Int32)), .val (.ref tGE), .val (.int (62 : Int32)), .val (.int (1 : Int32)), .val (.int (1 : Int32)), .val (.int (1 : Int32)), .val (.int (1 : Int32))] [(.int (1 : Int32))]))
    refine own_back (fun t_ q_ => XS.iload X72.here hx rfl (hb hby at_114) rfl q_) ?_
    show own_Gl _ _ _ _ (T72.setTop (mkF m 116 #[.val (.int k), .val (.int (5 : Int32)), .val (.ref oGE), .val (.int (1 : Int32)), .val (.ref tGE), .val (.int (62 : Int32)), .val (.int (1 : Int32)), .val (.int (1 : Int32)), .val (.int (1 : Int32)), .val (.int (1 : Int32))] [(.int (1 : Int32)), (.int (1 : Int32))]))
    refine own_back (fun t_ q_ => XS.icmpNo X72.here hx rfl (hb hby at_116) rfl (teq (rfl : (1 : Int32) = (1 : Int32))).2 q_) ?_
    show own_Gl _ _ _ _ (T72.setTop (mkF m 119 #[.val (.int k), .val (.int (5 : Int32)), .val (.ref oGE), .val (.int (1 : Int32)), .val (.ref tGE), .val (.int (62 : Int32)), .val (.int (1 : Int32)), .val (.int (1 : Int32)), .val (.int (1 : Int32)), .val (.int (1 : Int32))] []))
    refine own_back (fun t_ q_ => XS.iload X72.here hx rfl (hb hby at_119) rfl q_) ?_
    show own_Gl _ _ _ _ (T72.setTop (mkF m 121 #[.val (.int k), .val (.int (5 : Int32)), .val (.ref oGE), .val (.int (1 : Int32)), .val (.ref tGE), .val (.int (62 : Int32)), .val (.int (1 : Int32)), .val (.int (1 : Int32)), .val (.int (1 : Int32)), .val (.int (1 : Int32))] [(.int (1 : Int32))]))
    refine own_back (fun t_ q_ => XS.ifNo X72.here hx rfl (hb hby at_121) rfl ((if0 _ _).trans (feq (by decide : ¬ ((1 : Int32) = (0 : Int32)))).1) q_) ?_
    show own_Gl _ _ _ _ (T72.setTop (mkF m 124 #[.val (.int k), .val (.int (5 : Int32)), .val (.ref oGE), .val (.int (1 : Int32)), .val (.ref tGE), .val (.int (62 : Int32)), .val (.int (1 : Int32)), .val (.int (1 : Int32)), .val (.int (1 : Int32)), .val (.int (1 : Int32))] []))
    refine own_back (fun t_ q_ => XS.iload X72.here hx rfl (hb hby at_124) rfl q_) ?_
    show own_Gl _ _ _ _ (T72.setTop (mkF m 126 #[.val (.int k), .val (.int (5 : Int32)), .val (.ref oGE), .val (.int (1 : Int32)), .val (.ref tGE), .val (.int (62 : Int32)), .val (.int (1 : Int32)), .val (.int (1 : Int32)), .val (.int (1 : Int32)), .val (.int (1 : Int32))] [(.int (1 : Int32))]))
    refine own_back (fun t_ q_ => XS.ifNo X72.here hx rfl (hb hby at_126) rfl ((if0 _ _).trans (feq (by decide : ¬ ((1 : Int32) = (0 : Int32)))).1) q_) ?_
    show own_Gl _ _ _ _ (T72.setTop (mkF m 129 #[.val (.int k), .val (.int (5 : Int32)), .val (.ref oGE), .val (.int (1 : Int32)), .val (.ref tGE), .val (.int (62 : Int32)), .val (.int (1 : Int32)), .val (.int (1 : Int32)), .val (.int (1 : Int32)), .val (.int (1 : Int32))] []))
    refine own_back (fun t_ q_ => XS.iconst X72.here hx rfl (hb hby at_129) q_) ?_
    show own_Gl _ _ _ _ (T72.setTop (mkF m 130 #[.val (.int k), .val (.int (5 : Int32)), .val (.ref oGE), .val (.int (1 : Int32)), .val (.ref tGE), .val (.int (62 : Int32)), .val (.int (1 : Int32)), .val (.int (1 : Int32)), .val (.int (1 : Int32)), .val (.int (1 : Int32))] [(.int (1 : Int32))]))
    refine own_back (fun t_ q_ => XS.goto X72.here hx rfl (pc0 := 130) (pc' := 134) rfl (hb hby at_130) (by decide) (by decide) q_) ?_
    show own_Gl _ _ _ _ (T72.setTop (mkF m 134 #[.val (.int k), .val (.int (5 : Int32)), .val (.ref oGE), .val (.int (1 : Int32)), .val (.ref tGE), .val (.int (62 : Int32)), .val (.int (1 : Int32)), .val (.int (1 : Int32)), .val (.int (1 : Int32)), .val (.int (1 : Int32))] [(.int (1 : Int32))]))
    exact own_rZ X72 hx hlk Bd.returns (hb hby at_134) (own_one rfl) (by show Qrm0 h0 n0 _ T72.heap _; rw [e72]; exact ⟨rfl, N72⟩) (by decide) (by decide)
set_option maxRecDepth 65536 in
set_option maxHeartbeats 40000000 in
theorem comes_1 {Post : Tables → Env → Array Value → State → Outcome → State → Prop} (hpost : ∀ tb e args s v u, (limb_1_1.after args s (.returned v) u = true ∧ limb_1_2.after args s (.returned v) u = true ∧ True) → FrameEnd s (.returned v) u (Jvm.fieldLocs frame_1_writes args s ++ Jvm.arrayLocs frame_1_arrays args s ++ Jvm.staticLocs frame_1_statics s) 0 0 → Post tb e args s (.returned v) u) :
    ArmFor flags0 classFile x code maxLocals ret World_1 tables_1 room_1 Calls_1 rest_1 Pre_1 Post := by
  intro l hfl _ _ p e ha hc hk s m args below hf hA hF happ hP
  obtain ⟨hcalls, hrest, hpre⟩ := hP
  obtain ⟨-, -, -, hnamed, -, -, -, hat⟩ := (Spec.applies_iff hf).mp happ
  obtain ⟨hg, hn⟩ := and_e (Cond.before_iff.mp (show (Jvm.Cond.and given_1 narrow_1).before args s = true from hpre))
  obtain ⟨h1, hg1⟩ := and_e hg
  obtain ⟨w0, rfl⟩ : ∃ w0 : Value, args = #[w0] := by
    have hs : args.size = 1 := by simpa [Cond.value, given_1] using h1
    obtain ⟨L⟩ := args
    match L, hs with
    | [w0], _ => exact ⟨w0, rfl⟩
  have hw := fun d (hd : d ∈ tables_1) => atoms_spec (ws := Jvm.Cond.code x code maxLocals ret :: tables_1) hat d (List.mem_cons_of_mem _ hd)
  obtain ⟨i0, ei0⟩ := is_v hg1
  obtain rfl : w0 = (.int i0) := Option.some.inj ei0
  have hN := hn
  unfold narrow_1 at hN
  obtain ⟨hk_0, hN⟩ := and_e hN
  obtain ⟨hk_1, hN⟩ := and_e hN
  obtain ⟨hk_2, hN⟩ := and_e hN
  obtain ⟨hk_3, hN⟩ := and_e hN
  obtain ⟨hk_4, hN⟩ := and_e hN
  obtain ⟨hk_5, hN⟩ := and_e hN
  obtain ⟨hk_6, hN⟩ := and_e hN
  obtain ⟨hk_7, hN⟩ := and_e hN
  obtain ⟨hk_8, hN⟩ := and_e hN
  obtain ⟨hk_9, hN⟩ := and_e hN
  obtain ⟨hk_10, hN⟩ := and_e hN
  obtain ⟨hk_11, hN⟩ := and_e hN
  obtain ⟨hk_12, hN⟩ := and_e hN
  obtain ⟨hk_13, hN⟩ := and_e hN
  obtain ⟨hk_14, hN⟩ := and_e hN
  obtain ⟨hk_15, hN⟩ := and_e hN
  obtain ⟨hk_16, hN⟩ := and_e hN
  obtain ⟨hk_17, hN⟩ := and_e hN
  obtain ⟨hk_18, hN⟩ := and_e hN
  obtain ⟨hk_19, hN⟩ := and_e hN
  obtain ⟨hk_20, hN⟩ := and_e hN
  obtain ⟨hk_21, hN⟩ := and_e hN
  obtain ⟨hk_22, hN⟩ := and_e hN
  obtain ⟨hk_23, hN⟩ := and_e hN
  obtain ⟨hk_24, hN⟩ := and_e hN
  obtain ⟨hk_25, hN⟩ := and_e hN
  obtain ⟨hk_26, hN⟩ := and_e hN
  obtain ⟨hk_27, hN⟩ := and_e hN
  obtain ⟨hk_28, hN⟩ := and_e hN
  obtain ⟨hk_29, hN⟩ := and_e hN
  obtain ⟨hk_30, hN⟩ := and_e hN
  obtain ⟨hk_31, hN⟩ := and_e hN
  obtain ⟨hk_32, hN⟩ := and_e hN
  obtain ⟨hk_33, hN⟩ := and_e hN
  obtain ⟨hk_34, hN⟩ := and_e hN
  obtain ⟨hk_35, hN⟩ := and_e hN
  obtain ⟨hk_36, hN⟩ := and_e hN
  obtain ⟨hk_37, hN⟩ := and_e hN
  obtain ⟨hk_38, hN⟩ := and_e hN
  obtain ⟨hk_39, hN⟩ := and_e hN
  obtain ⟨hk_40, hN⟩ := and_e hN
  obtain ⟨hk_41, hN⟩ := and_e hN
  obtain ⟨hk_42, hN⟩ := and_e hN
  obtain ⟨hk_43, hN⟩ := and_e hN
  obtain ⟨hk_44, hN⟩ := and_e hN
  have hk_45 := hN
  have hsets := (atoms_of jdkStatics_1 (show (jdkStatics_1.foldr Jvm.Cond.and restOwn_1).before _ s = true from rest_1_c_eq ▸ (show rest_1_c.before _ s = true from hrest))).1
  have K : own_Sys s s.heap := by
    obtain ⟨cs, ecs⟩ := is_v (Cond.before_iff.mp (hsets _ (List.mem_of_getElem? (i := 1) rfl)))
    obtain ⟨fm, efm, rfm⟩ := isR_v (Cond.before_iff.mp (hsets _ (List.mem_of_getElem? (i := 8) rfl)))
    refine ⟨cs, fm, fun q => ?_, Sta.start ecs (Or.inl (hsets _ (List.mem_of_getElem? (i := 0) rfl))), rfm, Sta.start efm (Or.inl (hsets _ (List.mem_of_getElem? (i := 7) rfl)))⟩
    have q2 := not_v (Cond.before_iff.mp (hsets _ (List.mem_of_getElem? (i := 2) rfl)))
    subst q
    rw [eq_i ecs (Term.int_eval 0) rfl] at q2
    exact absurd q2 (by decide)
  obtain ⟨oEQ, PEQ⟩ : ∃ o, own_Op s s.heap "EQ" o 0 61 := by
    obtain ⟨o, eo⟩ := exa_v hk_0
    obtain ⟨st, es⟩ := exa_v hk_1
    obtain ⟨va, ea⟩ := arr_v hk_3
    obtain ⟨cl, A⟩ := Arr.start ea hk_3
    have e1 := own_eqI hk_6
    have e2 := own_eqI hk_2
    have e3 := own_eqI hk_4
    have e4 := own_eqI hk_5
    obtain ⟨x1, c1, l1, l2, l3⟩ := Term.length_spec e3
    cases ea.symm.trans l1
    cases (A.fin (Vm.Alike.refl _)).symm.trans l2
    have l4 : cl.slots.size.toInt32 = 2 := (Value.int.inj l3).symm
    obtain ⟨i1, i2⟩ := elem_in e4 ea (Term.int_eval 0) A.1
    have es' := es
    have ea' := ea
    rw [fld_at eo] at e1 es'
    rw [fld_at es] at e2 ea'
    exact ⟨o, Sta.start eo (Or.inr ⟨(hw _ (List.mem_of_getElem? (i := 6) rfl)), (hw _ (List.mem_of_getElem? (i := 7) rfl))⟩), Exa.start eo hk_0, Fld.start e1, st, Fld.start es', Exa.start es hk_1, Fld.start e2, va, cl, Fld.start ea', A, by rw [l4]; decide, i1, i2⟩
  obtain ⟨oNE, PNE⟩ : ∃ o, own_Op s s.heap "NE" o 1 33 := by
    obtain ⟨o, eo⟩ := exa_v hk_7
    obtain ⟨st, es⟩ := exa_v hk_27
    obtain ⟨va, ea⟩ := arr_v hk_29
    obtain ⟨cl, A⟩ := Arr.start ea hk_29
    have e1 := own_eqI hk_8
    have e2 := own_eqI hk_28
    have e3 := own_eqI hk_30
    have e4 := own_eqI hk_31
    obtain ⟨x1, c1, l1, l2, l3⟩ := Term.length_spec e3
    cases ea.symm.trans l1
    cases (A.fin (Vm.Alike.refl _)).symm.trans l2
    have l4 : cl.slots.size.toInt32 = 2 := (Value.int.inj l3).symm
    obtain ⟨i1, i2⟩ := elem_in e4 ea (Term.int_eval 0) A.1
    have es' := es
    have ea' := ea
    rw [fld_at eo] at e1 es'
    rw [fld_at es] at e2 ea'
    exact ⟨o, Sta.start eo (Or.inr ⟨(hw _ (List.mem_of_getElem? (i := 6) rfl)), (hw _ (List.mem_of_getElem? (i := 64) rfl))⟩), Exa.start eo hk_7, Fld.start e1, st, Fld.start es', Exa.start es hk_27, Fld.start e2, va, cl, Fld.start ea', A, by rw [l4]; decide, i1, i2⟩
  obtain ⟨oLT, PLT⟩ : ∃ o, own_Op s s.heap "LT" o 2 60 := by
    obtain ⟨o, eo⟩ := exa_v hk_20
    obtain ⟨st, es⟩ := exa_v hk_22
    obtain ⟨va, ea⟩ := arr_v hk_24
    obtain ⟨cl, A⟩ := Arr.start ea hk_24
    have e1 := own_eqI hk_21
    have e2 := own_eqI hk_23
    have e3 := own_eqI hk_25
    have e4 := own_eqI hk_26
    obtain ⟨x1, c1, l1, l2, l3⟩ := Term.length_spec e3
    cases ea.symm.trans l1
    cases (A.fin (Vm.Alike.refl _)).symm.trans l2
    have l4 : cl.slots.size.toInt32 = 1 := (Value.int.inj l3).symm
    obtain ⟨i1, i2⟩ := elem_in e4 ea (Term.int_eval 0) A.1
    have es' := es
    have ea' := ea
    rw [fld_at eo] at e1 es'
    rw [fld_at es] at e2 ea'
    exact ⟨o, Sta.start eo (Or.inr ⟨(hw _ (List.mem_of_getElem? (i := 6) rfl)), (hw _ (List.mem_of_getElem? (i := 77) rfl))⟩), Exa.start eo hk_20, Fld.start e1, st, Fld.start es', Exa.start es hk_22, Fld.start e2, va, cl, Fld.start ea', A, by rw [l4]; decide, i1, i2⟩
  obtain ⟨oLE, PLE⟩ : ∃ o, own_Op s s.heap "LE" o 3 60 := by
    obtain ⟨o, eo⟩ := exa_v hk_9
    obtain ⟨st, es⟩ := exa_v hk_11
    obtain ⟨va, ea⟩ := arr_v hk_13
    obtain ⟨cl, A⟩ := Arr.start ea hk_13
    have e1 := own_eqI hk_10
    have e2 := own_eqI hk_12
    have e3 := own_eqI hk_14
    have e4 := own_eqI hk_15
    obtain ⟨x1, c1, l1, l2, l3⟩ := Term.length_spec e3
    cases ea.symm.trans l1
    cases (A.fin (Vm.Alike.refl _)).symm.trans l2
    have l4 : cl.slots.size.toInt32 = 2 := (Value.int.inj l3).symm
    obtain ⟨i1, i2⟩ := elem_in e4 ea (Term.int_eval 0) A.1
    have es' := es
    have ea' := ea
    rw [fld_at eo] at e1 es'
    rw [fld_at es] at e2 ea'
    exact ⟨o, Sta.start eo (Or.inr ⟨(hw _ (List.mem_of_getElem? (i := 6) rfl)), (hw _ (List.mem_of_getElem? (i := 71) rfl))⟩), Exa.start eo hk_9, Fld.start e1, st, Fld.start es', Exa.start es hk_11, Fld.start e2, va, cl, Fld.start ea', A, by rw [l4]; decide, i1, i2⟩
  obtain ⟨oGT, PGT⟩ : ∃ o, own_Op s s.heap "GT" o 4 62 := by
    obtain ⟨o, eo⟩ := exa_v hk_16
    obtain ⟨st, es⟩ := exa_v hk_37
    obtain ⟨va, ea⟩ := arr_v hk_39
    obtain ⟨cl, A⟩ := Arr.start ea hk_39
    have e1 := own_eqI hk_17
    have e2 := own_eqI hk_38
    have e3 := own_eqI hk_40
    have e4 := own_eqI hk_41
    obtain ⟨x1, c1, l1, l2, l3⟩ := Term.length_spec e3
    cases ea.symm.trans l1
    cases (A.fin (Vm.Alike.refl _)).symm.trans l2
    have l4 : cl.slots.size.toInt32 = 1 := (Value.int.inj l3).symm
    obtain ⟨i1, i2⟩ := elem_in e4 ea (Term.int_eval 0) A.1
    have es' := es
    have ea' := ea
    rw [fld_at eo] at e1 es'
    rw [fld_at es] at e2 ea'
    exact ⟨o, Sta.start eo (Or.inr ⟨(hw _ (List.mem_of_getElem? (i := 6) rfl)), (hw _ (List.mem_of_getElem? (i := 73) rfl))⟩), Exa.start eo hk_16, Fld.start e1, st, Fld.start es', Exa.start es hk_37, Fld.start e2, va, cl, Fld.start ea', A, by rw [l4]; decide, i1, i2⟩
  obtain ⟨oGE, PGE⟩ : ∃ o, own_Op s s.heap "GE" o 5 62 := by
    obtain ⟨o, eo⟩ := exa_v hk_18
    obtain ⟨st, es⟩ := exa_v hk_32
    obtain ⟨va, ea⟩ := arr_v hk_34
    obtain ⟨cl, A⟩ := Arr.start ea hk_34
    have e1 := own_eqI hk_19
    have e2 := own_eqI hk_33
    have e3 := own_eqI hk_35
    have e4 := own_eqI hk_36
    obtain ⟨x1, c1, l1, l2, l3⟩ := Term.length_spec e3
    cases ea.symm.trans l1
    cases (A.fin (Vm.Alike.refl _)).symm.trans l2
    have l4 : cl.slots.size.toInt32 = 2 := (Value.int.inj l3).symm
    obtain ⟨i1, i2⟩ := elem_in e4 ea (Term.int_eval 0) A.1
    have es' := es
    have ea' := ea
    rw [fld_at eo] at e1 es'
    rw [fld_at es] at e2 ea'
    exact ⟨o, Sta.start eo (Or.inr ⟨(hw _ (List.mem_of_getElem? (i := 6) rfl)), (hw _ (List.mem_of_getElem? (i := 75) rfl))⟩), Exa.start eo hk_18, Fld.start e1, st, Fld.start es', Exa.start es hk_32, Fld.start e2, va, cl, Fld.start ea', A, by rw [l4]; decide, i1, i2⟩
  obtain ⟨n, o, h1, h2, h3, _, L, rfl, ⟨rfl, N⟩, hq⟩ := rm0 l s _ hw tables_1 i0 s.heap s.heap.size (Nat.le_refl _) oEQ oNE oLT oLE oGT oGE K PEQ PNE PLT PLE PGT PGE p e ha hc hk s m _ below hf ((Spec.applies_iff_loose hf).mp happ).1 ⟨rfl, State.Warmed39.refl s, rfl⟩ trivial
  refine ⟨n, _, h1, h2, h3, hpost _ _ _ _ _ _ ⟨Cond.after_iff.mpr rfl, Cond.after_iff.mpr (eq_i res_at (Term.int_eval (1)) rfl), trivial⟩ ⟨hq.1, hq.2.1, (hq.2.2.sift fun y hy => Or.inr (N y hy)).mono (by decide) (by decide)⟩⟩
theorem main_1_1 : Claimed_1_1 := comes_1 fun _ _ _ _ _ _ h hF => ⟨h.1, hF⟩
theorem main_1_2 : Claimed_1_2 := comes_1 fun _ _ _ _ _ _ h hF => ⟨h.2.1, hF⟩
end Jvm.Pilot.@@N@@
namespace Jvm.Pilot.@@N@@
open Jvm Jvm.ClassFile Sem Op Lib Jvm.Free Jvm.Stand Jvm.Pilot.@@N@@.Jvm.D
/-! MADE BY PROGRAM (witnessworld.py) out of the Statement's table words and the real class files: 18 classes; the members and pool entries that the words name. The judged class is class 1, her method 2. -/
namespace start1
open Jvm.ClassFile
def u (s : String) : CpInfo := .utf8 (stringToUtf16 s)
/-- a pool by its gaps: so many unusable entries, then the entry; so many at the end -/
def gap : Nat → List CpInfo → List CpInfo
  | 0, r => r
  | n + 1, r => .unusable :: gap n r
def poolList (es : List (Nat × CpInfo)) (last : Nat) : List CpInfo := es.foldr (fun e r => gap e.1 (e.2 :: r)) (gap last [])
def pool (es : List (Nat × CpInfo)) (last : Nat) : Array CpInfo := ⟨poolList es last⟩
def fileOf (pool : Array CpInfo) (this : Nat) (attrs : Array Attribute := #[]) (ms : Array MethodInfo := #[]) (fl : Nat := 33) (sup : Nat := 0) (ifs : Array Nat := #[]) (fds : Array FieldInfo := #[]) : ClassFile where
  minorVersion := 0
  majorVersion := 65
  constantPool := pool
  accessFlags := fl
  thisClass := this
  superClass := sup
  interfaces := ifs
  fields := fds
  methods := ms
  attributes := attrs
def plain (name : String) (sup : Option ClassId) : Class where
  name := name
  kind := .ordinary
  loader := none
  accessFlags := 33
  super := sup
  interfaces := #[]
  cf := none
  fields := #[]
  methods := #[]
  instanceTypes := #[]
  staticTypes := #[]
  resolved := #[]
  callSites := []
  init := .initialized
  statics := none
  mirror := none

def pool0 : Array CpInfo := pool [(5, u "<init>"), (0, u "()V"), (1, .class_ 10), (1, u "java/lang/Object")] 113

def k0m0 : Method := { name := "<init>", desc := "()V", sig := { parameters := [], returnType := none }, accessFlags := 1, code := none }
/-- java/lang/Object -/
def k0 : Class := { plain "java/lang/Object" none with
  accessFlags := 33
  interfaces := #[]
  cf := some (fileOf pool0 8 #[] #[{ accessFlags := 1, nameIndex := 5, descriptorIndex := 6, attributes := #[] }] 33 0 #[] #[])
  fields := #[]
  methods := #[k0m0]
  instanceTypes := #[]
  staticTypes := #[]
  resolved := Array.replicate 124 none
  statics := none }

def pool1 : Array CpInfo := pool [(2, .class_ 4), (1, u "java/lang/Object"), (0, u "<init>"), (0, u "()V"), (0, .fieldref 8 9), (0, .class_ 10), (0, .nameAndType 11 12), (0, u "com/example/valenciennes/valenciennes/model/Operator"), (0, u "EQ"), (0, u "Lcom/example/valenciennes/valenciennes/model/Operator;"), (0, .fieldref 8 14), (0, .nameAndType 15 12), (0, u "NE"), (0, .fieldref 8 17), (0, .nameAndType 18 12), (0, u "LT"), (0, .fieldref 8 20), (0, .nameAndType 21 12), (0, u "LE"), (0, .fieldref 8 23), (0, .nameAndType 24 12), (0, u "GT"), (0, .fieldref 8 26), (0, .nameAndType 27 12), (0, u "GE"), (0, .integer 2147483647), (0, .methodref 30 31), (0, .class_ 32), (0, .nameAndType 33 34), (0, u "com/example/valenciennes/valenciennes/model/OperatorIsOrderingPinLaw"), (0, u "pick"), (0, u "(I)Lcom/example/valenciennes/valenciennes/model/Operator;"), (0, .methodref 8 36), (0, .nameAndType 37 38), (0, u "isOrdering"), (0, u "()Z"), (0, .methodref 8 40), (0, .nameAndType 41 42), (0, u "symbol"), (0, u "()Ljava/lang/String;"), (0, .methodref 44 45), (0, .class_ 46), (0, .nameAndType 47 48), (0, u "java/lang/String"), (0, u "charAt"), (0, u "(I)C"), (0, .methodref 8 50), (0, .nameAndType 51 52), (0, u "negated"), (0, u "()Lcom/example/valenciennes/valenciennes/model/Operator;"), (0, .methodref 8 54), (0, .nameAndType 55 52), (0, u "mirrored"), (3, u "law"), (0, u "(I)Z")] 2

def k1m0 : Method := { name := "<init>", desc := "()V", sig := { parameters := [], returnType := none }, accessFlags := 1, code := none }
def k1c1 : Code := { maxStack := 2, maxLocals := 1, code := method_2_code, exceptionTable := #[], attributes := #[] }
def k1m1 : Method := { name := "pick", desc := "(I)Lcom/example/valenciennes/valenciennes/model/Operator;", sig := { parameters := [.int], returnType := some (.object "com/example/valenciennes/valenciennes/model/Operator") }, accessFlags := 10, code := some k1c1 }
def k1c2 : Code := { maxStack := 2, maxLocals := 10, code := code, exceptionTable := #[], attributes := #[] }
def k1m2 : Method := { name := "law", desc := "(I)Z", sig := { parameters := [.int], returnType := some .boolean }, accessFlags := 9, code := some k1c2 }
/-- com/example/valenciennes/valenciennes/model/OperatorIsOrderingPinLaw -/
def k1 : Class := { plain "com/example/valenciennes/valenciennes/model/OperatorIsOrderingPinLaw" (some 0) with
  accessFlags := 49
  interfaces := #[]
  cf := some (fileOf pool1 30 #[] #[{ accessFlags := 1, nameIndex := 5, descriptorIndex := 6, attributes := #[] }, { accessFlags := 10, nameIndex := 33, descriptorIndex := 34, attributes := #[] }, { accessFlags := 9, nameIndex := 59, descriptorIndex := 60, attributes := #[] }] 49 2 #[] #[])
  fields := #[]
  methods := #[k1m0, k1m1, k1m2]
  instanceTypes := #[]
  staticTypes := #[]
  resolved := Array.replicate 63 none
  statics := none }

def pool2 : Array CpInfo := pool [(1, .class_ 2), (0, u "java/lang/constant/Constable"), (0, .class_ 4), (0, u "java/lang/Object")] 6

/-- java/lang/constant/Constable -/
def k2 : Class := { plain "java/lang/constant/Constable" (some 0) with
  accessFlags := 1537
  interfaces := #[]
  cf := some (fileOf pool2 1 #[] #[] 1537 3 #[] #[])
  fields := #[]
  methods := #[]
  instanceTypes := #[]
  staticTypes := #[]
  resolved := Array.replicate 11 none
  statics := none }

def pool3 : Array CpInfo := pool [(1, .class_ 2), (0, u "java/lang/Comparable"), (0, .class_ 4), (0, u "java/lang/Object")] 7

/-- java/lang/Comparable -/
def k3 : Class := { plain "java/lang/Comparable" (some 0) with
  accessFlags := 1537
  interfaces := #[]
  cf := some (fileOf pool3 1 #[] #[] 1537 3 #[] #[])
  fields := #[]
  methods := #[]
  instanceTypes := #[]
  staticTypes := #[]
  resolved := Array.replicate 12 none
  statics := none }

def pool4 : Array CpInfo := pool [(1, .class_ 2), (0, u "java/io/Serializable"), (0, .class_ 4), (0, u "java/lang/Object")] 2

/-- java/io/Serializable -/
def k4 : Class := { plain "java/io/Serializable" (some 0) with
  accessFlags := 1537
  interfaces := #[]
  cf := some (fileOf pool4 1 #[] #[] 1537 3 #[] #[])
  fields := #[]
  methods := #[]
  instanceTypes := #[]
  staticTypes := #[]
  resolved := Array.replicate 7 none
  statics := none }

def pool5 : Array CpInfo := pool [(2, .class_ 4), (1, u "java/lang/Enum"), (0, u "name"), (0, u "Ljava/lang/String;"), (0, .fieldref 2 8), (0, .nameAndType 9 10), (0, u "ordinal"), (0, u "I"), (1, .class_ 14), (1, u "java/lang/Object"), (4, u "hash"), (86, .class_ 108), (1, u "java/lang/Enum$EnumDesc"), (2, .class_ 112), (0, u "java/lang/constant/Constable"), (0, .class_ 114), (0, u "java/lang/Comparable"), (0, .class_ 116), (0, u "java/io/Serializable"), (9, u "()I")] 77

def k5c0 : Code := { maxStack := 1, maxLocals := 1, code := jdk_37_method_2_code, exceptionTable := #[], attributes := #[] }
def k5m0 : Method := { name := "ordinal", desc := "()I", sig := { parameters := [], returnType := some .int }, accessFlags := 17, code := some k5c0 }
/-- java/lang/Enum -/
def k5 : Class := { plain "java/lang/Enum" (some 0) with
  accessFlags := 1057
  interfaces := #[2, 3, 4]
  cf := some (fileOf pool5 2 #[.nestMembers #[106]] #[{ accessFlags := 17, nameIndex := 9, descriptorIndex := 126, attributes := #[] }] 1057 12 #[111, 113, 115] #[{ accessFlags := 18, nameIndex := 5, descriptorIndex := 6, attributes := #[] }, { accessFlags := 18, nameIndex := 9, descriptorIndex := 10, attributes := #[] }, { accessFlags := 2, nameIndex := 19, descriptorIndex := 10, attributes := #[] }])
  fields := #[{ name := "name", type := (.object "java/lang/String"), accessFlags := 18, slot := 0, constantValue := 0 }, { name := "ordinal", type := .int, accessFlags := 18, slot := 1, constantValue := 0 }, { name := "hash", type := .int, accessFlags := 2, slot := 2, constantValue := 0 }]
  methods := #[k5m0]
  instanceTypes := #[(.object "java/lang/String"), .int, .int]
  staticTypes := #[]
  resolved := Array.replicate 204 none
  statics := none }

def pool6 : Array CpInfo := pool [(1, .class_ 2), (0, u "com/example/valenciennes/valenciennes/model/Operator"), (0, .fieldref 1 4), (0, .nameAndType 5 6), (0, u "EQ"), (0, u "Lcom/example/valenciennes/valenciennes/model/Operator;"), (0, .fieldref 1 8), (0, .nameAndType 9 6), (0, u "NE"), (0, .fieldref 1 11), (0, .nameAndType 12 6), (0, u "LT"), (0, .fieldref 1 14), (0, .nameAndType 15 6), (0, u "LE"), (0, .fieldref 1 17), (0, .nameAndType 18 6), (0, u "GT"), (0, .fieldref 1 20), (0, .nameAndType 21 6), (0, u "GE"), (2, u "$VALUES"), (0, u "[Lcom/example/valenciennes/valenciennes/model/Operator;"), (6, .class_ 34), (1, u "java/lang/Enum"), (6, .fieldref 1 42), (0, .nameAndType 43 44), (0, u "symbol"), (0, u "Ljava/lang/String;"), (0, .methodref 1 46), (0, .nameAndType 47 48), (0, u "ordinal"), (0, u "()I"), (45, u "()Ljava/lang/String;"), (0, u "negated"), (0, u "()Lcom/example/valenciennes/valenciennes/model/Operator;"), (1, u "mirrored"), (0, u "isOrdering"), (0, u "()Z")] 6

def k6c0 : Code := { maxStack := 1, maxLocals := 1, code := prog_92_method_4_code, exceptionTable := #[], attributes := #[] }
def k6m0 : Method := { name := "symbol", desc := "()Ljava/lang/String;", sig := { parameters := [], returnType := some (.object "java/lang/String") }, accessFlags := 1, code := some k6c0 }
def k6c1 : Code := { maxStack := 4, maxLocals := 1, code := prog_92_method_5_code, exceptionTable := #[], attributes := #[] }
def k6m1 : Method := { name := "negated", desc := "()Lcom/example/valenciennes/valenciennes/model/Operator;", sig := { parameters := [], returnType := some (.object "com/example/valenciennes/valenciennes/model/Operator") }, accessFlags := 1, code := some k6c1 }
def k6c2 : Code := { maxStack := 4, maxLocals := 1, code := prog_92_method_6_code, exceptionTable := #[], attributes := #[] }
def k6m2 : Method := { name := "mirrored", desc := "()Lcom/example/valenciennes/valenciennes/model/Operator;", sig := { parameters := [], returnType := some (.object "com/example/valenciennes/valenciennes/model/Operator") }, accessFlags := 1, code := some k6c2 }
def k6c3 : Code := { maxStack := 2, maxLocals := 1, code := prog_92_method_7_code, exceptionTable := #[], attributes := #[] }
def k6m3 : Method := { name := "isOrdering", desc := "()Z", sig := { parameters := [], returnType := some .boolean }, accessFlags := 1, code := some k6c3 }
/-- com/example/valenciennes/valenciennes/model/Operator -/
def k6 : Class := { plain "com/example/valenciennes/valenciennes/model/Operator" (some 5) with
  accessFlags := 16433
  interfaces := #[]
  cf := some (fileOf pool6 1 #[] #[{ accessFlags := 1, nameIndex := 43, descriptorIndex := 94, attributes := #[] }, { accessFlags := 1, nameIndex := 95, descriptorIndex := 96, attributes := #[] }, { accessFlags := 1, nameIndex := 98, descriptorIndex := 96, attributes := #[] }, { accessFlags := 1, nameIndex := 99, descriptorIndex := 100, attributes := #[] }] 16433 32 #[] #[{ accessFlags := 16409, nameIndex := 5, descriptorIndex := 6, attributes := #[] }, { accessFlags := 16409, nameIndex := 9, descriptorIndex := 6, attributes := #[] }, { accessFlags := 16409, nameIndex := 12, descriptorIndex := 6, attributes := #[] }, { accessFlags := 16409, nameIndex := 15, descriptorIndex := 6, attributes := #[] }, { accessFlags := 16409, nameIndex := 18, descriptorIndex := 6, attributes := #[] }, { accessFlags := 16409, nameIndex := 21, descriptorIndex := 6, attributes := #[] }, { accessFlags := 18, nameIndex := 43, descriptorIndex := 44, attributes := #[] }, { accessFlags := 4122, nameIndex := 24, descriptorIndex := 25, attributes := #[] }])
  fields := #[{ name := "EQ", type := (.object "com/example/valenciennes/valenciennes/model/Operator"), accessFlags := 16409, slot := 0, constantValue := 0 }, { name := "NE", type := (.object "com/example/valenciennes/valenciennes/model/Operator"), accessFlags := 16409, slot := 1, constantValue := 0 }, { name := "LT", type := (.object "com/example/valenciennes/valenciennes/model/Operator"), accessFlags := 16409, slot := 2, constantValue := 0 }, { name := "LE", type := (.object "com/example/valenciennes/valenciennes/model/Operator"), accessFlags := 16409, slot := 3, constantValue := 0 }, { name := "GT", type := (.object "com/example/valenciennes/valenciennes/model/Operator"), accessFlags := 16409, slot := 4, constantValue := 0 }, { name := "GE", type := (.object "com/example/valenciennes/valenciennes/model/Operator"), accessFlags := 16409, slot := 5, constantValue := 0 }, { name := "symbol", type := (.object "java/lang/String"), accessFlags := 18, slot := 3, constantValue := 0 }, { name := "$VALUES", type := (.array (.object "com/example/valenciennes/valenciennes/model/Operator")), accessFlags := 4122, slot := 6, constantValue := 0 }]
  methods := #[k6m0, k6m1, k6m2, k6m3]
  instanceTypes := #[(.object "java/lang/String"), .int, .int, (.object "java/lang/String")]
  staticTypes := #[(.object "com/example/valenciennes/valenciennes/model/Operator"), (.object "com/example/valenciennes/valenciennes/model/Operator"), (.object "com/example/valenciennes/valenciennes/model/Operator"), (.object "com/example/valenciennes/valenciennes/model/Operator"), (.object "com/example/valenciennes/valenciennes/model/Operator"), (.object "com/example/valenciennes/valenciennes/model/Operator"), (.array (.object "com/example/valenciennes/valenciennes/model/Operator"))]
  resolved := Array.replicate 107 none
  statics := some 0 }

def pool7 : Array CpInfo := pool [(2, .class_ 4), (1, u "java/lang/CharSequence"), (42, .class_ 48), (0, u "java/lang/CharSequence$1CodePointIterator"), (10, .class_ 60), (0, u "java/lang/CharSequence$1CharIterator"), (5, .class_ 67), (0, u "java/lang/Object")] 63

/-- java/lang/CharSequence -/
def k7 : Class := { plain "java/lang/CharSequence" (some 0) with
  accessFlags := 1537
  interfaces := #[]
  cf := some (fileOf pool7 2 #[.nestMembers #[47, 59]] #[] 1537 66 #[] #[])
  fields := #[]
  methods := #[]
  instanceTypes := #[]
  staticTypes := #[]
  resolved := Array.replicate 131 none
  statics := none }

def pool8 : Array CpInfo := pool [(1, .class_ 2), (0, u "java/lang/constant/ConstantDesc"), (0, .class_ 4), (0, u "java/lang/Object")] 32

/-- java/lang/constant/ConstantDesc -/
def k8 : Class := { plain "java/lang/constant/ConstantDesc" (some 0) with
  accessFlags := 1537
  interfaces := #[]
  cf := some (fileOf pool8 1 #[] #[] 1537 3 #[] #[])
  fields := #[]
  methods := #[]
  instanceTypes := #[]
  staticTypes := #[]
  resolved := Array.replicate 37 none
  statics := none }

def pool9 : Array CpInfo := pool [(2, .class_ 4), (1, u "java/lang/Object"), (0, u "<init>"), (0, u "()V"), (2, .fieldref 10 11), (0, .class_ 12), (0, .nameAndType 13 14), (0, u "java/lang/String"), (0, u "value"), (0, u "[B"), (0, .fieldref 10 16), (0, .nameAndType 17 18), (0, u "coder"), (0, u "B"), (2, u "hash"), (0, u "I"), (2, u "hashIsZero"), (0, u "Z"), (11, .fieldref 10 39), (0, .nameAndType 40 26), (0, u "COMPACT_STRINGS"), (66, .class_ 109), (1, u "java/lang/StringLatin1"), (32, u "()Z"), (220, u "([BI)C"), (27, u "(II)V"), (35, u "(I)C"), (64, .methodref 10 493), (0, .nameAndType 494 142), (0, u "isLatin1"), (0, .methodref 107 496), (0, .nameAndType 497 363), (0, u "charAt"), (3, u "checkIndex"), (73, .class_ 576), (0, u "java/lang/CharSequence"), (22, u "CASE_INSENSITIVE_ORDER"), (0, u "Ljava/util/Comparator;"), (452, .fieldref 1054 1055), (0, .class_ 1056), (0, .nameAndType 1057 1058), (0, u "jdk/internal/util/Preconditions"), (0, u "SIOOBE_FORMATTER"), (0, u "Ljava/util/function/BiFunction;"), (0, .methodref 1054 1060), (0, .nameAndType 501 1061), (0, u "(IILjava/util/function/BiFunction;)I"), (39, u "serialPersistentFields"), (0, u "[Ljava/io/ObjectStreamField;"), (0, .class_ 1104), (0, u "java/lang/String$CaseInsensitiveComparator"), (1, .class_ 1107), (0, u "java/io/Serializable"), (0, .class_ 1109), (0, u "java/lang/Comparable"), (0, .class_ 1111), (0, u "java/lang/constant/Constable"), (0, .class_ 1113), (0, u "java/lang/constant/ConstantDesc"), (2, u "serialVersionUID"), (0, u "J"), (3, u "REPL"), (0, u "C"), (2, u "LATIN1"), (1, u "UTF16")] 323

def k9m0 : Method := { name := "<init>", desc := "()V", sig := { parameters := [], returnType := none }, accessFlags := 1, code := none }
def k9c1 : Code := { maxStack := 2, maxLocals := 2, code := jdk_42_method_56_code, exceptionTable := #[], attributes := #[] }
def k9m1 : Method := { name := "charAt", desc := "(I)C", sig := { parameters := [.int], returnType := some .char }, accessFlags := 1, code := some k9c1 }
def k9c2 : Code := { maxStack := 1, maxLocals := 1, code := jdk_42_method_154_code, exceptionTable := #[], attributes := #[] }
def k9m2 : Method := { name := "isLatin1", desc := "()Z", sig := { parameters := [], returnType := some .boolean }, accessFlags := 0, code := some k9c2 }
def k9c3 : Code := { maxStack := 3, maxLocals := 2, code := jdk_42_method_155_code, exceptionTable := #[], attributes := #[] }
def k9m3 : Method := { name := "checkIndex", desc := "(II)V", sig := { parameters := [.int, .int], returnType := none }, accessFlags := 8, code := some k9c3 }
/-- java/lang/String -/
def k9 : Class := { plain "java/lang/String" (some 0) with
  accessFlags := 49
  interfaces := #[4, 3, 7, 2, 8]
  cf := some (fileOf pool9 10 #[.nestMembers #[1103]] #[{ accessFlags := 1, nameIndex := 5, descriptorIndex := 6, attributes := #[] }, { accessFlags := 1, nameIndex := 497, descriptorIndex := 427, attributes := #[] }, { accessFlags := 0, nameIndex := 494, descriptorIndex := 142, attributes := #[] }, { accessFlags := 8, nameIndex := 501, descriptorIndex := 391, attributes := #[] }] 49 2 #[1106, 1108, 575, 1110, 1112] #[{ accessFlags := 18, nameIndex := 13, descriptorIndex := 14, attributes := #[] }, { accessFlags := 18, nameIndex := 17, descriptorIndex := 18, attributes := #[] }, { accessFlags := 2, nameIndex := 21, descriptorIndex := 22, attributes := #[] }, { accessFlags := 2, nameIndex := 25, descriptorIndex := 26, attributes := #[] }, { accessFlags := 26, nameIndex := 1116, descriptorIndex := 1117, attributes := #[] }, { accessFlags := 24, nameIndex := 40, descriptorIndex := 26, attributes := #[] }, { accessFlags := 26, nameIndex := 1101, descriptorIndex := 1102, attributes := #[] }, { accessFlags := 26, nameIndex := 1121, descriptorIndex := 1122, attributes := #[] }, { accessFlags := 25, nameIndex := 599, descriptorIndex := 600, attributes := #[] }, { accessFlags := 24, nameIndex := 1125, descriptorIndex := 18, attributes := #[] }, { accessFlags := 24, nameIndex := 1127, descriptorIndex := 18, attributes := #[] }])
  fields := #[{ name := "value", type := (.array .byte), accessFlags := 18, slot := 0, constantValue := 0 }, { name := "coder", type := .byte, accessFlags := 18, slot := 1, constantValue := 0 }, { name := "hash", type := .int, accessFlags := 2, slot := 2, constantValue := 0 }, { name := "hashIsZero", type := .boolean, accessFlags := 2, slot := 3, constantValue := 0 }, { name := "serialVersionUID", type := .long, accessFlags := 26, slot := 0, constantValue := 0 }, { name := "COMPACT_STRINGS", type := .boolean, accessFlags := 24, slot := 1, constantValue := 0 }, { name := "serialPersistentFields", type := (.array (.object "java/io/ObjectStreamField")), accessFlags := 26, slot := 2, constantValue := 0 }, { name := "REPL", type := .char, accessFlags := 26, slot := 3, constantValue := 0 }, { name := "CASE_INSENSITIVE_ORDER", type := (.object "java/util/Comparator"), accessFlags := 25, slot := 4, constantValue := 0 }, { name := "LATIN1", type := .byte, accessFlags := 24, slot := 5, constantValue := 0 }, { name := "UTF16", type := .byte, accessFlags := 24, slot := 6, constantValue := 0 }]
  methods := #[k9m0, k9m1, k9m2, k9m3]
  instanceTypes := #[(.array .byte), .byte, .int, .boolean]
  staticTypes := #[.long, .boolean, (.array (.object "java/io/ObjectStreamField")), .char, (.object "java/util/Comparator"), .byte, .byte]
  resolved := Array.replicate 1451 none
  statics := some 1 }

def pool10 : Array CpInfo := pool [(1, .class_ 2), (0, u "java/lang/String"), (1, .class_ 6), (1, u "java/lang/Object"), (0, u "<init>"), (0, u "()V"), (0, .methodref 1 10), (0, .nameAndType 11 12), (0, u "checkIndex"), (0, u "(II)V"), (1, .class_ 16), (1, u "java/lang/StringLatin1"), (36, u "([BI)C"), (67, u "$assertionsDisabled"), (0, u "Z"), (98, .class_ 223), (1, u "java/lang/StringLatin1$LinesSpliterator"), (28, u "charAt"), (137, .class_ 391), (0, u "java/lang/StringLatin1$CharsSpliterator")] 3

def k10m0 : Method := { name := "<init>", desc := "()V", sig := { parameters := [], returnType := none }, accessFlags := 0, code := none }
def k10c1 : Code := { maxStack := 2, maxLocals := 2, code := jdk_43_method_2_code, exceptionTable := #[], attributes := #[] }
def k10m1 : Method := { name := "charAt", desc := "([BI)C", sig := { parameters := [(.array .byte), .int], returnType := some .char }, accessFlags := 9, code := some k10c1 }
/-- java/lang/StringLatin1 -/
def k10 : Class := { plain "java/lang/StringLatin1" (some 0) with
  accessFlags := 48
  interfaces := #[]
  cf := some (fileOf pool10 14 #[.nestMembers #[390, 221]] #[{ accessFlags := 0, nameIndex := 7, descriptorIndex := 8, attributes := #[] }, { accessFlags := 9, nameIndex := 252, descriptorIndex := 53, attributes := #[] }] 48 4 #[] #[{ accessFlags := 4120, nameIndex := 121, descriptorIndex := 122, attributes := #[] }])
  fields := #[{ name := "$assertionsDisabled", type := .boolean, accessFlags := 4120, slot := 0, constantValue := 0 }]
  methods := #[k10m0, k10m1]
  instanceTypes := #[]
  staticTypes := #[.boolean]
  resolved := Array.replicate 395 none
  statics := none }

def pool11 : Array CpInfo := pool [(2, .class_ 4), (1, u "java/lang/Object"), (0, u "<init>"), (0, u "()V"), (17, .class_ 26), (1, u "jdk/internal/util/Preconditions"), (6, u "checkIndex"), (21, .class_ 56), (0, u "jdk/internal/util/Preconditions$4"), (57, .class_ 115), (0, u "jdk/internal/util/Preconditions$1"), (7, u "SIOOBE_FORMATTER"), (0, u "Ljava/util/function/BiFunction;"), (0, .class_ 126), (0, u "jdk/internal/util/Preconditions$2"), (3, u "AIOOBE_FORMATTER"), (0, .class_ 132), (0, u "jdk/internal/util/Preconditions$3"), (3, u "IOOBE_FORMATTER"), (41, u "(IILjava/util/function/BiFunction;)I")] 15

def k11m0 : Method := { name := "<init>", desc := "()V", sig := { parameters := [], returnType := none }, accessFlags := 1, code := none }
def k11c1 : Code := { maxStack := 3, maxLocals := 3, code := jdk_41_method_11_code, exceptionTable := #[], attributes := #[] }
def k11m1 : Method := { name := "checkIndex", desc := "(IILjava/util/function/BiFunction;)I", sig := { parameters := [.int, .int, (.object "java/util/function/BiFunction")], returnType := some .int }, accessFlags := 9, code := some k11c1 }
/-- jdk/internal/util/Preconditions -/
def k11 : Class := { plain "jdk/internal/util/Preconditions" (some 0) with
  accessFlags := 33
  interfaces := #[]
  cf := some (fileOf pool11 24 #[.nestMembers #[55, 131, 125, 114]] #[{ accessFlags := 1, nameIndex := 5, descriptorIndex := 6, attributes := #[] }, { accessFlags := 9, nameIndex := 33, descriptorIndex := 178, attributes := #[] }] 33 2 #[] #[{ accessFlags := 25, nameIndex := 123, descriptorIndex := 124, attributes := #[] }, { accessFlags := 25, nameIndex := 130, descriptorIndex := 124, attributes := #[] }, { accessFlags := 25, nameIndex := 136, descriptorIndex := 124, attributes := #[] }])
  fields := #[{ name := "SIOOBE_FORMATTER", type := (.object "java/util/function/BiFunction"), accessFlags := 25, slot := 0, constantValue := 0 }, { name := "AIOOBE_FORMATTER", type := (.object "java/util/function/BiFunction"), accessFlags := 25, slot := 1, constantValue := 0 }, { name := "IOOBE_FORMATTER", type := (.object "java/util/function/BiFunction"), accessFlags := 25, slot := 2, constantValue := 0 }]
  methods := #[k11m0, k11m1]
  instanceTypes := #[]
  staticTypes := #[(.object "java/util/function/BiFunction"), (.object "java/util/function/BiFunction"), (.object "java/util/function/BiFunction")]
  resolved := Array.replicate 194 none
  statics := some 2 }

def pool12 : Array CpInfo := pool [(9, u "<init>"), (6, .class_ 18), (1, u "java/lang/Object"), (0, u "()V"), (1, .class_ 23), (1, u "jdk/internal/util/ArraysSupport"), (0, u "LOG2_ARRAY_LONG_INDEX_SCALE"), (0, u "I"), (2, u "U"), (0, u "Ljdk/internal/misc/Unsafe;"), (8, u "BIG_ENDIAN"), (0, u "Z"), (8, u "LOG2_BYTE_BIT_SIZE"), (4, u "LOG2_ARRAY_INT_INDEX_SCALE"), (54, u "JLA"), (0, u "Ljdk/internal/access/JavaLangAccess;"), (11, u "LOG2_ARRAY_BOOLEAN_INDEX_SCALE"), (9, u "LOG2_ARRAY_BYTE_INDEX_SCALE"), (5, u "LOG2_ARRAY_CHAR_INDEX_SCALE"), (5, u "LOG2_ARRAY_SHORT_INDEX_SCALE"), (18, u "LOG2_ARRAY_FLOAT_INDEX_SCALE"), (24, u "LOG2_ARRAY_DOUBLE_INDEX_SCALE"), (89, u "T_BOOLEAN"), (2, u "T_CHAR"), (1, u "T_FLOAT"), (1, u "T_DOUBLE"), (1, u "T_BYTE"), (1, u "T_SHORT"), (1, u "T_INT"), (1, u "T_LONG"), (1, u "SOFT_MAX_ARRAY_LENGTH")] 83

def k12m0 : Method := { name := "<init>", desc := "()V", sig := { parameters := [], returnType := none }, accessFlags := 2, code := none }
/-- jdk/internal/util/ArraysSupport -/
def k12 : Class := { plain "jdk/internal/util/ArraysSupport" (some 0) with
  accessFlags := 33
  interfaces := #[]
  cf := some (fileOf pool12 21 #[] #[{ accessFlags := 2, nameIndex := 9, descriptorIndex := 19, attributes := #[] }] 33 16 #[] #[{ accessFlags := 24, nameIndex := 28, descriptorIndex := 29, attributes := #[] }, { accessFlags := 26, nameIndex := 38, descriptorIndex := 39, attributes := #[] }, { accessFlags := 25, nameIndex := 121, descriptorIndex := 25, attributes := #[] }, { accessFlags := 25, nameIndex := 131, descriptorIndex := 25, attributes := #[] }, { accessFlags := 25, nameIndex := 137, descriptorIndex := 25, attributes := #[] }, { accessFlags := 25, nameIndex := 143, descriptorIndex := 25, attributes := #[] }, { accessFlags := 25, nameIndex := 53, descriptorIndex := 25, attributes := #[] }, { accessFlags := 25, nameIndex := 24, descriptorIndex := 25, attributes := #[] }, { accessFlags := 25, nameIndex := 162, descriptorIndex := 25, attributes := #[] }, { accessFlags := 25, nameIndex := 187, descriptorIndex := 25, attributes := #[] }, { accessFlags := 26, nameIndex := 48, descriptorIndex := 25, attributes := #[] }, { accessFlags := 25, nameIndex := 277, descriptorIndex := 25, attributes := #[] }, { accessFlags := 25, nameIndex := 280, descriptorIndex := 25, attributes := #[] }, { accessFlags := 25, nameIndex := 282, descriptorIndex := 25, attributes := #[] }, { accessFlags := 25, nameIndex := 284, descriptorIndex := 25, attributes := #[] }, { accessFlags := 25, nameIndex := 286, descriptorIndex := 25, attributes := #[] }, { accessFlags := 25, nameIndex := 288, descriptorIndex := 25, attributes := #[] }, { accessFlags := 25, nameIndex := 290, descriptorIndex := 25, attributes := #[] }, { accessFlags := 25, nameIndex := 292, descriptorIndex := 25, attributes := #[] }, { accessFlags := 26, nameIndex := 108, descriptorIndex := 109, attributes := #[] }, { accessFlags := 25, nameIndex := 294, descriptorIndex := 25, attributes := #[] }])
  fields := #[{ name := "U", type := (.object "jdk/internal/misc/Unsafe"), accessFlags := 24, slot := 0, constantValue := 0 }, { name := "BIG_ENDIAN", type := .boolean, accessFlags := 26, slot := 1, constantValue := 0 }, { name := "LOG2_ARRAY_BOOLEAN_INDEX_SCALE", type := .int, accessFlags := 25, slot := 2, constantValue := 0 }, { name := "LOG2_ARRAY_BYTE_INDEX_SCALE", type := .int, accessFlags := 25, slot := 3, constantValue := 0 }, { name := "LOG2_ARRAY_CHAR_INDEX_SCALE", type := .int, accessFlags := 25, slot := 4, constantValue := 0 }, { name := "LOG2_ARRAY_SHORT_INDEX_SCALE", type := .int, accessFlags := 25, slot := 5, constantValue := 0 }, { name := "LOG2_ARRAY_INT_INDEX_SCALE", type := .int, accessFlags := 25, slot := 6, constantValue := 0 }, { name := "LOG2_ARRAY_LONG_INDEX_SCALE", type := .int, accessFlags := 25, slot := 7, constantValue := 0 }, { name := "LOG2_ARRAY_FLOAT_INDEX_SCALE", type := .int, accessFlags := 25, slot := 8, constantValue := 0 }, { name := "LOG2_ARRAY_DOUBLE_INDEX_SCALE", type := .int, accessFlags := 25, slot := 9, constantValue := 0 }, { name := "LOG2_BYTE_BIT_SIZE", type := .int, accessFlags := 26, slot := 10, constantValue := 0 }, { name := "T_BOOLEAN", type := .int, accessFlags := 25, slot := 11, constantValue := 0 }, { name := "T_CHAR", type := .int, accessFlags := 25, slot := 12, constantValue := 0 }, { name := "T_FLOAT", type := .int, accessFlags := 25, slot := 13, constantValue := 0 }, { name := "T_DOUBLE", type := .int, accessFlags := 25, slot := 14, constantValue := 0 }, { name := "T_BYTE", type := .int, accessFlags := 25, slot := 15, constantValue := 0 }, { name := "T_SHORT", type := .int, accessFlags := 25, slot := 16, constantValue := 0 }, { name := "T_INT", type := .int, accessFlags := 25, slot := 17, constantValue := 0 }, { name := "T_LONG", type := .int, accessFlags := 25, slot := 18, constantValue := 0 }, { name := "JLA", type := (.object "jdk/internal/access/JavaLangAccess"), accessFlags := 26, slot := 19, constantValue := 0 }, { name := "SOFT_MAX_ARRAY_LENGTH", type := .int, accessFlags := 25, slot := 20, constantValue := 0 }]
  methods := #[k12m0]
  instanceTypes := #[]
  staticTypes := #[(.object "jdk/internal/misc/Unsafe"), .boolean, .int, .int, .int, .int, .int, .int, .int, .int, .int, .int, .int, .int, .int, .int, .int, .int, .int, (.object "jdk/internal/access/JavaLangAccess"), .int]
  resolved := Array.replicate 378 none
  statics := none }

def pool13 : Array CpInfo := pool [(1, u "java/lang/Cloneable"), (0, .class_ 1), (0, u "java/lang/Object"), (0, .class_ 3)] 3

/-- java/lang/Cloneable -/
def k13 : Class := { plain "java/lang/Cloneable" (some 0) with
  accessFlags := 1537
  interfaces := #[]
  cf := some (fileOf pool13 2 #[] #[] 1537 4 #[] #[])
  fields := #[]
  methods := #[]
  instanceTypes := #[]
  staticTypes := #[]
  resolved := Array.replicate 8 none
  statics := none }

/-- the primitive byte -/
def k14 : Class := { plain "byte" none with kind := .primitive 'B', accessFlags := 0x411 }
/-- [B -/
def k15 : Class := { plain "[B" (some 0) with kind := .array 14 .byte, interfaces := #[13, 4], accessFlags := 1041 }

/-- the primitive int -/
def k16 : Class := { plain "int" none with kind := .primitive 'I', accessFlags := 0x411 }
/-- [I -/
def k17 : Class := { plain "[I" (some 0) with kind := .array 16 .int, interfaces := #[13, 4], accessFlags := 1041 }

def heap : Heap := #[{ cls := 6, slots := #[.ref 15, .ref 16, .ref 17, .ref 18, .ref 19, .ref 20, .null], vm := .statics 6 },
  { cls := 9, slots := #[.long 0, .int 1, .null, .int 0, .null, .int 0, .int 0], vm := .statics 9 },
  { cls := 11, slots := #[.null, .null, .null], vm := .statics 11 },
  { cls := 15, slots := #[.int 61, .int 61], vm := .none },
  { cls := 15, slots := #[.int 33, .int 61], vm := .none },
  { cls := 15, slots := #[.int 60], vm := .none },
  { cls := 15, slots := #[.int 60, .int 61], vm := .none },
  { cls := 15, slots := #[.int 62], vm := .none },
  { cls := 15, slots := #[.int 62, .int 61], vm := .none },
  { cls := 9, slots := #[.ref 3, .int 0, .int 0, .int 0], vm := .none },
  { cls := 9, slots := #[.ref 4, .int 0, .int 0, .int 0], vm := .none },
  { cls := 9, slots := #[.ref 5, .int 0, .int 0, .int 0], vm := .none },
  { cls := 9, slots := #[.ref 6, .int 0, .int 0, .int 0], vm := .none },
  { cls := 9, slots := #[.ref 7, .int 0, .int 0, .int 0], vm := .none },
  { cls := 9, slots := #[.ref 8, .int 0, .int 0, .int 0], vm := .none },
  { cls := 6, slots := #[.null, .int 0, .int 0, .ref 9], vm := .none },
  { cls := 6, slots := #[.null, .int 1, .int 0, .ref 10], vm := .none },
  { cls := 6, slots := #[.null, .int 2, .int 0, .ref 11], vm := .none },
  { cls := 6, slots := #[.null, .int 3, .int 0, .ref 12], vm := .none },
  { cls := 6, slots := #[.null, .int 4, .int 0, .ref 13], vm := .none },
  { cls := 6, slots := #[.null, .int 5, .int 0, .ref 14], vm := .none }]
def classes : Array Class := #[k0, k1, k2, k3, k4, k5, k6, k7, k8, k9, k10, k11, k12, k13, k14, k15, k16, k17]
def interned : List (Array UInt16 × Addr) := []
def slotsUsed : Nat := 75
def theMethod : MethodId := ⟨1, 2⟩
def args0 : Array Value := #[.int 3]
def aboutOver (below : List Frame) : State where
  vm := { classes := classes, interned := interned.toArray }
  heap := heap
  slotsUsed := slotsUsed
  threads := #[{ frames := .invoking theMethod args0 :: below }]
def below0 : List Frame := [.native { method := ⟨0, 0⟩, args := #[] }]
def about1 : State := aboutOver below0
def p0 : Program := .bare "" "" ""
def e0 : Env := launch0.env 0 0 0
theorem w_frames : about1.frames = Frame.invoking theMethod args0 :: below0 := rfl
set_option maxRecDepth 65536 in
theorem w_args : argsFit about1.vm theMethod args0 = true := by decide +kernel
set_option maxRecDepth 65536 in
theorem w_heap : heapFits about1 = true := by decide +kernel
set_option maxRecDepth 65536 in
theorem w_runnable : about1.curStatus? = some .runnable := by decide +kernel
set_option maxRecDepth 65536 in
theorem w_alone : about1.alone = true := by decide +kernel
set_option maxRecDepth 65536 in
theorem w_named : about1.methodNamed? x = some theMethod := by decide +kernel
set_option maxRecDepth 65536 in
theorem w_hears : about1.hears theMethod below0 = true := by decide +kernel
set_option maxRecDepth 65536 in
theorem w_ripe : about1.ripe theMethod args0 below0 = true := by decide +kernel
theorem w_running : about1.status = .running := rfl
set_option maxRecDepth 65536 in
theorem w_room : about1.hasRoom e0.platform room_1 = true :=
  launch0.hasRoom_least _ room_1 (by decide +kernel) (by decide +kernel) (by decide +kernel) (by decide +kernel) (by decide +kernel) (by decide +kernel)
theorem allAtoms_all (ts : List Jvm.Cond) (a : Array Jvm.Value) (st : Jvm.State) : (allAtoms ts).before a st = ts.all (fun c => c.before a st) := by
  induction ts with
  | nil => rfl
  | cons c t ih =>
    show (Jvm.Cond.and c (allAtoms t)).before a st = _
    rw [Jvm.Cond.before_and, ih, List.all_cons]
def words1 : List Jvm.Cond := Jvm.Cond.code x code maxLocals ret :: tables_1
/-- a 'code' word, met by the world's own term for the bytes: nothing is compared byte by byte -/
theorem code_word {y : MethodName} {bytes : ByteArray} {mx : Nat} {rt : Option FieldType} {a : Array Value} {s : State} {m : MethodId} {meth : Method} {c : Code} (h1 : s.methodNamed? y = some m) (h2 : s.vm.method? m = some meth) (h3 : meth.code = some c) (h4 : c.code = bytes)
    (h5 : (c.maxLocals == mx && c.exceptionTable.isEmpty && decide (c.maxStack ≤ mostOperands) && decide (meth.sig.returnType = rt) && !meth.locks && decide (parseMethodDescriptor y.desc = some meth.sig)) = true) : (Jvm.Cond.code y bytes mx rt).before a s = true := by
  simp only [Bool.and_eq_true, beq_iff_eq, Bool.not_eq_true', decide_eq_true_eq] at h5
  obtain ⟨⟨⟨⟨⟨g1, g2⟩, g3⟩, g4⟩, g5⟩, g6⟩ := h5
  simp [Cond.before, Cond.holds, Cond.value, h1, h2, h3, h4, g1, g2, g3, g4, g5, g6]
def isCode : Jvm.Cond → Bool
  | .code _ _ _ _ => true
  | _ => false
theorem all_split {L : List Jvm.Cond} {P : Jvm.Cond → Bool} (h1 : L.all (fun c => isCode c || P c) = true) (h2 : ∀ c ∈ L.filter isCode, P c = true) : L.all P = true := by
  refine List.all_eq_true.mpr fun c hc => ?_
  have h := List.all_eq_true.mp h1 c hc
  rcases Bool.eq_false_or_eq_true (isCode c) with hi | hi
  · exact h2 c (List.mem_filter.mpr ⟨hc, hi⟩)
  · simpa [hi] using h
set_option maxRecDepth 65536 in
theorem w_c0 : (Jvm.Cond.code x code maxLocals ret).before args0 about1 = true := code_word (m := ⟨1, 2⟩) (meth := k1m2) (c := k1c2) (by decide +kernel) rfl rfl rfl (by decide +kernel)
set_option maxRecDepth 65536 in
theorem w_c1 : (Jvm.Cond.code ({ cls := "com/example/valenciennes/valenciennes/model/OperatorIsOrderingPinLaw", name := "pick", desc := "(I)Lcom/example/valenciennes/valenciennes/model/Operator;" } : Jvm.MethodName) method_2_code (1 : Nat) (Option.some (Jvm.ClassFile.FieldType.object "com/example/valenciennes/valenciennes/model/Operator"))).before args0 about1 = true := code_word (m := ⟨1, 1⟩) (meth := k1m1) (c := k1c1) (by decide +kernel) rfl rfl rfl (by decide +kernel)
set_option maxRecDepth 65536 in
theorem w_c2 : (Jvm.Cond.code ({ cls := "com/example/valenciennes/valenciennes/model/Operator", name := "isOrdering", desc := "()Z" } : Jvm.MethodName) prog_92_method_7_code (1 : Nat) (Option.some Jvm.ClassFile.FieldType.boolean)).before args0 about1 = true := code_word (m := ⟨6, 3⟩) (meth := k6m3) (c := k6c3) (by decide +kernel) rfl rfl rfl (by decide +kernel)
set_option maxRecDepth 65536 in
theorem w_c3 : (Jvm.Cond.code ({ cls := "com/example/valenciennes/valenciennes/model/Operator", name := "symbol", desc := "()Ljava/lang/String;" } : Jvm.MethodName) prog_92_method_4_code (1 : Nat) (Option.some (Jvm.ClassFile.FieldType.object "java/lang/String"))).before args0 about1 = true := code_word (m := ⟨6, 0⟩) (meth := k6m0) (c := k6c0) (by decide +kernel) rfl rfl rfl (by decide +kernel)
set_option maxRecDepth 65536 in
theorem w_c4 : (Jvm.Cond.code ({ cls := "java/lang/String", name := "charAt", desc := "(I)C" } : Jvm.MethodName) jdk_42_method_56_code (2 : Nat) (Option.some Jvm.ClassFile.FieldType.char)).before args0 about1 = true := code_word (m := ⟨9, 1⟩) (meth := k9m1) (c := k9c1) (by decide +kernel) rfl rfl rfl (by decide +kernel)
set_option maxRecDepth 65536 in
theorem w_c5 : (Jvm.Cond.code ({ cls := "java/lang/String", name := "isLatin1", desc := "()Z" } : Jvm.MethodName) jdk_42_method_154_code (1 : Nat) (Option.some Jvm.ClassFile.FieldType.boolean)).before args0 about1 = true := code_word (m := ⟨9, 2⟩) (meth := k9m2) (c := k9c2) (by decide +kernel) rfl rfl rfl (by decide +kernel)
set_option maxRecDepth 65536 in
theorem w_c6 : (Jvm.Cond.code ({ cls := "java/lang/StringLatin1", name := "charAt", desc := "([BI)C" } : Jvm.MethodName) jdk_43_method_2_code (2 : Nat) (Option.some Jvm.ClassFile.FieldType.char)).before args0 about1 = true := code_word (m := ⟨10, 1⟩) (meth := k10m1) (c := k10c1) (by decide +kernel) rfl rfl rfl (by decide +kernel)
set_option maxRecDepth 65536 in
theorem w_c7 : (Jvm.Cond.code ({ cls := "java/lang/String", name := "checkIndex", desc := "(II)V" } : Jvm.MethodName) jdk_42_method_155_code (2 : Nat) (Option.none : Option Jvm.ClassFile.FieldType)).before args0 about1 = true := code_word (m := ⟨9, 3⟩) (meth := k9m3) (c := k9c3) (by decide +kernel) rfl rfl rfl (by decide +kernel)
set_option maxRecDepth 65536 in
theorem w_c8 : (Jvm.Cond.code ({ cls := "jdk/internal/util/Preconditions", name := "checkIndex", desc := "(IILjava/util/function/BiFunction;)I" } : Jvm.MethodName) jdk_41_method_11_code (3 : Nat) (Option.some Jvm.ClassFile.FieldType.int)).before args0 about1 = true := code_word (m := ⟨11, 1⟩) (meth := k11m1) (c := k11c1) (by decide +kernel) rfl rfl rfl (by decide +kernel)
set_option maxRecDepth 65536 in
theorem w_c9 : (Jvm.Cond.code ({ cls := "com/example/valenciennes/valenciennes/model/Operator", name := "negated", desc := "()Lcom/example/valenciennes/valenciennes/model/Operator;" } : Jvm.MethodName) prog_92_method_5_code (1 : Nat) (Option.some (Jvm.ClassFile.FieldType.object "com/example/valenciennes/valenciennes/model/Operator"))).before args0 about1 = true := code_word (m := ⟨6, 1⟩) (meth := k6m1) (c := k6c1) (by decide +kernel) rfl rfl rfl (by decide +kernel)
set_option maxRecDepth 65536 in
theorem w_c10 : (Jvm.Cond.code ({ cls := "java/lang/Enum", name := "ordinal", desc := "()I" } : Jvm.MethodName) jdk_37_method_2_code (1 : Nat) (Option.some Jvm.ClassFile.FieldType.int)).before args0 about1 = true := code_word (m := ⟨5, 0⟩) (meth := k5m0) (c := k5c0) (by decide +kernel) rfl rfl rfl (by decide +kernel)
set_option maxRecDepth 65536 in
theorem w_c11 : (Jvm.Cond.code ({ cls := "com/example/valenciennes/valenciennes/model/Operator", name := "mirrored", desc := "()Lcom/example/valenciennes/valenciennes/model/Operator;" } : Jvm.MethodName) prog_92_method_6_code (1 : Nat) (Option.some (Jvm.ClassFile.FieldType.object "com/example/valenciennes/valenciennes/model/Operator"))).before args0 about1 = true := code_word (m := ⟨6, 2⟩) (meth := k6m2) (c := k6c2) (by decide +kernel) rfl rfl rfl (by decide +kernel)
def codes1 : List Jvm.Cond := [Jvm.Cond.code x code maxLocals ret, Jvm.Cond.code ({ cls := "com/example/valenciennes/valenciennes/model/OperatorIsOrderingPinLaw", name := "pick", desc := "(I)Lcom/example/valenciennes/valenciennes/model/Operator;" } : Jvm.MethodName) method_2_code (1 : Nat) (Option.some (Jvm.ClassFile.FieldType.object "com/example/valenciennes/valenciennes/model/Operator")), Jvm.Cond.code ({ cls := "com/example/valenciennes/valenciennes/model/Operator", name := "isOrdering", desc := "()Z" } : Jvm.MethodName) prog_92_method_7_code (1 : Nat) (Option.some Jvm.ClassFile.FieldType.boolean), Jvm.Cond.code ({ cls := "com/example/valenciennes/valenciennes/model/Operator", name := "symbol", desc := "()Ljava/lang/String;" } : Jvm.MethodName) prog_92_method_4_code (1 : Nat) (Option.some (Jvm.ClassFile.FieldType.object "java/lang/String")), Jvm.Cond.code ({ cls := "java/lang/String", name := "charAt", desc := "(I)C" } : Jvm.MethodName) jdk_42_method_56_code (2 : Nat) (Option.some Jvm.ClassFile.FieldType.char), Jvm.Cond.code ({ cls := "java/lang/String", name := "isLatin1", desc := "()Z" } : Jvm.MethodName) jdk_42_method_154_code (1 : Nat) (Option.some Jvm.ClassFile.FieldType.boolean), Jvm.Cond.code ({ cls := "java/lang/StringLatin1", name := "charAt", desc := "([BI)C" } : Jvm.MethodName) jdk_43_method_2_code (2 : Nat) (Option.some Jvm.ClassFile.FieldType.char), Jvm.Cond.code ({ cls := "java/lang/String", name := "checkIndex", desc := "(II)V" } : Jvm.MethodName) jdk_42_method_155_code (2 : Nat) (Option.none : Option Jvm.ClassFile.FieldType), Jvm.Cond.code ({ cls := "jdk/internal/util/Preconditions", name := "checkIndex", desc := "(IILjava/util/function/BiFunction;)I" } : Jvm.MethodName) jdk_41_method_11_code (3 : Nat) (Option.some Jvm.ClassFile.FieldType.int), Jvm.Cond.code ({ cls := "com/example/valenciennes/valenciennes/model/Operator", name := "negated", desc := "()Lcom/example/valenciennes/valenciennes/model/Operator;" } : Jvm.MethodName) prog_92_method_5_code (1 : Nat) (Option.some (Jvm.ClassFile.FieldType.object "com/example/valenciennes/valenciennes/model/Operator")), Jvm.Cond.code ({ cls := "java/lang/Enum", name := "ordinal", desc := "()I" } : Jvm.MethodName) jdk_37_method_2_code (1 : Nat) (Option.some Jvm.ClassFile.FieldType.int), Jvm.Cond.code ({ cls := "com/example/valenciennes/valenciennes/model/Operator", name := "mirrored", desc := "()Lcom/example/valenciennes/valenciennes/model/Operator;" } : Jvm.MethodName) prog_92_method_6_code (1 : Nat) (Option.some (Jvm.ClassFile.FieldType.object "com/example/valenciennes/valenciennes/model/Operator"))]
set_option maxRecDepth 65536 in
theorem codes_eq : words1.filter isCode = codes1 := rfl
theorem w_codes : ∀ c ∈ words1.filter isCode, c.before args0 about1 = true := by
  rw [codes_eq]
  intro c hc
  simp only [codes1, List.mem_cons, List.not_mem_nil, or_false] at hc
  rcases hc with rfl | rfl | rfl | rfl | rfl | rfl | rfl | rfl | rfl | rfl | rfl | rfl
  · exact w_c0
  · exact w_c1
  · exact w_c2
  · exact w_c3
  · exact w_c4
  · exact w_c5
  · exact w_c6
  · exact w_c7
  · exact w_c8
  · exact w_c9
  · exact w_c10
  · exact w_c11
set_option maxRecDepth 65536 in
theorem w_t1 : (words1.take 24).all (fun c => isCode c || c.before args0 about1) = true := by decide +kernel
set_option maxRecDepth 65536 in
theorem w_t2 : ((words1.drop 24).take 24).all (fun c => isCode c || c.before args0 about1) = true := by decide +kernel
set_option maxRecDepth 65536 in
theorem w_t3 : (((words1.drop 24).drop 24).take 24).all (fun c => isCode c || c.before args0 about1) = true := by decide +kernel
set_option maxRecDepth 65536 in
theorem w_t4 : (((words1.drop 24).drop 24).drop 24).all (fun c => isCode c || c.before args0 about1) = true := by decide +kernel
theorem w_tables : (allAtoms (Jvm.Cond.code x code maxLocals ret :: tables_1)).before args0 about1 = true := by
  rw [allAtoms_all]
  show words1.all (fun c => c.before args0 about1) = true
  refine all_split ?_ w_codes
  rw [← List.take_append_drop 24 words1, List.all_append, w_t1, ← List.take_append_drop 24 (words1.drop 24), List.all_append, w_t2, ← List.take_append_drop 24 ((words1.drop 24).drop 24), List.all_append, w_t3, w_t4]
  rfl
set_option maxRecDepth 65536 in
theorem w_rest : rest_1_c.before args0 about1 = true := by decide +kernel
set_option maxRecDepth 65536 in
theorem w_case : (Jvm.Cond.and given_1 narrow_1).before args0 about1 = true := by decide +kernel
theorem w_applies : (headSpec (Jvm.Cond.code x code maxLocals ret :: tables_1) room_1).applies x e0.platform about1 = true :=
  (Spec.applies_iff w_frames).mpr ⟨w_running, w_runnable, w_alone, w_named, w_hears, w_ripe, w_room, w_tables⟩
theorem atStart : AtStart classFile x code maxLocals ret World_1 tables_1 room_1 Calls_1 rest_1 Pre_1 launch0 p0 e0 about1 theMethod args0 below0 :=
  ⟨lists_1, trivial, launch0.admits_env _ _ _, launch0.least_env, fairChoices_fair.cas, fairChoices_fair.clock, w_frames, w_args, w_heap, w_applies, trivial, w_rest, w_case⟩
end start1
theorem witness_1 : WitnessClaimed_1 := ⟨start1.p0, start1.e0, start1.about1, start1.theMethod, start1.args0, start1.below0, start1.atStart⟩
end Jvm.Pilot.@@N@@
