import JvmDerived
import JvmDerived.Pilot.@@N@@Statement
import JvmDerived.Pilot.@@N@@Code
set_option linter.unusedVariables false
set_option linter.unusedSimpArgs false
namespace Jvm.RoadKit
open Sem ClassFile Op Lib Jvm.Stand Jvm.Free Jvm.LawKit
section New
variable {p : Program} {l : Launch} {e : Env} {R : Room} {s : State} {m : MethodId} {args : Array Value} {below : List Frame} {meth : Method} {c : Code} {T : State} {locs : List Loc} {cells slots : Nat}
theorem retI (X : Stand p l e R s m args below meth c T locs cells slots) (hx : p.tables.exec = Jvm.exec) {pc : Nat} {Ls : Array Slot} {z : Int32} {rest : List Value} (hret : meth.sig.returnType = some .int) (hd : decode c.code pc = .ok (.ireturn, 1)) {fs : List Frame}
    (hl : ∀ (f : JFrame) (acts : List Action), f.method = m → f.locked = none → f.entered = [] → (doReturn e (T.setTop f) acts (some (.int z))).1 = T.setFrames fs) : Steps p.tables e below (T.setTop (mkF m pc Ls (.int z :: rest))) (T.setFrames fs) := by
  have hm' : T.vm.method? m = some meth := X.method'
  have hn : narrow .int (.int z) = .int z := rfl
  show Steps p.tables e below (T.setTop { method := m, pc := pc, locals := Ls, stack := _ :: rest, locked := none }) _
  jvm_step X.here [X.here.top, hx, hd, hm', hret, hn]
  first | (intro acts; rw [hl _ acts rfl rfl rfl]) | rw [hl _ _ rfl rfl rfl]
  exact Steps.refl _
end New
end Jvm.RoadKit
namespace Jvm.Pilot.@@N@@
open Jvm Jvm.ClassFile Sem Op Lib Jvm.Free Jvm.Stand Jvm.LawKit Jvm.RoadKit Bundle Jvm.Pilot.@@N@@.Jvm.D
/-! the walk's own form: from the state S the run ends in a return that P speaks of -/
def own_Gl (tb : Tables) (e : Env) (below : List Frame) (P : Outcome → State → Prop) (S : State) : Prop := ∃ s₂ o, Steps tb e below S s₂ ∧ s₂.status = .running ∧ Ended s₂ below o ∧ P o s₂
def own_P (s : State) (Q : Option Value → Heap → List Loc → Prop) (C N : Nat) (o : Outcome) (u : State) : Prop := ∃ v L, o = .returned v ∧ Q v u.heap L ∧ FrameEnd s o u L C N
theorem own_back {tb : Tables} {e : Env} {below : List Frame} {P : Outcome → State → Prop} {S S' : State} (k : ∀ t, Steps tb e below S' t → Steps tb e below S t) (h : own_Gl tb e below P S') : own_Gl tb e below P S := by
  obtain ⟨s₂, o, h1, h2⟩ := h
  exact ⟨s₂, o, k _ h1, h2⟩
theorem own_trans {tb : Tables} {e : Env} {below : List Frame} {P : Outcome → State → Prop} {S S' : State} (k : Steps tb e below S S') (h : own_Gl tb e below P S') : own_Gl tb e below P S := own_back (fun _ q => k.trans q) h
theorem own_join {tb : Tables} {e : Env} {below : List Frame} {P : Outcome → State → Prop} {S : State} {α : Type} (F : α → State) (C : α → Prop) (tail : ∀ i, C i → own_Gl tb e below P (F i)) (main : (∀ i, C i → own_Gl tb e below P (F i)) → own_Gl tb e below P S) : own_Gl tb e below P S := main tail
section OwnRet
variable {p : Program} {l : Launch} {e : Env} {R : Room} {s : State} {m : MethodId} {args : Array Value} {below : List Frame} {meth : Method} {c : Code} {T : State} {locs : List Loc} {cells slots : Nat}
theorem own_start {C N : Nat} {Q : Option Value → Heap → List Loc → Prop} {g g' : JFrame} (q : g = g') (h : own_Gl p.tables e below (own_P s Q C N) (T.setTop g')) :
    ∃ s₂ o, Steps p.tables e below (T.setTop g) s₂ ∧ s₂.status = .running ∧ Ended s₂ below o ∧ ∃ v L, o = .returned v ∧ Q v s₂.heap L ∧ FrameEnd s o s₂ L C N := by
  subst q; exact h
theorem own_ret (X : Stand p l e R s m args below meth c T locs cells slots) (hlk : meth.locks = false) {v : Option Value} {C N : Nat} {Q : Option Value → Heap → List Loc → Prop} {g : JFrame} (hv : meth.sig.returnType = none → v = none) (hq : Q v T.heap locs) (hc : cells ≤ C) (hn : slots ≤ N)
    (st : ∀ fs, (∀ (f : JFrame) (acts : List Action), f.method = m → f.locked = none → f.entered = [] → (doReturn e (T.setTop f) acts v).1 = T.setFrames fs) → Steps p.tables e below (T.setTop g) (T.setFrames fs)) : own_Gl p.tables e below (own_P s Q C N) (T.setTop g) := by
  obtain ⟨fs, hr, hrun, hended, hW, hsame⟩ := X.leave (v := v) hv hlk
  exact ⟨_, _, st fs hr, hrun, hended, _, _, rfl, hq, ⟨_, rfl⟩, hW, hsame.mono hc hn⟩
theorem own_rZ (X : Stand p l e R s m args below meth c T locs cells slots) (hx : p.tables.exec = Jvm.exec) (hlk : meth.locks = false) (hret : meth.sig.returnType = some .boolean) {z z' : Int32} {C N pc : Nat} {Ls : Array Slot} {rest : List Value} {Q : Option Value → Heap → List Loc → Prop} (hd : decode c.code pc = .ok (.ireturn, 1)) (hz : z &&& 1 = z') (hq : Q (some (.int z')) T.heap locs) (hc : cells ≤ C) (hn : slots ≤ N) :
    own_Gl p.tables e below (own_P s Q C N) (T.setTop (mkF m pc Ls (.int z :: rest))) := by
  subst hz
  exact own_ret X hlk (fun h => by rw [hret] at h; cases h) hq hc hn (fun fs hr => retN X hx (t := .boolean) hret (by simp) hd hr)
theorem own_rC (X : Stand p l e R s m args below meth c T locs cells slots) (hx : p.tables.exec = Jvm.exec) (hlk : meth.locks = false) (hret : meth.sig.returnType = some .char) {z z' : Int32} {C N pc : Nat} {Ls : Array Slot} {rest : List Value} {Q : Option Value → Heap → List Loc → Prop} (hd : decode c.code pc = .ok (.ireturn, 1)) (hz : nar .char z = z') (hq : Q (some (.int z')) T.heap locs) (hc : cells ≤ C) (hn : slots ≤ N) :
    own_Gl p.tables e below (own_P s Q C N) (T.setTop (mkF m pc Ls (.int z :: rest))) := by
  subst hz
  exact own_ret X hlk (fun h => by rw [hret] at h; cases h) hq hc hn (fun fs hr => retN X hx (t := .char) hret (by simp) hd hr)
theorem own_rI (X : Stand p l e R s m args below meth c T locs cells slots) (hx : p.tables.exec = Jvm.exec) (hlk : meth.locks = false) (hret : meth.sig.returnType = some .int) {z : Int32} {C N pc : Nat} {Ls : Array Slot} {rest : List Value} {Q : Option Value → Heap → List Loc → Prop} (hd : decode c.code pc = .ok (.ireturn, 1)) (hq : Q (some (.int z)) T.heap locs) (hc : cells ≤ C) (hn : slots ≤ N) :
    own_Gl p.tables e below (own_P s Q C N) (T.setTop (mkF m pc Ls (.int z :: rest))) :=
  own_ret X hlk (fun h => by rw [hret] at h; cases h) hq hc hn (fun fs hr => retI X hx hret hd hr)
theorem own_rJ (X : Stand p l e R s m args below meth c T locs cells slots) (hx : p.tables.exec = Jvm.exec) (hlk : meth.locks = false) (hret : meth.sig.returnType = some .long) {z : Int64} {C N pc : Nat} {Ls : Array Slot} {rest : List Value} {Q : Option Value → Heap → List Loc → Prop} (hd : decode c.code pc = .ok (.lreturn, 1)) (hq : Q (some (.long z)) T.heap locs) (hc : cells ≤ C) (hn : slots ≤ N) :
    own_Gl p.tables e below (own_P s Q C N) (T.setTop (mkF m pc Ls (.long z :: rest))) :=
  own_ret X hlk (fun h => by rw [hret] at h; cases h) hq hc hn (fun fs hr => retOut X hx hret rfl (Or.inr (Or.inl ⟨rfl, rfl, _, rfl⟩)) hd hr)
theorem own_rA (X : Stand p l e R s m args below meth c T locs cells slots) (hx : p.tables.exec = Jvm.exec) (hlk : meth.locks = false) {t : FieldType} (hret : meth.sig.returnType = some t) (ht : t.isReference = true) {z : Value} (hz : z.isRef = true) (hnz : narrow t z = z) {C N pc : Nat} {Ls : Array Slot} {rest : List Value} {Q : Option Value → Heap → List Loc → Prop} (hd : decode c.code pc = .ok (.areturn, 1)) (hq : Q (some z) T.heap locs) (hc : cells ≤ C) (hn : slots ≤ N) :
    own_Gl p.tables e below (own_P s Q C N) (T.setTop (mkF m pc Ls (z :: rest))) :=
  own_ret X hlk (fun h => by rw [hret] at h; cases h) hq hc hn (fun fs hr => retOut X hx hret hnz (Or.inr (Or.inr (Or.inr (Or.inr ⟨rfl, ht, hz⟩)))) hd hr)
theorem own_rV (X : Stand p l e R s m args below meth c T locs cells slots) (hx : p.tables.exec = Jvm.exec) (hlk : meth.locks = false) (hret : meth.sig.returnType = none) {C N pc : Nat} {Ls : Array Slot} {Q : Option Value → Heap → List Loc → Prop} (hd : decode c.code pc = .ok (.return_, 1)) (hq : Q none T.heap locs) (hc : cells ≤ C) (hn : slots ≤ N) :
    own_Gl p.tables e below (own_P s Q C N) (T.setTop (mkF m pc Ls [])) :=
  own_ret X hlk (fun _ => rfl) hq hc hn (fun fs hr => X.returnOut hx hret hd hr)
end OwnRet
/-! a comparison made a number: branch over; iconst_1; goto; iconst_0 -/
theorem own_bi {tb : Tables} [Ours tb] {e : Env} {below : List Frame} {P : Outcome → State → Prop} {T : State} {m : MethodId} {c : Code} (h : At T m c below) (hx : tb.exec = Jvm.exec) {cd : ClassFile.Cond} {x y : Int32} {Ls : Array Slot} {rest : List Value} (pc pc1 pc2 pc3 pc4 : Nat)
    (d0 : decode c.code pc = .ok (.if_icmp cd 7, 3)) (d1 : decode c.code pc1 = .ok (.iconst 1, 1)) (d2 : decode c.code pc2 = .ok (.goto 4, 3)) (d3 : decode c.code pc3 = .ok (.iconst 0, 1)) (q1 : pc1 = pc + 3) (q2 : pc2 = pc + 4) (q3 : pc3 = pc + 7) (q4 : pc4 = pc + 8)
    (k : own_Gl tb e below P (T.setTop (mkF m pc4 Ls (.int (if if_icmp.holds cd x y = true then 0 else 1) :: rest)))) : own_Gl tb e below P (T.setTop (mkF m pc Ls (.int y :: .int x :: rest))) := by
  subst q1 q2 q3 q4
  cases hc : if_icmp.holds cd x y
  · rw [hc] at k
    refine own_back (fun t q => XS.icmpNo h hx rfl d0 rfl hc q) ?_
    refine own_back (fun t q => XS.iconst h hx rfl d1 q) ?_
    refine own_back (fun t q => XS.goto h hx rfl (pc0 := pc + 4) (pc' := pc + 8) rfl d2 (by omega) (by omega) q) ?_
    exact k
  · rw [hc] at k
    refine own_back (fun t q => XS.icmpYes h hx rfl (pc0 := pc) (pc' := pc + 7) rfl d0 rfl hc (by omega) (by omega) q) ?_
    refine own_back (fun t q => XS.iconst h hx rfl d3 q) ?_
    exact k
theorem own_bz {tb : Tables} [Ours tb] {e : Env} {below : List Frame} {P : Outcome → State → Prop} {T : State} {m : MethodId} {c : Code} (h : At T m c below) (hx : tb.exec = Jvm.exec) {cd : ClassFile.Cond} {x : Int32} {Ls : Array Slot} {rest : List Value} (pc pc1 pc2 pc3 pc4 : Nat)
    (d0 : decode c.code pc = .ok (.ifCond cd 7, 3)) (d1 : decode c.code pc1 = .ok (.iconst 1, 1)) (d2 : decode c.code pc2 = .ok (.goto 4, 3)) (d3 : decode c.code pc3 = .ok (.iconst 0, 1)) (q1 : pc1 = pc + 3) (q2 : pc2 = pc + 4) (q3 : pc3 = pc + 7) (q4 : pc4 = pc + 8)
    (k : own_Gl tb e below P (T.setTop (mkF m pc4 Ls (.int (if if_icmp.holds cd x 0 = true then 0 else 1) :: rest)))) : own_Gl tb e below P (T.setTop (mkF m pc Ls (.int x :: rest))) := by
  subst q1 q2 q3 q4
  cases hc : if_icmp.holds cd x 0
  · rw [hc] at k
    refine own_back (fun t q => XS.ifNo h hx rfl d0 rfl ((if0 _ _).trans hc) q) ?_
    refine own_back (fun t q => XS.iconst h hx rfl d1 q) ?_
    refine own_back (fun t q => XS.goto h hx rfl (pc0 := pc + 4) (pc' := pc + 8) rfl d2 (by omega) (by omega) q) ?_
    exact k
  · rw [hc] at k
    refine own_back (fun t q => XS.ifYes h hx rfl (pc0 := pc) (pc' := pc + 7) rfl d0 rfl ((if0 _ _).trans hc) (by omega) (by omega) q) ?_
    refine own_back (fun t q => XS.iconst h hx rfl d3 q) ?_
    exact k
theorem own_one {z : Int32} (h : z = 1) : z &&& 1 = 1 := by subst h; decide
theorem own_zero {z : Int32} (h : z = 0) : z &&& 1 = 0 := by subst h; decide
def own_v (a b d e f : Int32) (j : Nat) : Int32 := if j = 0 then a else if j = 1 then b else if j = 2 then d else if j = 3 then e else f
def own_ps (g : Nat → Int32) : Nat → Int32
  | 0 => g 0
  | j + 1 => g (j + 1) + own_ps g j
def own_J (Z : State) (h : Heap) (b : Addr) (N k : Nat) (f : Nat → Int32) : Prop := ∃ cl : Cell, Arr Z h b cl .int ∧ cl.slots.size = N ∧ ∀ j, j < N → j < k → cl.slots[j]? = some (.int (f j))
theorem own_nat {i : Nat} (h : i < 2147483648) : ¬ (Int32.ofNat i) < 0 ∧ (Int32.ofNat i).toNatClampNeg = i ∧ (Int32.ofNat i).toInt = i := by
  have e : (Int32.ofNat i).toInt = i := Int32.toInt_ofNat_small h
  refine ⟨?_, ?_, e⟩
  · rw [Int32.lt_iff_toInt_lt, e]; have : (0 : Int32).toInt = 0 := by decide
    omega
  · show (Int32.ofNat i).toInt.toNat = i
    omega
theorem own_set {cl : Cell} {j i : Nat} {v : Value} (hi : i < cl.slots.size) : (cl.setSlot i v).slots[j]? = if j = i then some v else cl.slots[j]? := by
  show (cl.slots.setIfInBounds i v)[j]? = _
  rw [Array.getElem?_setIfInBounds]
  by_cases q : i = j
  · subst q; simp [hi]
  · rw [if_neg q, if_neg (fun w => q w.symm)]
theorem own_Jset {Z : State} {h h' : Heap} {b : Addr} {cl : Cell} {N k i : Nat} {f : Nat → Int32} {v : Value} (A : Arr Z h b cl .int) (S : cl.slots.size = N) (H : ∀ j, j < N → j < k → cl.slots[j]? = some (.int (f j))) (W : Wr h h' b i v) (hi : i = k) (hk : k < N) (hv : v = .int (f k)) : own_J Z h' b N (k + 1) f := by
  subst hi hv
  refine ⟨_, A.same W, by simp [Cell.setSlot, S], fun j hj hk' => ?_⟩
  rw [own_set (by omega)]
  by_cases q : j = i
  · rw [if_pos q, q]
  · rw [if_neg q]; exact H j hj (by omega)
theorem own_Jskip {Z : State} {h : Heap} {b : Addr} {N k : Nat} {f : Nat → Int32} (J : own_J Z h b N k f) (hk : N ≤ k) : own_J Z h b N (k + 1) f := by
  obtain ⟨cl, A, S, H⟩ := J
  exact ⟨cl, A, S, fun j hj _ => H j hj (by omega)⟩
theorem own_r6 (f j : Int32) (hj : j = (f &&& (2147483647 : Int32)) % (6 : Int32)) : ¬ j < 0 ∧ j.toNatClampNeg ≤ 5 ∧ j.toInt = j.toNatClampNeg := by
  have e2 := c_mask f 2147483647 31 (by decide) (by decide)
  have e4 := (c_irem (f &&& 2147483647) 6 6 (by decide)).1 (by omega)
  rw [← hj] at e4
  have z0 : (0 : Int32).toInt = 0 := by decide
  have e5 : j.toNatClampNeg = j.toInt.toNat := rfl
  refine ⟨fun q => ?_, ?_, ?_⟩
  · rw [Int32.lt_iff_toInt_lt] at q; omega
  · omega
  · omega
theorem d1_0 : decode prog_18_method_10_code 0 = .ok (.iconst 1, 1) := by decide +kernel
theorem d1_1 : decode prog_18_method_10_code 1 = .ok (.istore_n 1, 1) := by decide +kernel
theorem d1_2 : decode prog_18_method_10_code 2 = .ok (.iload_n 1, 1) := by decide +kernel
theorem d1_3 : decode prog_18_method_10_code 3 = .ok (.aload_n 0, 1) := by decide +kernel
theorem d1_4 : decode prog_18_method_10_code 4 = .ok (.arraylength, 1) := by decide +kernel
theorem d1_5 : decode prog_18_method_10_code 5 = .ok (.if_icmp .ge 20, 3) := by decide +kernel
theorem d1_8 : decode prog_18_method_10_code 8 = .ok (.aload_n 0, 1) := by decide +kernel
theorem d1_9 : decode prog_18_method_10_code 9 = .ok (.iload_n 1, 1) := by decide +kernel
theorem d1_10 : decode prog_18_method_10_code 10 = .ok (.dup2, 1) := by decide +kernel
theorem d1_11 : decode prog_18_method_10_code 11 = .ok (.iaload, 1) := by decide +kernel
theorem d1_12 : decode prog_18_method_10_code 12 = .ok (.aload_n 0, 1) := by decide +kernel
theorem d1_13 : decode prog_18_method_10_code 13 = .ok (.iload_n 1, 1) := by decide +kernel
theorem d1_14 : decode prog_18_method_10_code 14 = .ok (.iconst 1, 1) := by decide +kernel
theorem d1_15 : decode prog_18_method_10_code 15 = .ok (.isub, 1) := by decide +kernel
theorem d1_16 : decode prog_18_method_10_code 16 = .ok (.iaload, 1) := by decide +kernel
theorem d1_17 : decode prog_18_method_10_code 17 = .ok (.iadd, 1) := by decide +kernel
theorem d1_18 : decode prog_18_method_10_code 18 = .ok (.iastore, 1) := by decide +kernel
theorem d1_19 : decode prog_18_method_10_code 19 = .ok (.iinc 1 1, 3) := by decide +kernel
theorem d1_22 : decode prog_18_method_10_code 22 = .ok (.goto (-20), 3) := by decide +kernel
theorem d1_25 : decode prog_18_method_10_code 25 = .ok (.return_, 1) := by decide +kernel
theorem pn_1 : plainFor (⟨"io/quadrille/graph/Adjacency", "sumInPlace", "([I)V"⟩ : MethodName) = true := plainFor_of_name (by first | (simp [plainName, overriddenIn]; done) | decide +kernel)
def Qrm1 (Z : State) (a1 : Addr) (N : Nat) (g : Nat → Int32) (h0 : Heap) (n0 : Nat) (v : Option Value) (h : Heap) (L : List Loc) : Prop := v = none ∧ Fr n0 L ∧ Keep h0 h [a1] ∧ own_J Z h a1 N 5 (own_ps g)
set_option maxRecDepth 65536 in
set_option maxHeartbeats 40000000 in
theorem rm1 (l : Launch) (Z : State) (a0 : Array Value) (hw : ∀ d ∈ tables_1, d.before a0 Z = true) (ws : List Jvm.Cond) (a1 : Addr) (h0 : Heap) (n0 : Nat) (Z0 : n0 ≤ h0.size) (N : Nat) (g : Nat → Int32) (hN : N ≤ 5) (J : own_J Z h0 a1 N 5 g) (g1 : n0 ≤ a1) :
    MetFree l (⟨"io/quadrille/graph/Adjacency", "sumInPlace", "([I)V"⟩ : MethodName) (head1 (Jvm.Cond.code (⟨"io/quadrille/graph/Adjacency", "sumInPlace", "([I)V"⟩ : MethodName) prog_18_method_10_code 2 none :: ws) ({ frames := 0, cells := 0, slots := 0, locals := 0 } : Room)) (fun a_ U_ => a_ = #[(.ref a1)] ∧ Z.Warmed39 U_.vm ∧ U_.heap = h0) (fun _ _ _ _ _ => True) (fun _ U_ o_ U'_ => ∃ v_ L_, o_ = .returned v_ ∧ (Qrm1 Z a1 N g h0 n0) v_ U'_.heap L_ ∧ FrameEnd U_ o_ U'_ L_ 0 0) := by
  refine MetFree.of_bodySF pn_1 hisR ?_
  intro p e s m args below meth c s₁ Bd hml0 hP hK
  obtain ⟨rfl, hZ, hh⟩ := hP
  have hx := Bd.exec
  have hby := Bd.bytes
  have hlk : meth.locks = false := Bd.notSynchronized
  have hml : c.maxLocals = 2 := hml0
  have hown : s.vm.findClass "io/quadrille/graph/Adjacency" = some m.cls := findClass_of_methodNamed Bd.named
  have hnm := (name_of_methodNamed Bd.named Bd.method).1
  have X0 : Stand p l e ({ frames := 0, cells := 0, slots := 0, locals := 0 } : Room) s m #[(.ref a1)] below meth c s₁ [] 0 0 := Stand.of_body Bd
  have e0 : s₁.heap = h0 := by rw [← hh, Bd.state]; rfl
  have N0 := Fr.nil n0
  refine own_start (Q := Qrm1 Z a1 N g h0 n0) (g' := (mkF m 0 #[.val (.ref a1), .unset] [])) (by first | (simp [entryFrame, mkF, argsToLocals, Value.category]; done) | rfl) ?_
  show own_Gl _ _ _ _ (s₁.setTop (mkF m 0 #[.val (.ref a1), .unset] []))
  have loop : ∀ (k i : Nat) (T : State) (h : Heap) (L : List Loc) (cl : Cell), 1 ≤ i → i ≤ 6 → N ≤ i + k → Stand p l e ({ frames := 0, cells := 0, slots := 0, locals := 0 } : Room) s m #[(.ref a1)] below meth c T L 0 0 → Fr n0 L → T.heap = h → Keep h0 h [a1] → Arr Z h a1 cl .int → cl.slots.size = N → (∀ j, j < N → cl.slots[j]? = some (.int (if j < i then own_ps g j else g j))) → own_Gl p.tables e below (own_P s (Qrm1 Z a1 N g h0 n0) 0 0) (T.setTop (mkF m 2 #[.val (.ref a1), .val (.int (Int32.ofNat i))] [])) := by
    intro k
    induction k with
    | zero =>
      intro i T h L cl h1 h6 hk X NL eT K A S H
      obtain ⟨n1, n2, n3⟩ := own_nat (i := i) (by omega)
      obtain ⟨m1, m2, m3⟩ := own_nat (i := N) (by omega)
      show own_Gl _ _ _ _ (T.setTop (mkF m 2 #[.val (.ref a1), .val (.int (Int32.ofNat i))] []))
      refine own_back (fun t_ q_ => XS.iloadN X.here hx rfl (hb hby d1_2) rfl q_) ?_
      show own_Gl _ _ _ _ (T.setTop (mkF m 3 #[.val (.ref a1), .val (.int (Int32.ofNat i))] [(.int (Int32.ofNat i))]))
      refine own_back (fun t_ q_ => XS.aloadN X.here hx rfl (hb hby d1_3) rfl rfl q_) ?_
      show own_Gl _ _ _ _ (T.setTop (mkF m 4 #[.val (.ref a1), .val (.int (Int32.ofNat i))] [(.ref a1), (.int (Int32.ofNat i))]))
      refine own_back (fun t_ q_ => X.arraylength hx (by rw [eT]; exact A.1) (State.isArrayOf_alike hZ.alike A.2.1) (g := (mkF m 4 #[.val (.ref a1), .val (.int (Int32.ofNat i))] [(.ref a1), (.int (Int32.ofNat i))])) rfl rfl (hb hby d1_4) t_ q_) ?_
      rw [(show cl.slots.size.toInt32 = Int32.ofNat N by rw [S] <;> rfl)]
      show own_Gl _ _ _ _ (T.setTop (mkF m 5 #[.val (.ref a1), .val (.int (Int32.ofNat i))] [(.int (Int32.ofNat N)), (.int (Int32.ofNat i))]))
      refine own_back (fun t_ q_ => XS.icmpYes X.here hx rfl (pc0 := 5) (pc' := 25) rfl (hb hby d1_5) rfl (flt (fun q => by rw [Int32.lt_iff_toInt_lt, n3, m3] at q; omega : ¬ ((Int32.ofNat i) < (Int32.ofNat N)))).2.1 (by decide) (by decide) q_) ?_
      show own_Gl _ _ _ _ (T.setTop (mkF m 25 #[.val (.ref a1), .val (.int (Int32.ofNat i))] []))
      exact own_rV X hx hlk Bd.returns (hb hby d1_25) (by show Qrm1 Z a1 N g h0 n0 _ T.heap _; rw [eT]; exact ⟨rfl, NL, K, cl, A, S, fun j hj _ => by rw [H j hj, if_pos (by omega)]⟩) (by decide) (by decide)
    | succ k ih =>
      intro i T h L cl h1 h6 hk X NL eT K A S H
      obtain ⟨n1, n2, n3⟩ := own_nat (i := i) (by omega)
      obtain ⟨m1, m2, m3⟩ := own_nat (i := N) (by omega)
      show own_Gl _ _ _ _ (T.setTop (mkF m 2 #[.val (.ref a1), .val (.int (Int32.ofNat i))] []))
      refine own_back (fun t_ q_ => XS.iloadN X.here hx rfl (hb hby d1_2) rfl q_) ?_
      show own_Gl _ _ _ _ (T.setTop (mkF m 3 #[.val (.ref a1), .val (.int (Int32.ofNat i))] [(.int (Int32.ofNat i))]))
      refine own_back (fun t_ q_ => XS.aloadN X.here hx rfl (hb hby d1_3) rfl rfl q_) ?_
      show own_Gl _ _ _ _ (T.setTop (mkF m 4 #[.val (.ref a1), .val (.int (Int32.ofNat i))] [(.ref a1), (.int (Int32.ofNat i))]))
      refine own_back (fun t_ q_ => X.arraylength hx (by rw [eT]; exact A.1) (State.isArrayOf_alike hZ.alike A.2.1) (g := (mkF m 4 #[.val (.ref a1), .val (.int (Int32.ofNat i))] [(.ref a1), (.int (Int32.ofNat i))])) rfl rfl (hb hby d1_4) t_ q_) ?_
      rw [(show cl.slots.size.toInt32 = Int32.ofNat N by rw [S] <;> rfl)]
      show own_Gl _ _ _ _ (T.setTop (mkF m 5 #[.val (.ref a1), .val (.int (Int32.ofNat i))] [(.int (Int32.ofNat N)), (.int (Int32.ofNat i))]))
      by_cases hc : (Int32.ofNat i) < (Int32.ofNat N)
      · skip
        refine own_back (fun t_ q_ => XS.icmpNo X.here hx rfl (hb hby d1_5) rfl (tlt (hc : (Int32.ofNat i) < (Int32.ofNat N))).2.1 q_) ?_
        show own_Gl _ _ _ _ (T.setTop (mkF m 8 #[.val (.ref a1), .val (.int (Int32.ofNat i))] []))
        have hiN : i < N := by rw [Int32.lt_iff_toInt_lt, n3, m3] at hc; omega
        have hin : ¬ ((Int32.ofNat i) < 0 ∨ cl.slots.size ≤ (Int32.ofNat i).toNatClampNeg) := by rw [n2, S]; exact fun q => q.elim n1 (by omega)
        obtain ⟨t, ht⟩ : ∃ t, i = t + 1 := ⟨i - 1, by omega⟩
        obtain ⟨t1, t2, t3⟩ := own_nat (i := t) (by omega)
        have et : (Int32.ofNat i) - (1 : Int32) = Int32.ofNat t := by
          have e := c_isub (Int32.ofNat i) 1
          have r := rng32 ((Int32.ofNat i) - 1)
          have z1 : (1 : Int32).toInt = 1 := by decide
          rw [n3, z1] at e
          exact Int32.toInt_inj.mp (by rw [t3]; omega)
        have hin2 : ¬ ((Int32.ofNat t) < 0 ∨ cl.slots.size ≤ (Int32.ofNat t).toNatClampNeg) := by rw [t2, S]; exact fun q => q.elim t1 (by omega)
        refine own_back (fun t_ q_ => XS.aloadN X.here hx rfl (hb hby d1_8) rfl rfl q_) ?_
        show own_Gl _ _ _ _ (T.setTop (mkF m 9 #[.val (.ref a1), .val (.int (Int32.ofNat i))] [(.ref a1)]))
        refine own_back (fun t_ q_ => XS.iloadN X.here hx rfl (hb hby d1_9) rfl q_) ?_
        show own_Gl _ _ _ _ (T.setTop (mkF m 10 #[.val (.ref a1), .val (.int (Int32.ofNat i))] [(.int (Int32.ofNat i)), (.ref a1)]))
        refine own_back (fun t_ q_ => XT.dup2 X.here hx rfl (hb hby d1_10) rfl rfl rfl q_) ?_
        show own_Gl _ _ _ _ (T.setTop (mkF m 11 #[.val (.ref a1), .val (.int (Int32.ofNat i))] [(.int (Int32.ofNat i)), (.ref a1), (.int (Int32.ofNat i)), (.ref a1)]))
        refine own_back (fun t_ q_ => X.iaload hx (j := (Int32.ofNat i)) (v := (.int (g i))) (by rw [eT]; exact A.1) (State.isArrayOf_alike hZ.alike A.2.1) A.2.2 hin (show cl.slots[(Int32.ofNat i).toNatClampNeg]? = some (.int (g i)) by rw [n2, H i hiN, if_neg (by omega)]) (g := (mkF m 11 #[.val (.ref a1), .val (.int (Int32.ofNat i))] [(.int (Int32.ofNat i)), (.ref a1), (.int (Int32.ofNat i)), (.ref a1)])) rfl rfl (hb hby d1_11) t_ q_) ?_
        show own_Gl _ _ _ _ (T.setTop (mkF m 12 #[.val (.ref a1), .val (.int (Int32.ofNat i))] [(.int (g i)), (.int (Int32.ofNat i)), (.ref a1)]))
        refine own_back (fun t_ q_ => XS.aloadN X.here hx rfl (hb hby d1_12) rfl rfl q_) ?_
        show own_Gl _ _ _ _ (T.setTop (mkF m 13 #[.val (.ref a1), .val (.int (Int32.ofNat i))] [(.ref a1), (.int (g i)), (.int (Int32.ofNat i)), (.ref a1)]))
        refine own_back (fun t_ q_ => XS.iloadN X.here hx rfl (hb hby d1_13) rfl q_) ?_
        show own_Gl _ _ _ _ (T.setTop (mkF m 14 #[.val (.ref a1), .val (.int (Int32.ofNat i))] [(.int (Int32.ofNat i)), (.ref a1), (.int (g i)), (.int (Int32.ofNat i)), (.ref a1)]))
        refine own_back (fun t_ q_ => XS.iconst X.here hx rfl (hb hby d1_14) q_) ?_
        show own_Gl _ _ _ _ (T.setTop (mkF m 15 #[.val (.ref a1), .val (.int (Int32.ofNat i))] [(.int (1 : Int32)), (.int (Int32.ofNat i)), (.ref a1), (.int (g i)), (.int (Int32.ofNat i)), (.ref a1)]))
        refine own_back (fun t_ q_ => XS.isub X.here hx rfl (hb hby d1_15) rfl q_) ?_
        show own_Gl _ _ _ _ (T.setTop (mkF m 16 #[.val (.ref a1), .val (.int (Int32.ofNat i))] [(.int ((Int32.ofNat i) - (1 : Int32))), (.ref a1), (.int (g i)), (.int (Int32.ofNat i)), (.ref a1)]))
        rw [et]
        show own_Gl _ _ _ _ (T.setTop (mkF m 16 #[.val (.ref a1), .val (.int (Int32.ofNat i))] [(.int (Int32.ofNat t)), (.ref a1), (.int (g i)), (.int (Int32.ofNat i)), (.ref a1)]))
        refine own_back (fun t_ q_ => X.iaload hx (j := (Int32.ofNat t)) (v := (.int (own_ps g t))) (by rw [eT]; exact A.1) (State.isArrayOf_alike hZ.alike A.2.1) A.2.2 hin2 (show cl.slots[(Int32.ofNat t).toNatClampNeg]? = some (.int (own_ps g t)) by rw [t2, H t (by omega), if_pos (by omega)]) (g := (mkF m 16 #[.val (.ref a1), .val (.int (Int32.ofNat i))] [(.int (Int32.ofNat t)), (.ref a1), (.int (g i)), (.int (Int32.ofNat i)), (.ref a1)])) rfl rfl (hb hby d1_16) t_ q_) ?_
        show own_Gl _ _ _ _ (T.setTop (mkF m 17 #[.val (.ref a1), .val (.int (Int32.ofNat i))] [(.int (own_ps g t)), (.int (g i)), (.int (Int32.ofNat i)), (.ref a1)]))
        refine own_back (fun t_ q_ => XS.iadd X.here hx rfl (hb hby d1_17) rfl q_) ?_
        show own_Gl _ _ _ _ (T.setTop (mkF m 18 #[.val (.ref a1), .val (.int (Int32.ofNat i))] [(.int ((g i) + (own_ps g t))), (.int (Int32.ofNat i)), (.ref a1)]))
        obtain ⟨T1, h1, X1, e1, W1, st1⟩ := stI X hx hZ eT A (j := (Int32.ofNat i)) hin (g := (mkF m 18 #[.val (.ref a1), .val (.int (Int32.ofNat i))] [(.int ((g i) + (own_ps g t))), (.int (Int32.ofNat i)), (.ref a1)])) rfl rfl (hb hby d1_18)
        refine own_back st1 ?_
        have N1 := Fr.snoc X1 NL g1
        show own_Gl _ _ _ _ (T1.setTop (mkF m 19 #[.val (.ref a1), .val (.int (Int32.ofNat i))] []))
        refine own_back (fun t_ q_ => XS.iinc X1.here hx rfl (hb hby d1_19) rfl (l' := #[.val (.ref a1), .val (.int ((Int32.ofNat i) + (1 : Int32)))]) rfl q_) ?_
        show own_Gl _ _ _ _ (T1.setTop (mkF m 22 #[.val (.ref a1), .val (.int ((Int32.ofNat i) + (1 : Int32)))] []))
        refine own_back (fun t_ q_ => XS.goto X1.here hx rfl (pc0 := 22) (pc' := 2) rfl (hb hby d1_22) (by decide) (by decide) q_) ?_
        show own_Gl _ _ _ _ (T1.setTop (mkF m 2 #[.val (.ref a1), .val (.int ((Int32.ofNat i) + (1 : Int32)))] []))
        have ei : (Int32.ofNat i) + (1 : Int32) = Int32.ofNat (i + 1) := by
          have e := c_iadd (Int32.ofNat i) 1
          have r := rng32 ((Int32.ofNat i) + 1)
          have z1 : (1 : Int32).toInt = 1 := by decide
          have q := (own_nat (i := i + 1) (by omega)).2.2
          rw [n3, z1] at e
          exact Int32.toInt_inj.mp (by rw [q]; omega)
        rw [ei]
        refine ih (i + 1) _ _ _ _ (by omega) (by omega) (by omega) X1 N1 e1 (K.wr W1 (Or.inl (List.mem_singleton.mpr rfl))) (A.same W1) (by simp [Cell.setSlot, S]) (fun j hj => ?_)
        rw [n2, own_set (by omega)]
        by_cases q : j = i
        · rw [if_pos q, q, if_pos (by omega), ht]; rfl
        · rw [if_neg q, H j hj]
          by_cases q2 : j < i
          · rw [if_pos q2, if_pos (by omega)]
          · rw [if_neg q2, if_neg (by omega)]
      · skip
        refine own_back (fun t_ q_ => XS.icmpYes X.here hx rfl (pc0 := 5) (pc' := 25) rfl (hb hby d1_5) rfl (flt (hc : ¬ ((Int32.ofNat i) < (Int32.ofNat N)))).2.1 (by decide) (by decide) q_) ?_
        show own_Gl _ _ _ _ (T.setTop (mkF m 25 #[.val (.ref a1), .val (.int (Int32.ofNat i))] []))
        have hNi : N ≤ i := by rw [Int32.lt_iff_toInt_lt, n3, m3] at hc; omega
        exact own_rV X hx hlk Bd.returns (hb hby d1_25) (by show Qrm1 Z a1 N g h0 n0 _ T.heap _; rw [eT]; exact ⟨rfl, NL, K, cl, A, S, fun j hj _ => by rw [H j hj, if_pos (by omega)]⟩) (by decide) (by decide)
  refine own_back (fun t_ q_ => XS.iconst X0.here hx rfl (hb hby d1_0) q_) ?_
  show own_Gl _ _ _ _ (s₁.setTop (mkF m 1 #[.val (.ref a1), .unset] [(.int (1 : Int32))]))
  refine own_back (fun t_ q_ => XS.istoreN X0.here hx rfl (hb hby d1_1) rfl (l' := #[.val (.ref a1), .val (.int (1 : Int32))]) rfl q_) ?_
  show own_Gl _ _ _ _ (s₁.setTop (mkF m 2 #[.val (.ref a1), .val (.int (1 : Int32))] []))
  obtain ⟨cl, A, S, H⟩ := J
  refine loop 5 1 _ _ _ cl (by omega) (by omega) (by omega) X0 N0 e0 (Keep.refl _ _) A S (fun j hj => ?_)
  rw [H j hj (by omega)]
  by_cases q : j < 1
  · rw [if_pos q]
    obtain rfl : j = 0 := by omega
    rfl
  · rw [if_neg q]
theorem pd_0 : parseMethodDescriptor "([I)V" = some ⟨[(.array .int)], none⟩ := by decide +kernel
theorem pn_0 : plainFor x = true := plainFor_of_name (by first | (simp [plainName, overriddenIn, x]; done) | decide +kernel)
theorem own_p0 (a b d e5 f : Int32) : own_ps (own_v a b d e5 f) 0 = a := rfl
theorem own_p1 (a b d e5 f : Int32) : own_ps (own_v a b d e5 f) 1 = (a + b) := by
  show b + own_ps (own_v a b d e5 f) 0 = _
  rw [own_p0, Int32.add_comm]
theorem own_p2 (a b d e5 f : Int32) : own_ps (own_v a b d e5 f) 2 = ((a + b) + d) := by
  show d + own_ps (own_v a b d e5 f) 1 = _
  rw [own_p1, Int32.add_comm]
theorem own_p3 (a b d e5 f : Int32) : own_ps (own_v a b d e5 f) 3 = (((a + b) + d) + e5) := by
  show e5 + own_ps (own_v a b d e5 f) 2 = _
  rw [own_p2, Int32.add_comm]
theorem own_p4 (a b d e5 f : Int32) : own_ps (own_v a b d e5 f) 4 = ((((a + b) + d) + e5) + f) := by
  show f + own_ps (own_v a b d e5 f) 3 = _
  rw [own_p3, Int32.add_comm]
def Qrm0 (h0 : Heap) (n0 : Nat) (v : Option Value) (h : Heap) (L : List Loc) : Prop := v = some (.int 1) ∧ Fr n0 L
set_option maxRecDepth 65536 in
set_option maxHeartbeats 40000000 in
theorem rm0 (l : Launch) (Z : State) (a0 : Array Value) (hw : ∀ d ∈ tables_1, d.before a0 Z = true) (ws : List Jvm.Cond) (k : Int32) (a : Int32) (b : Int32) (d : Int32) (ee : Int32) (f : Int32) (h0 : Heap) (n0 : Nat) (Z0 : n0 ≤ h0.size)  :
    MetFree l x (head1 (Jvm.Cond.code x code maxLocals ret :: ws) room_1) (fun a_ U_ => a_ = #[(.int k), (.int a), (.int b), (.int d), (.int ee), (.int f)] ∧ Z.Warmed39 U_.vm ∧ U_.heap = h0) (fun _ _ _ _ _ => True) (fun _ U_ o_ U'_ => ∃ v_ L_, o_ = .returned v_ ∧ (Qrm0 h0 n0) v_ U'_.heap L_ ∧ FrameEnd U_ o_ U'_ L_ 16 128) := by
  refine MetFree.of_bodySF pn_0 hisR ?_
  intro p e s m args below meth c s₁ Bd hml0 hP hK
  obtain ⟨rfl, hZ, hh⟩ := hP
  have hx := Bd.exec
  have hby := Bd.bytes
  have hlk : meth.locks = false := Bd.notSynchronized
  have hml : c.maxLocals = 14 := hml0
  have hown : s.vm.findClass "io/quadrille/graph/AdjacencySumInPlacePinLaw" = some m.cls := findClass_of_methodNamed Bd.named
  have hnm := (name_of_methodNamed Bd.named Bd.method).1
  have X0 : Stand p l e room_1 s m #[(.int k), (.int a), (.int b), (.int d), (.int ee), (.int f)] below meth c s₁ [] 0 0 := Stand.of_body Bd
  have e0 : s₁.heap = h0 := by rw [← hh, Bd.state]; rfl
  have N0 := Fr.nil n0
  refine own_start (Q := Qrm0 h0 n0) (g' := (mkF m 0 #[.val (.int k), .val (.int a), .val (.int b), .val (.int d), .val (.int ee), .val (.int f), .unset, .unset, .unset, .unset, .unset, .unset, .unset, .unset] [])) (by first | (simp [entryFrame, mkF, argsToLocals, Value.category, maxLocals]; done) | rfl) ?_
  show own_Gl _ _ _ _ (s₁.setTop (mkF m 0 #[.val (.int k), .val (.int a), .val (.int b), .val (.int d), .val (.int ee), .val (.int f), .unset, .unset, .unset, .unset, .unset, .unset, .unset, .unset] []))
  refine own_back (fun t_ q_ => XS.iloadN X0.here hx rfl (hb hby at_0) rfl q_) ?_
  show own_Gl _ _ _ _ (s₁.setTop (mkF m 1 #[.val (.int k), .val (.int a), .val (.int b), .val (.int d), .val (.int ee), .val (.int f), .unset, .unset, .unset, .unset, .unset, .unset, .unset, .unset] [(.int k)]))
  refine own_back (fun t_ q_ => X0.ldcInt hx hown (mvT hZ (hw _ (List.mem_of_getElem? (i := 0) rfl))) (g := (mkF m 1 #[.val (.int k), .val (.int a), .val (.int b), .val (.int d), .val (.int ee), .val (.int f), .unset, .unset, .unset, .unset, .unset, .unset, .unset, .unset] [(.int k)])) rfl (hb hby at_1) t_ q_) ?_
  show own_Gl _ _ _ _ (s₁.setTop (mkF m 3 #[.val (.int k), .val (.int a), .val (.int b), .val (.int d), .val (.int ee), .val (.int f), .unset, .unset, .unset, .unset, .unset, .unset, .unset, .unset] [(.int (2147483647 : Int32)), (.int k)]))
  refine own_back (fun t_ q_ => XS.iand X0.here hx rfl (hb hby at_3) rfl q_) ?_
  show own_Gl _ _ _ _ (s₁.setTop (mkF m 4 #[.val (.int k), .val (.int a), .val (.int b), .val (.int d), .val (.int ee), .val (.int f), .unset, .unset, .unset, .unset, .unset, .unset, .unset, .unset] [(.int (k &&& (2147483647 : Int32)))]))
  refine own_back (fun t_ q_ => XS.bipush X0.here hx rfl (hb hby at_4) q_) ?_
  show own_Gl _ _ _ _ (s₁.setTop (mkF m 6 #[.val (.int k), .val (.int a), .val (.int b), .val (.int d), .val (.int ee), .val (.int f), .unset, .unset, .unset, .unset, .unset, .unset, .unset, .unset] [(.int (6 : Int32)), (.int (k &&& (2147483647 : Int32)))]))
  refine own_back (fun t_ q_ => Jvm.RoadKit.iremM (g := (mkF m 6 #[.val (.int k), .val (.int a), .val (.int b), .val (.int d), .val (.int ee), .val (.int f), .unset, .unset, .unset, .unset, .unset, .unset, .unset, .unset] [(.int (6 : Int32)), (.int (k &&& (2147483647 : Int32)))])) X0 hx rfl (hb hby at_6) rfl (by decide) q_) ?_
  show own_Gl _ _ _ _ (s₁.setTop (mkF m 7 #[.val (.int k), .val (.int a), .val (.int b), .val (.int d), .val (.int ee), .val (.int f), .unset, .unset, .unset, .unset, .unset, .unset, .unset, .unset] [(.int ((k &&& (2147483647 : Int32)) % (6 : Int32)))]))
  obtain ⟨nn, hnn⟩ : ∃ z, z = ((k &&& (2147483647 : Int32)) % (6 : Int32)) := ⟨_, rfl⟩
  rw [← hnn]
  show own_Gl _ _ _ _ (s₁.setTop (mkF m 7 #[.val (.int k), .val (.int a), .val (.int b), .val (.int d), .val (.int ee), .val (.int f), .unset, .unset, .unset, .unset, .unset, .unset, .unset, .unset] [(.int nn)]))
  refine own_back (fun t_ q_ => XS.istore X0.here hx rfl (hb hby at_7) rfl (l' := #[.val (.int k), .val (.int a), .val (.int b), .val (.int d), .val (.int ee), .val (.int f), .val (.int nn), .unset, .unset, .unset, .unset, .unset, .unset, .unset]) rfl q_) ?_
  show own_Gl _ _ _ _ (s₁.setTop (mkF m 9 #[.val (.int k), .val (.int a), .val (.int b), .val (.int d), .val (.int ee), .val (.int f), .val (.int nn), .unset, .unset, .unset, .unset, .unset, .unset, .unset] []))
  refine own_back (fun t_ q_ => XS.iload X0.here hx rfl (hb hby at_9) rfl q_) ?_
  show own_Gl _ _ _ _ (s₁.setTop (mkF m 11 #[.val (.int k), .val (.int a), .val (.int b), .val (.int d), .val (.int ee), .val (.int f), .val (.int nn), .unset, .unset, .unset, .unset, .unset, .unset, .unset] [(.int nn)]))
  obtain ⟨r1, r2, r3⟩ := own_r6 k nn hnn
  obtain ⟨N, hN⟩ : ∃ N, N = nn.toNatClampNeg := ⟨_, rfl⟩
  rw [← hN] at r2 r3
  obtain ⟨T2, h2, k2, X2, e2, E2, A2, st2⟩ := newP X0 hx hZ (hw _ (List.mem_of_getElem? (i := 1) rfl)) e0 (g := (mkF m 11 #[.val (.int k), .val (.int a), .val (.int b), .val (.int d), .val (.int ee), .val (.int f), .val (.int nn), .unset, .unset, .unset, .unset, .unset, .unset, .unset] [(.int nn)])) rfl (hb hby at_11) rfl r1 (cap := 5) (hN ▸ r2) (by decide) (by decide) (by decide)
  obtain ⟨b2, g2⟩ : ∃ z, z = h0.size := ⟨_, rfl⟩
  rw [← g2] at A2 st2
  refine own_back st2 ?_
  show own_Gl _ _ _ _ (T2.setTop (mkF m 13 #[.val (.int k), .val (.int a), .val (.int b), .val (.int d), .val (.int ee), .val (.int f), .val (.int nn), .unset, .unset, .unset, .unset, .unset, .unset, .unset] [(.ref b2)]))
  have gb : n0 ≤ b2 := Nat.le_trans Z0 (Nat.le_of_eq g2.symm)
  have Zs : n0 ≤ h2.size := Nat.le_trans Z0 E2.1
  have J0 : n0 ≤ h2.size ∧ own_J Z h2 b2 N 0 (own_v a b d ee f) := ⟨Zs, _, A2, by rw [sz_new, hN], fun j hj hk => absurd hk (by omega)⟩
  refine own_back (fun t_ q_ => XS.astore X2.here hx rfl (hb hby at_13) rfl rfl (l' := #[.val (.int k), .val (.int a), .val (.int b), .val (.int d), .val (.int ee), .val (.int f), .val (.int nn), .val (.ref b2), .unset, .unset, .unset, .unset, .unset, .unset]) rfl q_) ?_
  show own_Gl _ _ _ _ (T2.setTop (mkF m 15 #[.val (.int k), .val (.int a), .val (.int b), .val (.int d), .val (.int ee), .val (.int f), .val (.int nn), .val (.ref b2), .unset, .unset, .unset, .unset, .unset, .unset] []))
  refine own_back (fun t_ q_ => XS.iload X2.here hx rfl (hb hby at_15) rfl q_) ?_
  show own_Gl _ _ _ _ (T2.setTop (mkF m 17 #[.val (.int k), .val (.int a), .val (.int b), .val (.int d), .val (.int ee), .val (.int f), .val (.int nn), .val (.ref b2), .unset, .unset, .unset, .unset, .unset, .unset] [(.int nn)]))
  refine own_join (α := State × Heap) (fun z => z.1.setTop (mkF m 25 #[.val (.int k), .val (.int a), .val (.int b), .val (.int d), .val (.int ee), .val (.int f), .val (.int nn), .val (.ref b2), .unset, .unset, .unset, .unset, .unset, .unset] [])) (fun z => (∃ L, Stand p l e room_1 s m #[(.int k), (.int a), (.int b), (.int d), (.int ee), (.int f)] below meth c z.1 L 1 5 ∧ Fr n0 L) ∧ z.1.heap = z.2 ∧ n0 ≤ z.2.size ∧ own_J Z z.2 b2 N 1 (own_v a b d ee f)) (fun z hz => ?_) (fun tail3 => ?_)
  · skip
    obtain ⟨T3, h3⟩ := z
    obtain ⟨⟨L3, X3, N3⟩, e3, hc3⟩ := hz
    have X3 : Stand p l e room_1 s m #[(.int k), (.int a), (.int b), (.int d), (.int ee), (.int f)] below meth c T3 L3 1 5 := X3
    have e3 : T3.heap = h3 := e3
    have hc3 : n0 ≤ h3.size ∧ own_J Z h3 b2 N 1 (own_v a b d ee f) := hc3
    show own_Gl _ _ _ _ (T3.setTop (mkF m 25 #[.val (.int k), .val (.int a), .val (.int b), .val (.int d), .val (.int ee), .val (.int f), .val (.int nn), .val (.ref b2), .unset, .unset, .unset, .unset, .unset, .unset] []))
    obtain ⟨Zs, J1⟩ := hc3
    refine own_back (fun t_ q_ => XS.iload X3.here hx rfl (hb hby at_25) rfl q_) ?_
    show own_Gl _ _ _ _ (T3.setTop (mkF m 27 #[.val (.int k), .val (.int a), .val (.int b), .val (.int d), .val (.int ee), .val (.int f), .val (.int nn), .val (.ref b2), .unset, .unset, .unset, .unset, .unset, .unset] [(.int nn)]))
    refine own_back (fun t_ q_ => XS.iconst X3.here hx rfl (hb hby at_27) q_) ?_
    show own_Gl _ _ _ _ (T3.setTop (mkF m 28 #[.val (.int k), .val (.int a), .val (.int b), .val (.int d), .val (.int ee), .val (.int f), .val (.int nn), .val (.ref b2), .unset, .unset, .unset, .unset, .unset, .unset] [(.int (1 : Int32)), (.int nn)]))
    refine own_join (α := State × Heap) (fun z => z.1.setTop (mkF m 36 #[.val (.int k), .val (.int a), .val (.int b), .val (.int d), .val (.int ee), .val (.int f), .val (.int nn), .val (.ref b2), .unset, .unset, .unset, .unset, .unset, .unset] [])) (fun z => (∃ L, Stand p l e room_1 s m #[(.int k), (.int a), (.int b), (.int d), (.int ee), (.int f)] below meth c z.1 L 1 5 ∧ Fr n0 L) ∧ z.1.heap = z.2 ∧ n0 ≤ z.2.size ∧ own_J Z z.2 b2 N 2 (own_v a b d ee f)) (fun z hz => ?_) (fun tail4 => ?_)
    · skip
      obtain ⟨T4, h4⟩ := z
      obtain ⟨⟨L4, X4, N4⟩, e4, hc4⟩ := hz
      have X4 : Stand p l e room_1 s m #[(.int k), (.int a), (.int b), (.int d), (.int ee), (.int f)] below meth c T4 L4 1 5 := X4
      have e4 : T4.heap = h4 := e4
      have hc4 : n0 ≤ h4.size ∧ own_J Z h4 b2 N 2 (own_v a b d ee f) := hc4
      show own_Gl _ _ _ _ (T4.setTop (mkF m 36 #[.val (.int k), .val (.int a), .val (.int b), .val (.int d), .val (.int ee), .val (.int f), .val (.int nn), .val (.ref b2), .unset, .unset, .unset, .unset, .unset, .unset] []))
      obtain ⟨Zs, J2⟩ := hc4
      refine own_back (fun t_ q_ => XS.iload X4.here hx rfl (hb hby at_36) rfl q_) ?_
      show own_Gl _ _ _ _ (T4.setTop (mkF m 38 #[.val (.int k), .val (.int a), .val (.int b), .val (.int d), .val (.int ee), .val (.int f), .val (.int nn), .val (.ref b2), .unset, .unset, .unset, .unset, .unset, .unset] [(.int nn)]))
      refine own_back (fun t_ q_ => XS.iconst X4.here hx rfl (hb hby at_38) q_) ?_
      show own_Gl _ _ _ _ (T4.setTop (mkF m 39 #[.val (.int k), .val (.int a), .val (.int b), .val (.int d), .val (.int ee), .val (.int f), .val (.int nn), .val (.ref b2), .unset, .unset, .unset, .unset, .unset, .unset] [(.int (2 : Int32)), (.int nn)]))
      refine own_join (α := State × Heap) (fun z => z.1.setTop (mkF m 47 #[.val (.int k), .val (.int a), .val (.int b), .val (.int d), .val (.int ee), .val (.int f), .val (.int nn), .val (.ref b2), .unset, .unset, .unset, .unset, .unset, .unset] [])) (fun z => (∃ L, Stand p l e room_1 s m #[(.int k), (.int a), (.int b), (.int d), (.int ee), (.int f)] below meth c z.1 L 1 5 ∧ Fr n0 L) ∧ z.1.heap = z.2 ∧ n0 ≤ z.2.size ∧ own_J Z z.2 b2 N 3 (own_v a b d ee f)) (fun z hz => ?_) (fun tail5 => ?_)
      · skip
        obtain ⟨T5, h5⟩ := z
        obtain ⟨⟨L5, X5, N5⟩, e5, hc5⟩ := hz
        have X5 : Stand p l e room_1 s m #[(.int k), (.int a), (.int b), (.int d), (.int ee), (.int f)] below meth c T5 L5 1 5 := X5
        have e5 : T5.heap = h5 := e5
        have hc5 : n0 ≤ h5.size ∧ own_J Z h5 b2 N 3 (own_v a b d ee f) := hc5
        show own_Gl _ _ _ _ (T5.setTop (mkF m 47 #[.val (.int k), .val (.int a), .val (.int b), .val (.int d), .val (.int ee), .val (.int f), .val (.int nn), .val (.ref b2), .unset, .unset, .unset, .unset, .unset, .unset] []))
        obtain ⟨Zs, J3⟩ := hc5
        refine own_back (fun t_ q_ => XS.iload X5.here hx rfl (hb hby at_47) rfl q_) ?_
        show own_Gl _ _ _ _ (T5.setTop (mkF m 49 #[.val (.int k), .val (.int a), .val (.int b), .val (.int d), .val (.int ee), .val (.int f), .val (.int nn), .val (.ref b2), .unset, .unset, .unset, .unset, .unset, .unset] [(.int nn)]))
        refine own_back (fun t_ q_ => XS.iconst X5.here hx rfl (hb hby at_49) q_) ?_
        show own_Gl _ _ _ _ (T5.setTop (mkF m 50 #[.val (.int k), .val (.int a), .val (.int b), .val (.int d), .val (.int ee), .val (.int f), .val (.int nn), .val (.ref b2), .unset, .unset, .unset, .unset, .unset, .unset] [(.int (3 : Int32)), (.int nn)]))
        refine own_join (α := State × Heap) (fun z => z.1.setTop (mkF m 59 #[.val (.int k), .val (.int a), .val (.int b), .val (.int d), .val (.int ee), .val (.int f), .val (.int nn), .val (.ref b2), .unset, .unset, .unset, .unset, .unset, .unset] [])) (fun z => (∃ L, Stand p l e room_1 s m #[(.int k), (.int a), (.int b), (.int d), (.int ee), (.int f)] below meth c z.1 L 1 5 ∧ Fr n0 L) ∧ z.1.heap = z.2 ∧ n0 ≤ z.2.size ∧ own_J Z z.2 b2 N 4 (own_v a b d ee f)) (fun z hz => ?_) (fun tail6 => ?_)
        · skip
          obtain ⟨T6, h6⟩ := z
          obtain ⟨⟨L6, X6, N6⟩, e6, hc6⟩ := hz
          have X6 : Stand p l e room_1 s m #[(.int k), (.int a), (.int b), (.int d), (.int ee), (.int f)] below meth c T6 L6 1 5 := X6
          have e6 : T6.heap = h6 := e6
          have hc6 : n0 ≤ h6.size ∧ own_J Z h6 b2 N 4 (own_v a b d ee f) := hc6
          show own_Gl _ _ _ _ (T6.setTop (mkF m 59 #[.val (.int k), .val (.int a), .val (.int b), .val (.int d), .val (.int ee), .val (.int f), .val (.int nn), .val (.ref b2), .unset, .unset, .unset, .unset, .unset, .unset] []))
          obtain ⟨Zs, J4⟩ := hc6
          refine own_back (fun t_ q_ => XS.iload X6.here hx rfl (hb hby at_59) rfl q_) ?_
          show own_Gl _ _ _ _ (T6.setTop (mkF m 61 #[.val (.int k), .val (.int a), .val (.int b), .val (.int d), .val (.int ee), .val (.int f), .val (.int nn), .val (.ref b2), .unset, .unset, .unset, .unset, .unset, .unset] [(.int nn)]))
          refine own_back (fun t_ q_ => XS.iconst X6.here hx rfl (hb hby at_61) q_) ?_
          show own_Gl _ _ _ _ (T6.setTop (mkF m 62 #[.val (.int k), .val (.int a), .val (.int b), .val (.int d), .val (.int ee), .val (.int f), .val (.int nn), .val (.ref b2), .unset, .unset, .unset, .unset, .unset, .unset] [(.int (4 : Int32)), (.int nn)]))
          refine own_join (α := State × Heap) (fun z => z.1.setTop (mkF m 71 #[.val (.int k), .val (.int a), .val (.int b), .val (.int d), .val (.int ee), .val (.int f), .val (.int nn), .val (.ref b2), .unset, .unset, .unset, .unset, .unset, .unset] [])) (fun z => (∃ L, Stand p l e room_1 s m #[(.int k), (.int a), (.int b), (.int d), (.int ee), (.int f)] below meth c z.1 L 1 5 ∧ Fr n0 L) ∧ z.1.heap = z.2 ∧ n0 ≤ z.2.size ∧ own_J Z z.2 b2 N 5 (own_v a b d ee f)) (fun z hz => ?_) (fun tail7 => ?_)
          · skip
            obtain ⟨T7, h7⟩ := z
            obtain ⟨⟨L7, X7, N7⟩, e7, hc7⟩ := hz
            have X7 : Stand p l e room_1 s m #[(.int k), (.int a), (.int b), (.int d), (.int ee), (.int f)] below meth c T7 L7 1 5 := X7
            have e7 : T7.heap = h7 := e7
            have hc7 : n0 ≤ h7.size ∧ own_J Z h7 b2 N 5 (own_v a b d ee f) := hc7
            show own_Gl _ _ _ _ (T7.setTop (mkF m 71 #[.val (.int k), .val (.int a), .val (.int b), .val (.int d), .val (.int ee), .val (.int f), .val (.int nn), .val (.ref b2), .unset, .unset, .unset, .unset, .unset, .unset] []))
            obtain ⟨Zs, J5⟩ := hc7
            refine own_back (fun t_ q_ => XS.aload X7.here hx rfl (hb hby at_71) rfl rfl q_) ?_
            show own_Gl _ _ _ _ (T7.setTop (mkF m 73 #[.val (.int k), .val (.int a), .val (.int b), .val (.int d), .val (.int ee), .val (.int f), .val (.int nn), .val (.ref b2), .unset, .unset, .unset, .unset, .unset, .unset] [(.ref b2)]))
            obtain ⟨_, _, ⟨T8, L8, k8, n8⟩, -, X8, ⟨Lc8, hQ8, l8, y8, z8⟩, st8⟩ := Jvm.LawKit.callS X7 hx (y := (⟨"io/quadrille/graph/Adjacency", "sumInPlace", "([I)V"⟩ : MethodName)) hown (mvT hZ (hw _ (List.mem_of_getElem? (i := 2) rfl))) (mvT hZ (hw _ (List.mem_of_getElem? (i := 3) rfl))) (mvT hZ (hw _ (List.mem_of_getElem? (i := 4) rfl))) (mvT hZ (hw _ (List.mem_of_getElem? (i := 5) rfl))) (by decide) (backOf (W := 0) (rm1 l Z a0 hw [] b2 h7 n0 Zs N (own_v a b d ee f) r2 J5 gb) hZ (hw _ (List.mem_of_getElem? (i := 5) rfl)) (hw _ (List.mem_of_getElem? (i := 4) rfl)) (by decide) (by decide)) (g := (mkF m 73 #[.val (.int k), .val (.int a), .val (.int b), .val (.int d), .val (.int ee), .val (.int f), .val (.int nn), .val (.ref b2), .unset, .unset, .unset, .unset, .unset, .unset] [(.ref b2)])) rfl (by rw [hml]; rfl) (argsL := [(.ref b2)]) (rest := []) (lenOf pd_0 rfl) rfl (by show 2 * 0 + _ ≤ _; exact Nat.le_of_eq rfl) (hb hby at_73) (fun _ _ => ⟨rfl, e7, (by decide : 1 + 0 ≤ _), (by decide : 5 + 0 ≤ _)⟩)
            dsimp only [Pt.U, Pt.locs, Pt.cells, Pt.slots] at X8 l8 y8 z8 st8 hQ8
            subst l8 y8 z8
            obtain ⟨rfl, M8, K8, J8⟩ := hQ8
            have N8 := Fr.app N7 M8
            refine own_back st8 ?_
            show own_Gl _ _ _ _ (T8.setTop (mkF m 76 #[.val (.int k), .val (.int a), .val (.int b), .val (.int d), .val (.int ee), .val (.int f), .val (.int nn), .val (.ref b2), .unset, .unset, .unset, .unset, .unset, .unset] []))
            obtain ⟨cl, A, S, H⟩ := J8
            refine own_back (fun t_ q_ => XS.iloadN X8.here hx rfl (hb hby at_76) rfl q_) ?_
            show own_Gl _ _ _ _ (T8.setTop (mkF m 77 #[.val (.int k), .val (.int a), .val (.int b), .val (.int d), .val (.int ee), .val (.int f), .val (.int nn), .val (.ref b2), .unset, .unset, .unset, .unset, .unset, .unset] [(.int a)]))
            refine own_back (fun t_ q_ => XS.istore X8.here hx rfl (hb hby at_77) rfl (l' := #[.val (.int k), .val (.int a), .val (.int b), .val (.int d), .val (.int ee), .val (.int f), .val (.int nn), .val (.ref b2), .val (.int a), .unset, .unset, .unset, .unset, .unset]) rfl q_) ?_
            show own_Gl _ _ _ _ (T8.setTop (mkF m 79 #[.val (.int k), .val (.int a), .val (.int b), .val (.int d), .val (.int ee), .val (.int f), .val (.int nn), .val (.ref b2), .val (.int a), .unset, .unset, .unset, .unset, .unset] []))
            refine own_back (fun t_ q_ => XS.iload X8.here hx rfl (hb hby at_79) rfl q_) ?_
            show own_Gl _ _ _ _ (T8.setTop (mkF m 81 #[.val (.int k), .val (.int a), .val (.int b), .val (.int d), .val (.int ee), .val (.int f), .val (.int nn), .val (.ref b2), .val (.int a), .unset, .unset, .unset, .unset, .unset] [(.int a)]))
            refine own_back (fun t_ q_ => XS.iloadN X8.here hx rfl (hb hby at_81) rfl q_) ?_
            show own_Gl _ _ _ _ (T8.setTop (mkF m 82 #[.val (.int k), .val (.int a), .val (.int b), .val (.int d), .val (.int ee), .val (.int f), .val (.int nn), .val (.ref b2), .val (.int a), .unset, .unset, .unset, .unset, .unset] [(.int b), (.int a)]))
            refine own_back (fun t_ q_ => XS.iadd X8.here hx rfl (hb hby at_82) rfl q_) ?_
            show own_Gl _ _ _ _ (T8.setTop (mkF m 83 #[.val (.int k), .val (.int a), .val (.int b), .val (.int d), .val (.int ee), .val (.int f), .val (.int nn), .val (.ref b2), .val (.int a), .unset, .unset, .unset, .unset, .unset] [(.int (a + b))]))
            refine own_back (fun t_ q_ => XS.istore X8.here hx rfl (hb hby at_83) rfl (l' := #[.val (.int k), .val (.int a), .val (.int b), .val (.int d), .val (.int ee), .val (.int f), .val (.int nn), .val (.ref b2), .val (.int a), .val (.int (a + b)), .unset, .unset, .unset, .unset]) rfl q_) ?_
            show own_Gl _ _ _ _ (T8.setTop (mkF m 85 #[.val (.int k), .val (.int a), .val (.int b), .val (.int d), .val (.int ee), .val (.int f), .val (.int nn), .val (.ref b2), .val (.int a), .val (.int (a + b)), .unset, .unset, .unset, .unset] []))
            refine own_back (fun t_ q_ => XS.iload X8.here hx rfl (hb hby at_85) rfl q_) ?_
            show own_Gl _ _ _ _ (T8.setTop (mkF m 87 #[.val (.int k), .val (.int a), .val (.int b), .val (.int d), .val (.int ee), .val (.int f), .val (.int nn), .val (.ref b2), .val (.int a), .val (.int (a + b)), .unset, .unset, .unset, .unset] [(.int (a + b))]))
            refine own_back (fun t_ q_ => XS.iloadN X8.here hx rfl (hb hby at_87) rfl q_) ?_
            show own_Gl _ _ _ _ (T8.setTop (mkF m 88 #[.val (.int k), .val (.int a), .val (.int b), .val (.int d), .val (.int ee), .val (.int f), .val (.int nn), .val (.ref b2), .val (.int a), .val (.int (a + b)), .unset, .unset, .unset, .unset] [(.int d), (.int (a + b))]))
            refine own_back (fun t_ q_ => XS.iadd X8.here hx rfl (hb hby at_88) rfl q_) ?_
            show own_Gl _ _ _ _ (T8.setTop (mkF m 89 #[.val (.int k), .val (.int a), .val (.int b), .val (.int d), .val (.int ee), .val (.int f), .val (.int nn), .val (.ref b2), .val (.int a), .val (.int (a + b)), .unset, .unset, .unset, .unset] [(.int ((a + b) + d))]))
            refine own_back (fun t_ q_ => XS.istore X8.here hx rfl (hb hby at_89) rfl (l' := #[.val (.int k), .val (.int a), .val (.int b), .val (.int d), .val (.int ee), .val (.int f), .val (.int nn), .val (.ref b2), .val (.int a), .val (.int (a + b)), .val (.int ((a + b) + d)), .unset, .unset, .unset]) rfl q_) ?_
            show own_Gl _ _ _ _ (T8.setTop (mkF m 91 #[.val (.int k), .val (.int a), .val (.int b), .val (.int d), .val (.int ee), .val (.int f), .val (.int nn), .val (.ref b2), .val (.int a), .val (.int (a + b)), .val (.int ((a + b) + d)), .unset, .unset, .unset] []))
            refine own_back (fun t_ q_ => XS.iload X8.here hx rfl (hb hby at_91) rfl q_) ?_
            show own_Gl _ _ _ _ (T8.setTop (mkF m 93 #[.val (.int k), .val (.int a), .val (.int b), .val (.int d), .val (.int ee), .val (.int f), .val (.int nn), .val (.ref b2), .val (.int a), .val (.int (a + b)), .val (.int ((a + b) + d)), .unset, .unset, .unset] [(.int ((a + b) + d))]))
            refine own_back (fun t_ q_ => XS.iload X8.here hx rfl (hb hby at_93) rfl q_) ?_
            show own_Gl _ _ _ _ (T8.setTop (mkF m 95 #[.val (.int k), .val (.int a), .val (.int b), .val (.int d), .val (.int ee), .val (.int f), .val (.int nn), .val (.ref b2), .val (.int a), .val (.int (a + b)), .val (.int ((a + b) + d)), .unset, .unset, .unset] [(.int ee), (.int ((a + b) + d))]))
            refine own_back (fun t_ q_ => XS.iadd X8.here hx rfl (hb hby at_95) rfl q_) ?_
            show own_Gl _ _ _ _ (T8.setTop (mkF m 96 #[.val (.int k), .val (.int a), .val (.int b), .val (.int d), .val (.int ee), .val (.int f), .val (.int nn), .val (.ref b2), .val (.int a), .val (.int (a + b)), .val (.int ((a + b) + d)), .unset, .unset, .unset] [(.int (((a + b) + d) + ee))]))
            refine own_back (fun t_ q_ => XS.istore X8.here hx rfl (hb hby at_96) rfl (l' := #[.val (.int k), .val (.int a), .val (.int b), .val (.int d), .val (.int ee), .val (.int f), .val (.int nn), .val (.ref b2), .val (.int a), .val (.int (a + b)), .val (.int ((a + b) + d)), .val (.int (((a + b) + d) + ee)), .unset, .unset]) rfl q_) ?_
            show own_Gl _ _ _ _ (T8.setTop (mkF m 98 #[.val (.int k), .val (.int a), .val (.int b), .val (.int d), .val (.int ee), .val (.int f), .val (.int nn), .val (.ref b2), .val (.int a), .val (.int (a + b)), .val (.int ((a + b) + d)), .val (.int (((a + b) + d) + ee)), .unset, .unset] []))
            refine own_back (fun t_ q_ => XS.iload X8.here hx rfl (hb hby at_98) rfl q_) ?_
            show own_Gl _ _ _ _ (T8.setTop (mkF m 100 #[.val (.int k), .val (.int a), .val (.int b), .val (.int d), .val (.int ee), .val (.int f), .val (.int nn), .val (.ref b2), .val (.int a), .val (.int (a + b)), .val (.int ((a + b) + d)), .val (.int (((a + b) + d) + ee)), .unset, .unset] [(.int (((a + b) + d) + ee))]))
            refine own_back (fun t_ q_ => XS.iload X8.here hx rfl (hb hby at_100) rfl q_) ?_
            show own_Gl _ _ _ _ (T8.setTop (mkF m 102 #[.val (.int k), .val (.int a), .val (.int b), .val (.int d), .val (.int ee), .val (.int f), .val (.int nn), .val (.ref b2), .val (.int a), .val (.int (a + b)), .val (.int ((a + b) + d)), .val (.int (((a + b) + d) + ee)), .unset, .unset] [(.int f), (.int (((a + b) + d) + ee))]))
            refine own_back (fun t_ q_ => XS.iadd X8.here hx rfl (hb hby at_102) rfl q_) ?_
            show own_Gl _ _ _ _ (T8.setTop (mkF m 103 #[.val (.int k), .val (.int a), .val (.int b), .val (.int d), .val (.int ee), .val (.int f), .val (.int nn), .val (.ref b2), .val (.int a), .val (.int (a + b)), .val (.int ((a + b) + d)), .val (.int (((a + b) + d) + ee)), .unset, .unset] [(.int ((((a + b) + d) + ee) + f))]))
            refine own_back (fun t_ q_ => XS.istore X8.here hx rfl (hb hby at_103) rfl (l' := #[.val (.int k), .val (.int a), .val (.int b), .val (.int d), .val (.int ee), .val (.int f), .val (.int nn), .val (.ref b2), .val (.int a), .val (.int (a + b)), .val (.int ((a + b) + d)), .val (.int (((a + b) + d) + ee)), .val (.int ((((a + b) + d) + ee) + f)), .unset]) rfl q_) ?_
            show own_Gl _ _ _ _ (T8.setTop (mkF m 105 #[.val (.int k), .val (.int a), .val (.int b), .val (.int d), .val (.int ee), .val (.int f), .val (.int nn), .val (.ref b2), .val (.int a), .val (.int (a + b)), .val (.int ((a + b) + d)), .val (.int (((a + b) + d) + ee)), .val (.int ((((a + b) + d) + ee) + f)), .unset] []))
            refine own_back (fun t_ q_ => XS.aload X8.here hx rfl (hb hby at_105) rfl rfl q_) ?_
            show own_Gl _ _ _ _ (T8.setTop (mkF m 107 #[.val (.int k), .val (.int a), .val (.int b), .val (.int d), .val (.int ee), .val (.int f), .val (.int nn), .val (.ref b2), .val (.int a), .val (.int (a + b)), .val (.int ((a + b) + d)), .val (.int (((a + b) + d) + ee)), .val (.int ((((a + b) + d) + ee) + f)), .unset] [(.ref b2)]))
            refine own_back (fun t_ q_ => X8.arraylength hx A.1 (State.isArrayOf_alike hZ.alike A.2.1) (g := (mkF m 107 #[.val (.int k), .val (.int a), .val (.int b), .val (.int d), .val (.int ee), .val (.int f), .val (.int nn), .val (.ref b2), .val (.int a), .val (.int (a + b)), .val (.int ((a + b) + d)), .val (.int (((a + b) + d) + ee)), .val (.int ((((a + b) + d) + ee) + f)), .unset] [(.ref b2)])) rfl rfl (hb hby at_107) t_ q_) ?_
            rw [(show cl.slots.size.toInt32 = nn by rw [S, hN]; exact (back32 r1).1)]
            show own_Gl _ _ _ _ (T8.setTop (mkF m 108 #[.val (.int k), .val (.int a), .val (.int b), .val (.int d), .val (.int ee), .val (.int f), .val (.int nn), .val (.ref b2), .val (.int a), .val (.int (a + b)), .val (.int ((a + b) + d)), .val (.int (((a + b) + d) + ee)), .val (.int ((((a + b) + d) + ee) + f)), .unset] [(.int nn)]))
            refine own_back (fun t_ q_ => XS.iload X8.here hx rfl (hb hby at_108) rfl q_) ?_
            show own_Gl _ _ _ _ (T8.setTop (mkF m 110 #[.val (.int k), .val (.int a), .val (.int b), .val (.int d), .val (.int ee), .val (.int f), .val (.int nn), .val (.ref b2), .val (.int a), .val (.int (a + b)), .val (.int ((a + b) + d)), .val (.int (((a + b) + d) + ee)), .val (.int ((((a + b) + d) + ee) + f)), .unset] [(.int nn), (.int nn)]))
            refine own_back (fun t_ q_ => XS.icmpNo X8.here hx rfl (hb hby at_110) rfl (teq (rfl : nn = nn)).2 q_) ?_
            show own_Gl _ _ _ _ (T8.setTop (mkF m 113 #[.val (.int k), .val (.int a), .val (.int b), .val (.int d), .val (.int ee), .val (.int f), .val (.int nn), .val (.ref b2), .val (.int a), .val (.int (a + b)), .val (.int ((a + b) + d)), .val (.int (((a + b) + d) + ee)), .val (.int ((((a + b) + d) + ee) + f)), .unset] []))
            refine own_back (fun t_ q_ => XS.iconst X8.here hx rfl (hb hby at_113) q_) ?_
            show own_Gl _ _ _ _ (T8.setTop (mkF m 114 #[.val (.int k), .val (.int a), .val (.int b), .val (.int d), .val (.int ee), .val (.int f), .val (.int nn), .val (.ref b2), .val (.int a), .val (.int (a + b)), .val (.int ((a + b) + d)), .val (.int (((a + b) + d) + ee)), .val (.int ((((a + b) + d) + ee) + f)), .unset] [(.int (1 : Int32))]))
            refine own_back (fun t_ q_ => XS.goto X8.here hx rfl (pc0 := 114) (pc' := 118) rfl (hb hby at_114) (by decide) (by decide) q_) ?_
            show own_Gl _ _ _ _ (T8.setTop (mkF m 118 #[.val (.int k), .val (.int a), .val (.int b), .val (.int d), .val (.int ee), .val (.int f), .val (.int nn), .val (.ref b2), .val (.int a), .val (.int (a + b)), .val (.int ((a + b) + d)), .val (.int (((a + b) + d) + ee)), .val (.int ((((a + b) + d) + ee) + f)), .unset] [(.int (1 : Int32))]))
            refine own_back (fun t_ q_ => XS.istore X8.here hx rfl (hb hby at_118) rfl (l' := #[.val (.int k), .val (.int a), .val (.int b), .val (.int d), .val (.int ee), .val (.int f), .val (.int nn), .val (.ref b2), .val (.int a), .val (.int (a + b)), .val (.int ((a + b) + d)), .val (.int (((a + b) + d) + ee)), .val (.int ((((a + b) + d) + ee) + f)), .val (.int (1 : Int32))]) rfl q_) ?_
            show own_Gl _ _ _ _ (T8.setTop (mkF m 120 #[.val (.int k), .val (.int a), .val (.int b), .val (.int d), .val (.int ee), .val (.int f), .val (.int nn), .val (.ref b2), .val (.int a), .val (.int (a + b)), .val (.int ((a + b) + d)), .val (.int (((a + b) + d) + ee)), .val (.int ((((a + b) + d) + ee) + f)), .val (.int (1 : Int32))] []))
            refine own_back (fun t_ q_ => XS.iload X8.here hx rfl (hb hby at_120) rfl q_) ?_
            show own_Gl _ _ _ _ (T8.setTop (mkF m 122 #[.val (.int k), .val (.int a), .val (.int b), .val (.int d), .val (.int ee), .val (.int f), .val (.int nn), .val (.ref b2), .val (.int a), .val (.int (a + b)), .val (.int ((a + b) + d)), .val (.int (((a + b) + d) + ee)), .val (.int ((((a + b) + d) + ee) + f)), .val (.int (1 : Int32))] [(.int nn)]))
            refine own_join (α := Unit) (fun z => T8.setTop (mkF m 146 #[.val (.int k), .val (.int a), .val (.int b), .val (.int d), .val (.int ee), .val (.int f), .val (.int nn), .val (.ref b2), .val (.int a), .val (.int (a + b)), .val (.int ((a + b) + d)), .val (.int (((a + b) + d) + ee)), .val (.int ((((a + b) + d) + ee) + f)), .val (.int (1 : Int32))] [])) (fun z => True) (fun _ hz => ?_) (fun tail9 => ?_)
            · skip
              have hc9 := hz
              have hc9 : True := hc9
              show own_Gl _ _ _ _ (T8.setTop (mkF m 146 #[.val (.int k), .val (.int a), .val (.int b), .val (.int d), .val (.int ee), .val (.int f), .val (.int nn), .val (.ref b2), .val (.int a), .val (.int (a + b)), .val (.int ((a + b) + d)), .val (.int (((a + b) + d) + ee)), .val (.int ((((a + b) + d) + ee) + f)), .val (.int (1 : Int32))] []))
              refine own_back (fun t_ q_ => XS.iload X8.here hx rfl (hb hby at_146) rfl q_) ?_
              show own_Gl _ _ _ _ (T8.setTop (mkF m 148 #[.val (.int k), .val (.int a), .val (.int b), .val (.int d), .val (.int ee), .val (.int f), .val (.int nn), .val (.ref b2), .val (.int a), .val (.int (a + b)), .val (.int ((a + b) + d)), .val (.int (((a + b) + d) + ee)), .val (.int ((((a + b) + d) + ee) + f)), .val (.int (1 : Int32))] [(.int nn)]))
              refine own_back (fun t_ q_ => XS.iconst X8.here hx rfl (hb hby at_148) q_) ?_
              show own_Gl _ _ _ _ (T8.setTop (mkF m 149 #[.val (.int k), .val (.int a), .val (.int b), .val (.int d), .val (.int ee), .val (.int f), .val (.int nn), .val (.ref b2), .val (.int a), .val (.int (a + b)), .val (.int ((a + b) + d)), .val (.int (((a + b) + d) + ee)), .val (.int ((((a + b) + d) + ee) + f)), .val (.int (1 : Int32))] [(.int (1 : Int32)), (.int nn)]))
              refine own_join (α := Unit) (fun z => T8.setTop (mkF m 173 #[.val (.int k), .val (.int a), .val (.int b), .val (.int d), .val (.int ee), .val (.int f), .val (.int nn), .val (.ref b2), .val (.int a), .val (.int (a + b)), .val (.int ((a + b) + d)), .val (.int (((a + b) + d) + ee)), .val (.int ((((a + b) + d) + ee) + f)), .val (.int (1 : Int32))] [])) (fun z => True) (fun _ hz => ?_) (fun tail10 => ?_)
              · skip
                have hc10 := hz
                have hc10 : True := hc10
                show own_Gl _ _ _ _ (T8.setTop (mkF m 173 #[.val (.int k), .val (.int a), .val (.int b), .val (.int d), .val (.int ee), .val (.int f), .val (.int nn), .val (.ref b2), .val (.int a), .val (.int (a + b)), .val (.int ((a + b) + d)), .val (.int (((a + b) + d) + ee)), .val (.int ((((a + b) + d) + ee) + f)), .val (.int (1 : Int32))] []))
                refine own_back (fun t_ q_ => XS.iload X8.here hx rfl (hb hby at_173) rfl q_) ?_
                show own_Gl _ _ _ _ (T8.setTop (mkF m 175 #[.val (.int k), .val (.int a), .val (.int b), .val (.int d), .val (.int ee), .val (.int f), .val (.int nn), .val (.ref b2), .val (.int a), .val (.int (a + b)), .val (.int ((a + b) + d)), .val (.int (((a + b) + d) + ee)), .val (.int ((((a + b) + d) + ee) + f)), .val (.int (1 : Int32))] [(.int nn)]))
                refine own_back (fun t_ q_ => XS.iconst X8.here hx rfl (hb hby at_175) q_) ?_
                show own_Gl _ _ _ _ (T8.setTop (mkF m 176 #[.val (.int k), .val (.int a), .val (.int b), .val (.int d), .val (.int ee), .val (.int f), .val (.int nn), .val (.ref b2), .val (.int a), .val (.int (a + b)), .val (.int ((a + b) + d)), .val (.int (((a + b) + d) + ee)), .val (.int ((((a + b) + d) + ee) + f)), .val (.int (1 : Int32))] [(.int (2 : Int32)), (.int nn)]))
                refine own_join (α := Unit) (fun z => T8.setTop (mkF m 200 #[.val (.int k), .val (.int a), .val (.int b), .val (.int d), .val (.int ee), .val (.int f), .val (.int nn), .val (.ref b2), .val (.int a), .val (.int (a + b)), .val (.int ((a + b) + d)), .val (.int (((a + b) + d) + ee)), .val (.int ((((a + b) + d) + ee) + f)), .val (.int (1 : Int32))] [])) (fun z => True) (fun _ hz => ?_) (fun tail11 => ?_)
                · skip
                  have hc11 := hz
                  have hc11 : True := hc11
                  show own_Gl _ _ _ _ (T8.setTop (mkF m 200 #[.val (.int k), .val (.int a), .val (.int b), .val (.int d), .val (.int ee), .val (.int f), .val (.int nn), .val (.ref b2), .val (.int a), .val (.int (a + b)), .val (.int ((a + b) + d)), .val (.int (((a + b) + d) + ee)), .val (.int ((((a + b) + d) + ee) + f)), .val (.int (1 : Int32))] []))
                  refine own_back (fun t_ q_ => XS.iload X8.here hx rfl (hb hby at_200) rfl q_) ?_
                  show own_Gl _ _ _ _ (T8.setTop (mkF m 202 #[.val (.int k), .val (.int a), .val (.int b), .val (.int d), .val (.int ee), .val (.int f), .val (.int nn), .val (.ref b2), .val (.int a), .val (.int (a + b)), .val (.int ((a + b) + d)), .val (.int (((a + b) + d) + ee)), .val (.int ((((a + b) + d) + ee) + f)), .val (.int (1 : Int32))] [(.int nn)]))
                  refine own_back (fun t_ q_ => XS.iconst X8.here hx rfl (hb hby at_202) q_) ?_
                  show own_Gl _ _ _ _ (T8.setTop (mkF m 203 #[.val (.int k), .val (.int a), .val (.int b), .val (.int d), .val (.int ee), .val (.int f), .val (.int nn), .val (.ref b2), .val (.int a), .val (.int (a + b)), .val (.int ((a + b) + d)), .val (.int (((a + b) + d) + ee)), .val (.int ((((a + b) + d) + ee) + f)), .val (.int (1 : Int32))] [(.int (3 : Int32)), (.int nn)]))
                  refine own_join (α := Unit) (fun z => T8.setTop (mkF m 227 #[.val (.int k), .val (.int a), .val (.int b), .val (.int d), .val (.int ee), .val (.int f), .val (.int nn), .val (.ref b2), .val (.int a), .val (.int (a + b)), .val (.int ((a + b) + d)), .val (.int (((a + b) + d) + ee)), .val (.int ((((a + b) + d) + ee) + f)), .val (.int (1 : Int32))] [])) (fun z => True) (fun _ hz => ?_) (fun tail12 => ?_)
                  · skip
                    have hc12 := hz
                    have hc12 : True := hc12
                    show own_Gl _ _ _ _ (T8.setTop (mkF m 227 #[.val (.int k), .val (.int a), .val (.int b), .val (.int d), .val (.int ee), .val (.int f), .val (.int nn), .val (.ref b2), .val (.int a), .val (.int (a + b)), .val (.int ((a + b) + d)), .val (.int (((a + b) + d) + ee)), .val (.int ((((a + b) + d) + ee) + f)), .val (.int (1 : Int32))] []))
                    refine own_back (fun t_ q_ => XS.iload X8.here hx rfl (hb hby at_227) rfl q_) ?_
                    show own_Gl _ _ _ _ (T8.setTop (mkF m 229 #[.val (.int k), .val (.int a), .val (.int b), .val (.int d), .val (.int ee), .val (.int f), .val (.int nn), .val (.ref b2), .val (.int a), .val (.int (a + b)), .val (.int ((a + b) + d)), .val (.int (((a + b) + d) + ee)), .val (.int ((((a + b) + d) + ee) + f)), .val (.int (1 : Int32))] [(.int nn)]))
                    refine own_back (fun t_ q_ => XS.iconst X8.here hx rfl (hb hby at_229) q_) ?_
                    show own_Gl _ _ _ _ (T8.setTop (mkF m 230 #[.val (.int k), .val (.int a), .val (.int b), .val (.int d), .val (.int ee), .val (.int f), .val (.int nn), .val (.ref b2), .val (.int a), .val (.int (a + b)), .val (.int ((a + b) + d)), .val (.int (((a + b) + d) + ee)), .val (.int ((((a + b) + d) + ee) + f)), .val (.int (1 : Int32))] [(.int (4 : Int32)), (.int nn)]))
                    refine own_join (α := Unit) (fun z => T8.setTop (mkF m 254 #[.val (.int k), .val (.int a), .val (.int b), .val (.int d), .val (.int ee), .val (.int f), .val (.int nn), .val (.ref b2), .val (.int a), .val (.int (a + b)), .val (.int ((a + b) + d)), .val (.int (((a + b) + d) + ee)), .val (.int ((((a + b) + d) + ee) + f)), .val (.int (1 : Int32))] [])) (fun z => True) (fun _ hz => ?_) (fun tail13 => ?_)
                    · skip
                      have hc13 := hz
                      have hc13 : True := hc13
                      show own_Gl _ _ _ _ (T8.setTop (mkF m 254 #[.val (.int k), .val (.int a), .val (.int b), .val (.int d), .val (.int ee), .val (.int f), .val (.int nn), .val (.ref b2), .val (.int a), .val (.int (a + b)), .val (.int ((a + b) + d)), .val (.int (((a + b) + d) + ee)), .val (.int ((((a + b) + d) + ee) + f)), .val (.int (1 : Int32))] []))
                      refine own_back (fun t_ q_ => XS.iload X8.here hx rfl (hb hby at_254) rfl q_) ?_
                      show own_Gl _ _ _ _ (T8.setTop (mkF m 256 #[.val (.int k), .val (.int a), .val (.int b), .val (.int d), .val (.int ee), .val (.int f), .val (.int nn), .val (.ref b2), .val (.int a), .val (.int (a + b)), .val (.int ((a + b) + d)), .val (.int (((a + b) + d) + ee)), .val (.int ((((a + b) + d) + ee) + f)), .val (.int (1 : Int32))] [(.int (1 : Int32))]))
                      exact own_rZ X8 hx hlk Bd.returns (hb hby at_256) (own_one rfl) (by show Qrm0 h0 n0 _ T8.heap _; exact ⟨rfl, N8⟩) (by decide) (by decide)
                    · skip
                      by_cases u4 : (4 : Int32) < nn
                      · skip
                        refine own_back (fun t_ q_ => XS.icmpNo X8.here hx rfl (hb hby at_230) rfl (tlt (u4 : (4 : Int32) < nn)).2.2.2 q_) ?_
                        show own_Gl _ _ _ _ (T8.setTop (mkF m 233 #[.val (.int k), .val (.int a), .val (.int b), .val (.int d), .val (.int ee), .val (.int f), .val (.int nn), .val (.ref b2), .val (.int a), .val (.int (a + b)), .val (.int ((a + b) + d)), .val (.int (((a + b) + d) + ee)), .val (.int ((((a + b) + d) + ee) + f)), .val (.int (1 : Int32))] []))
                        have hk : 4 < N := by
                          have q : (4 : Int32).toInt = 4 := by decide
                          rw [Int32.lt_iff_toInt_lt, r3] at u4
                          omega
                        have hin : ¬ ((4 : Int32) < 0 ∨ cl.slots.size ≤ (4 : Int32).toNatClampNeg) := by
                          have q : (4 : Int32).toNatClampNeg = 4 := by decide
                          rw [S, q]
                          exact fun r => r.elim (by decide) (by omega)
                        refine own_back (fun t_ q_ => XS.iload X8.here hx rfl (hb hby at_233) rfl q_) ?_
                        show own_Gl _ _ _ _ (T8.setTop (mkF m 235 #[.val (.int k), .val (.int a), .val (.int b), .val (.int d), .val (.int ee), .val (.int f), .val (.int nn), .val (.ref b2), .val (.int a), .val (.int (a + b)), .val (.int ((a + b) + d)), .val (.int (((a + b) + d) + ee)), .val (.int ((((a + b) + d) + ee) + f)), .val (.int (1 : Int32))] [(.int (1 : Int32))]))
                        refine own_back (fun t_ q_ => XS.ifNo X8.here hx rfl (hb hby at_235) rfl ((if0 _ _).trans (feq (by decide : ¬ ((1 : Int32) = (0 : Int32)))).1) q_) ?_
                        show own_Gl _ _ _ _ (T8.setTop (mkF m 238 #[.val (.int k), .val (.int a), .val (.int b), .val (.int d), .val (.int ee), .val (.int f), .val (.int nn), .val (.ref b2), .val (.int a), .val (.int (a + b)), .val (.int ((a + b) + d)), .val (.int (((a + b) + d) + ee)), .val (.int ((((a + b) + d) + ee) + f)), .val (.int (1 : Int32))] []))
                        refine own_back (fun t_ q_ => XS.aload X8.here hx rfl (hb hby at_238) rfl rfl q_) ?_
                        show own_Gl _ _ _ _ (T8.setTop (mkF m 240 #[.val (.int k), .val (.int a), .val (.int b), .val (.int d), .val (.int ee), .val (.int f), .val (.int nn), .val (.ref b2), .val (.int a), .val (.int (a + b)), .val (.int ((a + b) + d)), .val (.int (((a + b) + d) + ee)), .val (.int ((((a + b) + d) + ee) + f)), .val (.int (1 : Int32))] [(.ref b2)]))
                        refine own_back (fun t_ q_ => XS.iconst X8.here hx rfl (hb hby at_240) q_) ?_
                        show own_Gl _ _ _ _ (T8.setTop (mkF m 241 #[.val (.int k), .val (.int a), .val (.int b), .val (.int d), .val (.int ee), .val (.int f), .val (.int nn), .val (.ref b2), .val (.int a), .val (.int (a + b)), .val (.int ((a + b) + d)), .val (.int (((a + b) + d) + ee)), .val (.int ((((a + b) + d) + ee) + f)), .val (.int (1 : Int32))] [(.int (4 : Int32)), (.ref b2)]))
                        refine own_back (fun t_ q_ => X8.iaload hx (j := (4 : Int32)) (v := (.int (own_ps (own_v a b d ee f) 4))) A.1 (State.isArrayOf_alike hZ.alike A.2.1) A.2.2 hin (show cl.slots[(4 : Int32).toNatClampNeg]? = some (.int (own_ps (own_v a b d ee f) 4)) from H 4 hk (by omega)) (g := (mkF m 241 #[.val (.int k), .val (.int a), .val (.int b), .val (.int d), .val (.int ee), .val (.int f), .val (.int nn), .val (.ref b2), .val (.int a), .val (.int (a + b)), .val (.int ((a + b) + d)), .val (.int (((a + b) + d) + ee)), .val (.int ((((a + b) + d) + ee) + f)), .val (.int (1 : Int32))] [(.int (4 : Int32)), (.ref b2)])) rfl rfl (hb hby at_241) t_ q_) ?_
                        show own_Gl _ _ _ _ (T8.setTop (mkF m 242 #[.val (.int k), .val (.int a), .val (.int b), .val (.int d), .val (.int ee), .val (.int f), .val (.int nn), .val (.ref b2), .val (.int a), .val (.int (a + b)), .val (.int ((a + b) + d)), .val (.int (((a + b) + d) + ee)), .val (.int ((((a + b) + d) + ee) + f)), .val (.int (1 : Int32))] [(.int (own_ps (own_v a b d ee f) 4))]))
                        refine own_back (fun t_ q_ => XS.iload X8.here hx rfl (hb hby at_242) rfl q_) ?_
                        show own_Gl _ _ _ _ (T8.setTop (mkF m 244 #[.val (.int k), .val (.int a), .val (.int b), .val (.int d), .val (.int ee), .val (.int f), .val (.int nn), .val (.ref b2), .val (.int a), .val (.int (a + b)), .val (.int ((a + b) + d)), .val (.int (((a + b) + d) + ee)), .val (.int ((((a + b) + d) + ee) + f)), .val (.int (1 : Int32))] [(.int ((((a + b) + d) + ee) + f)), (.int (own_ps (own_v a b d ee f) 4))]))
                        refine own_back (fun t_ q_ => XS.icmpNo X8.here hx rfl (hb hby at_244) rfl (teq (own_p4 a b d ee f : (own_ps (own_v a b d ee f) 4) = ((((a + b) + d) + ee) + f))).2 q_) ?_
                        show own_Gl _ _ _ _ (T8.setTop (mkF m 247 #[.val (.int k), .val (.int a), .val (.int b), .val (.int d), .val (.int ee), .val (.int f), .val (.int nn), .val (.ref b2), .val (.int a), .val (.int (a + b)), .val (.int ((a + b) + d)), .val (.int (((a + b) + d) + ee)), .val (.int ((((a + b) + d) + ee) + f)), .val (.int (1 : Int32))] []))
                        refine own_back (fun t_ q_ => XS.iconst X8.here hx rfl (hb hby at_247) q_) ?_
                        show own_Gl _ _ _ _ (T8.setTop (mkF m 248 #[.val (.int k), .val (.int a), .val (.int b), .val (.int d), .val (.int ee), .val (.int f), .val (.int nn), .val (.ref b2), .val (.int a), .val (.int (a + b)), .val (.int ((a + b) + d)), .val (.int (((a + b) + d) + ee)), .val (.int ((((a + b) + d) + ee) + f)), .val (.int (1 : Int32))] [(.int (1 : Int32))]))
                        refine own_back (fun t_ q_ => XS.goto X8.here hx rfl (pc0 := 248) (pc' := 252) rfl (hb hby at_248) (by decide) (by decide) q_) ?_
                        show own_Gl _ _ _ _ (T8.setTop (mkF m 252 #[.val (.int k), .val (.int a), .val (.int b), .val (.int d), .val (.int ee), .val (.int f), .val (.int nn), .val (.ref b2), .val (.int a), .val (.int (a + b)), .val (.int ((a + b) + d)), .val (.int (((a + b) + d) + ee)), .val (.int ((((a + b) + d) + ee) + f)), .val (.int (1 : Int32))] [(.int (1 : Int32))]))
                        refine own_back (fun t_ q_ => XS.istore X8.here hx rfl (hb hby at_252) rfl (l' := #[.val (.int k), .val (.int a), .val (.int b), .val (.int d), .val (.int ee), .val (.int f), .val (.int nn), .val (.ref b2), .val (.int a), .val (.int (a + b)), .val (.int ((a + b) + d)), .val (.int (((a + b) + d) + ee)), .val (.int ((((a + b) + d) + ee) + f)), .val (.int (1 : Int32))]) rfl q_) ?_
                        show own_Gl _ _ _ _ (T8.setTop (mkF m 254 #[.val (.int k), .val (.int a), .val (.int b), .val (.int d), .val (.int ee), .val (.int f), .val (.int nn), .val (.ref b2), .val (.int a), .val (.int (a + b)), .val (.int ((a + b) + d)), .val (.int (((a + b) + d) + ee)), .val (.int ((((a + b) + d) + ee) + f)), .val (.int (1 : Int32))] []))
                        exact tail13 () (trivial)
                      · skip
                        refine own_back (fun t_ q_ => XS.icmpYes X8.here hx rfl (pc0 := 230) (pc' := 254) rfl (hb hby at_230) rfl (flt (u4 : ¬ ((4 : Int32) < nn))).2.2.2 (by decide) (by decide) q_) ?_
                        show own_Gl _ _ _ _ (T8.setTop (mkF m 254 #[.val (.int k), .val (.int a), .val (.int b), .val (.int d), .val (.int ee), .val (.int f), .val (.int nn), .val (.ref b2), .val (.int a), .val (.int (a + b)), .val (.int ((a + b) + d)), .val (.int (((a + b) + d) + ee)), .val (.int ((((a + b) + d) + ee) + f)), .val (.int (1 : Int32))] []))
                        exact tail13 () (trivial)
                  · skip
                    by_cases u3 : (3 : Int32) < nn
                    · skip
                      refine own_back (fun t_ q_ => XS.icmpNo X8.here hx rfl (hb hby at_203) rfl (tlt (u3 : (3 : Int32) < nn)).2.2.2 q_) ?_
                      show own_Gl _ _ _ _ (T8.setTop (mkF m 206 #[.val (.int k), .val (.int a), .val (.int b), .val (.int d), .val (.int ee), .val (.int f), .val (.int nn), .val (.ref b2), .val (.int a), .val (.int (a + b)), .val (.int ((a + b) + d)), .val (.int (((a + b) + d) + ee)), .val (.int ((((a + b) + d) + ee) + f)), .val (.int (1 : Int32))] []))
                      have hk : 3 < N := by
                        have q : (3 : Int32).toInt = 3 := by decide
                        rw [Int32.lt_iff_toInt_lt, r3] at u3
                        omega
                      have hin : ¬ ((3 : Int32) < 0 ∨ cl.slots.size ≤ (3 : Int32).toNatClampNeg) := by
                        have q : (3 : Int32).toNatClampNeg = 3 := by decide
                        rw [S, q]
                        exact fun r => r.elim (by decide) (by omega)
                      refine own_back (fun t_ q_ => XS.iload X8.here hx rfl (hb hby at_206) rfl q_) ?_
                      show own_Gl _ _ _ _ (T8.setTop (mkF m 208 #[.val (.int k), .val (.int a), .val (.int b), .val (.int d), .val (.int ee), .val (.int f), .val (.int nn), .val (.ref b2), .val (.int a), .val (.int (a + b)), .val (.int ((a + b) + d)), .val (.int (((a + b) + d) + ee)), .val (.int ((((a + b) + d) + ee) + f)), .val (.int (1 : Int32))] [(.int (1 : Int32))]))
                      refine own_back (fun t_ q_ => XS.ifNo X8.here hx rfl (hb hby at_208) rfl ((if0 _ _).trans (feq (by decide : ¬ ((1 : Int32) = (0 : Int32)))).1) q_) ?_
                      show own_Gl _ _ _ _ (T8.setTop (mkF m 211 #[.val (.int k), .val (.int a), .val (.int b), .val (.int d), .val (.int ee), .val (.int f), .val (.int nn), .val (.ref b2), .val (.int a), .val (.int (a + b)), .val (.int ((a + b) + d)), .val (.int (((a + b) + d) + ee)), .val (.int ((((a + b) + d) + ee) + f)), .val (.int (1 : Int32))] []))
                      refine own_back (fun t_ q_ => XS.aload X8.here hx rfl (hb hby at_211) rfl rfl q_) ?_
                      show own_Gl _ _ _ _ (T8.setTop (mkF m 213 #[.val (.int k), .val (.int a), .val (.int b), .val (.int d), .val (.int ee), .val (.int f), .val (.int nn), .val (.ref b2), .val (.int a), .val (.int (a + b)), .val (.int ((a + b) + d)), .val (.int (((a + b) + d) + ee)), .val (.int ((((a + b) + d) + ee) + f)), .val (.int (1 : Int32))] [(.ref b2)]))
                      refine own_back (fun t_ q_ => XS.iconst X8.here hx rfl (hb hby at_213) q_) ?_
                      show own_Gl _ _ _ _ (T8.setTop (mkF m 214 #[.val (.int k), .val (.int a), .val (.int b), .val (.int d), .val (.int ee), .val (.int f), .val (.int nn), .val (.ref b2), .val (.int a), .val (.int (a + b)), .val (.int ((a + b) + d)), .val (.int (((a + b) + d) + ee)), .val (.int ((((a + b) + d) + ee) + f)), .val (.int (1 : Int32))] [(.int (3 : Int32)), (.ref b2)]))
                      refine own_back (fun t_ q_ => X8.iaload hx (j := (3 : Int32)) (v := (.int (own_ps (own_v a b d ee f) 3))) A.1 (State.isArrayOf_alike hZ.alike A.2.1) A.2.2 hin (show cl.slots[(3 : Int32).toNatClampNeg]? = some (.int (own_ps (own_v a b d ee f) 3)) from H 3 hk (by omega)) (g := (mkF m 214 #[.val (.int k), .val (.int a), .val (.int b), .val (.int d), .val (.int ee), .val (.int f), .val (.int nn), .val (.ref b2), .val (.int a), .val (.int (a + b)), .val (.int ((a + b) + d)), .val (.int (((a + b) + d) + ee)), .val (.int ((((a + b) + d) + ee) + f)), .val (.int (1 : Int32))] [(.int (3 : Int32)), (.ref b2)])) rfl rfl (hb hby at_214) t_ q_) ?_
                      show own_Gl _ _ _ _ (T8.setTop (mkF m 215 #[.val (.int k), .val (.int a), .val (.int b), .val (.int d), .val (.int ee), .val (.int f), .val (.int nn), .val (.ref b2), .val (.int a), .val (.int (a + b)), .val (.int ((a + b) + d)), .val (.int (((a + b) + d) + ee)), .val (.int ((((a + b) + d) + ee) + f)), .val (.int (1 : Int32))] [(.int (own_ps (own_v a b d ee f) 3))]))
                      refine own_back (fun t_ q_ => XS.iload X8.here hx rfl (hb hby at_215) rfl q_) ?_
                      show own_Gl _ _ _ _ (T8.setTop (mkF m 217 #[.val (.int k), .val (.int a), .val (.int b), .val (.int d), .val (.int ee), .val (.int f), .val (.int nn), .val (.ref b2), .val (.int a), .val (.int (a + b)), .val (.int ((a + b) + d)), .val (.int (((a + b) + d) + ee)), .val (.int ((((a + b) + d) + ee) + f)), .val (.int (1 : Int32))] [(.int (((a + b) + d) + ee)), (.int (own_ps (own_v a b d ee f) 3))]))
                      refine own_back (fun t_ q_ => XS.icmpNo X8.here hx rfl (hb hby at_217) rfl (teq (own_p3 a b d ee f : (own_ps (own_v a b d ee f) 3) = (((a + b) + d) + ee))).2 q_) ?_
                      show own_Gl _ _ _ _ (T8.setTop (mkF m 220 #[.val (.int k), .val (.int a), .val (.int b), .val (.int d), .val (.int ee), .val (.int f), .val (.int nn), .val (.ref b2), .val (.int a), .val (.int (a + b)), .val (.int ((a + b) + d)), .val (.int (((a + b) + d) + ee)), .val (.int ((((a + b) + d) + ee) + f)), .val (.int (1 : Int32))] []))
                      refine own_back (fun t_ q_ => XS.iconst X8.here hx rfl (hb hby at_220) q_) ?_
                      show own_Gl _ _ _ _ (T8.setTop (mkF m 221 #[.val (.int k), .val (.int a), .val (.int b), .val (.int d), .val (.int ee), .val (.int f), .val (.int nn), .val (.ref b2), .val (.int a), .val (.int (a + b)), .val (.int ((a + b) + d)), .val (.int (((a + b) + d) + ee)), .val (.int ((((a + b) + d) + ee) + f)), .val (.int (1 : Int32))] [(.int (1 : Int32))]))
                      refine own_back (fun t_ q_ => XS.goto X8.here hx rfl (pc0 := 221) (pc' := 225) rfl (hb hby at_221) (by decide) (by decide) q_) ?_
                      show own_Gl _ _ _ _ (T8.setTop (mkF m 225 #[.val (.int k), .val (.int a), .val (.int b), .val (.int d), .val (.int ee), .val (.int f), .val (.int nn), .val (.ref b2), .val (.int a), .val (.int (a + b)), .val (.int ((a + b) + d)), .val (.int (((a + b) + d) + ee)), .val (.int ((((a + b) + d) + ee) + f)), .val (.int (1 : Int32))] [(.int (1 : Int32))]))
                      refine own_back (fun t_ q_ => XS.istore X8.here hx rfl (hb hby at_225) rfl (l' := #[.val (.int k), .val (.int a), .val (.int b), .val (.int d), .val (.int ee), .val (.int f), .val (.int nn), .val (.ref b2), .val (.int a), .val (.int (a + b)), .val (.int ((a + b) + d)), .val (.int (((a + b) + d) + ee)), .val (.int ((((a + b) + d) + ee) + f)), .val (.int (1 : Int32))]) rfl q_) ?_
                      show own_Gl _ _ _ _ (T8.setTop (mkF m 227 #[.val (.int k), .val (.int a), .val (.int b), .val (.int d), .val (.int ee), .val (.int f), .val (.int nn), .val (.ref b2), .val (.int a), .val (.int (a + b)), .val (.int ((a + b) + d)), .val (.int (((a + b) + d) + ee)), .val (.int ((((a + b) + d) + ee) + f)), .val (.int (1 : Int32))] []))
                      exact tail12 () (trivial)
                    · skip
                      refine own_back (fun t_ q_ => XS.icmpYes X8.here hx rfl (pc0 := 203) (pc' := 227) rfl (hb hby at_203) rfl (flt (u3 : ¬ ((3 : Int32) < nn))).2.2.2 (by decide) (by decide) q_) ?_
                      show own_Gl _ _ _ _ (T8.setTop (mkF m 227 #[.val (.int k), .val (.int a), .val (.int b), .val (.int d), .val (.int ee), .val (.int f), .val (.int nn), .val (.ref b2), .val (.int a), .val (.int (a + b)), .val (.int ((a + b) + d)), .val (.int (((a + b) + d) + ee)), .val (.int ((((a + b) + d) + ee) + f)), .val (.int (1 : Int32))] []))
                      exact tail12 () (trivial)
                · skip
                  by_cases u2 : (2 : Int32) < nn
                  · skip
                    refine own_back (fun t_ q_ => XS.icmpNo X8.here hx rfl (hb hby at_176) rfl (tlt (u2 : (2 : Int32) < nn)).2.2.2 q_) ?_
                    show own_Gl _ _ _ _ (T8.setTop (mkF m 179 #[.val (.int k), .val (.int a), .val (.int b), .val (.int d), .val (.int ee), .val (.int f), .val (.int nn), .val (.ref b2), .val (.int a), .val (.int (a + b)), .val (.int ((a + b) + d)), .val (.int (((a + b) + d) + ee)), .val (.int ((((a + b) + d) + ee) + f)), .val (.int (1 : Int32))] []))
                    have hk : 2 < N := by
                      have q : (2 : Int32).toInt = 2 := by decide
                      rw [Int32.lt_iff_toInt_lt, r3] at u2
                      omega
                    have hin : ¬ ((2 : Int32) < 0 ∨ cl.slots.size ≤ (2 : Int32).toNatClampNeg) := by
                      have q : (2 : Int32).toNatClampNeg = 2 := by decide
                      rw [S, q]
                      exact fun r => r.elim (by decide) (by omega)
                    refine own_back (fun t_ q_ => XS.iload X8.here hx rfl (hb hby at_179) rfl q_) ?_
                    show own_Gl _ _ _ _ (T8.setTop (mkF m 181 #[.val (.int k), .val (.int a), .val (.int b), .val (.int d), .val (.int ee), .val (.int f), .val (.int nn), .val (.ref b2), .val (.int a), .val (.int (a + b)), .val (.int ((a + b) + d)), .val (.int (((a + b) + d) + ee)), .val (.int ((((a + b) + d) + ee) + f)), .val (.int (1 : Int32))] [(.int (1 : Int32))]))
                    refine own_back (fun t_ q_ => XS.ifNo X8.here hx rfl (hb hby at_181) rfl ((if0 _ _).trans (feq (by decide : ¬ ((1 : Int32) = (0 : Int32)))).1) q_) ?_
                    show own_Gl _ _ _ _ (T8.setTop (mkF m 184 #[.val (.int k), .val (.int a), .val (.int b), .val (.int d), .val (.int ee), .val (.int f), .val (.int nn), .val (.ref b2), .val (.int a), .val (.int (a + b)), .val (.int ((a + b) + d)), .val (.int (((a + b) + d) + ee)), .val (.int ((((a + b) + d) + ee) + f)), .val (.int (1 : Int32))] []))
                    refine own_back (fun t_ q_ => XS.aload X8.here hx rfl (hb hby at_184) rfl rfl q_) ?_
                    show own_Gl _ _ _ _ (T8.setTop (mkF m 186 #[.val (.int k), .val (.int a), .val (.int b), .val (.int d), .val (.int ee), .val (.int f), .val (.int nn), .val (.ref b2), .val (.int a), .val (.int (a + b)), .val (.int ((a + b) + d)), .val (.int (((a + b) + d) + ee)), .val (.int ((((a + b) + d) + ee) + f)), .val (.int (1 : Int32))] [(.ref b2)]))
                    refine own_back (fun t_ q_ => XS.iconst X8.here hx rfl (hb hby at_186) q_) ?_
                    show own_Gl _ _ _ _ (T8.setTop (mkF m 187 #[.val (.int k), .val (.int a), .val (.int b), .val (.int d), .val (.int ee), .val (.int f), .val (.int nn), .val (.ref b2), .val (.int a), .val (.int (a + b)), .val (.int ((a + b) + d)), .val (.int (((a + b) + d) + ee)), .val (.int ((((a + b) + d) + ee) + f)), .val (.int (1 : Int32))] [(.int (2 : Int32)), (.ref b2)]))
                    refine own_back (fun t_ q_ => X8.iaload hx (j := (2 : Int32)) (v := (.int (own_ps (own_v a b d ee f) 2))) A.1 (State.isArrayOf_alike hZ.alike A.2.1) A.2.2 hin (show cl.slots[(2 : Int32).toNatClampNeg]? = some (.int (own_ps (own_v a b d ee f) 2)) from H 2 hk (by omega)) (g := (mkF m 187 #[.val (.int k), .val (.int a), .val (.int b), .val (.int d), .val (.int ee), .val (.int f), .val (.int nn), .val (.ref b2), .val (.int a), .val (.int (a + b)), .val (.int ((a + b) + d)), .val (.int (((a + b) + d) + ee)), .val (.int ((((a + b) + d) + ee) + f)), .val (.int (1 : Int32))] [(.int (2 : Int32)), (.ref b2)])) rfl rfl (hb hby at_187) t_ q_) ?_
                    show own_Gl _ _ _ _ (T8.setTop (mkF m 188 #[.val (.int k), .val (.int a), .val (.int b), .val (.int d), .val (.int ee), .val (.int f), .val (.int nn), .val (.ref b2), .val (.int a), .val (.int (a + b)), .val (.int ((a + b) + d)), .val (.int (((a + b) + d) + ee)), .val (.int ((((a + b) + d) + ee) + f)), .val (.int (1 : Int32))] [(.int (own_ps (own_v a b d ee f) 2))]))
                    refine own_back (fun t_ q_ => XS.iload X8.here hx rfl (hb hby at_188) rfl q_) ?_
                    show own_Gl _ _ _ _ (T8.setTop (mkF m 190 #[.val (.int k), .val (.int a), .val (.int b), .val (.int d), .val (.int ee), .val (.int f), .val (.int nn), .val (.ref b2), .val (.int a), .val (.int (a + b)), .val (.int ((a + b) + d)), .val (.int (((a + b) + d) + ee)), .val (.int ((((a + b) + d) + ee) + f)), .val (.int (1 : Int32))] [(.int ((a + b) + d)), (.int (own_ps (own_v a b d ee f) 2))]))
                    refine own_back (fun t_ q_ => XS.icmpNo X8.here hx rfl (hb hby at_190) rfl (teq (own_p2 a b d ee f : (own_ps (own_v a b d ee f) 2) = ((a + b) + d))).2 q_) ?_
                    show own_Gl _ _ _ _ (T8.setTop (mkF m 193 #[.val (.int k), .val (.int a), .val (.int b), .val (.int d), .val (.int ee), .val (.int f), .val (.int nn), .val (.ref b2), .val (.int a), .val (.int (a + b)), .val (.int ((a + b) + d)), .val (.int (((a + b) + d) + ee)), .val (.int ((((a + b) + d) + ee) + f)), .val (.int (1 : Int32))] []))
                    refine own_back (fun t_ q_ => XS.iconst X8.here hx rfl (hb hby at_193) q_) ?_
                    show own_Gl _ _ _ _ (T8.setTop (mkF m 194 #[.val (.int k), .val (.int a), .val (.int b), .val (.int d), .val (.int ee), .val (.int f), .val (.int nn), .val (.ref b2), .val (.int a), .val (.int (a + b)), .val (.int ((a + b) + d)), .val (.int (((a + b) + d) + ee)), .val (.int ((((a + b) + d) + ee) + f)), .val (.int (1 : Int32))] [(.int (1 : Int32))]))
                    refine own_back (fun t_ q_ => XS.goto X8.here hx rfl (pc0 := 194) (pc' := 198) rfl (hb hby at_194) (by decide) (by decide) q_) ?_
                    show own_Gl _ _ _ _ (T8.setTop (mkF m 198 #[.val (.int k), .val (.int a), .val (.int b), .val (.int d), .val (.int ee), .val (.int f), .val (.int nn), .val (.ref b2), .val (.int a), .val (.int (a + b)), .val (.int ((a + b) + d)), .val (.int (((a + b) + d) + ee)), .val (.int ((((a + b) + d) + ee) + f)), .val (.int (1 : Int32))] [(.int (1 : Int32))]))
                    refine own_back (fun t_ q_ => XS.istore X8.here hx rfl (hb hby at_198) rfl (l' := #[.val (.int k), .val (.int a), .val (.int b), .val (.int d), .val (.int ee), .val (.int f), .val (.int nn), .val (.ref b2), .val (.int a), .val (.int (a + b)), .val (.int ((a + b) + d)), .val (.int (((a + b) + d) + ee)), .val (.int ((((a + b) + d) + ee) + f)), .val (.int (1 : Int32))]) rfl q_) ?_
                    show own_Gl _ _ _ _ (T8.setTop (mkF m 200 #[.val (.int k), .val (.int a), .val (.int b), .val (.int d), .val (.int ee), .val (.int f), .val (.int nn), .val (.ref b2), .val (.int a), .val (.int (a + b)), .val (.int ((a + b) + d)), .val (.int (((a + b) + d) + ee)), .val (.int ((((a + b) + d) + ee) + f)), .val (.int (1 : Int32))] []))
                    exact tail11 () (trivial)
                  · skip
                    refine own_back (fun t_ q_ => XS.icmpYes X8.here hx rfl (pc0 := 176) (pc' := 200) rfl (hb hby at_176) rfl (flt (u2 : ¬ ((2 : Int32) < nn))).2.2.2 (by decide) (by decide) q_) ?_
                    show own_Gl _ _ _ _ (T8.setTop (mkF m 200 #[.val (.int k), .val (.int a), .val (.int b), .val (.int d), .val (.int ee), .val (.int f), .val (.int nn), .val (.ref b2), .val (.int a), .val (.int (a + b)), .val (.int ((a + b) + d)), .val (.int (((a + b) + d) + ee)), .val (.int ((((a + b) + d) + ee) + f)), .val (.int (1 : Int32))] []))
                    exact tail11 () (trivial)
              · skip
                by_cases u1 : (1 : Int32) < nn
                · skip
                  refine own_back (fun t_ q_ => XS.icmpNo X8.here hx rfl (hb hby at_149) rfl (tlt (u1 : (1 : Int32) < nn)).2.2.2 q_) ?_
                  show own_Gl _ _ _ _ (T8.setTop (mkF m 152 #[.val (.int k), .val (.int a), .val (.int b), .val (.int d), .val (.int ee), .val (.int f), .val (.int nn), .val (.ref b2), .val (.int a), .val (.int (a + b)), .val (.int ((a + b) + d)), .val (.int (((a + b) + d) + ee)), .val (.int ((((a + b) + d) + ee) + f)), .val (.int (1 : Int32))] []))
                  have hk : 1 < N := by
                    have q : (1 : Int32).toInt = 1 := by decide
                    rw [Int32.lt_iff_toInt_lt, r3] at u1
                    omega
                  have hin : ¬ ((1 : Int32) < 0 ∨ cl.slots.size ≤ (1 : Int32).toNatClampNeg) := by
                    have q : (1 : Int32).toNatClampNeg = 1 := by decide
                    rw [S, q]
                    exact fun r => r.elim (by decide) (by omega)
                  refine own_back (fun t_ q_ => XS.iload X8.here hx rfl (hb hby at_152) rfl q_) ?_
                  show own_Gl _ _ _ _ (T8.setTop (mkF m 154 #[.val (.int k), .val (.int a), .val (.int b), .val (.int d), .val (.int ee), .val (.int f), .val (.int nn), .val (.ref b2), .val (.int a), .val (.int (a + b)), .val (.int ((a + b) + d)), .val (.int (((a + b) + d) + ee)), .val (.int ((((a + b) + d) + ee) + f)), .val (.int (1 : Int32))] [(.int (1 : Int32))]))
                  refine own_back (fun t_ q_ => XS.ifNo X8.here hx rfl (hb hby at_154) rfl ((if0 _ _).trans (feq (by decide : ¬ ((1 : Int32) = (0 : Int32)))).1) q_) ?_
                  show own_Gl _ _ _ _ (T8.setTop (mkF m 157 #[.val (.int k), .val (.int a), .val (.int b), .val (.int d), .val (.int ee), .val (.int f), .val (.int nn), .val (.ref b2), .val (.int a), .val (.int (a + b)), .val (.int ((a + b) + d)), .val (.int (((a + b) + d) + ee)), .val (.int ((((a + b) + d) + ee) + f)), .val (.int (1 : Int32))] []))
                  refine own_back (fun t_ q_ => XS.aload X8.here hx rfl (hb hby at_157) rfl rfl q_) ?_
                  show own_Gl _ _ _ _ (T8.setTop (mkF m 159 #[.val (.int k), .val (.int a), .val (.int b), .val (.int d), .val (.int ee), .val (.int f), .val (.int nn), .val (.ref b2), .val (.int a), .val (.int (a + b)), .val (.int ((a + b) + d)), .val (.int (((a + b) + d) + ee)), .val (.int ((((a + b) + d) + ee) + f)), .val (.int (1 : Int32))] [(.ref b2)]))
                  refine own_back (fun t_ q_ => XS.iconst X8.here hx rfl (hb hby at_159) q_) ?_
                  show own_Gl _ _ _ _ (T8.setTop (mkF m 160 #[.val (.int k), .val (.int a), .val (.int b), .val (.int d), .val (.int ee), .val (.int f), .val (.int nn), .val (.ref b2), .val (.int a), .val (.int (a + b)), .val (.int ((a + b) + d)), .val (.int (((a + b) + d) + ee)), .val (.int ((((a + b) + d) + ee) + f)), .val (.int (1 : Int32))] [(.int (1 : Int32)), (.ref b2)]))
                  refine own_back (fun t_ q_ => X8.iaload hx (j := (1 : Int32)) (v := (.int (own_ps (own_v a b d ee f) 1))) A.1 (State.isArrayOf_alike hZ.alike A.2.1) A.2.2 hin (show cl.slots[(1 : Int32).toNatClampNeg]? = some (.int (own_ps (own_v a b d ee f) 1)) from H 1 hk (by omega)) (g := (mkF m 160 #[.val (.int k), .val (.int a), .val (.int b), .val (.int d), .val (.int ee), .val (.int f), .val (.int nn), .val (.ref b2), .val (.int a), .val (.int (a + b)), .val (.int ((a + b) + d)), .val (.int (((a + b) + d) + ee)), .val (.int ((((a + b) + d) + ee) + f)), .val (.int (1 : Int32))] [(.int (1 : Int32)), (.ref b2)])) rfl rfl (hb hby at_160) t_ q_) ?_
                  show own_Gl _ _ _ _ (T8.setTop (mkF m 161 #[.val (.int k), .val (.int a), .val (.int b), .val (.int d), .val (.int ee), .val (.int f), .val (.int nn), .val (.ref b2), .val (.int a), .val (.int (a + b)), .val (.int ((a + b) + d)), .val (.int (((a + b) + d) + ee)), .val (.int ((((a + b) + d) + ee) + f)), .val (.int (1 : Int32))] [(.int (own_ps (own_v a b d ee f) 1))]))
                  refine own_back (fun t_ q_ => XS.iload X8.here hx rfl (hb hby at_161) rfl q_) ?_
                  show own_Gl _ _ _ _ (T8.setTop (mkF m 163 #[.val (.int k), .val (.int a), .val (.int b), .val (.int d), .val (.int ee), .val (.int f), .val (.int nn), .val (.ref b2), .val (.int a), .val (.int (a + b)), .val (.int ((a + b) + d)), .val (.int (((a + b) + d) + ee)), .val (.int ((((a + b) + d) + ee) + f)), .val (.int (1 : Int32))] [(.int (a + b)), (.int (own_ps (own_v a b d ee f) 1))]))
                  refine own_back (fun t_ q_ => XS.icmpNo X8.here hx rfl (hb hby at_163) rfl (teq (own_p1 a b d ee f : (own_ps (own_v a b d ee f) 1) = (a + b))).2 q_) ?_
                  show own_Gl _ _ _ _ (T8.setTop (mkF m 166 #[.val (.int k), .val (.int a), .val (.int b), .val (.int d), .val (.int ee), .val (.int f), .val (.int nn), .val (.ref b2), .val (.int a), .val (.int (a + b)), .val (.int ((a + b) + d)), .val (.int (((a + b) + d) + ee)), .val (.int ((((a + b) + d) + ee) + f)), .val (.int (1 : Int32))] []))
                  refine own_back (fun t_ q_ => XS.iconst X8.here hx rfl (hb hby at_166) q_) ?_
                  show own_Gl _ _ _ _ (T8.setTop (mkF m 167 #[.val (.int k), .val (.int a), .val (.int b), .val (.int d), .val (.int ee), .val (.int f), .val (.int nn), .val (.ref b2), .val (.int a), .val (.int (a + b)), .val (.int ((a + b) + d)), .val (.int (((a + b) + d) + ee)), .val (.int ((((a + b) + d) + ee) + f)), .val (.int (1 : Int32))] [(.int (1 : Int32))]))
                  refine own_back (fun t_ q_ => XS.goto X8.here hx rfl (pc0 := 167) (pc' := 171) rfl (hb hby at_167) (by decide) (by decide) q_) ?_
                  show own_Gl _ _ _ _ (T8.setTop (mkF m 171 #[.val (.int k), .val (.int a), .val (.int b), .val (.int d), .val (.int ee), .val (.int f), .val (.int nn), .val (.ref b2), .val (.int a), .val (.int (a + b)), .val (.int ((a + b) + d)), .val (.int (((a + b) + d) + ee)), .val (.int ((((a + b) + d) + ee) + f)), .val (.int (1 : Int32))] [(.int (1 : Int32))]))
                  refine own_back (fun t_ q_ => XS.istore X8.here hx rfl (hb hby at_171) rfl (l' := #[.val (.int k), .val (.int a), .val (.int b), .val (.int d), .val (.int ee), .val (.int f), .val (.int nn), .val (.ref b2), .val (.int a), .val (.int (a + b)), .val (.int ((a + b) + d)), .val (.int (((a + b) + d) + ee)), .val (.int ((((a + b) + d) + ee) + f)), .val (.int (1 : Int32))]) rfl q_) ?_
                  show own_Gl _ _ _ _ (T8.setTop (mkF m 173 #[.val (.int k), .val (.int a), .val (.int b), .val (.int d), .val (.int ee), .val (.int f), .val (.int nn), .val (.ref b2), .val (.int a), .val (.int (a + b)), .val (.int ((a + b) + d)), .val (.int (((a + b) + d) + ee)), .val (.int ((((a + b) + d) + ee) + f)), .val (.int (1 : Int32))] []))
                  exact tail10 () (trivial)
                · skip
                  refine own_back (fun t_ q_ => XS.icmpYes X8.here hx rfl (pc0 := 149) (pc' := 173) rfl (hb hby at_149) rfl (flt (u1 : ¬ ((1 : Int32) < nn))).2.2.2 (by decide) (by decide) q_) ?_
                  show own_Gl _ _ _ _ (T8.setTop (mkF m 173 #[.val (.int k), .val (.int a), .val (.int b), .val (.int d), .val (.int ee), .val (.int f), .val (.int nn), .val (.ref b2), .val (.int a), .val (.int (a + b)), .val (.int ((a + b) + d)), .val (.int (((a + b) + d) + ee)), .val (.int ((((a + b) + d) + ee) + f)), .val (.int (1 : Int32))] []))
                  exact tail10 () (trivial)
            · skip
              by_cases u0 : (0 : Int32) < nn
              · skip
                refine own_back (fun t_ q_ => XS.ifNo X8.here hx rfl (hb hby at_122) rfl ((if0 _ _).trans (tlt (u0 : (0 : Int32) < nn)).2.2.2) q_) ?_
                show own_Gl _ _ _ _ (T8.setTop (mkF m 125 #[.val (.int k), .val (.int a), .val (.int b), .val (.int d), .val (.int ee), .val (.int f), .val (.int nn), .val (.ref b2), .val (.int a), .val (.int (a + b)), .val (.int ((a + b) + d)), .val (.int (((a + b) + d) + ee)), .val (.int ((((a + b) + d) + ee) + f)), .val (.int (1 : Int32))] []))
                have hk : 0 < N := by
                  have q : (0 : Int32).toInt = 0 := by decide
                  rw [Int32.lt_iff_toInt_lt, r3] at u0
                  omega
                have hin : ¬ ((0 : Int32) < 0 ∨ cl.slots.size ≤ (0 : Int32).toNatClampNeg) := by
                  have q : (0 : Int32).toNatClampNeg = 0 := by decide
                  rw [S, q]
                  exact fun r => r.elim (by decide) (by omega)
                refine own_back (fun t_ q_ => XS.iload X8.here hx rfl (hb hby at_125) rfl q_) ?_
                show own_Gl _ _ _ _ (T8.setTop (mkF m 127 #[.val (.int k), .val (.int a), .val (.int b), .val (.int d), .val (.int ee), .val (.int f), .val (.int nn), .val (.ref b2), .val (.int a), .val (.int (a + b)), .val (.int ((a + b) + d)), .val (.int (((a + b) + d) + ee)), .val (.int ((((a + b) + d) + ee) + f)), .val (.int (1 : Int32))] [(.int (1 : Int32))]))
                refine own_back (fun t_ q_ => XS.ifNo X8.here hx rfl (hb hby at_127) rfl ((if0 _ _).trans (feq (by decide : ¬ ((1 : Int32) = (0 : Int32)))).1) q_) ?_
                show own_Gl _ _ _ _ (T8.setTop (mkF m 130 #[.val (.int k), .val (.int a), .val (.int b), .val (.int d), .val (.int ee), .val (.int f), .val (.int nn), .val (.ref b2), .val (.int a), .val (.int (a + b)), .val (.int ((a + b) + d)), .val (.int (((a + b) + d) + ee)), .val (.int ((((a + b) + d) + ee) + f)), .val (.int (1 : Int32))] []))
                refine own_back (fun t_ q_ => XS.aload X8.here hx rfl (hb hby at_130) rfl rfl q_) ?_
                show own_Gl _ _ _ _ (T8.setTop (mkF m 132 #[.val (.int k), .val (.int a), .val (.int b), .val (.int d), .val (.int ee), .val (.int f), .val (.int nn), .val (.ref b2), .val (.int a), .val (.int (a + b)), .val (.int ((a + b) + d)), .val (.int (((a + b) + d) + ee)), .val (.int ((((a + b) + d) + ee) + f)), .val (.int (1 : Int32))] [(.ref b2)]))
                refine own_back (fun t_ q_ => XS.iconst X8.here hx rfl (hb hby at_132) q_) ?_
                show own_Gl _ _ _ _ (T8.setTop (mkF m 133 #[.val (.int k), .val (.int a), .val (.int b), .val (.int d), .val (.int ee), .val (.int f), .val (.int nn), .val (.ref b2), .val (.int a), .val (.int (a + b)), .val (.int ((a + b) + d)), .val (.int (((a + b) + d) + ee)), .val (.int ((((a + b) + d) + ee) + f)), .val (.int (1 : Int32))] [(.int (0 : Int32)), (.ref b2)]))
                refine own_back (fun t_ q_ => X8.iaload hx (j := (0 : Int32)) (v := (.int (own_ps (own_v a b d ee f) 0))) A.1 (State.isArrayOf_alike hZ.alike A.2.1) A.2.2 hin (show cl.slots[(0 : Int32).toNatClampNeg]? = some (.int (own_ps (own_v a b d ee f) 0)) from H 0 hk (by omega)) (g := (mkF m 133 #[.val (.int k), .val (.int a), .val (.int b), .val (.int d), .val (.int ee), .val (.int f), .val (.int nn), .val (.ref b2), .val (.int a), .val (.int (a + b)), .val (.int ((a + b) + d)), .val (.int (((a + b) + d) + ee)), .val (.int ((((a + b) + d) + ee) + f)), .val (.int (1 : Int32))] [(.int (0 : Int32)), (.ref b2)])) rfl rfl (hb hby at_133) t_ q_) ?_
                show own_Gl _ _ _ _ (T8.setTop (mkF m 134 #[.val (.int k), .val (.int a), .val (.int b), .val (.int d), .val (.int ee), .val (.int f), .val (.int nn), .val (.ref b2), .val (.int a), .val (.int (a + b)), .val (.int ((a + b) + d)), .val (.int (((a + b) + d) + ee)), .val (.int ((((a + b) + d) + ee) + f)), .val (.int (1 : Int32))] [(.int (own_ps (own_v a b d ee f) 0))]))
                refine own_back (fun t_ q_ => XS.iload X8.here hx rfl (hb hby at_134) rfl q_) ?_
                show own_Gl _ _ _ _ (T8.setTop (mkF m 136 #[.val (.int k), .val (.int a), .val (.int b), .val (.int d), .val (.int ee), .val (.int f), .val (.int nn), .val (.ref b2), .val (.int a), .val (.int (a + b)), .val (.int ((a + b) + d)), .val (.int (((a + b) + d) + ee)), .val (.int ((((a + b) + d) + ee) + f)), .val (.int (1 : Int32))] [(.int a), (.int (own_ps (own_v a b d ee f) 0))]))
                refine own_back (fun t_ q_ => XS.icmpNo X8.here hx rfl (hb hby at_136) rfl (teq (own_p0 a b d ee f : (own_ps (own_v a b d ee f) 0) = a)).2 q_) ?_
                show own_Gl _ _ _ _ (T8.setTop (mkF m 139 #[.val (.int k), .val (.int a), .val (.int b), .val (.int d), .val (.int ee), .val (.int f), .val (.int nn), .val (.ref b2), .val (.int a), .val (.int (a + b)), .val (.int ((a + b) + d)), .val (.int (((a + b) + d) + ee)), .val (.int ((((a + b) + d) + ee) + f)), .val (.int (1 : Int32))] []))
                refine own_back (fun t_ q_ => XS.iconst X8.here hx rfl (hb hby at_139) q_) ?_
                show own_Gl _ _ _ _ (T8.setTop (mkF m 140 #[.val (.int k), .val (.int a), .val (.int b), .val (.int d), .val (.int ee), .val (.int f), .val (.int nn), .val (.ref b2), .val (.int a), .val (.int (a + b)), .val (.int ((a + b) + d)), .val (.int (((a + b) + d) + ee)), .val (.int ((((a + b) + d) + ee) + f)), .val (.int (1 : Int32))] [(.int (1 : Int32))]))
                refine own_back (fun t_ q_ => XS.goto X8.here hx rfl (pc0 := 140) (pc' := 144) rfl (hb hby at_140) (by decide) (by decide) q_) ?_
                show own_Gl _ _ _ _ (T8.setTop (mkF m 144 #[.val (.int k), .val (.int a), .val (.int b), .val (.int d), .val (.int ee), .val (.int f), .val (.int nn), .val (.ref b2), .val (.int a), .val (.int (a + b)), .val (.int ((a + b) + d)), .val (.int (((a + b) + d) + ee)), .val (.int ((((a + b) + d) + ee) + f)), .val (.int (1 : Int32))] [(.int (1 : Int32))]))
                refine own_back (fun t_ q_ => XS.istore X8.here hx rfl (hb hby at_144) rfl (l' := #[.val (.int k), .val (.int a), .val (.int b), .val (.int d), .val (.int ee), .val (.int f), .val (.int nn), .val (.ref b2), .val (.int a), .val (.int (a + b)), .val (.int ((a + b) + d)), .val (.int (((a + b) + d) + ee)), .val (.int ((((a + b) + d) + ee) + f)), .val (.int (1 : Int32))]) rfl q_) ?_
                show own_Gl _ _ _ _ (T8.setTop (mkF m 146 #[.val (.int k), .val (.int a), .val (.int b), .val (.int d), .val (.int ee), .val (.int f), .val (.int nn), .val (.ref b2), .val (.int a), .val (.int (a + b)), .val (.int ((a + b) + d)), .val (.int (((a + b) + d) + ee)), .val (.int ((((a + b) + d) + ee) + f)), .val (.int (1 : Int32))] []))
                exact tail9 () (trivial)
              · skip
                refine own_back (fun t_ q_ => XS.ifYes X8.here hx rfl (pc0 := 122) (pc' := 146) rfl (hb hby at_122) rfl ((if0 _ _).trans (flt (u0 : ¬ ((0 : Int32) < nn))).2.2.2) (by decide) (by decide) q_) ?_
                show own_Gl _ _ _ _ (T8.setTop (mkF m 146 #[.val (.int k), .val (.int a), .val (.int b), .val (.int d), .val (.int ee), .val (.int f), .val (.int nn), .val (.ref b2), .val (.int a), .val (.int (a + b)), .val (.int ((a + b) + d)), .val (.int (((a + b) + d) + ee)), .val (.int ((((a + b) + d) + ee) + f)), .val (.int (1 : Int32))] []))
                exact tail9 () (trivial)
          · skip
            obtain ⟨Zk, Jk⟩ := And.intro Zs J4
            by_cases t4 : (4 : Int32) < nn
            · skip
              refine own_back (fun t_ q_ => XS.icmpNo X6.here hx rfl (hb hby at_62) rfl (tlt (t4 : (4 : Int32) < nn)).2.2.2 q_) ?_
              show own_Gl _ _ _ _ (T6.setTop (mkF m 65 #[.val (.int k), .val (.int a), .val (.int b), .val (.int d), .val (.int ee), .val (.int f), .val (.int nn), .val (.ref b2), .unset, .unset, .unset, .unset, .unset, .unset] []))
              have hk : 4 < N := by
                have q : (4 : Int32).toInt = 4 := by decide
                rw [Int32.lt_iff_toInt_lt, r3] at t4
                omega
              obtain ⟨cl, A, S, H⟩ := Jk
              have hin : ¬ ((4 : Int32) < 0 ∨ cl.slots.size ≤ (4 : Int32).toNatClampNeg) := by
                have q : (4 : Int32).toNatClampNeg = 4 := by decide
                rw [S, q]
                exact fun r => r.elim (by decide) (by omega)
              refine own_back (fun t_ q_ => XS.aload X6.here hx rfl (hb hby at_65) rfl rfl q_) ?_
              show own_Gl _ _ _ _ (T6.setTop (mkF m 67 #[.val (.int k), .val (.int a), .val (.int b), .val (.int d), .val (.int ee), .val (.int f), .val (.int nn), .val (.ref b2), .unset, .unset, .unset, .unset, .unset, .unset] [(.ref b2)]))
              refine own_back (fun t_ q_ => XS.iconst X6.here hx rfl (hb hby at_67) q_) ?_
              show own_Gl _ _ _ _ (T6.setTop (mkF m 68 #[.val (.int k), .val (.int a), .val (.int b), .val (.int d), .val (.int ee), .val (.int f), .val (.int nn), .val (.ref b2), .unset, .unset, .unset, .unset, .unset, .unset] [(.int (4 : Int32)), (.ref b2)]))
              refine own_back (fun t_ q_ => XS.iload X6.here hx rfl (hb hby at_68) rfl q_) ?_
              show own_Gl _ _ _ _ (T6.setTop (mkF m 70 #[.val (.int k), .val (.int a), .val (.int b), .val (.int d), .val (.int ee), .val (.int f), .val (.int nn), .val (.ref b2), .unset, .unset, .unset, .unset, .unset, .unset] [(.int f), (.int (4 : Int32)), (.ref b2)]))
              obtain ⟨T14, h14, X14, e14, W14, st14⟩ := stI X6 hx hZ e6 A (j := (4 : Int32)) hin (g := (mkF m 70 #[.val (.int k), .val (.int a), .val (.int b), .val (.int d), .val (.int ee), .val (.int f), .val (.int nn), .val (.ref b2), .unset, .unset, .unset, .unset, .unset, .unset] [(.int f), (.int (4 : Int32)), (.ref b2)])) rfl rfl (hb hby at_70)
              refine own_back st14 ?_
              have N14 := Fr.snoc X14 N6 gb
              show own_Gl _ _ _ _ (T14.setTop (mkF m 71 #[.val (.int k), .val (.int a), .val (.int b), .val (.int d), .val (.int ee), .val (.int f), .val (.int nn), .val (.ref b2), .unset, .unset, .unset, .unset, .unset, .unset] []))
              exact tail7 (T14, h14) ⟨⟨_, X14, N14⟩, e14, ⟨by rw [W14.size]; exact Zk, own_Jset A S H W14 (by decide) hk rfl⟩⟩
            · skip
              refine own_back (fun t_ q_ => XS.icmpYes X6.here hx rfl (pc0 := 62) (pc' := 71) rfl (hb hby at_62) rfl (flt (t4 : ¬ ((4 : Int32) < nn))).2.2.2 (by decide) (by decide) q_) ?_
              show own_Gl _ _ _ _ (T6.setTop (mkF m 71 #[.val (.int k), .val (.int a), .val (.int b), .val (.int d), .val (.int ee), .val (.int f), .val (.int nn), .val (.ref b2), .unset, .unset, .unset, .unset, .unset, .unset] []))
              have hk : N ≤ 4 := by
                have q : (4 : Int32).toInt = 4 := by decide
                rw [Int32.lt_iff_toInt_lt, r3] at t4
                omega
              exact tail7 (T6, h6) ⟨⟨_, X6, N6⟩, e6, ⟨Zk, own_Jskip Jk hk⟩⟩
        · skip
          obtain ⟨Zk, Jk⟩ := And.intro Zs J3
          by_cases t3 : (3 : Int32) < nn
          · skip
            refine own_back (fun t_ q_ => XS.icmpNo X5.here hx rfl (hb hby at_50) rfl (tlt (t3 : (3 : Int32) < nn)).2.2.2 q_) ?_
            show own_Gl _ _ _ _ (T5.setTop (mkF m 53 #[.val (.int k), .val (.int a), .val (.int b), .val (.int d), .val (.int ee), .val (.int f), .val (.int nn), .val (.ref b2), .unset, .unset, .unset, .unset, .unset, .unset] []))
            have hk : 3 < N := by
              have q : (3 : Int32).toInt = 3 := by decide
              rw [Int32.lt_iff_toInt_lt, r3] at t3
              omega
            obtain ⟨cl, A, S, H⟩ := Jk
            have hin : ¬ ((3 : Int32) < 0 ∨ cl.slots.size ≤ (3 : Int32).toNatClampNeg) := by
              have q : (3 : Int32).toNatClampNeg = 3 := by decide
              rw [S, q]
              exact fun r => r.elim (by decide) (by omega)
            refine own_back (fun t_ q_ => XS.aload X5.here hx rfl (hb hby at_53) rfl rfl q_) ?_
            show own_Gl _ _ _ _ (T5.setTop (mkF m 55 #[.val (.int k), .val (.int a), .val (.int b), .val (.int d), .val (.int ee), .val (.int f), .val (.int nn), .val (.ref b2), .unset, .unset, .unset, .unset, .unset, .unset] [(.ref b2)]))
            refine own_back (fun t_ q_ => XS.iconst X5.here hx rfl (hb hby at_55) q_) ?_
            show own_Gl _ _ _ _ (T5.setTop (mkF m 56 #[.val (.int k), .val (.int a), .val (.int b), .val (.int d), .val (.int ee), .val (.int f), .val (.int nn), .val (.ref b2), .unset, .unset, .unset, .unset, .unset, .unset] [(.int (3 : Int32)), (.ref b2)]))
            refine own_back (fun t_ q_ => XS.iload X5.here hx rfl (hb hby at_56) rfl q_) ?_
            show own_Gl _ _ _ _ (T5.setTop (mkF m 58 #[.val (.int k), .val (.int a), .val (.int b), .val (.int d), .val (.int ee), .val (.int f), .val (.int nn), .val (.ref b2), .unset, .unset, .unset, .unset, .unset, .unset] [(.int ee), (.int (3 : Int32)), (.ref b2)]))
            obtain ⟨T15, h15, X15, e15, W15, st15⟩ := stI X5 hx hZ e5 A (j := (3 : Int32)) hin (g := (mkF m 58 #[.val (.int k), .val (.int a), .val (.int b), .val (.int d), .val (.int ee), .val (.int f), .val (.int nn), .val (.ref b2), .unset, .unset, .unset, .unset, .unset, .unset] [(.int ee), (.int (3 : Int32)), (.ref b2)])) rfl rfl (hb hby at_58)
            refine own_back st15 ?_
            have N15 := Fr.snoc X15 N5 gb
            show own_Gl _ _ _ _ (T15.setTop (mkF m 59 #[.val (.int k), .val (.int a), .val (.int b), .val (.int d), .val (.int ee), .val (.int f), .val (.int nn), .val (.ref b2), .unset, .unset, .unset, .unset, .unset, .unset] []))
            exact tail6 (T15, h15) ⟨⟨_, X15, N15⟩, e15, ⟨by rw [W15.size]; exact Zk, own_Jset A S H W15 (by decide) hk rfl⟩⟩
          · skip
            refine own_back (fun t_ q_ => XS.icmpYes X5.here hx rfl (pc0 := 50) (pc' := 59) rfl (hb hby at_50) rfl (flt (t3 : ¬ ((3 : Int32) < nn))).2.2.2 (by decide) (by decide) q_) ?_
            show own_Gl _ _ _ _ (T5.setTop (mkF m 59 #[.val (.int k), .val (.int a), .val (.int b), .val (.int d), .val (.int ee), .val (.int f), .val (.int nn), .val (.ref b2), .unset, .unset, .unset, .unset, .unset, .unset] []))
            have hk : N ≤ 3 := by
              have q : (3 : Int32).toInt = 3 := by decide
              rw [Int32.lt_iff_toInt_lt, r3] at t3
              omega
            exact tail6 (T5, h5) ⟨⟨_, X5, N5⟩, e5, ⟨Zk, own_Jskip Jk hk⟩⟩
      · skip
        obtain ⟨Zk, Jk⟩ := And.intro Zs J2
        by_cases t2 : (2 : Int32) < nn
        · skip
          refine own_back (fun t_ q_ => XS.icmpNo X4.here hx rfl (hb hby at_39) rfl (tlt (t2 : (2 : Int32) < nn)).2.2.2 q_) ?_
          show own_Gl _ _ _ _ (T4.setTop (mkF m 42 #[.val (.int k), .val (.int a), .val (.int b), .val (.int d), .val (.int ee), .val (.int f), .val (.int nn), .val (.ref b2), .unset, .unset, .unset, .unset, .unset, .unset] []))
          have hk : 2 < N := by
            have q : (2 : Int32).toInt = 2 := by decide
            rw [Int32.lt_iff_toInt_lt, r3] at t2
            omega
          obtain ⟨cl, A, S, H⟩ := Jk
          have hin : ¬ ((2 : Int32) < 0 ∨ cl.slots.size ≤ (2 : Int32).toNatClampNeg) := by
            have q : (2 : Int32).toNatClampNeg = 2 := by decide
            rw [S, q]
            exact fun r => r.elim (by decide) (by omega)
          refine own_back (fun t_ q_ => XS.aload X4.here hx rfl (hb hby at_42) rfl rfl q_) ?_
          show own_Gl _ _ _ _ (T4.setTop (mkF m 44 #[.val (.int k), .val (.int a), .val (.int b), .val (.int d), .val (.int ee), .val (.int f), .val (.int nn), .val (.ref b2), .unset, .unset, .unset, .unset, .unset, .unset] [(.ref b2)]))
          refine own_back (fun t_ q_ => XS.iconst X4.here hx rfl (hb hby at_44) q_) ?_
          show own_Gl _ _ _ _ (T4.setTop (mkF m 45 #[.val (.int k), .val (.int a), .val (.int b), .val (.int d), .val (.int ee), .val (.int f), .val (.int nn), .val (.ref b2), .unset, .unset, .unset, .unset, .unset, .unset] [(.int (2 : Int32)), (.ref b2)]))
          refine own_back (fun t_ q_ => XS.iloadN X4.here hx rfl (hb hby at_45) rfl q_) ?_
          show own_Gl _ _ _ _ (T4.setTop (mkF m 46 #[.val (.int k), .val (.int a), .val (.int b), .val (.int d), .val (.int ee), .val (.int f), .val (.int nn), .val (.ref b2), .unset, .unset, .unset, .unset, .unset, .unset] [(.int d), (.int (2 : Int32)), (.ref b2)]))
          obtain ⟨T16, h16, X16, e16, W16, st16⟩ := stI X4 hx hZ e4 A (j := (2 : Int32)) hin (g := (mkF m 46 #[.val (.int k), .val (.int a), .val (.int b), .val (.int d), .val (.int ee), .val (.int f), .val (.int nn), .val (.ref b2), .unset, .unset, .unset, .unset, .unset, .unset] [(.int d), (.int (2 : Int32)), (.ref b2)])) rfl rfl (hb hby at_46)
          refine own_back st16 ?_
          have N16 := Fr.snoc X16 N4 gb
          show own_Gl _ _ _ _ (T16.setTop (mkF m 47 #[.val (.int k), .val (.int a), .val (.int b), .val (.int d), .val (.int ee), .val (.int f), .val (.int nn), .val (.ref b2), .unset, .unset, .unset, .unset, .unset, .unset] []))
          exact tail5 (T16, h16) ⟨⟨_, X16, N16⟩, e16, ⟨by rw [W16.size]; exact Zk, own_Jset A S H W16 (by decide) hk rfl⟩⟩
        · skip
          refine own_back (fun t_ q_ => XS.icmpYes X4.here hx rfl (pc0 := 39) (pc' := 47) rfl (hb hby at_39) rfl (flt (t2 : ¬ ((2 : Int32) < nn))).2.2.2 (by decide) (by decide) q_) ?_
          show own_Gl _ _ _ _ (T4.setTop (mkF m 47 #[.val (.int k), .val (.int a), .val (.int b), .val (.int d), .val (.int ee), .val (.int f), .val (.int nn), .val (.ref b2), .unset, .unset, .unset, .unset, .unset, .unset] []))
          have hk : N ≤ 2 := by
            have q : (2 : Int32).toInt = 2 := by decide
            rw [Int32.lt_iff_toInt_lt, r3] at t2
            omega
          exact tail5 (T4, h4) ⟨⟨_, X4, N4⟩, e4, ⟨Zk, own_Jskip Jk hk⟩⟩
    · skip
      obtain ⟨Zk, Jk⟩ := And.intro Zs J1
      by_cases t1 : (1 : Int32) < nn
      · skip
        refine own_back (fun t_ q_ => XS.icmpNo X3.here hx rfl (hb hby at_28) rfl (tlt (t1 : (1 : Int32) < nn)).2.2.2 q_) ?_
        show own_Gl _ _ _ _ (T3.setTop (mkF m 31 #[.val (.int k), .val (.int a), .val (.int b), .val (.int d), .val (.int ee), .val (.int f), .val (.int nn), .val (.ref b2), .unset, .unset, .unset, .unset, .unset, .unset] []))
        have hk : 1 < N := by
          have q : (1 : Int32).toInt = 1 := by decide
          rw [Int32.lt_iff_toInt_lt, r3] at t1
          omega
        obtain ⟨cl, A, S, H⟩ := Jk
        have hin : ¬ ((1 : Int32) < 0 ∨ cl.slots.size ≤ (1 : Int32).toNatClampNeg) := by
          have q : (1 : Int32).toNatClampNeg = 1 := by decide
          rw [S, q]
          exact fun r => r.elim (by decide) (by omega)
        refine own_back (fun t_ q_ => XS.aload X3.here hx rfl (hb hby at_31) rfl rfl q_) ?_
        show own_Gl _ _ _ _ (T3.setTop (mkF m 33 #[.val (.int k), .val (.int a), .val (.int b), .val (.int d), .val (.int ee), .val (.int f), .val (.int nn), .val (.ref b2), .unset, .unset, .unset, .unset, .unset, .unset] [(.ref b2)]))
        refine own_back (fun t_ q_ => XS.iconst X3.here hx rfl (hb hby at_33) q_) ?_
        show own_Gl _ _ _ _ (T3.setTop (mkF m 34 #[.val (.int k), .val (.int a), .val (.int b), .val (.int d), .val (.int ee), .val (.int f), .val (.int nn), .val (.ref b2), .unset, .unset, .unset, .unset, .unset, .unset] [(.int (1 : Int32)), (.ref b2)]))
        refine own_back (fun t_ q_ => XS.iloadN X3.here hx rfl (hb hby at_34) rfl q_) ?_
        show own_Gl _ _ _ _ (T3.setTop (mkF m 35 #[.val (.int k), .val (.int a), .val (.int b), .val (.int d), .val (.int ee), .val (.int f), .val (.int nn), .val (.ref b2), .unset, .unset, .unset, .unset, .unset, .unset] [(.int b), (.int (1 : Int32)), (.ref b2)]))
        obtain ⟨T17, h17, X17, e17, W17, st17⟩ := stI X3 hx hZ e3 A (j := (1 : Int32)) hin (g := (mkF m 35 #[.val (.int k), .val (.int a), .val (.int b), .val (.int d), .val (.int ee), .val (.int f), .val (.int nn), .val (.ref b2), .unset, .unset, .unset, .unset, .unset, .unset] [(.int b), (.int (1 : Int32)), (.ref b2)])) rfl rfl (hb hby at_35)
        refine own_back st17 ?_
        have N17 := Fr.snoc X17 N3 gb
        show own_Gl _ _ _ _ (T17.setTop (mkF m 36 #[.val (.int k), .val (.int a), .val (.int b), .val (.int d), .val (.int ee), .val (.int f), .val (.int nn), .val (.ref b2), .unset, .unset, .unset, .unset, .unset, .unset] []))
        exact tail4 (T17, h17) ⟨⟨_, X17, N17⟩, e17, ⟨by rw [W17.size]; exact Zk, own_Jset A S H W17 (by decide) hk rfl⟩⟩
      · skip
        refine own_back (fun t_ q_ => XS.icmpYes X3.here hx rfl (pc0 := 28) (pc' := 36) rfl (hb hby at_28) rfl (flt (t1 : ¬ ((1 : Int32) < nn))).2.2.2 (by decide) (by decide) q_) ?_
        show own_Gl _ _ _ _ (T3.setTop (mkF m 36 #[.val (.int k), .val (.int a), .val (.int b), .val (.int d), .val (.int ee), .val (.int f), .val (.int nn), .val (.ref b2), .unset, .unset, .unset, .unset, .unset, .unset] []))
        have hk : N ≤ 1 := by
          have q : (1 : Int32).toInt = 1 := by decide
          rw [Int32.lt_iff_toInt_lt, r3] at t1
          omega
        exact tail4 (T3, h3) ⟨⟨_, X3, N3⟩, e3, ⟨Zk, own_Jskip Jk hk⟩⟩
  · skip
    obtain ⟨Zk, Jk⟩ := J0
    by_cases t0 : (0 : Int32) < nn
    · skip
      refine own_back (fun t_ q_ => XS.ifNo X2.here hx rfl (hb hby at_17) rfl ((if0 _ _).trans (tlt (t0 : (0 : Int32) < nn)).2.2.2) q_) ?_
      show own_Gl _ _ _ _ (T2.setTop (mkF m 20 #[.val (.int k), .val (.int a), .val (.int b), .val (.int d), .val (.int ee), .val (.int f), .val (.int nn), .val (.ref b2), .unset, .unset, .unset, .unset, .unset, .unset] []))
      have hk : 0 < N := by
        have q : (0 : Int32).toInt = 0 := by decide
        rw [Int32.lt_iff_toInt_lt, r3] at t0
        omega
      obtain ⟨cl, A, S, H⟩ := Jk
      have hin : ¬ ((0 : Int32) < 0 ∨ cl.slots.size ≤ (0 : Int32).toNatClampNeg) := by
        have q : (0 : Int32).toNatClampNeg = 0 := by decide
        rw [S, q]
        exact fun r => r.elim (by decide) (by omega)
      refine own_back (fun t_ q_ => XS.aload X2.here hx rfl (hb hby at_20) rfl rfl q_) ?_
      show own_Gl _ _ _ _ (T2.setTop (mkF m 22 #[.val (.int k), .val (.int a), .val (.int b), .val (.int d), .val (.int ee), .val (.int f), .val (.int nn), .val (.ref b2), .unset, .unset, .unset, .unset, .unset, .unset] [(.ref b2)]))
      refine own_back (fun t_ q_ => XS.iconst X2.here hx rfl (hb hby at_22) q_) ?_
      show own_Gl _ _ _ _ (T2.setTop (mkF m 23 #[.val (.int k), .val (.int a), .val (.int b), .val (.int d), .val (.int ee), .val (.int f), .val (.int nn), .val (.ref b2), .unset, .unset, .unset, .unset, .unset, .unset] [(.int (0 : Int32)), (.ref b2)]))
      refine own_back (fun t_ q_ => XS.iloadN X2.here hx rfl (hb hby at_23) rfl q_) ?_
      show own_Gl _ _ _ _ (T2.setTop (mkF m 24 #[.val (.int k), .val (.int a), .val (.int b), .val (.int d), .val (.int ee), .val (.int f), .val (.int nn), .val (.ref b2), .unset, .unset, .unset, .unset, .unset, .unset] [(.int a), (.int (0 : Int32)), (.ref b2)]))
      obtain ⟨T18, h18, X18, e18, W18, st18⟩ := stI X2 hx hZ e2 A (j := (0 : Int32)) hin (g := (mkF m 24 #[.val (.int k), .val (.int a), .val (.int b), .val (.int d), .val (.int ee), .val (.int f), .val (.int nn), .val (.ref b2), .unset, .unset, .unset, .unset, .unset, .unset] [(.int a), (.int (0 : Int32)), (.ref b2)])) rfl rfl (hb hby at_24)
      refine own_back st18 ?_
      have N18 := Fr.snoc X18 N0 gb
      show own_Gl _ _ _ _ (T18.setTop (mkF m 25 #[.val (.int k), .val (.int a), .val (.int b), .val (.int d), .val (.int ee), .val (.int f), .val (.int nn), .val (.ref b2), .unset, .unset, .unset, .unset, .unset, .unset] []))
      exact tail3 (T18, h18) ⟨⟨_, X18, N18⟩, e18, ⟨by rw [W18.size]; exact Zk, own_Jset A S H W18 (by decide) hk rfl⟩⟩
    · skip
      refine own_back (fun t_ q_ => XS.ifYes X2.here hx rfl (pc0 := 17) (pc' := 25) rfl (hb hby at_17) rfl ((if0 _ _).trans (flt (t0 : ¬ ((0 : Int32) < nn))).2.2.2) (by decide) (by decide) q_) ?_
      show own_Gl _ _ _ _ (T2.setTop (mkF m 25 #[.val (.int k), .val (.int a), .val (.int b), .val (.int d), .val (.int ee), .val (.int f), .val (.int nn), .val (.ref b2), .unset, .unset, .unset, .unset, .unset, .unset] []))
      have hk : N ≤ 0 := by
        have q : (0 : Int32).toInt = 0 := by decide
        rw [Int32.lt_iff_toInt_lt, r3] at t0
        omega
      exact tail3 (T2, h2) ⟨⟨_, X2, N0⟩, e2, ⟨Zk, own_Jskip Jk hk⟩⟩
set_option maxRecDepth 65536 in
set_option maxHeartbeats 40000000 in
theorem comes_1 {Post : Tables → Env → Array Value → State → Outcome → State → Prop} (hpost : ∀ tb e args s v u, (limb_1_1.after args s (.returned v) u = true ∧ limb_1_2.after args s (.returned v) u = true ∧ True) → FrameEnd s (.returned v) u (Jvm.fieldLocs frame_1_writes args s ++ Jvm.arrayLocs frame_1_arrays args s ++ Jvm.staticLocs frame_1_statics s) 16 128 → Post tb e args s (.returned v) u) :
    ArmFor flags0 classFile x code maxLocals ret World_1 tables_1 room_1 Calls_1 rest_1 Pre_1 Post := by
  intro l hfl _ _ p e ha hc hk s m args below hf hA hF happ hP
  obtain ⟨hcalls, hrest, hpre⟩ := hP
  obtain ⟨-, -, -, hnamed, -, -, -, hat⟩ := (Spec.applies_iff hf).mp happ
  obtain ⟨hg, hn⟩ := and_e (Cond.before_iff.mp (show (Jvm.Cond.and given_1 narrow_1).before args s = true from hpre))
  obtain ⟨h1, hg1⟩ := and_e hg
  obtain ⟨w0, w1, w2, w3, w4, w5, rfl⟩ : ∃ w0 w1 w2 w3 w4 w5 : Value, args = #[w0, w1, w2, w3, w4, w5] := by
    have hs : args.size = 6 := by simpa [Cond.value, given_1] using h1
    obtain ⟨L⟩ := args
    match L, hs with
    | [w0, w1, w2, w3, w4, w5], _ => exact ⟨w0, w1, w2, w3, w4, w5, rfl⟩
  have hw := fun d (hd : d ∈ tables_1) => atoms_spec (ws := Jvm.Cond.code x code maxLocals ret :: tables_1) hat d (List.mem_cons_of_mem _ hd)
  obtain ⟨hk0, hg2⟩ := and_e hg1
  obtain ⟨i0, ei0⟩ := is_v hk0
  obtain rfl : w0 = (.int i0) := Option.some.inj ei0
  obtain ⟨hk1, hg3⟩ := and_e hg2
  obtain ⟨i1, ei1⟩ := is_v hk1
  obtain rfl : w1 = (.int i1) := Option.some.inj ei1
  obtain ⟨hk2, hg4⟩ := and_e hg3
  obtain ⟨i2, ei2⟩ := is_v hk2
  obtain rfl : w2 = (.int i2) := Option.some.inj ei2
  obtain ⟨hk3, hg5⟩ := and_e hg4
  obtain ⟨i3, ei3⟩ := is_v hk3
  obtain rfl : w3 = (.int i3) := Option.some.inj ei3
  obtain ⟨hk4, hg6⟩ := and_e hg5
  obtain ⟨i4, ei4⟩ := is_v hk4
  obtain rfl : w4 = (.int i4) := Option.some.inj ei4
  obtain ⟨i5, ei5⟩ := is_v hg6
  obtain rfl : w5 = (.int i5) := Option.some.inj ei5
  obtain ⟨n, o, h1, h2, h3, _, L, rfl, ⟨rfl, N⟩, hq⟩ := rm0 l s _ hw tables_1 i0 i1 i2 i3 i4 i5 s.heap s.heap.size (Nat.le_refl _) p e ha hc hk s m _ below hf ((Spec.applies_iff_loose hf).mp happ).1 ⟨rfl, State.Warmed39.refl s, rfl⟩ trivial
  refine ⟨n, _, h1, h2, h3, hpost _ _ _ _ _ _ ⟨Cond.after_iff.mpr rfl, Cond.after_iff.mpr (eq_i res_at (Term.int_eval (1)) rfl), trivial⟩ ⟨hq.1, hq.2.1, (hq.2.2.sift fun y hy => Or.inr (N y hy)).mono (by decide) (by decide)⟩⟩
theorem main_1_1 : Claimed_1_1 := comes_1 fun _ _ _ _ _ _ h hF => ⟨h.1, hF⟩
theorem main_1_2 : Claimed_1_2 := comes_1 fun _ _ _ _ _ _ h hF => ⟨h.2.1, hF⟩
end Jvm.Pilot.@@N@@
namespace Jvm.Pilot.@@N@@
open Jvm Jvm.ClassFile Sem Op Lib Jvm.Free Jvm.Stand Jvm.Pilot.@@N@@.Jvm.D
/-! MADE BY PROGRAM (witnessworld.py) out of the Statement's table words and the real class files: 10 classes; the members and pool entries that the words name. The judged class is class 1, her method 1. -/
namespace start1
open Jvm.ClassFile
def u (s : String) : CpInfo := .utf8 (stringToUtf16 s)
/-- a pool by its gaps: so many unusable entries, then the entry; so many at the end -/
def gap : Nat → List CpInfo → List CpInfo
  | 0, r => r
  | n + 1, r => .unusable :: gap n r
def poolList (es : List (Nat × CpInfo)) (last : Nat) : List CpInfo := es.foldr (fun e r => gap e.1 (e.2 :: r)) (gap last [])
def pool (es : List (Nat × CpInfo)) (last : Nat) : Array CpInfo := ⟨poolList es last⟩
def fileOf (pool : Array CpInfo) (this : Nat) (attrs : Array Attribute := #[]) (ms : Array MethodInfo := #[]) (fl : Nat := 33) (sup : Nat := 0) (ifs : Array Nat := #[]) (fds : Array FieldInfo := #[]) : ClassFile where
  minorVersion := 0
  majorVersion := 65
  constantPool := pool
  accessFlags := fl
  thisClass := this
  superClass := sup
  interfaces := ifs
  fields := fds
  methods := ms
  attributes := attrs
def plain (name : String) (sup : Option ClassId) : Class where
  name := name
  kind := .ordinary
  loader := none
  accessFlags := 33
  super := sup
  interfaces := #[]
  cf := none
  fields := #[]
  methods := #[]
  instanceTypes := #[]
  staticTypes := #[]
  resolved := #[]
  callSites := []
  init := .initialized
  statics := none
  mirror := none

def pool0 : Array CpInfo := pool [(5, u "<init>"), (0, u "()V"), (1, .class_ 10), (1, u "java/lang/Object")] 113

def k0m0 : Method := { name := "<init>", desc := "()V", sig := { parameters := [], returnType := none }, accessFlags := 1, code := none }
/-- java/lang/Object -/
def k0 : Class := { plain "java/lang/Object" none with
  accessFlags := 33
  interfaces := #[]
  cf := some (fileOf pool0 8 #[] #[{ accessFlags := 1, nameIndex := 5, descriptorIndex := 6, attributes := #[] }] 33 0 #[] #[])
  fields := #[]
  methods := #[k0m0]
  instanceTypes := #[]
  staticTypes := #[]
  resolved := Array.replicate 124 none
  statics := none }

def pool1 : Array CpInfo := pool [(2, .class_ 4), (1, u "java/lang/Object"), (0, u "<init>"), (0, u "()V"), (0, .integer 2147483647), (0, .methodref 9 10), (0, .class_ 11), (0, .nameAndType 12 13), (0, u "io/quadrille/graph/Adjacency"), (0, u "sumInPlace"), (0, u "([I)V"), (0, .class_ 15), (0, u "io/quadrille/graph/AdjacencySumInPlacePinLaw"), (2, u "law"), (0, u "(IIIIII)Z")] 5

def k1m0 : Method := { name := "<init>", desc := "()V", sig := { parameters := [], returnType := none }, accessFlags := 2, code := none }
def k1c1 : Code := { maxStack := 3, maxLocals := 14, code := code, exceptionTable := #[], attributes := #[] }
def k1m1 : Method := { name := "law", desc := "(IIIIII)Z", sig := { parameters := [.int, .int, .int, .int, .int, .int], returnType := some .boolean }, accessFlags := 9, code := some k1c1 }
/-- io/quadrille/graph/AdjacencySumInPlacePinLaw -/
def k1 : Class := { plain "io/quadrille/graph/AdjacencySumInPlacePinLaw" (some 0) with
  accessFlags := 49
  interfaces := #[]
  cf := some (fileOf pool1 14 #[] #[{ accessFlags := 2, nameIndex := 5, descriptorIndex := 6, attributes := #[] }, { accessFlags := 9, nameIndex := 18, descriptorIndex := 19, attributes := #[] }] 49 2 #[] #[])
  fields := #[]
  methods := #[k1m0, k1m1]
  instanceTypes := #[]
  staticTypes := #[]
  resolved := Array.replicate 25 none
  statics := none }

def pool2 : Array CpInfo := pool [(2, .class_ 4), (1, u "java/lang/Object"), (0, u "<init>"), (0, u "()V"), (0, .class_ 8), (0, u "java/lang/Record")] 13

def k2m0 : Method := { name := "<init>", desc := "()V", sig := { parameters := [], returnType := none }, accessFlags := 4, code := none }
/-- java/lang/Record -/
def k2 : Class := { plain "java/lang/Record" (some 0) with
  accessFlags := 1057
  interfaces := #[]
  cf := some (fileOf pool2 7 #[] #[{ accessFlags := 4, nameIndex := 5, descriptorIndex := 6, attributes := #[] }] 1057 2 #[] #[])
  fields := #[]
  methods := #[k2m0]
  instanceTypes := #[]
  staticTypes := #[]
  resolved := Array.replicate 22 none
  statics := none }

def pool3 : Array CpInfo := pool [(2, .class_ 4), (1, u "java/lang/Record"), (3, .class_ 10), (1, u "io/quadrille/graph/Adjacency"), (0, u "offsets"), (0, u "[I"), (2, u "neighbours"), (14, u "sumInPlace"), (0, u "([I)V"), (12, .class_ 46), (1, u "io/quadrille/graph/Adjacency$Pairs"), (117, .class_ 165), (0, u "io/quadrille/graph/Adjacency$PairVisitor")] 49

def k3c0 : Code := { maxStack := 6, maxLocals := 2, code := prog_18_method_10_code, exceptionTable := #[], attributes := #[] }
def k3m0 : Method := { name := "sumInPlace", desc := "([I)V", sig := { parameters := [(.array .int)], returnType := none }, accessFlags := 8, code := some k3c0 }
/-- io/quadrille/graph/Adjacency -/
def k3 : Class := { plain "io/quadrille/graph/Adjacency" (some 2) with
  accessFlags := 48
  interfaces := #[]
  cf := some (fileOf pool3 8 #[.nestMembers #[164, 44]] #[{ accessFlags := 8, nameIndex := 30, descriptorIndex := 31, attributes := #[] }] 48 2 #[] #[{ accessFlags := 18, nameIndex := 11, descriptorIndex := 12, attributes := #[] }, { accessFlags := 18, nameIndex := 15, descriptorIndex := 12, attributes := #[] }])
  fields := #[{ name := "offsets", type := (.array .int), accessFlags := 18, slot := 0, constantValue := 0 }, { name := "neighbours", type := (.array .int), accessFlags := 18, slot := 1, constantValue := 0 }]
  methods := #[k3m0]
  instanceTypes := #[(.array .int), (.array .int)]
  staticTypes := #[]
  resolved := Array.replicate 215 none
  statics := none }

def pool4 : Array CpInfo := pool [(1, u "java/lang/Cloneable"), (0, .class_ 1), (0, u "java/lang/Object"), (0, .class_ 3)] 3

/-- java/lang/Cloneable -/
def k4 : Class := { plain "java/lang/Cloneable" (some 0) with
  accessFlags := 1537
  interfaces := #[]
  cf := some (fileOf pool4 2 #[] #[] 1537 4 #[] #[])
  fields := #[]
  methods := #[]
  instanceTypes := #[]
  staticTypes := #[]
  resolved := Array.replicate 8 none
  statics := none }

def pool5 : Array CpInfo := pool [(1, u "java/io/Serializable"), (0, .class_ 1), (0, u "java/lang/Object"), (0, .class_ 3)] 3

/-- java/io/Serializable -/
def k5 : Class := { plain "java/io/Serializable" (some 0) with
  accessFlags := 1537
  interfaces := #[]
  cf := some (fileOf pool5 2 #[] #[] 1537 4 #[] #[])
  fields := #[]
  methods := #[]
  instanceTypes := #[]
  staticTypes := #[]
  resolved := Array.replicate 8 none
  statics := none }

/-- the primitive byte -/
def k6 : Class := { plain "byte" none with kind := .primitive 'B', accessFlags := 0x411 }
/-- [B -/
def k7 : Class := { plain "[B" (some 0) with kind := .array 6 .byte, interfaces := #[4, 5], accessFlags := 1041 }

/-- the primitive int -/
def k8 : Class := { plain "int" none with kind := .primitive 'I', accessFlags := 0x411 }
/-- [I -/
def k9 : Class := { plain "[I" (some 0) with kind := .array 8 .int, interfaces := #[4, 5], accessFlags := 1041 }

def heap : Heap := #[]
def classes : Array Class := #[k0, k1, k2, k3, k4, k5, k6, k7, k8, k9]
def interned : List (Array UInt16 × Addr) := []
def slotsUsed : Nat := 0
def theMethod : MethodId := ⟨1, 1⟩
def args0 : Array Value := #[.int 3, .int 7, .int 9, .int 11, .int 1, .int 2]
def aboutOver (below : List Frame) : State where
  vm := { classes := classes, interned := interned.toArray }
  heap := heap
  slotsUsed := slotsUsed
  threads := #[{ frames := .invoking theMethod args0 :: below }]
def below0 : List Frame := [.native { method := ⟨0, 0⟩, args := #[] }]
def about1 : State := aboutOver below0
def p0 : Program := .bare "" "" ""
def e0 : Env := launch0.env 0 0 0
theorem w_frames : about1.frames = Frame.invoking theMethod args0 :: below0 := rfl
set_option maxRecDepth 65536 in
theorem w_args : argsFit about1.vm theMethod args0 = true := by decide +kernel
set_option maxRecDepth 65536 in
theorem w_heap : heapFits about1 = true := by decide +kernel
set_option maxRecDepth 65536 in
theorem w_runnable : about1.curStatus? = some .runnable := by decide +kernel
set_option maxRecDepth 65536 in
theorem w_alone : about1.alone = true := by decide +kernel
set_option maxRecDepth 65536 in
theorem w_named : about1.methodNamed? x = some theMethod := by decide +kernel
set_option maxRecDepth 65536 in
theorem w_hears : about1.hears theMethod below0 = true := by decide +kernel
set_option maxRecDepth 65536 in
theorem w_ripe : about1.ripe theMethod args0 below0 = true := by decide +kernel
theorem w_running : about1.status = .running := rfl
set_option maxRecDepth 65536 in
theorem w_room : about1.hasRoom e0.platform room_1 = true :=
  launch0.hasRoom_least _ room_1 (by decide +kernel) (by decide +kernel) (by decide +kernel) (by decide +kernel) (by decide +kernel) (by decide +kernel)
theorem allAtoms_all (ts : List Jvm.Cond) (a : Array Jvm.Value) (st : Jvm.State) : (allAtoms ts).before a st = ts.all (fun c => c.before a st) := by
  induction ts with
  | nil => rfl
  | cons c t ih =>
    show (Jvm.Cond.and c (allAtoms t)).before a st = _
    rw [Jvm.Cond.before_and, ih, List.all_cons]
def words1 : List Jvm.Cond := Jvm.Cond.code x code maxLocals ret :: tables_1
/-- a 'code' word, met by the world's own term for the bytes: nothing is compared byte by byte -/
theorem code_word {y : MethodName} {bytes : ByteArray} {mx : Nat} {rt : Option FieldType} {a : Array Value} {s : State} {m : MethodId} {meth : Method} {c : Code} (h1 : s.methodNamed? y = some m) (h2 : s.vm.method? m = some meth) (h3 : meth.code = some c) (h4 : c.code = bytes)
    (h5 : (c.maxLocals == mx && c.exceptionTable.isEmpty && decide (c.maxStack ≤ mostOperands) && decide (meth.sig.returnType = rt) && !meth.locks && decide (parseMethodDescriptor y.desc = some meth.sig)) = true) : (Jvm.Cond.code y bytes mx rt).before a s = true := by
  simp only [Bool.and_eq_true, beq_iff_eq, Bool.not_eq_true', decide_eq_true_eq] at h5
  obtain ⟨⟨⟨⟨⟨g1, g2⟩, g3⟩, g4⟩, g5⟩, g6⟩ := h5
  simp [Cond.before, Cond.holds, Cond.value, h1, h2, h3, h4, g1, g2, g3, g4, g5, g6]
def isCode : Jvm.Cond → Bool
  | .code _ _ _ _ => true
  | _ => false
theorem all_split {L : List Jvm.Cond} {P : Jvm.Cond → Bool} (h1 : L.all (fun c => isCode c || P c) = true) (h2 : ∀ c ∈ L.filter isCode, P c = true) : L.all P = true := by
  refine List.all_eq_true.mpr fun c hc => ?_
  have h := List.all_eq_true.mp h1 c hc
  rcases Bool.eq_false_or_eq_true (isCode c) with hi | hi
  · exact h2 c (List.mem_filter.mpr ⟨hc, hi⟩)
  · simpa [hi] using h
set_option maxRecDepth 65536 in
theorem w_c0 : (Jvm.Cond.code x code maxLocals ret).before args0 about1 = true := code_word (m := ⟨1, 1⟩) (meth := k1m1) (c := k1c1) (by decide +kernel) rfl rfl rfl (by decide +kernel)
set_option maxRecDepth 65536 in
theorem w_c1 : (Jvm.Cond.code ({ cls := "io/quadrille/graph/Adjacency", name := "sumInPlace", desc := "([I)V" } : Jvm.MethodName) prog_18_method_10_code (2 : Nat) (Option.none : Option Jvm.ClassFile.FieldType)).before args0 about1 = true := code_word (m := ⟨3, 0⟩) (meth := k3m0) (c := k3c0) (by decide +kernel) rfl rfl rfl (by decide +kernel)
def codes1 : List Jvm.Cond := [Jvm.Cond.code x code maxLocals ret, Jvm.Cond.code ({ cls := "io/quadrille/graph/Adjacency", name := "sumInPlace", desc := "([I)V" } : Jvm.MethodName) prog_18_method_10_code (2 : Nat) (Option.none : Option Jvm.ClassFile.FieldType)]
set_option maxRecDepth 65536 in
theorem codes_eq : words1.filter isCode = codes1 := rfl
theorem w_codes : ∀ c ∈ words1.filter isCode, c.before args0 about1 = true := by
  rw [codes_eq]
  intro c hc
  simp only [codes1, List.mem_cons, List.not_mem_nil, or_false] at hc
  rcases hc with rfl | rfl
  · exact w_c0
  · exact w_c1
set_option maxRecDepth 65536 in
theorem w_t1 : words1.all (fun c => isCode c || c.before args0 about1) = true := by decide +kernel
theorem w_tables : (allAtoms (Jvm.Cond.code x code maxLocals ret :: tables_1)).before args0 about1 = true := by
  rw [allAtoms_all]
  show words1.all (fun c => c.before args0 about1) = true
  refine all_split ?_ w_codes
  rw [w_t1]
set_option maxRecDepth 65536 in
theorem w_case : (Jvm.Cond.and given_1 narrow_1).before args0 about1 = true := by decide +kernel
theorem w_applies : (headSpec (Jvm.Cond.code x code maxLocals ret :: tables_1) room_1).applies x e0.platform about1 = true :=
  (Spec.applies_iff w_frames).mpr ⟨w_running, w_runnable, w_alone, w_named, w_hears, w_ripe, w_room, w_tables⟩
theorem atStart : AtStart classFile x code maxLocals ret World_1 tables_1 room_1 Calls_1 rest_1 Pre_1 launch0 p0 e0 about1 theMethod args0 below0 :=
  ⟨lists_1, trivial, launch0.admits_env _ _ _, launch0.least_env, fairChoices_fair.cas, fairChoices_fair.clock, w_frames, w_args, w_heap, w_applies, trivial, trivial, w_case⟩
end start1
theorem witness_1 : WitnessClaimed_1 := ⟨start1.p0, start1.e0, start1.about1, start1.theMethod, start1.args0, start1.below0, start1.atStart⟩
end Jvm.Pilot.@@N@@
