import JvmDerived
import JvmDerived.Pilot.@@N@@Statement
import JvmDerived.Pilot.@@N@@Code
set_option linter.unusedVariables false
set_option linter.unusedSimpArgs false
@@BLOCK:HandJ.lean.txt@@
@@BLOCK:SymMore.lean.txt@@
namespace Jvm.RoadKit
open Sem ClassFile Op Lib Jvm.Stand Jvm.Free Jvm.LawKit
section New
variable {p : Program} {l : Launch} {e : Env} {R : Room} {s : State} {m : MethodId} {args : Array Value} {below : List Frame} {meth : Method} {c : Code} {T : State} {locs : List Loc} {cells slots : Nat}
theorem retI (X : Stand p l e R s m args below meth c T locs cells slots) (hx : p.tables.exec = Jvm.exec) {pc : Nat} {Ls : Array Slot} {z : Int32} {rest : List Value} (hret : meth.sig.returnType = some .int) (hd : decode c.code pc = .ok (.ireturn, 1)) {fs : List Frame}
    (hl : ∀ (f : JFrame) (acts : List Action), f.method = m → f.locked = none → f.entered = [] → (doReturn e (T.setTop f) acts (some (.int z))).1 = T.setFrames fs) : Steps p.tables e below (T.setTop (mkF m pc Ls (.int z :: rest))) (T.setFrames fs) := by
  have hm' : T.vm.method? m = some meth := X.method'
  have hn : narrow .int (.int z) = .int z := rfl
  show Steps p.tables e below (T.setTop { method := m, pc := pc, locals := Ls, stack := _ :: rest, locked := none }) _
  jvm_step X.here [X.here.top, hx, hd, hm', hret, hn]
  first | (intro acts; rw [hl _ acts rfl rfl rfl]) | rw [hl _ _ rfl rfl rfl]
  exact Steps.refl _
end New
end Jvm.RoadKit
namespace Jvm.Pilot.@@N@@
open Jvm Jvm.ClassFile Sem Op Lib Jvm.Free Jvm.Stand Jvm.LawKit Jvm.RoadKit Bundle Jvm.Pilot.@@N@@.Jvm.D
/-! the walk's own form: from the state S the run ends in a return that P speaks of -/
def own_Gl (tb : Tables) (e : Env) (below : List Frame) (P : Outcome → State → Prop) (S : State) : Prop := ∃ s₂ o, Steps tb e below S s₂ ∧ s₂.status = .running ∧ Ended s₂ below o ∧ P o s₂
def own_P (s : State) (Q : Option Value → Heap → List Loc → Prop) (C N : Nat) (o : Outcome) (u : State) : Prop := ∃ v L, o = .returned v ∧ Q v u.heap L ∧ FrameEnd s o u L C N
theorem own_back {tb : Tables} {e : Env} {below : List Frame} {P : Outcome → State → Prop} {S S' : State} (k : ∀ t, Steps tb e below S' t → Steps tb e below S t) (h : own_Gl tb e below P S') : own_Gl tb e below P S := by
  obtain ⟨s₂, o, h1, h2⟩ := h
  exact ⟨s₂, o, k _ h1, h2⟩
theorem own_trans {tb : Tables} {e : Env} {below : List Frame} {P : Outcome → State → Prop} {S S' : State} (k : Steps tb e below S S') (h : own_Gl tb e below P S') : own_Gl tb e below P S := own_back (fun _ q => k.trans q) h
theorem own_join {tb : Tables} {e : Env} {below : List Frame} {P : Outcome → State → Prop} {S : State} {α : Type} (F : α → State) (C : α → Prop) (tail : ∀ i, C i → own_Gl tb e below P (F i)) (main : (∀ i, C i → own_Gl tb e below P (F i)) → own_Gl tb e below P S) : own_Gl tb e below P S := main tail
section OwnRet
variable {p : Program} {l : Launch} {e : Env} {R : Room} {s : State} {m : MethodId} {args : Array Value} {below : List Frame} {meth : Method} {c : Code} {T : State} {locs : List Loc} {cells slots : Nat}
theorem own_start {C N : Nat} {Q : Option Value → Heap → List Loc → Prop} {g g' : JFrame} (q : g = g') (h : own_Gl p.tables e below (own_P s Q C N) (T.setTop g')) :
    ∃ s₂ o, Steps p.tables e below (T.setTop g) s₂ ∧ s₂.status = .running ∧ Ended s₂ below o ∧ ∃ v L, o = .returned v ∧ Q v s₂.heap L ∧ FrameEnd s o s₂ L C N := by
  subst q; exact h
theorem own_ret (X : Stand p l e R s m args below meth c T locs cells slots) (hlk : meth.locks = false) {v : Option Value} {C N : Nat} {Q : Option Value → Heap → List Loc → Prop} {g : JFrame} (hv : meth.sig.returnType = none → v = none) (hq : Q v T.heap locs) (hc : cells ≤ C) (hn : slots ≤ N)
    (st : ∀ fs, (∀ (f : JFrame) (acts : List Action), f.method = m → f.locked = none → f.entered = [] → (doReturn e (T.setTop f) acts v).1 = T.setFrames fs) → Steps p.tables e below (T.setTop g) (T.setFrames fs)) : own_Gl p.tables e below (own_P s Q C N) (T.setTop g) := by
  obtain ⟨fs, hr, hrun, hended, hW, hsame⟩ := X.leave (v := v) hv hlk
  exact ⟨_, _, st fs hr, hrun, hended, _, _, rfl, hq, ⟨_, rfl⟩, hW, hsame.mono hc hn⟩
theorem own_rZ (X : Stand p l e R s m args below meth c T locs cells slots) (hx : p.tables.exec = Jvm.exec) (hlk : meth.locks = false) (hret : meth.sig.returnType = some .boolean) {z z' : Int32} {C N pc : Nat} {Ls : Array Slot} {rest : List Value} {Q : Option Value → Heap → List Loc → Prop} (hd : decode c.code pc = .ok (.ireturn, 1)) (hz : z &&& 1 = z') (hq : Q (some (.int z')) T.heap locs) (hc : cells ≤ C) (hn : slots ≤ N) :
    own_Gl p.tables e below (own_P s Q C N) (T.setTop (mkF m pc Ls (.int z :: rest))) := by
  subst hz
  exact own_ret X hlk (fun h => by rw [hret] at h; cases h) hq hc hn (fun fs hr => retN X hx (t := .boolean) hret (by simp) hd hr)
theorem own_rC (X : Stand p l e R s m args below meth c T locs cells slots) (hx : p.tables.exec = Jvm.exec) (hlk : meth.locks = false) (hret : meth.sig.returnType = some .char) {z z' : Int32} {C N pc : Nat} {Ls : Array Slot} {rest : List Value} {Q : Option Value → Heap → List Loc → Prop} (hd : decode c.code pc = .ok (.ireturn, 1)) (hz : nar .char z = z') (hq : Q (some (.int z')) T.heap locs) (hc : cells ≤ C) (hn : slots ≤ N) :
    own_Gl p.tables e below (own_P s Q C N) (T.setTop (mkF m pc Ls (.int z :: rest))) := by
  subst hz
  exact own_ret X hlk (fun h => by rw [hret] at h; cases h) hq hc hn (fun fs hr => retN X hx (t := .char) hret (by simp) hd hr)
theorem own_rI (X : Stand p l e R s m args below meth c T locs cells slots) (hx : p.tables.exec = Jvm.exec) (hlk : meth.locks = false) (hret : meth.sig.returnType = some .int) {z : Int32} {C N pc : Nat} {Ls : Array Slot} {rest : List Value} {Q : Option Value → Heap → List Loc → Prop} (hd : decode c.code pc = .ok (.ireturn, 1)) (hq : Q (some (.int z)) T.heap locs) (hc : cells ≤ C) (hn : slots ≤ N) :
    own_Gl p.tables e below (own_P s Q C N) (T.setTop (mkF m pc Ls (.int z :: rest))) :=
  own_ret X hlk (fun h => by rw [hret] at h; cases h) hq hc hn (fun fs hr => retI X hx hret hd hr)
theorem own_rJ (X : Stand p l e R s m args below meth c T locs cells slots) (hx : p.tables.exec = Jvm.exec) (hlk : meth.locks = false) (hret : meth.sig.returnType = some .long) {z : Int64} {C N pc : Nat} {Ls : Array Slot} {rest : List Value} {Q : Option Value → Heap → List Loc → Prop} (hd : decode c.code pc = .ok (.lreturn, 1)) (hq : Q (some (.long z)) T.heap locs) (hc : cells ≤ C) (hn : slots ≤ N) :
    own_Gl p.tables e below (own_P s Q C N) (T.setTop (mkF m pc Ls (.long z :: rest))) :=
  own_ret X hlk (fun h => by rw [hret] at h; cases h) hq hc hn (fun fs hr => retOut X hx hret rfl (Or.inr (Or.inl ⟨rfl, rfl, _, rfl⟩)) hd hr)
theorem own_rA (X : Stand p l e R s m args below meth c T locs cells slots) (hx : p.tables.exec = Jvm.exec) (hlk : meth.locks = false) {t : FieldType} (hret : meth.sig.returnType = some t) (ht : t.isReference = true) {z : Value} (hz : z.isRef = true) (hnz : narrow t z = z) {C N pc : Nat} {Ls : Array Slot} {rest : List Value} {Q : Option Value → Heap → List Loc → Prop} (hd : decode c.code pc = .ok (.areturn, 1)) (hq : Q (some z) T.heap locs) (hc : cells ≤ C) (hn : slots ≤ N) :
    own_Gl p.tables e below (own_P s Q C N) (T.setTop (mkF m pc Ls (z :: rest))) :=
  own_ret X hlk (fun h => by rw [hret] at h; cases h) hq hc hn (fun fs hr => retOut X hx hret hnz (Or.inr (Or.inr (Or.inr (Or.inr ⟨rfl, ht, hz⟩)))) hd hr)
theorem own_rV (X : Stand p l e R s m args below meth c T locs cells slots) (hx : p.tables.exec = Jvm.exec) (hlk : meth.locks = false) (hret : meth.sig.returnType = none) {C N pc : Nat} {Ls : Array Slot} {Q : Option Value → Heap → List Loc → Prop} (hd : decode c.code pc = .ok (.return_, 1)) (hq : Q none T.heap locs) (hc : cells ≤ C) (hn : slots ≤ N) :
    own_Gl p.tables e below (own_P s Q C N) (T.setTop (mkF m pc Ls [])) :=
  own_ret X hlk (fun _ => rfl) hq hc hn (fun fs hr => X.returnOut hx hret hd hr)
end OwnRet
/-! a comparison made a number: branch over; iconst_1; goto; iconst_0 -/
theorem own_bi {tb : Tables} [Ours tb] {e : Env} {below : List Frame} {P : Outcome → State → Prop} {T : State} {m : MethodId} {c : Code} (h : At T m c below) (hx : tb.exec = Jvm.exec) {cd : ClassFile.Cond} {x y : Int32} {Ls : Array Slot} {rest : List Value} (pc pc1 pc2 pc3 pc4 : Nat)
    (d0 : decode c.code pc = .ok (.if_icmp cd 7, 3)) (d1 : decode c.code pc1 = .ok (.iconst 1, 1)) (d2 : decode c.code pc2 = .ok (.goto 4, 3)) (d3 : decode c.code pc3 = .ok (.iconst 0, 1)) (q1 : pc1 = pc + 3) (q2 : pc2 = pc + 4) (q3 : pc3 = pc + 7) (q4 : pc4 = pc + 8)
    (k : own_Gl tb e below P (T.setTop (mkF m pc4 Ls (.int (if if_icmp.holds cd x y = true then 0 else 1) :: rest)))) : own_Gl tb e below P (T.setTop (mkF m pc Ls (.int y :: .int x :: rest))) := by
  subst q1 q2 q3 q4
  cases hc : if_icmp.holds cd x y
  · rw [hc] at k
    refine own_back (fun t q => XS.icmpNo h hx rfl d0 rfl hc q) ?_
    refine own_back (fun t q => XS.iconst h hx rfl d1 q) ?_
    refine own_back (fun t q => XS.goto h hx rfl (pc0 := pc + 4) (pc' := pc + 8) rfl d2 (by omega) (by omega) q) ?_
    exact k
  · rw [hc] at k
    refine own_back (fun t q => XS.icmpYes h hx rfl (pc0 := pc) (pc' := pc + 7) rfl d0 rfl hc (by omega) (by omega) q) ?_
    refine own_back (fun t q => XS.iconst h hx rfl d3 q) ?_
    exact k
theorem own_bz {tb : Tables} [Ours tb] {e : Env} {below : List Frame} {P : Outcome → State → Prop} {T : State} {m : MethodId} {c : Code} (h : At T m c below) (hx : tb.exec = Jvm.exec) {cd : ClassFile.Cond} {x : Int32} {Ls : Array Slot} {rest : List Value} (pc pc1 pc2 pc3 pc4 : Nat)
    (d0 : decode c.code pc = .ok (.ifCond cd 7, 3)) (d1 : decode c.code pc1 = .ok (.iconst 1, 1)) (d2 : decode c.code pc2 = .ok (.goto 4, 3)) (d3 : decode c.code pc3 = .ok (.iconst 0, 1)) (q1 : pc1 = pc + 3) (q2 : pc2 = pc + 4) (q3 : pc3 = pc + 7) (q4 : pc4 = pc + 8)
    (k : own_Gl tb e below P (T.setTop (mkF m pc4 Ls (.int (if if_icmp.holds cd x 0 = true then 0 else 1) :: rest)))) : own_Gl tb e below P (T.setTop (mkF m pc Ls (.int x :: rest))) := by
  subst q1 q2 q3 q4
  cases hc : if_icmp.holds cd x 0
  · rw [hc] at k
    refine own_back (fun t q => XS.ifNo h hx rfl d0 rfl ((if0 _ _).trans hc) q) ?_
    refine own_back (fun t q => XS.iconst h hx rfl d1 q) ?_
    refine own_back (fun t q => XS.goto h hx rfl (pc0 := pc + 4) (pc' := pc + 8) rfl d2 (by omega) (by omega) q) ?_
    exact k
  · rw [hc] at k
    refine own_back (fun t q => XS.ifYes h hx rfl (pc0 := pc) (pc' := pc + 7) rfl d0 rfl ((if0 _ _).trans hc) (by omega) (by omega) q) ?_
    refine own_back (fun t q => XS.iconst h hx rfl d3 q) ?_
    exact k
theorem own_one {z : Int32} (h : z = 1) : z &&& 1 = 1 := by subst h; decide
theorem own_zero {z : Int32} (h : z = 0) : z &&& 1 = 0 := by subst h; decide
def own_upd (f : Nat → Int32) (i : Nat) (v : Int32) (j : Nat) : Int32 := if j = i then v else f j
def own_B (Z : State) (h : Heap) (r : Addr) (M : Nat) (f : Nat → Int32) : Prop := ∃ cl : Cell, Arr Z h r cl .byte ∧ cl.slots.size = M ∧ (∀ j, j < M → cl.slots[j]? = some (.int (f j))) ∧ ∀ j, fits .byte (.int (f j)) = true
theorem own_nat {i : Nat} (h : i < 2147483648) : ¬ (Int32.ofNat i) < 0 ∧ (Int32.ofNat i).toNatClampNeg = i ∧ (Int32.ofNat i).toInt = i := by
  have e : (Int32.ofNat i).toInt = i := Int32.toInt_ofNat_small h
  refine ⟨?_, ?_, e⟩
  · rw [Int32.lt_iff_toInt_lt, e]; have : (0 : Int32).toInt = 0 := by decide
    omega
  · show (Int32.ofNat i).toInt.toNat = i
    omega
theorem own_addn {i k : Nat} {x : Int32} (h : i + k < 2147483648) (hx : x.toInt = k) : (Int32.ofNat i) + x = Int32.ofNat (i + k) := by
  have e := c_iadd (Int32.ofNat i) x
  have r := rng32 ((Int32.ofNat i) + x)
  have q := (own_nat h).2.2
  have q2 := (own_nat (i := i) (by omega)).2.2
  rw [q2, hx] at e
  exact Int32.toInt_inj.mp (by rw [q]; omega)
theorem own_set {cl : Cell} {j i : Nat} {v : Value} (hi : i < cl.slots.size) : (cl.setSlot i v).slots[j]? = if j = i then some v else cl.slots[j]? := by
  show (cl.slots.setIfInBounds i v)[j]? = _
  rw [Array.getElem?_setIfInBounds]
  by_cases q : i = j
  · subst q; simp [hi]
  · rw [if_neg q, if_neg (fun w => q w.symm)]
theorem own_Bset {Z : State} {h h' : Heap} {r : Addr} {cl : Cell} {M i : Nat} {f : Nat → Int32} {x : Int32} (A : Arr Z h r cl .byte) (S : cl.slots.size = M) (H : ∀ j, j < M → cl.slots[j]? = some (.int (f j))) (G : ∀ j, fits .byte (.int (f j)) = true) (hi : i < M) (W : Wr h h' r i (.int (nar .byte x))) : own_B Z h' r M (own_upd f i (nar .byte x)) := by
  refine ⟨_, A.same W, by simp [Cell.setSlot, S], fun j hj => ?_, fun j => ?_⟩
  · rw [own_set (by omega)]
    by_cases q : j = i
    · rw [if_pos q, own_upd, if_pos q]
    · rw [if_neg q, own_upd, if_neg q]; exact H j hj
  · by_cases q : j = i
    · rw [own_upd, if_pos q]; exact fits_nar_byte x
    · rw [own_upd, if_neg q]; exact G j
theorem own_Bkeep {Z : State} {h h' : Heap} {r : Addr} {M : Nat} {f : Nat → Int32} {ws : List Addr} (B : own_B Z h r M f) (K : Keep h h' ws) (q : r ∉ ws) : own_B Z h' r M f := by
  obtain ⟨cl, A, S, H⟩ := B
  exact ⟨cl, ⟨K.2.1 _ _ A.1 q, A.2⟩, S, H⟩
theorem own_Bother {Z : State} {h h' : Heap} {r a : Addr} {M sl : Nat} {v : Value} {f : Nat → Int32} (B : own_B Z h r M f) (W : Wr h h' a sl v) (q : r ≠ a) : own_B Z h' r M f := by
  obtain ⟨cl, A, S, H⟩ := B
  exact ⟨cl, A.other W q, S, H⟩
theorem own_max (y : Int32) (h0 : 0 ≤ y.toInt) (h1 : y.toInt ≤ 31) : ∀ z, z = (if y < (16 : Int32) then 16 else y) → ¬ z < 0 ∧ 16 ≤ z.toNatClampNeg ∧ z.toNatClampNeg ≤ 31 := by
  intro z hz
  have e5 : z.toNatClampNeg = z.toInt.toNat := rfl
  have z0 : (0 : Int32).toInt = 0 := by decide
  have z16 : (16 : Int32).toInt = 16 := by decide
  by_cases q : y < (16 : Int32)
  · rw [if_pos q] at hz; subst hz; decide
  · rw [if_neg q] at hz; subst hz
    rw [Int32.lt_iff_toInt_lt] at q
    refine ⟨fun w => ?_, ?_, ?_⟩
    · rw [Int32.lt_iff_toInt_lt] at w; omega
    · omega
    · omega
theorem own_getD (f : Nat → Int32) (M j : Nat) (hj : j < M) (d : Value) : ((List.range M).map fun i => Value.int (f i)).getD j d = .int (f j) := by
  simp [List.getD_eq_getElem?_getD, List.getElem?_map, List.getElem?_range hj]
def own_ex (i at_ v a b : Int32) : Int32 := if i = at_ then (((v.toUInt32 >>> ((8 : Int32) &&& 31).toUInt32).toInt32).toInt8.toInt32) else if i = at_ + 1 then (v.toInt8.toInt32) else if i < 4 then ((a.toUInt32 >>> (((24 : Int32) - ((8 : Int32) * i)) &&& 31).toUInt32).toInt32).toInt8.toInt32 else ((b.toUInt32 >>> (((56 : Int32) - ((8 : Int32) * i)) &&& 31).toUInt32).toInt32).toInt8.toInt32
theorem d3_0 : decode jdk_29_method_65_code 0 = .ok (.iload_n 0, 1) := by decide +kernel
theorem d3_1 : decode jdk_29_method_65_code 1 = .ok (.iload_n 1, 1) := by decide +kernel
theorem d3_2 : decode jdk_29_method_65_code 2 = .ok (.if_icmp .lt 7, 3) := by decide +kernel
theorem d3_5 : decode jdk_29_method_65_code 5 = .ok (.iload_n 0, 1) := by decide +kernel
theorem d3_6 : decode jdk_29_method_65_code 6 = .ok (.goto 4, 3) := by decide +kernel
theorem d3_9 : decode jdk_29_method_65_code 9 = .ok (.iload_n 1, 1) := by decide +kernel
theorem d3_10 : decode jdk_29_method_65_code 10 = .ok (.ireturn, 1) := by decide +kernel
theorem pn_3 : plainFor (⟨"java/lang/Math", "max", "(II)I"⟩ : MethodName) = true := Jvm.Free.JP.mathPlain rfl (by decide +kernel)
def Qrm3 (p1 p2 : Int32) (h0 : Heap) (n0 : Nat) (v : Option Value) (h : Heap) (L : List Loc) : Prop := v = some (.int (if p1 < p2 then p2 else p1)) ∧ Fr n0 L ∧ h = h0
set_option maxRecDepth 65536 in
set_option maxHeartbeats 40000000 in
theorem rm3 (l : Launch) (Z : State) (a0 : Array Value) (hw : ∀ d ∈ tables_1, d.before a0 Z = true) (ws : List Jvm.Cond) (p1 : Int32) (p2 : Int32) (h0 : Heap) (n0 : Nat) (Z0 : n0 ≤ h0.size)  :
    MetFree l (⟨"java/lang/Math", "max", "(II)I"⟩ : MethodName) (head1 (Jvm.Cond.code (⟨"java/lang/Math", "max", "(II)I"⟩ : MethodName) jdk_29_method_65_code 2 (some .int) :: ws) ({ frames := 0, cells := 0, slots := 0, locals := 0 } : Room)) (fun a_ U_ => a_ = #[(.int p1), (.int p2)] ∧ Z.Warmed39 U_.vm ∧ U_.heap = h0) (fun _ _ _ _ _ => True) (fun _ U_ o_ U'_ => ∃ v_ L_, o_ = .returned v_ ∧ (Qrm3 p1 p2 h0 n0) v_ U'_.heap L_ ∧ FrameEnd U_ o_ U'_ L_ 0 0) := by
  refine MetFree.of_bodySF pn_3 hisR ?_
  intro p e s m args below meth c s₁ Bd hml0 hP hK
  obtain ⟨rfl, hZ, hh⟩ := hP
  have hx := Bd.exec
  have hby := Bd.bytes
  have hlk : meth.locks = false := Bd.notSynchronized
  have hml : c.maxLocals = 2 := hml0
  have hown : s.vm.findClass "java/lang/Math" = some m.cls := findClass_of_methodNamed Bd.named
  have hnm := (name_of_methodNamed Bd.named Bd.method).1
  have X0 : Stand p l e ({ frames := 0, cells := 0, slots := 0, locals := 0 } : Room) s m #[(.int p1), (.int p2)] below meth c s₁ [] 0 0 := Stand.of_body Bd
  have e0 : s₁.heap = h0 := by rw [← hh, Bd.state]; rfl
  have N0 := Fr.nil n0
  refine own_start (Q := Qrm3 p1 p2 h0 n0) (g' := (mkF m 0 #[.val (.int p1), .val (.int p2)] [])) (by first | (simp [entryFrame, mkF, argsToLocals, Value.category]; done) | rfl) ?_
  show own_Gl _ _ _ _ (s₁.setTop (mkF m 0 #[.val (.int p1), .val (.int p2)] []))
  refine own_back (fun t_ q_ => XS.iloadN X0.here hx rfl (hb hby d3_0) rfl q_) ?_
  show own_Gl _ _ _ _ (s₁.setTop (mkF m 1 #[.val (.int p1), .val (.int p2)] [(.int p1)]))
  refine own_back (fun t_ q_ => XS.iloadN X0.here hx rfl (hb hby d3_1) rfl q_) ?_
  show own_Gl _ _ _ _ (s₁.setTop (mkF m 2 #[.val (.int p1), .val (.int p2)] [(.int p2), (.int p1)]))
  by_cases hc : p1 < p2
  · skip
    refine own_back (fun t_ q_ => XS.icmpYes X0.here hx rfl (pc0 := 2) (pc' := 9) rfl (hb hby d3_2) rfl (tlt (hc : p1 < p2)).1 (by decide) (by decide) q_) ?_
    show own_Gl _ _ _ _ (s₁.setTop (mkF m 9 #[.val (.int p1), .val (.int p2)] []))
    refine own_back (fun t_ q_ => XS.iloadN X0.here hx rfl (hb hby d3_9) rfl q_) ?_
    show own_Gl _ _ _ _ (s₁.setTop (mkF m 10 #[.val (.int p1), .val (.int p2)] [(.int p2)]))
    exact own_rI X0 hx hlk Bd.returns (hb hby d3_10) (by show Qrm3 p1 p2 h0 n0 _ s₁.heap _; rw [e0]; exact ⟨by rw [if_pos hc], N0, rfl⟩) (by decide) (by decide)
  · skip
    refine own_back (fun t_ q_ => XS.icmpNo X0.here hx rfl (hb hby d3_2) rfl (flt (hc : ¬ (p1 < p2))).1 q_) ?_
    show own_Gl _ _ _ _ (s₁.setTop (mkF m 5 #[.val (.int p1), .val (.int p2)] []))
    refine own_back (fun t_ q_ => XS.iloadN X0.here hx rfl (hb hby d3_5) rfl q_) ?_
    show own_Gl _ _ _ _ (s₁.setTop (mkF m 6 #[.val (.int p1), .val (.int p2)] [(.int p1)]))
    refine own_back (fun t_ q_ => XS.goto X0.here hx rfl (pc0 := 6) (pc' := 10) rfl (hb hby d3_6) (by decide) (by decide) q_) ?_
    show own_Gl _ _ _ _ (s₁.setTop (mkF m 10 #[.val (.int p1), .val (.int p2)] [(.int p1)]))
    exact own_rI X0 hx hlk Bd.returns (hb hby d3_10) (by show Qrm3 p1 p2 h0 n0 _ s₁.heap _; rw [e0]; exact ⟨by rw [if_neg hc], N0, rfl⟩) (by decide) (by decide)
theorem d11_0 : decode jdk_29_method_69_code 0 = .ok (.iload_n 0, 1) := by decide +kernel
theorem d11_1 : decode jdk_29_method_69_code 1 = .ok (.iload_n 1, 1) := by decide +kernel
theorem d11_2 : decode jdk_29_method_69_code 2 = .ok (.if_icmp .gt 7, 3) := by decide +kernel
theorem d11_5 : decode jdk_29_method_69_code 5 = .ok (.iload_n 0, 1) := by decide +kernel
theorem d11_6 : decode jdk_29_method_69_code 6 = .ok (.goto 4, 3) := by decide +kernel
theorem d11_9 : decode jdk_29_method_69_code 9 = .ok (.iload_n 1, 1) := by decide +kernel
theorem d11_10 : decode jdk_29_method_69_code 10 = .ok (.ireturn, 1) := by decide +kernel
theorem pn_11 : plainFor (⟨"java/lang/Math", "min", "(II)I"⟩ : MethodName) = true := Jvm.Free.JP.mathPlain rfl (by decide +kernel)
def Qrm11 (p1 p2 : Int32) (h0 : Heap) (n0 : Nat) (v : Option Value) (h : Heap) (L : List Loc) : Prop := v = some (.int (if p2 < p1 then p2 else p1)) ∧ Fr n0 L ∧ h = h0
set_option maxRecDepth 65536 in
set_option maxHeartbeats 40000000 in
theorem rm11 (l : Launch) (Z : State) (a0 : Array Value) (hw : ∀ d ∈ tables_1, d.before a0 Z = true) (ws : List Jvm.Cond) (p1 : Int32) (p2 : Int32) (h0 : Heap) (n0 : Nat) (Z0 : n0 ≤ h0.size)  :
    MetFree l (⟨"java/lang/Math", "min", "(II)I"⟩ : MethodName) (head1 (Jvm.Cond.code (⟨"java/lang/Math", "min", "(II)I"⟩ : MethodName) jdk_29_method_69_code 2 (some .int) :: ws) ({ frames := 0, cells := 0, slots := 0, locals := 0 } : Room)) (fun a_ U_ => a_ = #[(.int p1), (.int p2)] ∧ Z.Warmed39 U_.vm ∧ U_.heap = h0) (fun _ _ _ _ _ => True) (fun _ U_ o_ U'_ => ∃ v_ L_, o_ = .returned v_ ∧ (Qrm11 p1 p2 h0 n0) v_ U'_.heap L_ ∧ FrameEnd U_ o_ U'_ L_ 0 0) := by
  refine MetFree.of_bodySF pn_11 hisR ?_
  intro p e s m args below meth c s₁ Bd hml0 hP hK
  obtain ⟨rfl, hZ, hh⟩ := hP
  have hx := Bd.exec
  have hby := Bd.bytes
  have hlk : meth.locks = false := Bd.notSynchronized
  have hml : c.maxLocals = 2 := hml0
  have hown : s.vm.findClass "java/lang/Math" = some m.cls := findClass_of_methodNamed Bd.named
  have hnm := (name_of_methodNamed Bd.named Bd.method).1
  have X0 : Stand p l e ({ frames := 0, cells := 0, slots := 0, locals := 0 } : Room) s m #[(.int p1), (.int p2)] below meth c s₁ [] 0 0 := Stand.of_body Bd
  have e0 : s₁.heap = h0 := by rw [← hh, Bd.state]; rfl
  have N0 := Fr.nil n0
  refine own_start (Q := Qrm11 p1 p2 h0 n0) (g' := (mkF m 0 #[.val (.int p1), .val (.int p2)] [])) (by first | (simp [entryFrame, mkF, argsToLocals, Value.category]; done) | rfl) ?_
  show own_Gl _ _ _ _ (s₁.setTop (mkF m 0 #[.val (.int p1), .val (.int p2)] []))
  refine own_back (fun t_ q_ => XS.iloadN X0.here hx rfl (hb hby d11_0) rfl q_) ?_
  show own_Gl _ _ _ _ (s₁.setTop (mkF m 1 #[.val (.int p1), .val (.int p2)] [(.int p1)]))
  refine own_back (fun t_ q_ => XS.iloadN X0.here hx rfl (hb hby d11_1) rfl q_) ?_
  show own_Gl _ _ _ _ (s₁.setTop (mkF m 2 #[.val (.int p1), .val (.int p2)] [(.int p2), (.int p1)]))
  by_cases hc : p2 < p1
  · skip
    refine own_back (fun t_ q_ => XS.icmpYes X0.here hx rfl (pc0 := 2) (pc' := 9) rfl (hb hby d11_2) rfl (tlt (hc : p2 < p1)).2.2.1 (by decide) (by decide) q_) ?_
    show own_Gl _ _ _ _ (s₁.setTop (mkF m 9 #[.val (.int p1), .val (.int p2)] []))
    refine own_back (fun t_ q_ => XS.iloadN X0.here hx rfl (hb hby d11_9) rfl q_) ?_
    show own_Gl _ _ _ _ (s₁.setTop (mkF m 10 #[.val (.int p1), .val (.int p2)] [(.int p2)]))
    exact own_rI X0 hx hlk Bd.returns (hb hby d11_10) (by show Qrm11 p1 p2 h0 n0 _ s₁.heap _; rw [e0]; exact ⟨by rw [if_pos hc], N0, rfl⟩) (by decide) (by decide)
  · skip
    refine own_back (fun t_ q_ => XS.icmpNo X0.here hx rfl (hb hby d11_2) rfl (flt (hc : ¬ (p2 < p1))).2.2.1 q_) ?_
    show own_Gl _ _ _ _ (s₁.setTop (mkF m 5 #[.val (.int p1), .val (.int p2)] []))
    refine own_back (fun t_ q_ => XS.iloadN X0.here hx rfl (hb hby d11_5) rfl q_) ?_
    show own_Gl _ _ _ _ (s₁.setTop (mkF m 6 #[.val (.int p1), .val (.int p2)] [(.int p1)]))
    refine own_back (fun t_ q_ => XS.goto X0.here hx rfl (pc0 := 6) (pc' := 10) rfl (hb hby d11_6) (by decide) (by decide) q_) ?_
    show own_Gl _ _ _ _ (s₁.setTop (mkF m 10 #[.val (.int p1), .val (.int p2)] [(.int p1)]))
    exact own_rI X0 hx hlk Bd.returns (hb hby d11_10) (by show Qrm11 p1 p2 h0 n0 _ s₁.heap _; rw [e0]; exact ⟨by rw [if_neg hc], N0, rfl⟩) (by decide) (by decide)
theorem d1_0 : decode prog_27_method_2_code 0 = .ok (.aload_n 0, 1) := by decide +kernel
theorem d1_1 : decode prog_27_method_2_code 1 = .ok (.invokespecial 7, 3) := by decide +kernel
theorem pd_0 : parseMethodDescriptor "()V" = some ⟨[], none⟩ := by decide +kernel
theorem d1_4 : decode prog_27_method_2_code 4 = .ok (.aload_n 0, 1) := by decide +kernel
theorem d1_5 : decode prog_27_method_2_code 5 = .ok (.iload_n 1, 1) := by decide +kernel
theorem d1_6 : decode prog_27_method_2_code 6 = .ok (.bipush 16, 2) := by decide +kernel
theorem d1_8 : decode prog_27_method_2_code 8 = .ok (.invokestatic 12, 3) := by decide +kernel
theorem pd_1 : parseMethodDescriptor "(II)I" = some ⟨[.int, .int], some .int⟩ := by decide +kernel
theorem d1_11 : decode prog_27_method_2_code 11 = .ok (.newarray .byte, 2) := by decide +kernel
theorem d1_13 : decode prog_27_method_2_code 13 = .ok (.putfield 18, 3) := by decide +kernel
theorem d1_16 : decode prog_27_method_2_code 16 = .ok (.return_, 1) := by decide +kernel
theorem pn_1 : plainFor (⟨"com/example/bytewright/bytewright/classfile/ClassOutput", "<init>", "(I)V"⟩ : MethodName) = true := plainFor_of_name (by first | (simp [plainName, overriddenIn]; done) | decide +kernel)
def Qrm1 (Z : State) (a1 : Addr) (h0 : Heap) (n0 : Nat) (v : Option Value) (h : Heap) (L : List Loc) : Prop := v = none ∧ Fr n0 L ∧ Keep h0 h [a1] ∧ Exa Z h a1 "com/example/bytewright/bytewright/classfile/ClassOutput" ∧ ∃ r M, n0 ≤ r ∧ 16 ≤ M ∧ M ≤ 31 ∧ Fld Z h a1 "com/example/bytewright/bytewright/classfile/ClassOutput" "bytes" "[B" (.ref r) ∧ Fld Z h a1 "com/example/bytewright/bytewright/classfile/ClassOutput" "size" "I" (.int 0) ∧ own_B Z h r M (fun _ => 0)
set_option maxRecDepth 65536 in
set_option maxHeartbeats 40000000 in
theorem rm1 (l : Launch) (Z : State) (a0 : Array Value) (hw : ∀ d ∈ tables_1, d.before a0 Z = true) (ws : List Jvm.Cond) (a1 : Addr) (p2 : Int32) (h0 : Heap) (n0 : Nat) (Z0 : n0 ≤ h0.size) (E1 : Exa Z h0 a1 "com/example/bytewright/bytewright/classfile/ClassOutput") (F1 : Fld Z h0 a1 "com/example/bytewright/bytewright/classfile/ClassOutput" "bytes" "[B" .null) (F2 : Fld Z h0 a1 "com/example/bytewright/bytewright/classfile/ClassOutput" "size" "I" (.int 0)) (g1 : n0 ≤ a1) (hp : 0 ≤ p2.toInt) (hp' : p2.toInt ≤ 31) :
    MetFree l (⟨"com/example/bytewright/bytewright/classfile/ClassOutput", "<init>", "(I)V"⟩ : MethodName) (head1 (Jvm.Cond.code (⟨"com/example/bytewright/bytewright/classfile/ClassOutput", "<init>", "(I)V"⟩ : MethodName) prog_27_method_2_code 2 none :: ws) ({ frames := 1, cells := 1, slots := 31, locals := 14 } : Room)) (fun a_ U_ => a_ = #[(.ref a1), (.int p2)] ∧ Z.Warmed39 U_.vm ∧ U_.heap = h0) (fun _ _ _ _ _ => True) (fun _ U_ o_ U'_ => ∃ v_ L_, o_ = .returned v_ ∧ (Qrm1 Z a1 h0 n0) v_ U'_.heap L_ ∧ FrameEnd U_ o_ U'_ L_ 1 31) := by
  refine MetFree.of_bodySF pn_1 hisR ?_
  intro p e s m args below meth c s₁ Bd hml0 hP hK
  obtain ⟨rfl, hZ, hh⟩ := hP
  have hx := Bd.exec
  have hby := Bd.bytes
  have hlk : meth.locks = false := Bd.notSynchronized
  have hml : c.maxLocals = 2 := hml0
  have hown : s.vm.findClass "com/example/bytewright/bytewright/classfile/ClassOutput" = some m.cls := findClass_of_methodNamed Bd.named
  have hnm := (name_of_methodNamed Bd.named Bd.method).1
  have X0 : Stand p l e ({ frames := 1, cells := 1, slots := 31, locals := 14 } : Room) s m #[(.ref a1), (.int p2)] below meth c s₁ [] 0 0 := Stand.of_body Bd
  have e0 : s₁.heap = h0 := by rw [← hh, Bd.state]; rfl
  have N0 := Fr.nil n0
  refine own_start (Q := Qrm1 Z a1 h0 n0) (g' := (mkF m 0 #[.val (.ref a1), .val (.int p2)] [])) (by first | (simp [entryFrame, mkF, argsToLocals, Value.category]; done) | rfl) ?_
  show own_Gl _ _ _ _ (s₁.setTop (mkF m 0 #[.val (.ref a1), .val (.int p2)] []))
  refine own_back (fun t_ q_ => XS.aloadN X0.here hx rfl (hb hby d1_0) rfl rfl q_) ?_
  show own_Gl _ _ _ _ (s₁.setTop (mkF m 1 #[.val (.ref a1), .val (.int p2)] [(.ref a1)]))
  obtain ⟨T1, X1, e1, st1⟩ := initO X0 hx hZ hown (hw _ (List.mem_of_getElem? (i := 7) rfl)) (hw _ (List.mem_of_getElem? (i := 8) rfl)) (hw _ (List.mem_of_getElem? (i := 9) rfl)) e0 (g := (mkF m 1 #[.val (.ref a1), .val (.int p2)] [(.ref a1)])) rfl (by rw [hml]; rfl) rfl (hb hby d1_1) (by decide) (W := 0) (by show 2 * 0 + _ ≤ _; exact Nat.le_of_eq rfl) (by decide)
  refine own_back st1 ?_
  show own_Gl _ _ _ _ (T1.setTop (mkF m 4 #[.val (.ref a1), .val (.int p2)] []))
  refine own_back (fun t_ q_ => XS.aloadN X1.here hx rfl (hb hby d1_4) rfl rfl q_) ?_
  show own_Gl _ _ _ _ (T1.setTop (mkF m 5 #[.val (.ref a1), .val (.int p2)] [(.ref a1)]))
  refine own_back (fun t_ q_ => XS.iloadN X1.here hx rfl (hb hby d1_5) rfl q_) ?_
  show own_Gl _ _ _ _ (T1.setTop (mkF m 6 #[.val (.ref a1), .val (.int p2)] [(.int p2), (.ref a1)]))
  refine own_back (fun t_ q_ => XS.bipush X1.here hx rfl (hb hby d1_6) q_) ?_
  show own_Gl _ _ _ _ (T1.setTop (mkF m 8 #[.val (.ref a1), .val (.int p2)] [(.int (16 : Int32)), (.int p2), (.ref a1)]))
  obtain ⟨_, _, ⟨T2, L2, k2, n2⟩, -, X2, ⟨Lc2, hQ2, l2, y2, z2⟩, st2⟩ := Jvm.LawKit.callS X1 hx (y := (⟨"java/lang/Math", "max", "(II)I"⟩ : MethodName)) hown (mvT hZ (hw _ (List.mem_of_getElem? (i := 10) rfl))) (mvT hZ (hw _ (List.mem_of_getElem? (i := 11) rfl))) (mvT hZ (hw _ (List.mem_of_getElem? (i := 12) rfl))) (mvT hZ (hw _ (List.mem_of_getElem? (i := 13) rfl))) (by decide) (backOf (W := 1) (rm3 l Z a0 hw [] p2 16 h0 n0 Z0) hZ (hw _ (List.mem_of_getElem? (i := 13) rfl)) (hw _ (List.mem_of_getElem? (i := 12) rfl)) (by decide) (by decide)) (g := (mkF m 8 #[.val (.ref a1), .val (.int p2)] [(.int (16 : Int32)), (.int p2), (.ref a1)])) rfl (by rw [hml]; rfl) (argsL := [(.int p2), (.int (16 : Int32))]) (rest := [(.ref a1)]) (lenOf pd_1 rfl) rfl (by show 2 * 0 + _ ≤ _; exact Nat.le_of_eq rfl) (hb hby d1_8) (fun _ _ => ⟨rfl, e1, (by decide : 0 + 0 ≤ _), (by decide : 0 + 0 ≤ _)⟩)
  dsimp only [Pt.U, Pt.locs, Pt.cells, Pt.slots] at X2 l2 y2 z2 st2 hQ2
  subst l2 y2 z2
  obtain ⟨rfl, M2, e2⟩ := hQ2
  have N2 := Fr.app N0 M2
  refine own_back st2 ?_
  show own_Gl _ _ _ _ (T2.setTop (mkF m 11 #[.val (.ref a1), .val (.int p2)] [(.int (if p2 < (16 : Int32) then 16 else p2)), (.ref a1)]))
  obtain ⟨zz, hzz⟩ : ∃ z, z = (if p2 < (16 : Int32) then 16 else p2) := ⟨_, rfl⟩
  rw [← hzz]
  show own_Gl _ _ _ _ (T2.setTop (mkF m 11 #[.val (.ref a1), .val (.int p2)] [(.int zz), (.ref a1)]))
  obtain ⟨z1, z2, z3⟩ := own_max p2 hp hp' zz hzz
  obtain ⟨T3, h3, k3, X3, e3, E3, A3, st3⟩ := newP X2 hx hZ (hw _ (List.mem_of_getElem? (i := 14) rfl)) e2 (g := (mkF m 11 #[.val (.ref a1), .val (.int p2)] [(.int zz), (.ref a1)])) rfl (hb hby d1_11) rfl z1 (cap := 31) z3 (by decide) (by decide) (by decide)
  obtain ⟨b3, g3⟩ : ∃ z, z = h0.size := ⟨_, rfl⟩
  rw [← g3] at A3 st3
  refine own_back st3 ?_
  show own_Gl _ _ _ _ (T3.setTop (mkF m 13 #[.val (.ref a1), .val (.int p2)] [(.ref b3), (.ref a1)]))
  have gb : n0 ≤ b3 := Nat.le_trans Z0 (Nat.le_of_eq g3.symm)
  have sb : h0.size ≤ b3 := Nat.le_of_eq g3.symm
  have ne1 : a1 ≠ b3 := Nat.ne_of_lt (Nat.lt_of_lt_of_le F1.lt sb)
  have A0 : Arr Z h3 b3 (newA k3 .byte zz) .byte := A3
  have B0 : own_B Z h3 b3 zz.toNatClampNeg (fun _ => 0) := ⟨_, A0, sz_new _ _ _, fun j hj => by show (Array.replicate zz.toNatClampNeg (Value.int 0))[j]? = _; rw [Array.getElem?_replicate, if_pos hj], fun j => rfl⟩
  obtain ⟨T4, h4, X4, e4, W4, st4⟩ := putF X3 hx hZ hown (host := "") (Or.inl (hw _ (List.mem_of_getElem? (i := 15) rfl))) Via.refl e3 (F1.ext E3) (E1.ext E3) (Or.inl (hw _ (List.mem_of_getElem? (i := 16) rfl))) (hw _ (List.mem_of_getElem? (i := 2) rfl)) (ty := (.array .byte)) (by decide) rfl rfl (g := (mkF m 13 #[.val (.ref a1), .val (.int p2)] [(.ref b3), (.ref a1)])) rfl rfl (hb hby d1_13)
  refine own_back st4 ?_
  have N4 := Fr.snoc X4 N2 g1
  show own_Gl _ _ _ _ (T4.setTop (mkF m 16 #[.val (.ref a1), .val (.int p2)] []))
  exact own_rV X4 hx hlk Bd.returns (hb hby d1_16) (by show Qrm1 Z a1 h0 n0 _ T4.heap _; rw [e4]; exact ⟨rfl, N4, ((Keep.refl h0 [a1]).ext E3).wr W4 (Or.inl (List.mem_singleton.mpr rfl)), (E1.ext E3).wr W4, b3, _, gb, z2, z3, (F1.ext E3).same W4, (F2.ext E3).other W4 (Or.inr (slot_ne (Or.inl (hw _ (List.mem_of_getElem? (i := 32) rfl))) (Or.inl (hw _ (List.mem_of_getElem? (i := 16) rfl))) (by decide) (t := .int) (t' := (.array .byte)) (by decide) (by decide))), own_Bother B0 W4 (Ne.symm ne1)⟩) (by decide) (by decide)
theorem d6_0 : decode prog_27_method_17_code 0 = .ok (.aload_n 0, 1) := by decide +kernel
theorem d6_1 : decode prog_27_method_17_code 1 = .ok (.getfield 25, 3) := by decide +kernel
theorem d6_4 : decode prog_27_method_17_code 4 = .ok (.iload_n 1, 1) := by decide +kernel
theorem d6_5 : decode prog_27_method_17_code 5 = .ok (.iadd, 1) := by decide +kernel
theorem d6_6 : decode prog_27_method_17_code 6 = .ok (.aload_n 0, 1) := by decide +kernel
theorem d6_7 : decode prog_27_method_17_code 7 = .ok (.getfield 18, 3) := by decide +kernel
theorem d6_10 : decode prog_27_method_17_code 10 = .ok (.arraylength, 1) := by decide +kernel
theorem d6_11 : decode prog_27_method_17_code 11 = .ok (.if_icmp .le 8, 3) := by decide +kernel
theorem d6_14 : decode prog_27_method_17_code 14 = .ok (.aload_n 0, 1) := by decide +kernel
theorem d6_15 : decode prog_27_method_17_code 15 = .ok (.iload_n 1, 1) := by decide +kernel
theorem d6_16 : decode prog_27_method_17_code 16 = .ok (.invokevirtual 81, 3) := by decide +kernel
theorem d6_19 : decode prog_27_method_17_code 19 = .ok (.return_, 1) := by decide +kernel
theorem pn_6 : plainFor (⟨"com/example/bytewright/bytewright/classfile/ClassOutput", "ensure", "(I)V"⟩ : MethodName) = true := plainFor_of_name (by first | (simp [plainName, overriddenIn]; done) | decide +kernel)
def Qrm6 (h0 : Heap) (n0 : Nat) (v : Option Value) (h : Heap) (L : List Loc) : Prop := v = none ∧ Fr n0 L ∧ h = h0
set_option maxRecDepth 65536 in
set_option maxHeartbeats 40000000 in
theorem rm6 (l : Launch) (Z : State) (a0 : Array Value) (hw : ∀ d ∈ tables_1, d.before a0 Z = true) (ws : List Jvm.Cond) (a1 : Addr) (p2 : Int32) (h0 : Heap) (n0 : Nat) (Z0 : n0 ≤ h0.size) (r : Addr) (M k : Nat) (f : Nat → Int32) (F1 : Fld Z h0 a1 "com/example/bytewright/bytewright/classfile/ClassOutput" "bytes" "[B" (.ref r)) (F2 : Fld Z h0 a1 "com/example/bytewright/bytewright/classfile/ClassOutput" "size" "I" (.int (Int32.ofNat k))) (B : own_B Z h0 r M f) (hp : p2 = 2) (hk : k + 2 ≤ M) (hM : M ≤ 31) :
    MetFree l (⟨"com/example/bytewright/bytewright/classfile/ClassOutput", "ensure", "(I)V"⟩ : MethodName) (head1 (Jvm.Cond.code (⟨"com/example/bytewright/bytewright/classfile/ClassOutput", "ensure", "(I)V"⟩ : MethodName) prog_27_method_17_code 2 none :: ws) ({ frames := 0, cells := 0, slots := 0, locals := 0 } : Room)) (fun a_ U_ => a_ = #[(.ref a1), (.int p2)] ∧ Z.Warmed39 U_.vm ∧ U_.heap = h0) (fun _ _ _ _ _ => True) (fun _ U_ o_ U'_ => ∃ v_ L_, o_ = .returned v_ ∧ (Qrm6 h0 n0) v_ U'_.heap L_ ∧ FrameEnd U_ o_ U'_ L_ 0 0) := by
  refine MetFree.of_bodySF pn_6 hisR ?_
  intro p e s m args below meth c s₁ Bd hml0 hP hK
  obtain ⟨rfl, hZ, hh⟩ := hP
  have hx := Bd.exec
  have hby := Bd.bytes
  have hlk : meth.locks = false := Bd.notSynchronized
  have hml : c.maxLocals = 2 := hml0
  have hown : s.vm.findClass "com/example/bytewright/bytewright/classfile/ClassOutput" = some m.cls := findClass_of_methodNamed Bd.named
  have hnm := (name_of_methodNamed Bd.named Bd.method).1
  have X0 : Stand p l e ({ frames := 0, cells := 0, slots := 0, locals := 0 } : Room) s m #[(.ref a1), (.int p2)] below meth c s₁ [] 0 0 := Stand.of_body Bd
  have e0 : s₁.heap = h0 := by rw [← hh, Bd.state]; rfl
  have N0 := Fr.nil n0
  refine own_start (Q := Qrm6 h0 n0) (g' := (mkF m 0 #[.val (.ref a1), .val (.int p2)] [])) (by first | (simp [entryFrame, mkF, argsToLocals, Value.category]; done) | rfl) ?_
  show own_Gl _ _ _ _ (s₁.setTop (mkF m 0 #[.val (.ref a1), .val (.int p2)] []))
  obtain ⟨cl, A, S, H⟩ := B
  refine own_back (fun t_ q_ => XS.aloadN X0.here hx rfl (hb hby d6_0) rfl rfl q_) ?_
  show own_Gl _ _ _ _ (s₁.setTop (mkF m 1 #[.val (.ref a1), .val (.int p2)] [(.ref a1)]))
  obtain ⟨T5, X5, e5, st5⟩ := getF X0 hx hZ hown (host := "") (Or.inl (hw _ (List.mem_of_getElem? (i := 31) rfl))) Via.refl e0 F2 (g := (mkF m 1 #[.val (.ref a1), .val (.int p2)] [(.ref a1)])) rfl rfl (hb hby d6_1)
  refine own_back st5 ?_
  show own_Gl _ _ _ _ (T5.setTop (mkF m 4 #[.val (.ref a1), .val (.int p2)] [(.int (Int32.ofNat k))]))
  refine own_back (fun t_ q_ => XS.iloadN X5.here hx rfl (hb hby d6_4) rfl q_) ?_
  show own_Gl _ _ _ _ (T5.setTop (mkF m 5 #[.val (.ref a1), .val (.int p2)] [(.int p2), (.int (Int32.ofNat k))]))
  refine own_back (fun t_ q_ => XS.iadd X5.here hx rfl (hb hby d6_5) rfl q_) ?_
  show own_Gl _ _ _ _ (T5.setTop (mkF m 6 #[.val (.ref a1), .val (.int p2)] [(.int ((Int32.ofNat k) + p2))]))
  refine own_back (fun t_ q_ => XS.aloadN X5.here hx rfl (hb hby d6_6) rfl rfl q_) ?_
  show own_Gl _ _ _ _ (T5.setTop (mkF m 7 #[.val (.ref a1), .val (.int p2)] [(.ref a1), (.int ((Int32.ofNat k) + p2))]))
  obtain ⟨T6, X6, e6, st6⟩ := getF X5 hx hZ hown (host := "") (Or.inl (hw _ (List.mem_of_getElem? (i := 15) rfl))) Via.refl e5 F1 (g := (mkF m 7 #[.val (.ref a1), .val (.int p2)] [(.ref a1), (.int ((Int32.ofNat k) + p2))])) rfl rfl (hb hby d6_7)
  refine own_back st6 ?_
  show own_Gl _ _ _ _ (T6.setTop (mkF m 10 #[.val (.ref a1), .val (.int p2)] [(.ref r), (.int ((Int32.ofNat k) + p2))]))
  refine own_back (fun t_ q_ => X6.arraylength hx (by rw [e6]; exact A.1) (State.isArrayOf_alike hZ.alike A.2.1) (g := (mkF m 10 #[.val (.ref a1), .val (.int p2)] [(.ref r), (.int ((Int32.ofNat k) + p2))])) rfl rfl (hb hby d6_10) t_ q_) ?_
  rw [(show cl.slots.size.toInt32 = Int32.ofNat M by rw [S] <;> rfl)]
  show own_Gl _ _ _ _ (T6.setTop (mkF m 11 #[.val (.ref a1), .val (.int p2)] [(.int (Int32.ofNat M)), (.int ((Int32.ofNat k) + p2))]))
  refine own_back (fun t_ q_ => XS.icmpYes X6.here hx rfl (pc0 := 11) (pc' := 19) rfl (hb hby d6_11) rfl (flt (fun q => by
        rw [hp, own_addn (k := 2) (by omega) (by decide), Int32.lt_iff_toInt_lt, (own_nat (i := M) (by omega)).2.2, (own_nat (i := k + 2) (by omega)).2.2] at q
        omega : ¬ ((Int32.ofNat M) < ((Int32.ofNat k) + p2)))).2.2.2 (by decide) (by decide) q_) ?_
  show own_Gl _ _ _ _ (T6.setTop (mkF m 19 #[.val (.ref a1), .val (.int p2)] []))
  exact own_rV X6 hx hlk Bd.returns (hb hby d6_19) (by show Qrm6 h0 n0 _ T6.heap _; rw [e6]; exact ⟨rfl, N0, rfl⟩) (by decide) (by decide)
theorem d5_0 : decode prog_27_method_4_code 0 = .ok (.aload_n 0, 1) := by decide +kernel
theorem d5_1 : decode prog_27_method_4_code 1 = .ok (.iconst 2, 1) := by decide +kernel
theorem d5_2 : decode prog_27_method_4_code 2 = .ok (.invokevirtual 22, 3) := by decide +kernel
theorem pd_2 : parseMethodDescriptor "(I)V" = some ⟨[.int], none⟩ := by decide +kernel
theorem d5_5 : decode prog_27_method_4_code 5 = .ok (.aload_n 0, 1) := by decide +kernel
theorem d5_6 : decode prog_27_method_4_code 6 = .ok (.getfield 18, 3) := by decide +kernel
theorem d5_9 : decode prog_27_method_4_code 9 = .ok (.aload_n 0, 1) := by decide +kernel
theorem d5_10 : decode prog_27_method_4_code 10 = .ok (.dup, 1) := by decide +kernel
theorem d5_11 : decode prog_27_method_4_code 11 = .ok (.getfield 25, 3) := by decide +kernel
theorem d5_14 : decode prog_27_method_4_code 14 = .ok (.dup_x1, 1) := by decide +kernel
theorem d5_15 : decode prog_27_method_4_code 15 = .ok (.iconst 1, 1) := by decide +kernel
theorem d5_16 : decode prog_27_method_4_code 16 = .ok (.iadd, 1) := by decide +kernel
theorem d5_17 : decode prog_27_method_4_code 17 = .ok (.putfield 25, 3) := by decide +kernel
theorem d5_20 : decode prog_27_method_4_code 20 = .ok (.iload_n 1, 1) := by decide +kernel
theorem d5_21 : decode prog_27_method_4_code 21 = .ok (.bipush 8, 2) := by decide +kernel
theorem d5_23 : decode prog_27_method_4_code 23 = .ok (.iushr, 1) := by decide +kernel
theorem d5_24 : decode prog_27_method_4_code 24 = .ok (.i2b, 1) := by decide +kernel
theorem d5_25 : decode prog_27_method_4_code 25 = .ok (.bastore, 1) := by decide +kernel
theorem d5_26 : decode prog_27_method_4_code 26 = .ok (.aload_n 0, 1) := by decide +kernel
theorem d5_27 : decode prog_27_method_4_code 27 = .ok (.getfield 18, 3) := by decide +kernel
theorem d5_30 : decode prog_27_method_4_code 30 = .ok (.aload_n 0, 1) := by decide +kernel
theorem d5_31 : decode prog_27_method_4_code 31 = .ok (.dup, 1) := by decide +kernel
theorem d5_32 : decode prog_27_method_4_code 32 = .ok (.getfield 25, 3) := by decide +kernel
theorem d5_35 : decode prog_27_method_4_code 35 = .ok (.dup_x1, 1) := by decide +kernel
theorem d5_36 : decode prog_27_method_4_code 36 = .ok (.iconst 1, 1) := by decide +kernel
theorem d5_37 : decode prog_27_method_4_code 37 = .ok (.iadd, 1) := by decide +kernel
theorem d5_38 : decode prog_27_method_4_code 38 = .ok (.putfield 25, 3) := by decide +kernel
theorem d5_41 : decode prog_27_method_4_code 41 = .ok (.iload_n 1, 1) := by decide +kernel
theorem d5_42 : decode prog_27_method_4_code 42 = .ok (.i2b, 1) := by decide +kernel
theorem d5_43 : decode prog_27_method_4_code 43 = .ok (.bastore, 1) := by decide +kernel
theorem d5_44 : decode prog_27_method_4_code 44 = .ok (.return_, 1) := by decide +kernel
theorem pn_5 : plainFor (⟨"com/example/bytewright/bytewright/classfile/ClassOutput", "u2", "(I)V"⟩ : MethodName) = true := plainFor_of_name (by first | (simp [plainName, overriddenIn]; done) | decide +kernel)
def Qrm5 (Z : State) (a1 r : Addr) (p2 : Int32) (M k : Nat) (f : Nat → Int32) (h0 : Heap) (n0 : Nat) (v : Option Value) (h : Heap) (L : List Loc) : Prop := v = none ∧ Fr n0 L ∧ Keep h0 h [a1, r] ∧ Exa Z h a1 "com/example/bytewright/bytewright/classfile/ClassOutput" ∧ Fld Z h a1 "com/example/bytewright/bytewright/classfile/ClassOutput" "bytes" "[B" (.ref r) ∧ Fld Z h a1 "com/example/bytewright/bytewright/classfile/ClassOutput" "size" "I" (.int (Int32.ofNat (k + 2))) ∧ own_B Z h r M (own_upd (own_upd f k (nar .byte (((p2.toUInt32 >>> ((8 : Int32) &&& 31).toUInt32).toInt32).toInt8.toInt32))) (k + 1) (nar .byte (p2.toInt8.toInt32)))
set_option maxRecDepth 65536 in
set_option maxHeartbeats 40000000 in
theorem rm5 (l : Launch) (Z : State) (a0 : Array Value) (hw : ∀ d ∈ tables_1, d.before a0 Z = true) (ws : List Jvm.Cond) (a1 : Addr) (p2 : Int32) (h0 : Heap) (n0 : Nat) (Z0 : n0 ≤ h0.size) (r : Addr) (M k : Nat) (f : Nat → Int32) (E1 : Exa Z h0 a1 "com/example/bytewright/bytewright/classfile/ClassOutput") (F1 : Fld Z h0 a1 "com/example/bytewright/bytewright/classfile/ClassOutput" "bytes" "[B" (.ref r)) (F2 : Fld Z h0 a1 "com/example/bytewright/bytewright/classfile/ClassOutput" "size" "I" (.int (Int32.ofNat k))) (B : own_B Z h0 r M f) (g1 : n0 ≤ a1) (g2 : n0 ≤ r) (hk : k + 2 ≤ M) (hM : M ≤ 31) :
    MetFree l (⟨"com/example/bytewright/bytewright/classfile/ClassOutput", "u2", "(I)V"⟩ : MethodName) (head1 (Jvm.Cond.code (⟨"com/example/bytewright/bytewright/classfile/ClassOutput", "u2", "(I)V"⟩ : MethodName) prog_27_method_4_code 2 none :: ws) ({ frames := 1, cells := 0, slots := 0, locals := 13 } : Room)) (fun a_ U_ => a_ = #[(.ref a1), (.int p2)] ∧ Z.Warmed39 U_.vm ∧ U_.heap = h0) (fun _ _ _ _ _ => True) (fun _ U_ o_ U'_ => ∃ v_ L_, o_ = .returned v_ ∧ (Qrm5 Z a1 r p2 M k f h0 n0) v_ U'_.heap L_ ∧ FrameEnd U_ o_ U'_ L_ 0 0) := by
  refine MetFree.of_bodySF pn_5 hisR ?_
  intro p e s m args below meth c s₁ Bd hml0 hP hK
  obtain ⟨rfl, hZ, hh⟩ := hP
  have hx := Bd.exec
  have hby := Bd.bytes
  have hlk : meth.locks = false := Bd.notSynchronized
  have hml : c.maxLocals = 2 := hml0
  have hown : s.vm.findClass "com/example/bytewright/bytewright/classfile/ClassOutput" = some m.cls := findClass_of_methodNamed Bd.named
  have hnm := (name_of_methodNamed Bd.named Bd.method).1
  have X0 : Stand p l e ({ frames := 1, cells := 0, slots := 0, locals := 13 } : Room) s m #[(.ref a1), (.int p2)] below meth c s₁ [] 0 0 := Stand.of_body Bd
  have e0 : s₁.heap = h0 := by rw [← hh, Bd.state]; rfl
  have N0 := Fr.nil n0
  refine own_start (Q := Qrm5 Z a1 r p2 M k f h0 n0) (g' := (mkF m 0 #[.val (.ref a1), .val (.int p2)] [])) (by first | (simp [entryFrame, mkF, argsToLocals, Value.category]; done) | rfl) ?_
  show own_Gl _ _ _ _ (s₁.setTop (mkF m 0 #[.val (.ref a1), .val (.int p2)] []))
  have ne1 : a1 ≠ r := by obtain ⟨cl, A, -⟩ := B; exact ne_arr E1 (hw _ (List.mem_of_getElem? (i := 2) rfl)) A
  refine own_back (fun t_ q_ => XS.aloadN X0.here hx rfl (hb hby d5_0) rfl rfl q_) ?_
  show own_Gl _ _ _ _ (s₁.setTop (mkF m 1 #[.val (.ref a1), .val (.int p2)] [(.ref a1)]))
  refine own_back (fun t_ q_ => XS.iconst X0.here hx rfl (hb hby d5_1) q_) ?_
  show own_Gl _ _ _ _ (s₁.setTop (mkF m 2 #[.val (.ref a1), .val (.int p2)] [(.int (2 : Int32)), (.ref a1)]))
  obtain ⟨cq7, q7, q7'⟩ := (E1).cell
  obtain ⟨_, _, ⟨T7, L7, k7, n7⟩, -, X7, ⟨Lc7, hQ7, l7, y7, z7⟩, st7⟩ := X0.privateBack hx (y := (⟨"com/example/bytewright/bytewright/classfile/ClassOutput", "ensure", "(I)V"⟩ : MethodName)) hown (mvT hZ (hw _ (List.mem_of_getElem? (i := 27) rfl))) (mvT hZ (hw _ (List.mem_of_getElem? (i := 28) rfl))) (Jvm.Kit.selects_private (by decide) (mvT hZ (hw _ (List.mem_of_getElem? (i := 2) rfl)) (args := #[])) (mvP hZ (hw _ (List.mem_of_getElem? (i := 29) rfl)) (args := #[])) (mvT hZ (hw _ (List.mem_of_getElem? (i := 28) rfl)) (args := #[]))) (Cond.privateMethod_at (mvP hZ (hw _ (List.mem_of_getElem? (i := 29) rfl)) (args := #[]))) (mvT hZ (hw _ (List.mem_of_getElem? (i := 30) rfl))) (by decide) (backOf (W := 0) (rm6 l Z a0 hw [] a1 2 h0 n0 Z0 r M k f F1 F2 B rfl hk hM) hZ (hw _ (List.mem_of_getElem? (i := 30) rfl)) (hw _ (List.mem_of_getElem? (i := 3) rfl)) (by decide) (by decide)) (g := (mkF m 2 #[.val (.ref a1), .val (.int p2)] [(.int (2 : Int32)), (.ref a1)])) rfl (by rw [hml]; rfl) (Steps.refl _) (a := a1) (by rw [e0]; exact q7) q7' (argsL := [(.int (2 : Int32))]) (rest := []) (lenOf pd_2 rfl) rfl (by show 2 * 0 + _ ≤ _; exact Nat.le_of_eq rfl) (hb hby d5_2) (fun _ _ => ⟨rfl, e0, (by decide : 0 + 0 ≤ _), (by decide : 0 + 0 ≤ _)⟩)
  dsimp only [Pt.U, Pt.locs, Pt.cells, Pt.slots] at X7 l7 y7 z7 st7 hQ7
  subst l7 y7 z7
  obtain ⟨rfl, M7, e7⟩ := hQ7
  have N7 := Fr.app N0 M7
  refine own_trans st7 ?_
  show own_Gl _ _ _ _ (T7.setTop (mkF m 5 #[.val (.ref a1), .val (.int p2)] []))
  have KK := Keep.refl h0 [a1, r]
  refine own_back (fun t_ q_ => XS.aloadN X7.here hx rfl (hb hby d5_5) rfl rfl q_) ?_
  show own_Gl _ _ _ _ (T7.setTop (mkF m 6 #[.val (.ref a1), .val (.int p2)] [(.ref a1)]))
  obtain ⟨T8, X8, e8, st8⟩ := getF X7 hx hZ hown (host := "") (Or.inl (hw _ (List.mem_of_getElem? (i := 15) rfl))) Via.refl e7 F1 (g := (mkF m 6 #[.val (.ref a1), .val (.int p2)] [(.ref a1)])) rfl rfl (hb hby d5_6)
  refine own_back st8 ?_
  show own_Gl _ _ _ _ (T8.setTop (mkF m 9 #[.val (.ref a1), .val (.int p2)] [(.ref r)]))
  refine own_back (fun t_ q_ => XS.aloadN X8.here hx rfl (hb hby d5_9) rfl rfl q_) ?_
  show own_Gl _ _ _ _ (T8.setTop (mkF m 10 #[.val (.ref a1), .val (.int p2)] [(.ref a1), (.ref r)]))
  refine own_back (fun t_ q_ => XS.dup X8.here hx rfl (hb hby d5_10) rfl rfl q_) ?_
  show own_Gl _ _ _ _ (T8.setTop (mkF m 11 #[.val (.ref a1), .val (.int p2)] [(.ref a1), (.ref a1), (.ref r)]))
  obtain ⟨T9, X9, e9, st9⟩ := getF X8 hx hZ hown (host := "") (Or.inl (hw _ (List.mem_of_getElem? (i := 31) rfl))) Via.refl e8 F2 (g := (mkF m 11 #[.val (.ref a1), .val (.int p2)] [(.ref a1), (.ref a1), (.ref r)])) rfl rfl (hb hby d5_11)
  refine own_back st9 ?_
  show own_Gl _ _ _ _ (T9.setTop (mkF m 14 #[.val (.ref a1), .val (.int p2)] [(.int (Int32.ofNat (k))), (.ref a1), (.ref r)]))
  refine own_back (fun t_ q_ => XS.dupX1 X9.here hx rfl (hb hby d5_14) rfl rfl rfl q_) ?_
  show own_Gl _ _ _ _ (T9.setTop (mkF m 15 #[.val (.ref a1), .val (.int p2)] [(.int (Int32.ofNat (k))), (.ref a1), (.int (Int32.ofNat (k))), (.ref r)]))
  refine own_back (fun t_ q_ => XS.iconst X9.here hx rfl (hb hby d5_15) q_) ?_
  show own_Gl _ _ _ _ (T9.setTop (mkF m 16 #[.val (.ref a1), .val (.int p2)] [(.int (1 : Int32)), (.int (Int32.ofNat (k))), (.ref a1), (.int (Int32.ofNat (k))), (.ref r)]))
  refine own_back (fun t_ q_ => XS.iadd X9.here hx rfl (hb hby d5_16) rfl q_) ?_
  show own_Gl _ _ _ _ (T9.setTop (mkF m 17 #[.val (.ref a1), .val (.int p2)] [(.int ((Int32.ofNat (k)) + (1 : Int32))), (.ref a1), (.int (Int32.ofNat (k))), (.ref r)]))
  rw [own_addn (i := k) (k := 1) (by omega) (by decide)]
  show own_Gl _ _ _ _ (T9.setTop (mkF m 17 #[.val (.ref a1), .val (.int p2)] [(.int (Int32.ofNat (k + 1))), (.ref a1), (.int (Int32.ofNat (k))), (.ref r)]))
  obtain ⟨T10, h10, X10, e10, W10, st10⟩ := putF X9 hx hZ hown (host := "") (Or.inl (hw _ (List.mem_of_getElem? (i := 31) rfl))) Via.refl e9 F2 E1 (Or.inl (hw _ (List.mem_of_getElem? (i := 32) rfl))) (hw _ (List.mem_of_getElem? (i := 2) rfl)) (ty := .int) (by decide) rfl rfl (g := (mkF m 17 #[.val (.ref a1), .val (.int p2)] [(.int (Int32.ofNat (k + 1))), (.ref a1), (.int (Int32.ofNat (k))), (.ref r)])) rfl rfl (hb hby d5_17)
  refine own_back st10 ?_
  have N10 := Fr.snoc X10 N7 g1
  show own_Gl _ _ _ _ (T10.setTop (mkF m 20 #[.val (.ref a1), .val (.int p2)] [(.int (Int32.ofNat (k))), (.ref r)]))
  refine own_back (fun t_ q_ => XS.iloadN X10.here hx rfl (hb hby d5_20) rfl q_) ?_
  show own_Gl _ _ _ _ (T10.setTop (mkF m 21 #[.val (.ref a1), .val (.int p2)] [(.int p2), (.int (Int32.ofNat (k))), (.ref r)]))
  refine own_back (fun t_ q_ => XS.bipush X10.here hx rfl (hb hby d5_21) q_) ?_
  show own_Gl _ _ _ _ (T10.setTop (mkF m 23 #[.val (.ref a1), .val (.int p2)] [(.int (8 : Int32)), (.int p2), (.int (Int32.ofNat (k))), (.ref r)]))
  refine own_back (fun t_ q_ => XS.iushr X10.here hx rfl (hb hby d5_23) rfl q_) ?_
  show own_Gl _ _ _ _ (T10.setTop (mkF m 24 #[.val (.ref a1), .val (.int p2)] [(.int ((p2.toUInt32 >>> ((8 : Int32) &&& 31).toUInt32).toInt32)), (.int (Int32.ofNat (k))), (.ref r)]))
  refine own_back (fun t_ q_ => XS.i2b X10.here hx rfl (hb hby d5_24) rfl q_) ?_
  show own_Gl _ _ _ _ (T10.setTop (mkF m 25 #[.val (.ref a1), .val (.int p2)] [(.int (((p2.toUInt32 >>> ((8 : Int32) &&& 31).toUInt32).toInt32).toInt8.toInt32)), (.int (Int32.ofNat (k))), (.ref r)]))
  obtain ⟨n1, n2, n3⟩ := own_nat (i := k) (by omega)
  obtain ⟨cl10, A10, S10, H10, G10⟩ := own_Bother B W10 (Ne.symm ne1)
  have hin10 : ¬ ((Int32.ofNat (k)) < 0 ∨ cl10.slots.size ≤ (Int32.ofNat (k)).toNatClampNeg) := by rw [n2, S10]; exact fun q => q.elim n1 (by omega)
  obtain ⟨T11, h11, X11, e11, W11, st11⟩ := stB X10 hx hZ e10 A10 (j := (Int32.ofNat (k))) hin10 (g := (mkF m 25 #[.val (.ref a1), .val (.int p2)] [(.int (((p2.toUInt32 >>> ((8 : Int32) &&& 31).toUInt32).toInt32).toInt8.toInt32)), (.int (Int32.ofNat (k))), (.ref r)])) rfl rfl (hb hby d5_25)
  refine own_back st11 ?_
  have N11 := Fr.snoc X11 N10 g2
  show own_Gl _ _ _ _ (T11.setTop (mkF m 26 #[.val (.ref a1), .val (.int p2)] []))
  rw [n2] at W11
  have B11 := own_Bset A10 S10 H10 G10 (by omega) W11
  have F1_11 := (F1.other W10 (Or.inr (slot_ne (Or.inl (hw _ (List.mem_of_getElem? (i := 16) rfl))) (Or.inl (hw _ (List.mem_of_getElem? (i := 32) rfl))) (by decide) (t := (.array .byte)) (t' := .int) (by decide) (by decide)))).other W11 (Or.inl ne1)
  have F2_11 := (F2.same W10).other W11 (Or.inl ne1)
  have E_11 := (E1.wr W10).wr W11
  have K_11 := (KK.wr W10 (Or.inl (List.mem_cons_self ..))).wr W11 (Or.inl (List.mem_cons_of_mem _ (List.mem_cons_self ..)))
  refine own_back (fun t_ q_ => XS.aloadN X11.here hx rfl (hb hby d5_26) rfl rfl q_) ?_
  show own_Gl _ _ _ _ (T11.setTop (mkF m 27 #[.val (.ref a1), .val (.int p2)] [(.ref a1)]))
  obtain ⟨T12, X12, e12, st12⟩ := getF X11 hx hZ hown (host := "") (Or.inl (hw _ (List.mem_of_getElem? (i := 15) rfl))) Via.refl e11 F1_11 (g := (mkF m 27 #[.val (.ref a1), .val (.int p2)] [(.ref a1)])) rfl rfl (hb hby d5_27)
  refine own_back st12 ?_
  show own_Gl _ _ _ _ (T12.setTop (mkF m 30 #[.val (.ref a1), .val (.int p2)] [(.ref r)]))
  refine own_back (fun t_ q_ => XS.aloadN X12.here hx rfl (hb hby d5_30) rfl rfl q_) ?_
  show own_Gl _ _ _ _ (T12.setTop (mkF m 31 #[.val (.ref a1), .val (.int p2)] [(.ref a1), (.ref r)]))
  refine own_back (fun t_ q_ => XS.dup X12.here hx rfl (hb hby d5_31) rfl rfl q_) ?_
  show own_Gl _ _ _ _ (T12.setTop (mkF m 32 #[.val (.ref a1), .val (.int p2)] [(.ref a1), (.ref a1), (.ref r)]))
  obtain ⟨T13, X13, e13, st13⟩ := getF X12 hx hZ hown (host := "") (Or.inl (hw _ (List.mem_of_getElem? (i := 31) rfl))) Via.refl e12 F2_11 (g := (mkF m 32 #[.val (.ref a1), .val (.int p2)] [(.ref a1), (.ref a1), (.ref r)])) rfl rfl (hb hby d5_32)
  refine own_back st13 ?_
  show own_Gl _ _ _ _ (T13.setTop (mkF m 35 #[.val (.ref a1), .val (.int p2)] [(.int (Int32.ofNat (k + 1))), (.ref a1), (.ref r)]))
  refine own_back (fun t_ q_ => XS.dupX1 X13.here hx rfl (hb hby d5_35) rfl rfl rfl q_) ?_
  show own_Gl _ _ _ _ (T13.setTop (mkF m 36 #[.val (.ref a1), .val (.int p2)] [(.int (Int32.ofNat (k + 1))), (.ref a1), (.int (Int32.ofNat (k + 1))), (.ref r)]))
  refine own_back (fun t_ q_ => XS.iconst X13.here hx rfl (hb hby d5_36) q_) ?_
  show own_Gl _ _ _ _ (T13.setTop (mkF m 37 #[.val (.ref a1), .val (.int p2)] [(.int (1 : Int32)), (.int (Int32.ofNat (k + 1))), (.ref a1), (.int (Int32.ofNat (k + 1))), (.ref r)]))
  refine own_back (fun t_ q_ => XS.iadd X13.here hx rfl (hb hby d5_37) rfl q_) ?_
  show own_Gl _ _ _ _ (T13.setTop (mkF m 38 #[.val (.ref a1), .val (.int p2)] [(.int ((Int32.ofNat (k + 1)) + (1 : Int32))), (.ref a1), (.int (Int32.ofNat (k + 1))), (.ref r)]))
  rw [own_addn (i := k + 1) (k := 1) (by omega) (by decide)]
  show own_Gl _ _ _ _ (T13.setTop (mkF m 38 #[.val (.ref a1), .val (.int p2)] [(.int (Int32.ofNat (k + 1 + 1))), (.ref a1), (.int (Int32.ofNat (k + 1))), (.ref r)]))
  obtain ⟨T14, h14, X14, e14, W14, st14⟩ := putF X13 hx hZ hown (host := "") (Or.inl (hw _ (List.mem_of_getElem? (i := 31) rfl))) Via.refl e13 F2_11 E_11 (Or.inl (hw _ (List.mem_of_getElem? (i := 32) rfl))) (hw _ (List.mem_of_getElem? (i := 2) rfl)) (ty := .int) (by decide) rfl rfl (g := (mkF m 38 #[.val (.ref a1), .val (.int p2)] [(.int (Int32.ofNat (k + 1 + 1))), (.ref a1), (.int (Int32.ofNat (k + 1))), (.ref r)])) rfl rfl (hb hby d5_38)
  refine own_back st14 ?_
  have N14 := Fr.snoc X14 N11 g1
  show own_Gl _ _ _ _ (T14.setTop (mkF m 41 #[.val (.ref a1), .val (.int p2)] [(.int (Int32.ofNat (k + 1))), (.ref r)]))
  refine own_back (fun t_ q_ => XS.iloadN X14.here hx rfl (hb hby d5_41) rfl q_) ?_
  show own_Gl _ _ _ _ (T14.setTop (mkF m 42 #[.val (.ref a1), .val (.int p2)] [(.int p2), (.int (Int32.ofNat (k + 1))), (.ref r)]))
  refine own_back (fun t_ q_ => XS.i2b X14.here hx rfl (hb hby d5_42) rfl q_) ?_
  show own_Gl _ _ _ _ (T14.setTop (mkF m 43 #[.val (.ref a1), .val (.int p2)] [(.int (p2.toInt8.toInt32)), (.int (Int32.ofNat (k + 1))), (.ref r)]))
  obtain ⟨n1, n2, n3⟩ := own_nat (i := k + 1) (by omega)
  obtain ⟨cl14, A14, S14, H14, G14⟩ := own_Bother B11 W14 (Ne.symm ne1)
  have hin14 : ¬ ((Int32.ofNat (k + 1)) < 0 ∨ cl14.slots.size ≤ (Int32.ofNat (k + 1)).toNatClampNeg) := by rw [n2, S14]; exact fun q => q.elim n1 (by omega)
  obtain ⟨T15, h15, X15, e15, W15, st15⟩ := stB X14 hx hZ e14 A14 (j := (Int32.ofNat (k + 1))) hin14 (g := (mkF m 43 #[.val (.ref a1), .val (.int p2)] [(.int (p2.toInt8.toInt32)), (.int (Int32.ofNat (k + 1))), (.ref r)])) rfl rfl (hb hby d5_43)
  refine own_back st15 ?_
  have N15 := Fr.snoc X15 N14 g2
  show own_Gl _ _ _ _ (T15.setTop (mkF m 44 #[.val (.ref a1), .val (.int p2)] []))
  rw [n2] at W15
  have B15 := own_Bset A14 S14 H14 G14 (by omega) W15
  have F1_15 := (F1_11.other W14 (Or.inr (slot_ne (Or.inl (hw _ (List.mem_of_getElem? (i := 16) rfl))) (Or.inl (hw _ (List.mem_of_getElem? (i := 32) rfl))) (by decide) (t := (.array .byte)) (t' := .int) (by decide) (by decide)))).other W15 (Or.inl ne1)
  have F2_15 := (F2_11.same W14).other W15 (Or.inl ne1)
  have E_15 := (E_11.wr W14).wr W15
  have K_15 := (K_11.wr W14 (Or.inl (List.mem_cons_self ..))).wr W15 (Or.inl (List.mem_cons_of_mem _ (List.mem_cons_self ..)))
  exact own_rV X15 hx hlk Bd.returns (hb hby d5_44) (by show Qrm5 Z a1 r p2 M k f h0 n0 _ T15.heap _; rw [e15]; exact ⟨rfl, N15, K_15, E_15, F1_15, F2_15, B15⟩) (by decide) (by decide)
theorem d4_0 : decode prog_27_method_5_code 0 = .ok (.aload_n 0, 1) := by decide +kernel
theorem d4_1 : decode prog_27_method_5_code 1 = .ok (.iload_n 1, 1) := by decide +kernel
theorem d4_2 : decode prog_27_method_5_code 2 = .ok (.bipush 16, 2) := by decide +kernel
theorem d4_4 : decode prog_27_method_5_code 4 = .ok (.iushr, 1) := by decide +kernel
theorem d4_5 : decode prog_27_method_5_code 5 = .ok (.invokevirtual 29, 3) := by decide +kernel
theorem d4_8 : decode prog_27_method_5_code 8 = .ok (.aload_n 0, 1) := by decide +kernel
theorem d4_9 : decode prog_27_method_5_code 9 = .ok (.iload_n 1, 1) := by decide +kernel
theorem d4_10 : decode prog_27_method_5_code 10 = .ok (.invokevirtual 29, 3) := by decide +kernel
theorem d4_13 : decode prog_27_method_5_code 13 = .ok (.return_, 1) := by decide +kernel
theorem pn_4 : plainFor (⟨"com/example/bytewright/bytewright/classfile/ClassOutput", "u4", "(I)V"⟩ : MethodName) = true := plainFor_of_name (by first | (simp [plainName, overriddenIn]; done) | decide +kernel)
def Qrm4 (Z : State) (a1 r : Addr) (p2 : Int32) (M k : Nat) (f : Nat → Int32) (h0 : Heap) (n0 : Nat) (v : Option Value) (h : Heap) (L : List Loc) : Prop := v = none ∧ Fr n0 L ∧ Keep h0 h [a1, r] ∧ Exa Z h a1 "com/example/bytewright/bytewright/classfile/ClassOutput" ∧ Fld Z h a1 "com/example/bytewright/bytewright/classfile/ClassOutput" "bytes" "[B" (.ref r) ∧ Fld Z h a1 "com/example/bytewright/bytewright/classfile/ClassOutput" "size" "I" (.int (Int32.ofNat (k + 2 + 2))) ∧ own_B Z h r M (own_upd (own_upd (own_upd (own_upd f (k) (nar .byte (((((p2.toUInt32 >>> ((16 : Int32) &&& 31).toUInt32).toInt32).toUInt32 >>> ((8 : Int32) &&& 31).toUInt32).toInt32).toInt8.toInt32))) (k + 1) (nar .byte (((p2.toUInt32 >>> ((16 : Int32) &&& 31).toUInt32).toInt32).toInt8.toInt32))) (k + 2) (nar .byte (((p2.toUInt32 >>> ((8 : Int32) &&& 31).toUInt32).toInt32).toInt8.toInt32))) (k + 2 + 1) (nar .byte (p2.toInt8.toInt32)))
set_option maxRecDepth 65536 in
set_option maxHeartbeats 40000000 in
theorem rm4 (l : Launch) (Z : State) (a0 : Array Value) (hw : ∀ d ∈ tables_1, d.before a0 Z = true) (ws : List Jvm.Cond) (a1 : Addr) (p2 : Int32) (h0 : Heap) (n0 : Nat) (Z0 : n0 ≤ h0.size) (r : Addr) (M k : Nat) (f : Nat → Int32) (E1 : Exa Z h0 a1 "com/example/bytewright/bytewright/classfile/ClassOutput") (F1 : Fld Z h0 a1 "com/example/bytewright/bytewright/classfile/ClassOutput" "bytes" "[B" (.ref r)) (F2 : Fld Z h0 a1 "com/example/bytewright/bytewright/classfile/ClassOutput" "size" "I" (.int (Int32.ofNat k))) (B : own_B Z h0 r M f) (g1 : n0 ≤ a1) (g2 : n0 ≤ r) (hk : k + 4 ≤ M) (hM : M ≤ 31) :
    MetFree l (⟨"com/example/bytewright/bytewright/classfile/ClassOutput", "u4", "(I)V"⟩ : MethodName) (head1 (Jvm.Cond.code (⟨"com/example/bytewright/bytewright/classfile/ClassOutput", "u4", "(I)V"⟩ : MethodName) prog_27_method_5_code 2 none :: ws) ({ frames := 2, cells := 0, slots := 0, locals := 26 } : Room)) (fun a_ U_ => a_ = #[(.ref a1), (.int p2)] ∧ Z.Warmed39 U_.vm ∧ U_.heap = h0) (fun _ _ _ _ _ => True) (fun _ U_ o_ U'_ => ∃ v_ L_, o_ = .returned v_ ∧ (Qrm4 Z a1 r p2 M k f h0 n0) v_ U'_.heap L_ ∧ FrameEnd U_ o_ U'_ L_ 0 0) := by
  refine MetFree.of_bodySF pn_4 hisR ?_
  intro p e s m args below meth c s₁ Bd hml0 hP hK
  obtain ⟨rfl, hZ, hh⟩ := hP
  have hx := Bd.exec
  have hby := Bd.bytes
  have hlk : meth.locks = false := Bd.notSynchronized
  have hml : c.maxLocals = 2 := hml0
  have hown : s.vm.findClass "com/example/bytewright/bytewright/classfile/ClassOutput" = some m.cls := findClass_of_methodNamed Bd.named
  have hnm := (name_of_methodNamed Bd.named Bd.method).1
  have X0 : Stand p l e ({ frames := 2, cells := 0, slots := 0, locals := 26 } : Room) s m #[(.ref a1), (.int p2)] below meth c s₁ [] 0 0 := Stand.of_body Bd
  have e0 : s₁.heap = h0 := by rw [← hh, Bd.state]; rfl
  have N0 := Fr.nil n0
  refine own_start (Q := Qrm4 Z a1 r p2 M k f h0 n0) (g' := (mkF m 0 #[.val (.ref a1), .val (.int p2)] [])) (by first | (simp [entryFrame, mkF, argsToLocals, Value.category]; done) | rfl) ?_
  show own_Gl _ _ _ _ (s₁.setTop (mkF m 0 #[.val (.ref a1), .val (.int p2)] []))
  refine own_back (fun t_ q_ => XS.aloadN X0.here hx rfl (hb hby d4_0) rfl rfl q_) ?_
  show own_Gl _ _ _ _ (s₁.setTop (mkF m 1 #[.val (.ref a1), .val (.int p2)] [(.ref a1)]))
  refine own_back (fun t_ q_ => XS.iloadN X0.here hx rfl (hb hby d4_1) rfl q_) ?_
  show own_Gl _ _ _ _ (s₁.setTop (mkF m 2 #[.val (.ref a1), .val (.int p2)] [(.int p2), (.ref a1)]))
  refine own_back (fun t_ q_ => XS.bipush X0.here hx rfl (hb hby d4_2) q_) ?_
  show own_Gl _ _ _ _ (s₁.setTop (mkF m 4 #[.val (.ref a1), .val (.int p2)] [(.int (16 : Int32)), (.int p2), (.ref a1)]))
  refine own_back (fun t_ q_ => XS.iushr X0.here hx rfl (hb hby d4_4) rfl q_) ?_
  show own_Gl _ _ _ _ (s₁.setTop (mkF m 5 #[.val (.ref a1), .val (.int p2)] [(.int ((p2.toUInt32 >>> ((16 : Int32) &&& 31).toUInt32).toInt32)), (.ref a1)]))
  obtain ⟨cq16, kq16, q16a, q16b, q16c⟩ := isOf hZ e0 E1
  obtain ⟨_, _, ⟨T16, L16, k16, n16⟩, -, X16, ⟨Lc16, hQ16, l16, y16, z16⟩, st16⟩ := X0.virtualBack hx (y := (⟨"com/example/bytewright/bytewright/classfile/ClassOutput", "u2", "(I)V"⟩ : MethodName)) (z := (⟨"com/example/bytewright/bytewright/classfile/ClassOutput", "u2", "(I)V"⟩ : MethodName)) hown (mvT hZ (hw _ (List.mem_of_getElem? (i := 22) rfl))) (mvT hZ (hw _ (List.mem_of_getElem? (i := 23) rfl))) (notFace_of_selects (args := #[]) (mvT hZ (hw _ (List.mem_of_getElem? (i := 25) rfl)))) (mvT hZ (hw _ (List.mem_of_getElem? (i := 25) rfl))) (mvT hZ (hw _ (List.mem_of_getElem? (i := 24) rfl))) (by decide) (backOf (W := 0) (rm5 l Z a0 hw [] a1 ((p2.toUInt32 >>> ((16 : Int32) &&& 31).toUInt32).toInt32) h0 n0 Z0 r M k f E1 F1 F2 B g1 g2 (by omega) hM) hZ (hw _ (List.mem_of_getElem? (i := 26) rfl)) (hw _ (List.mem_of_getElem? (i := 3) rfl)) (by decide) (by decide)) q16a q16c (g := (mkF m 5 #[.val (.ref a1), .val (.int p2)] [(.int ((p2.toUInt32 >>> ((16 : Int32) &&& 31).toUInt32).toInt32)), (.ref a1)])) rfl (by rw [hml]; rfl) (Steps.refl _) (argsL := [(.int ((p2.toUInt32 >>> ((16 : Int32) &&& 31).toUInt32).toInt32))]) (rest := []) (lenOf pd_2 rfl) rfl (by show 2 * 0 + _ ≤ _; exact Nat.le_of_eq rfl) (hb hby d4_5) (fun _ _ => ⟨rfl, e0, (by decide : 0 + 0 ≤ _), (by decide : 0 + 0 ≤ _)⟩)
  dsimp only [Pt.U, Pt.locs, Pt.cells, Pt.slots] at X16 l16 y16 z16 st16 hQ16
  subst l16 y16 z16
  obtain ⟨rfl, M16, K16, Ea16, Fa16, Fb16, B16⟩ := hQ16
  have N16 := Fr.app N0 M16
  refine own_trans st16 ?_
  show own_Gl _ _ _ _ (T16.setTop (mkF m 8 #[.val (.ref a1), .val (.int p2)] []))
  have Z1 : n0 ≤ T16.heap.size := Nat.le_trans Z0 K16.1
  refine own_back (fun t_ q_ => XS.aloadN X16.here hx rfl (hb hby d4_8) rfl rfl q_) ?_
  show own_Gl _ _ _ _ (T16.setTop (mkF m 9 #[.val (.ref a1), .val (.int p2)] [(.ref a1)]))
  refine own_back (fun t_ q_ => XS.iloadN X16.here hx rfl (hb hby d4_9) rfl q_) ?_
  show own_Gl _ _ _ _ (T16.setTop (mkF m 10 #[.val (.ref a1), .val (.int p2)] [(.int p2), (.ref a1)]))
  obtain ⟨cq17, kq17, q17a, q17b, q17c⟩ := isOf hZ rfl Ea16
  obtain ⟨_, _, ⟨T17, L17, k17, n17⟩, -, X17, ⟨Lc17, hQ17, l17, y17, z17⟩, st17⟩ := X16.virtualBack hx (y := (⟨"com/example/bytewright/bytewright/classfile/ClassOutput", "u2", "(I)V"⟩ : MethodName)) (z := (⟨"com/example/bytewright/bytewright/classfile/ClassOutput", "u2", "(I)V"⟩ : MethodName)) hown (mvT hZ (hw _ (List.mem_of_getElem? (i := 22) rfl))) (mvT hZ (hw _ (List.mem_of_getElem? (i := 23) rfl))) (notFace_of_selects (args := #[]) (mvT hZ (hw _ (List.mem_of_getElem? (i := 25) rfl)))) (mvT hZ (hw _ (List.mem_of_getElem? (i := 25) rfl))) (mvT hZ (hw _ (List.mem_of_getElem? (i := 24) rfl))) (by decide) (backOf (W := 0) (rm5 l Z a0 hw [] a1 p2 T16.heap n0 Z1 r M (k + 2) _ Ea16 Fa16 Fb16 B16 g1 g2 (by omega) hM) hZ (hw _ (List.mem_of_getElem? (i := 26) rfl)) (hw _ (List.mem_of_getElem? (i := 3) rfl)) (by decide) (by decide)) q17a q17c (g := (mkF m 10 #[.val (.ref a1), .val (.int p2)] [(.int p2), (.ref a1)])) rfl (by rw [hml]; rfl) (Steps.refl _) (argsL := [(.int p2)]) (rest := []) (lenOf pd_2 rfl) rfl (by show 2 * 0 + _ ≤ _; exact Nat.le_of_eq rfl) (hb hby d4_10) (fun _ _ => ⟨rfl, rfl, (by decide : 0 + 0 ≤ _), (by decide : 0 + 0 ≤ _)⟩)
  dsimp only [Pt.U, Pt.locs, Pt.cells, Pt.slots] at X17 l17 y17 z17 st17 hQ17
  subst l17 y17 z17
  obtain ⟨rfl, M17, K17, Ea17, Fa17, Fb17, B17⟩ := hQ17
  have N17 := Fr.app N16 M17
  refine own_trans st17 ?_
  show own_Gl _ _ _ _ (T17.setTop (mkF m 13 #[.val (.ref a1), .val (.int p2)] []))
  exact own_rV X17 hx hlk Bd.returns (hb hby d4_13) (by show Qrm4 Z a1 r p2 M k f h0 n0 _ T17.heap _; exact ⟨rfl, N17, K16.trans K17 (fun x hx => Or.inl hx), Ea17, Fa17, Fb17, B17⟩) (by decide) (by decide)
theorem d7_0 : decode prog_27_method_6_code 0 = .ok (.aload_n 0, 1) := by decide +kernel
theorem d7_1 : decode prog_27_method_6_code 1 = .ok (.getfield 18, 3) := by decide +kernel
theorem d7_4 : decode prog_27_method_6_code 4 = .ok (.iload_n 1, 1) := by decide +kernel
theorem d7_5 : decode prog_27_method_6_code 5 = .ok (.iload_n 2, 1) := by decide +kernel
theorem d7_6 : decode prog_27_method_6_code 6 = .ok (.bipush 8, 2) := by decide +kernel
theorem d7_8 : decode prog_27_method_6_code 8 = .ok (.iushr, 1) := by decide +kernel
theorem d7_9 : decode prog_27_method_6_code 9 = .ok (.i2b, 1) := by decide +kernel
theorem d7_10 : decode prog_27_method_6_code 10 = .ok (.bastore, 1) := by decide +kernel
theorem d7_11 : decode prog_27_method_6_code 11 = .ok (.aload_n 0, 1) := by decide +kernel
theorem d7_12 : decode prog_27_method_6_code 12 = .ok (.getfield 18, 3) := by decide +kernel
theorem d7_15 : decode prog_27_method_6_code 15 = .ok (.iload_n 1, 1) := by decide +kernel
theorem d7_16 : decode prog_27_method_6_code 16 = .ok (.iconst 1, 1) := by decide +kernel
theorem d7_17 : decode prog_27_method_6_code 17 = .ok (.iadd, 1) := by decide +kernel
theorem d7_18 : decode prog_27_method_6_code 18 = .ok (.iload_n 2, 1) := by decide +kernel
theorem d7_19 : decode prog_27_method_6_code 19 = .ok (.i2b, 1) := by decide +kernel
theorem d7_20 : decode prog_27_method_6_code 20 = .ok (.bastore, 1) := by decide +kernel
theorem d7_21 : decode prog_27_method_6_code 21 = .ok (.return_, 1) := by decide +kernel
theorem pn_7 : plainFor (⟨"com/example/bytewright/bytewright/classfile/ClassOutput", "u2At", "(II)V"⟩ : MethodName) = true := plainFor_of_name (by first | (simp [plainName, overriddenIn]; done) | decide +kernel)
def Qrm7 (Z : State) (r : Addr) (p3 : Int32) (M k : Nat) (f : Nat → Int32) (h0 : Heap) (n0 : Nat) (v : Option Value) (h : Heap) (L : List Loc) : Prop := v = none ∧ Fr n0 L ∧ Keep h0 h [r] ∧ own_B Z h r M (own_upd (own_upd f k (nar .byte (((p3.toUInt32 >>> ((8 : Int32) &&& 31).toUInt32).toInt32).toInt8.toInt32))) (k + 1) (nar .byte (p3.toInt8.toInt32)))
set_option maxRecDepth 65536 in
set_option maxHeartbeats 40000000 in
theorem rm7 (l : Launch) (Z : State) (a0 : Array Value) (hw : ∀ d ∈ tables_1, d.before a0 Z = true) (ws : List Jvm.Cond) (a1 : Addr) (p2 : Int32) (p3 : Int32) (h0 : Heap) (n0 : Nat) (Z0 : n0 ≤ h0.size) (r : Addr) (M k : Nat) (f : Nat → Int32) (F1 : Fld Z h0 a1 "com/example/bytewright/bytewright/classfile/ClassOutput" "bytes" "[B" (.ref r)) (B : own_B Z h0 r M f) (g2 : n0 ≤ r) (hp : p2 = Int32.ofNat k) (hk : k + 2 ≤ M) (hM : M ≤ 31) (ne1 : a1 ≠ r) :
    MetFree l (⟨"com/example/bytewright/bytewright/classfile/ClassOutput", "u2At", "(II)V"⟩ : MethodName) (head1 (Jvm.Cond.code (⟨"com/example/bytewright/bytewright/classfile/ClassOutput", "u2At", "(II)V"⟩ : MethodName) prog_27_method_6_code 3 none :: ws) ({ frames := 0, cells := 0, slots := 0, locals := 0 } : Room)) (fun a_ U_ => a_ = #[(.ref a1), (.int p2), (.int p3)] ∧ Z.Warmed39 U_.vm ∧ U_.heap = h0) (fun _ _ _ _ _ => True) (fun _ U_ o_ U'_ => ∃ v_ L_, o_ = .returned v_ ∧ (Qrm7 Z r p3 M k f h0 n0) v_ U'_.heap L_ ∧ FrameEnd U_ o_ U'_ L_ 0 0) := by
  refine MetFree.of_bodySF pn_7 hisR ?_
  intro p e s m args below meth c s₁ Bd hml0 hP hK
  obtain ⟨rfl, hZ, hh⟩ := hP
  have hx := Bd.exec
  have hby := Bd.bytes
  have hlk : meth.locks = false := Bd.notSynchronized
  have hml : c.maxLocals = 3 := hml0
  have hown : s.vm.findClass "com/example/bytewright/bytewright/classfile/ClassOutput" = some m.cls := findClass_of_methodNamed Bd.named
  have hnm := (name_of_methodNamed Bd.named Bd.method).1
  have X0 : Stand p l e ({ frames := 0, cells := 0, slots := 0, locals := 0 } : Room) s m #[(.ref a1), (.int p2), (.int p3)] below meth c s₁ [] 0 0 := Stand.of_body Bd
  have e0 : s₁.heap = h0 := by rw [← hh, Bd.state]; rfl
  have N0 := Fr.nil n0
  refine own_start (Q := Qrm7 Z r p3 M k f h0 n0) (g' := (mkF m 0 #[.val (.ref a1), .val (.int p2), .val (.int p3)] [])) (by first | (simp [entryFrame, mkF, argsToLocals, Value.category]; done) | rfl) ?_
  show own_Gl _ _ _ _ (s₁.setTop (mkF m 0 #[.val (.ref a1), .val (.int p2), .val (.int p3)] []))
  subst hp
  obtain ⟨n1, n2, n3⟩ := own_nat (i := k) (by omega)
  obtain ⟨m1, m2, m3⟩ := own_nat (i := k + 1) (by omega)
  obtain ⟨cl, A, S, H, G⟩ := B
  have hin : ¬ ((Int32.ofNat k) < 0 ∨ cl.slots.size ≤ (Int32.ofNat k).toNatClampNeg) := by rw [n2, S]; exact fun q => q.elim n1 (by omega)
  show own_Gl _ _ _ _ (s₁.setTop (mkF m 0 #[.val (.ref a1), .val (.int (Int32.ofNat k)), .val (.int p3)] []))
  refine own_back (fun t_ q_ => XS.aloadN X0.here hx rfl (hb hby d7_0) rfl rfl q_) ?_
  show own_Gl _ _ _ _ (s₁.setTop (mkF m 1 #[.val (.ref a1), .val (.int (Int32.ofNat k)), .val (.int p3)] [(.ref a1)]))
  obtain ⟨T18, X18, e18, st18⟩ := getF X0 hx hZ hown (host := "") (Or.inl (hw _ (List.mem_of_getElem? (i := 15) rfl))) Via.refl e0 F1 (g := (mkF m 1 #[.val (.ref a1), .val (.int (Int32.ofNat k)), .val (.int p3)] [(.ref a1)])) rfl rfl (hb hby d7_1)
  refine own_back st18 ?_
  show own_Gl _ _ _ _ (T18.setTop (mkF m 4 #[.val (.ref a1), .val (.int (Int32.ofNat k)), .val (.int p3)] [(.ref r)]))
  refine own_back (fun t_ q_ => XS.iloadN X18.here hx rfl (hb hby d7_4) rfl q_) ?_
  show own_Gl _ _ _ _ (T18.setTop (mkF m 5 #[.val (.ref a1), .val (.int (Int32.ofNat k)), .val (.int p3)] [(.int (Int32.ofNat k)), (.ref r)]))
  refine own_back (fun t_ q_ => XS.iloadN X18.here hx rfl (hb hby d7_5) rfl q_) ?_
  show own_Gl _ _ _ _ (T18.setTop (mkF m 6 #[.val (.ref a1), .val (.int (Int32.ofNat k)), .val (.int p3)] [(.int p3), (.int (Int32.ofNat k)), (.ref r)]))
  refine own_back (fun t_ q_ => XS.bipush X18.here hx rfl (hb hby d7_6) q_) ?_
  show own_Gl _ _ _ _ (T18.setTop (mkF m 8 #[.val (.ref a1), .val (.int (Int32.ofNat k)), .val (.int p3)] [(.int (8 : Int32)), (.int p3), (.int (Int32.ofNat k)), (.ref r)]))
  refine own_back (fun t_ q_ => XS.iushr X18.here hx rfl (hb hby d7_8) rfl q_) ?_
  show own_Gl _ _ _ _ (T18.setTop (mkF m 9 #[.val (.ref a1), .val (.int (Int32.ofNat k)), .val (.int p3)] [(.int ((p3.toUInt32 >>> ((8 : Int32) &&& 31).toUInt32).toInt32)), (.int (Int32.ofNat k)), (.ref r)]))
  refine own_back (fun t_ q_ => XS.i2b X18.here hx rfl (hb hby d7_9) rfl q_) ?_
  show own_Gl _ _ _ _ (T18.setTop (mkF m 10 #[.val (.ref a1), .val (.int (Int32.ofNat k)), .val (.int p3)] [(.int (((p3.toUInt32 >>> ((8 : Int32) &&& 31).toUInt32).toInt32).toInt8.toInt32)), (.int (Int32.ofNat k)), (.ref r)]))
  obtain ⟨T19, h19, X19, e19, W19, st19⟩ := stB X18 hx hZ e18 A (j := (Int32.ofNat k)) hin (g := (mkF m 10 #[.val (.ref a1), .val (.int (Int32.ofNat k)), .val (.int p3)] [(.int (((p3.toUInt32 >>> ((8 : Int32) &&& 31).toUInt32).toInt32).toInt8.toInt32)), (.int (Int32.ofNat k)), (.ref r)])) rfl rfl (hb hby d7_10)
  refine own_back st19 ?_
  have N19 := Fr.snoc X19 N0 g2
  show own_Gl _ _ _ _ (T19.setTop (mkF m 11 #[.val (.ref a1), .val (.int (Int32.ofNat k)), .val (.int p3)] []))
  rw [n2] at W19
  obtain ⟨cl2, A2, S2, H2, G2⟩ := own_Bset A S H G (by omega) W19
  have F2 := F1.other W19 (Or.inl ne1)
  have hin2 : ¬ ((Int32.ofNat (k + 1)) < 0 ∨ cl2.slots.size ≤ (Int32.ofNat (k + 1)).toNatClampNeg) := by rw [m2, S2]; exact fun q => q.elim m1 (by omega)
  refine own_back (fun t_ q_ => XS.aloadN X19.here hx rfl (hb hby d7_11) rfl rfl q_) ?_
  show own_Gl _ _ _ _ (T19.setTop (mkF m 12 #[.val (.ref a1), .val (.int (Int32.ofNat k)), .val (.int p3)] [(.ref a1)]))
  obtain ⟨T20, X20, e20, st20⟩ := getF X19 hx hZ hown (host := "") (Or.inl (hw _ (List.mem_of_getElem? (i := 15) rfl))) Via.refl e19 F2 (g := (mkF m 12 #[.val (.ref a1), .val (.int (Int32.ofNat k)), .val (.int p3)] [(.ref a1)])) rfl rfl (hb hby d7_12)
  refine own_back st20 ?_
  show own_Gl _ _ _ _ (T20.setTop (mkF m 15 #[.val (.ref a1), .val (.int (Int32.ofNat k)), .val (.int p3)] [(.ref r)]))
  refine own_back (fun t_ q_ => XS.iloadN X20.here hx rfl (hb hby d7_15) rfl q_) ?_
  show own_Gl _ _ _ _ (T20.setTop (mkF m 16 #[.val (.ref a1), .val (.int (Int32.ofNat k)), .val (.int p3)] [(.int (Int32.ofNat k)), (.ref r)]))
  refine own_back (fun t_ q_ => XS.iconst X20.here hx rfl (hb hby d7_16) q_) ?_
  show own_Gl _ _ _ _ (T20.setTop (mkF m 17 #[.val (.ref a1), .val (.int (Int32.ofNat k)), .val (.int p3)] [(.int (1 : Int32)), (.int (Int32.ofNat k)), (.ref r)]))
  refine own_back (fun t_ q_ => XS.iadd X20.here hx rfl (hb hby d7_17) rfl q_) ?_
  show own_Gl _ _ _ _ (T20.setTop (mkF m 18 #[.val (.ref a1), .val (.int (Int32.ofNat k)), .val (.int p3)] [(.int ((Int32.ofNat k) + (1 : Int32))), (.ref r)]))
  rw [own_addn (i := k) (k := 1) (by omega) (by decide)]
  show own_Gl _ _ _ _ (T20.setTop (mkF m 18 #[.val (.ref a1), .val (.int (Int32.ofNat k)), .val (.int p3)] [(.int (Int32.ofNat (k + 1))), (.ref r)]))
  refine own_back (fun t_ q_ => XS.iloadN X20.here hx rfl (hb hby d7_18) rfl q_) ?_
  show own_Gl _ _ _ _ (T20.setTop (mkF m 19 #[.val (.ref a1), .val (.int (Int32.ofNat k)), .val (.int p3)] [(.int p3), (.int (Int32.ofNat (k + 1))), (.ref r)]))
  refine own_back (fun t_ q_ => XS.i2b X20.here hx rfl (hb hby d7_19) rfl q_) ?_
  show own_Gl _ _ _ _ (T20.setTop (mkF m 20 #[.val (.ref a1), .val (.int (Int32.ofNat k)), .val (.int p3)] [(.int (p3.toInt8.toInt32)), (.int (Int32.ofNat (k + 1))), (.ref r)]))
  obtain ⟨T21, h21, X21, e21, W21, st21⟩ := stB X20 hx hZ e20 A2 (j := (Int32.ofNat (k + 1))) hin2 (g := (mkF m 20 #[.val (.ref a1), .val (.int (Int32.ofNat k)), .val (.int p3)] [(.int (p3.toInt8.toInt32)), (.int (Int32.ofNat (k + 1))), (.ref r)])) rfl rfl (hb hby d7_20)
  refine own_back st21 ?_
  have N21 := Fr.snoc X21 N19 g2
  show own_Gl _ _ _ _ (T21.setTop (mkF m 21 #[.val (.ref a1), .val (.int (Int32.ofNat k)), .val (.int p3)] []))
  rw [m2] at W21
  exact own_rV X21 hx hlk Bd.returns (hb hby d7_21) (by show Qrm7 Z r p3 M k f h0 n0 _ T21.heap _; rw [e21]; exact ⟨rfl, N21, ((Keep.refl h0 [r]).wr W19 (Or.inl (List.mem_singleton.mpr rfl))).wr W21 (Or.inl (List.mem_singleton.mpr rfl)), own_Bset A2 S2 H2 G2 (by omega) W21⟩) (by decide) (by decide)
theorem d8_0 : decode prog_27_method_13_code 0 = .ok (.aload_n 0, 1) := by decide +kernel
theorem d8_1 : decode prog_27_method_13_code 1 = .ok (.getfield 25, 3) := by decide +kernel
theorem d8_4 : decode prog_27_method_13_code 4 = .ok (.ireturn, 1) := by decide +kernel
theorem pn_8 : plainFor (⟨"com/example/bytewright/bytewright/classfile/ClassOutput", "size", "()I"⟩ : MethodName) = true := plainFor_of_name (by first | (simp [plainName, overriddenIn]; done) | decide +kernel)
def Qrm8 (p2 : Int32) (h0 : Heap) (n0 : Nat) (v : Option Value) (h : Heap) (L : List Loc) : Prop := v = some (.int p2) ∧ Fr n0 L ∧ h = h0
set_option maxRecDepth 65536 in
set_option maxHeartbeats 40000000 in
theorem rm8 (l : Launch) (Z : State) (a0 : Array Value) (hw : ∀ d ∈ tables_1, d.before a0 Z = true) (ws : List Jvm.Cond) (a1 : Addr) (h0 : Heap) (n0 : Nat) (Z0 : n0 ≤ h0.size) (p2 : Int32) (F2 : Fld Z h0 a1 "com/example/bytewright/bytewright/classfile/ClassOutput" "size" "I" (.int p2)) :
    MetFree l (⟨"com/example/bytewright/bytewright/classfile/ClassOutput", "size", "()I"⟩ : MethodName) (head1 (Jvm.Cond.code (⟨"com/example/bytewright/bytewright/classfile/ClassOutput", "size", "()I"⟩ : MethodName) prog_27_method_13_code 1 (some .int) :: ws) ({ frames := 0, cells := 0, slots := 0, locals := 0 } : Room)) (fun a_ U_ => a_ = #[(.ref a1)] ∧ Z.Warmed39 U_.vm ∧ U_.heap = h0) (fun _ _ _ _ _ => True) (fun _ U_ o_ U'_ => ∃ v_ L_, o_ = .returned v_ ∧ (Qrm8 p2 h0 n0) v_ U'_.heap L_ ∧ FrameEnd U_ o_ U'_ L_ 0 0) := by
  refine MetFree.of_bodySF pn_8 hisR ?_
  intro p e s m args below meth c s₁ Bd hml0 hP hK
  obtain ⟨rfl, hZ, hh⟩ := hP
  have hx := Bd.exec
  have hby := Bd.bytes
  have hlk : meth.locks = false := Bd.notSynchronized
  have hml : c.maxLocals = 1 := hml0
  have hown : s.vm.findClass "com/example/bytewright/bytewright/classfile/ClassOutput" = some m.cls := findClass_of_methodNamed Bd.named
  have hnm := (name_of_methodNamed Bd.named Bd.method).1
  have X0 : Stand p l e ({ frames := 0, cells := 0, slots := 0, locals := 0 } : Room) s m #[(.ref a1)] below meth c s₁ [] 0 0 := Stand.of_body Bd
  have e0 : s₁.heap = h0 := by rw [← hh, Bd.state]; rfl
  have N0 := Fr.nil n0
  refine own_start (Q := Qrm8 p2 h0 n0) (g' := (mkF m 0 #[.val (.ref a1)] [])) (by first | (simp [entryFrame, mkF, argsToLocals, Value.category]; done) | rfl) ?_
  show own_Gl _ _ _ _ (s₁.setTop (mkF m 0 #[.val (.ref a1)] []))
  refine own_back (fun t_ q_ => XS.aloadN X0.here hx rfl (hb hby d8_0) rfl rfl q_) ?_
  show own_Gl _ _ _ _ (s₁.setTop (mkF m 1 #[.val (.ref a1)] [(.ref a1)]))
  obtain ⟨T22, X22, e22, st22⟩ := getF X0 hx hZ hown (host := "") (Or.inl (hw _ (List.mem_of_getElem? (i := 31) rfl))) Via.refl e0 F2 (g := (mkF m 1 #[.val (.ref a1)] [(.ref a1)])) rfl rfl (hb hby d8_1)
  refine own_back st22 ?_
  show own_Gl _ _ _ _ (T22.setTop (mkF m 4 #[.val (.ref a1)] [(.int p2)]))
  exact own_rI X22 hx hlk Bd.returns (hb hby d8_4) (by show Qrm8 p2 h0 n0 _ T22.heap _; rw [e22]; exact ⟨rfl, N0, rfl⟩) (by decide) (by decide)
theorem d10_0 : decode jdk_65_method_121_code 0 = .ok (.iload_n 1, 1) := by decide +kernel
theorem d10_1 : decode jdk_65_method_121_code 1 = .ok (.aload_n 0, 1) := by decide +kernel
theorem d10_2 : decode jdk_65_method_121_code 2 = .ok (.arraylength, 1) := by decide +kernel
theorem d10_3 : decode jdk_65_method_121_code 3 = .ok (.if_icmp .ne 11, 3) := by decide +kernel
theorem d10_6 : decode jdk_65_method_121_code 6 = .ok (.aload_n 0, 1) := by decide +kernel
theorem d10_7 : decode jdk_65_method_121_code 7 = .ok (.invokevirtual 310, 3) := by decide +kernel
theorem d10_10 : decode jdk_65_method_121_code 10 = .ok (.checkcast 311, 3) := by decide +kernel
theorem d10_13 : decode jdk_65_method_121_code 13 = .ok (.areturn, 1) := by decide +kernel
theorem d10_14 : decode jdk_65_method_121_code 14 = .ok (.iload_n 1, 1) := by decide +kernel
theorem d10_15 : decode jdk_65_method_121_code 15 = .ok (.newarray .byte, 2) := by decide +kernel
theorem d10_17 : decode jdk_65_method_121_code 17 = .ok (.astore_n 2, 1) := by decide +kernel
theorem d10_18 : decode jdk_65_method_121_code 18 = .ok (.aload_n 0, 1) := by decide +kernel
theorem d10_19 : decode jdk_65_method_121_code 19 = .ok (.iconst 0, 1) := by decide +kernel
theorem d10_20 : decode jdk_65_method_121_code 20 = .ok (.aload_n 2, 1) := by decide +kernel
theorem d10_21 : decode jdk_65_method_121_code 21 = .ok (.iconst 0, 1) := by decide +kernel
theorem d10_22 : decode jdk_65_method_121_code 22 = .ok (.aload_n 0, 1) := by decide +kernel
theorem d10_23 : decode jdk_65_method_121_code 23 = .ok (.arraylength, 1) := by decide +kernel
theorem d10_24 : decode jdk_65_method_121_code 24 = .ok (.iload_n 1, 1) := by decide +kernel
theorem d10_25 : decode jdk_65_method_121_code 25 = .ok (.invokestatic 304, 3) := by decide +kernel
theorem d10_28 : decode jdk_65_method_121_code 28 = .ok (.invokestatic 150, 3) := by decide +kernel
theorem pd_3 : parseMethodDescriptor "(Ljava/lang/Object;ILjava/lang/Object;II)V" = some ⟨[(.object "java/lang/Object"), .int, (.object "java/lang/Object"), .int, .int], none⟩ := by decide +kernel
theorem d10_31 : decode jdk_65_method_121_code 31 = .ok (.aload_n 2, 1) := by decide +kernel
theorem d10_32 : decode jdk_65_method_121_code 32 = .ok (.areturn, 1) := by decide +kernel
theorem pn_10 : plainFor (⟨"java/util/Arrays", "copyOf", "([BI)[B"⟩ : MethodName) = true := plainFor_of_name (by first | (simp [plainName, overriddenIn]; done) | decide +kernel)
def Qrm10 (Z : State) (f : Nat → Int32) (h0 : Heap) (n0 : Nat) (v : Option Value) (h : Heap) (L : List Loc) : Prop := ∃ r2, v = some (.ref r2) ∧ Fr n0 L ∧ Keep h0 h [] ∧ own_B Z h r2 8 f
set_option maxRecDepth 65536 in
set_option maxHeartbeats 40000000 in
theorem rm10 (l : Launch) (Z : State) (a0 : Array Value) (hw : ∀ d ∈ tables_1, d.before a0 Z = true) (ws : List Jvm.Cond) (a1 : Addr) (p2 : Int32) (h0 : Heap) (n0 : Nat) (Z0 : n0 ≤ h0.size) (M : Nat) (f : Nat → Int32) (B : own_B Z h0 a1 M f) (hp : p2 = 8) (hM : 16 ≤ M) (hM' : M ≤ 31) :
    MetFree l (⟨"java/util/Arrays", "copyOf", "([BI)[B"⟩ : MethodName) (head1 (Jvm.Cond.code (⟨"java/util/Arrays", "copyOf", "([BI)[B"⟩ : MethodName) jdk_65_method_121_code 3 (some (.array .byte)) :: ws) ({ frames := 1, cells := 1, slots := 8, locals := 40 } : Room)) (fun a_ U_ => a_ = #[(.ref a1), (.int p2)] ∧ Z.Warmed39 U_.vm ∧ U_.heap = h0) (fun _ _ _ _ _ => True) (fun _ U_ o_ U'_ => ∃ v_ L_, o_ = .returned v_ ∧ (Qrm10 Z f h0 n0) v_ U'_.heap L_ ∧ FrameEnd U_ o_ U'_ L_ 1 8) := by
  refine MetFree.of_bodySF pn_10 hisR ?_
  intro p e s m args below meth c s₁ Bd hml0 hP hK
  obtain ⟨rfl, hZ, hh⟩ := hP
  have hx := Bd.exec
  have hby := Bd.bytes
  have hlk : meth.locks = false := Bd.notSynchronized
  have hml : c.maxLocals = 3 := hml0
  have hown : s.vm.findClass "java/util/Arrays" = some m.cls := findClass_of_methodNamed Bd.named
  have hnm := (name_of_methodNamed Bd.named Bd.method).1
  have X0 : Stand p l e ({ frames := 1, cells := 1, slots := 8, locals := 40 } : Room) s m #[(.ref a1), (.int p2)] below meth c s₁ [] 0 0 := Stand.of_body Bd
  have e0 : s₁.heap = h0 := by rw [← hh, Bd.state]; rfl
  have N0 := Fr.nil n0
  refine own_start (Q := Qrm10 Z f h0 n0) (g' := (mkF m 0 #[.val (.ref a1), .val (.int p2), .unset] [])) (by first | (simp [entryFrame, mkF, argsToLocals, Value.category]; done) | rfl) ?_
  show own_Gl _ _ _ _ (s₁.setTop (mkF m 0 #[.val (.ref a1), .val (.int p2), .unset] []))
  subst hp
  obtain ⟨cl, A, S, H, G⟩ := B
  have Va : Arv Z h0 a1 cl.cls .byte (Int32.ofNat M) ((List.range M).map fun i => Value.int (f i)) (.int (0 : Int32)) := ⟨cl, A, rfl, by rw [S, (own_nat (i := M) (by omega)).2.1], (own_nat (i := M) (by omega)).1, fun j hj => by rw [own_getD f M j (by omega)]; exact H j (by omega), fun j hj => by rw [own_getD f M j (by omega)]; exact G j⟩
  show own_Gl _ _ _ _ (s₁.setTop (mkF m 0 #[.val (.ref a1), .val (.int (8 : Int32)), .unset] []))
  refine own_back (fun t_ q_ => XS.iloadN X0.here hx rfl (hb hby d10_0) rfl q_) ?_
  show own_Gl _ _ _ _ (s₁.setTop (mkF m 1 #[.val (.ref a1), .val (.int (8 : Int32)), .unset] [(.int (8 : Int32))]))
  refine own_back (fun t_ q_ => XS.aloadN X0.here hx rfl (hb hby d10_1) rfl rfl q_) ?_
  show own_Gl _ _ _ _ (s₁.setTop (mkF m 2 #[.val (.ref a1), .val (.int (8 : Int32)), .unset] [(.ref a1), (.int (8 : Int32))]))
  refine own_back (fun t_ q_ => X0.arraylength hx (by rw [e0]; exact A.1) (State.isArrayOf_alike hZ.alike A.2.1) (g := (mkF m 2 #[.val (.ref a1), .val (.int (8 : Int32)), .unset] [(.ref a1), (.int (8 : Int32))])) rfl rfl (hb hby d10_2) t_ q_) ?_
  rw [(show cl.slots.size.toInt32 = Int32.ofNat M by rw [S] <;> rfl)]
  show own_Gl _ _ _ _ (s₁.setTop (mkF m 3 #[.val (.ref a1), .val (.int (8 : Int32)), .unset] [(.int (Int32.ofNat M)), (.int (8 : Int32))]))
  refine own_back (fun t_ q_ => XS.icmpYes X0.here hx rfl (pc0 := 3) (pc' := 14) rfl (hb hby d10_3) rfl (feq (fun q => by
        have e := congrArg Int32.toInt q
        rw [(own_nat (i := M) (by omega)).2.2] at e
        have z8 : (8 : Int32).toInt = 8 := by decide
        omega : ¬ ((8 : Int32) = (Int32.ofNat M)))).2 (by decide) (by decide) q_) ?_
  show own_Gl _ _ _ _ (s₁.setTop (mkF m 14 #[.val (.ref a1), .val (.int (8 : Int32)), .unset] []))
  refine own_back (fun t_ q_ => XS.iloadN X0.here hx rfl (hb hby d10_14) rfl q_) ?_
  show own_Gl _ _ _ _ (s₁.setTop (mkF m 15 #[.val (.ref a1), .val (.int (8 : Int32)), .unset] [(.int (8 : Int32))]))
  obtain ⟨T23, h23, k23, X23, e23, E23, A23, st23⟩ := newP X0 hx hZ (hw _ (List.mem_of_getElem? (i := 14) rfl)) e0 (g := (mkF m 15 #[.val (.ref a1), .val (.int (8 : Int32)), .unset] [(.int (8 : Int32))])) rfl (hb hby d10_15) rfl (by decide) (cap := 8) (by decide) (by decide) (by decide) (by decide)
  obtain ⟨b23, g23⟩ : ∃ z, z = h0.size := ⟨_, rfl⟩
  rw [← g23] at A23 st23
  refine own_back st23 ?_
  show own_Gl _ _ _ _ (T23.setTop (mkF m 17 #[.val (.ref a1), .val (.int (8 : Int32)), .unset] [(.ref b23)]))
  have gb : n0 ≤ b23 := Nat.le_trans Z0 (Nat.le_of_eq g23.symm)
  have Zs : n0 ≤ h23.size := Nat.le_trans Z0 E23.1
  have Vb : Arv Z h23 b23 k23 .byte (8 : Int32) [(.int (0 : Int32)), (.int (0 : Int32)), (.int (0 : Int32)), (.int (0 : Int32)), (.int (0 : Int32)), (.int (0 : Int32)), (.int (0 : Int32)), (.int (0 : Int32))] (.int (0 : Int32)) := (Arv.new A23 (by decide)).pad (pad_rep [] (.int (0 : Int32)) 8)
  have A1 := A.ext E23
  refine own_back (fun t_ q_ => XS.astoreN X23.here hx rfl (hb hby d10_17) rfl rfl (l' := #[.val (.ref a1), .val (.int (8 : Int32)), .val (.ref b23)]) rfl q_) ?_
  show own_Gl _ _ _ _ (T23.setTop (mkF m 18 #[.val (.ref a1), .val (.int (8 : Int32)), .val (.ref b23)] []))
  refine own_back (fun t_ q_ => XS.aloadN X23.here hx rfl (hb hby d10_18) rfl rfl q_) ?_
  show own_Gl _ _ _ _ (T23.setTop (mkF m 19 #[.val (.ref a1), .val (.int (8 : Int32)), .val (.ref b23)] [(.ref a1)]))
  refine own_back (fun t_ q_ => XS.iconst X23.here hx rfl (hb hby d10_19) q_) ?_
  show own_Gl _ _ _ _ (T23.setTop (mkF m 20 #[.val (.ref a1), .val (.int (8 : Int32)), .val (.ref b23)] [(.int (0 : Int32)), (.ref a1)]))
  refine own_back (fun t_ q_ => XS.aloadN X23.here hx rfl (hb hby d10_20) rfl rfl q_) ?_
  show own_Gl _ _ _ _ (T23.setTop (mkF m 21 #[.val (.ref a1), .val (.int (8 : Int32)), .val (.ref b23)] [(.ref b23), (.int (0 : Int32)), (.ref a1)]))
  refine own_back (fun t_ q_ => XS.iconst X23.here hx rfl (hb hby d10_21) q_) ?_
  show own_Gl _ _ _ _ (T23.setTop (mkF m 22 #[.val (.ref a1), .val (.int (8 : Int32)), .val (.ref b23)] [(.int (0 : Int32)), (.ref b23), (.int (0 : Int32)), (.ref a1)]))
  refine own_back (fun t_ q_ => XS.aloadN X23.here hx rfl (hb hby d10_22) rfl rfl q_) ?_
  show own_Gl _ _ _ _ (T23.setTop (mkF m 23 #[.val (.ref a1), .val (.int (8 : Int32)), .val (.ref b23)] [(.ref a1), (.int (0 : Int32)), (.ref b23), (.int (0 : Int32)), (.ref a1)]))
  refine own_back (fun t_ q_ => X23.arraylength hx (by rw [e23]; exact A1.1) (State.isArrayOf_alike hZ.alike A1.2.1) (g := (mkF m 23 #[.val (.ref a1), .val (.int (8 : Int32)), .val (.ref b23)] [(.ref a1), (.int (0 : Int32)), (.ref b23), (.int (0 : Int32)), (.ref a1)])) rfl rfl (hb hby d10_23) t_ q_) ?_
  rw [(show cl.slots.size.toInt32 = Int32.ofNat M by rw [S] <;> rfl)]
  show own_Gl _ _ _ _ (T23.setTop (mkF m 24 #[.val (.ref a1), .val (.int (8 : Int32)), .val (.ref b23)] [(.int (Int32.ofNat M)), (.int (0 : Int32)), (.ref b23), (.int (0 : Int32)), (.ref a1)]))
  refine own_back (fun t_ q_ => XS.iloadN X23.here hx rfl (hb hby d10_24) rfl q_) ?_
  show own_Gl _ _ _ _ (T23.setTop (mkF m 25 #[.val (.ref a1), .val (.int (8 : Int32)), .val (.ref b23)] [(.int (8 : Int32)), (.int (Int32.ofNat M)), (.int (0 : Int32)), (.ref b23), (.int (0 : Int32)), (.ref a1)]))
  obtain ⟨_, _, ⟨T24, L24, k24, n24⟩, -, X24, ⟨Lc24, hQ24, l24, y24, z24⟩, st24⟩ := Jvm.LawKit.callS X23 hx (y := (⟨"java/lang/Math", "min", "(II)I"⟩ : MethodName)) hown (mvT hZ (hw _ (List.mem_of_getElem? (i := 52) rfl))) (mvT hZ (hw _ (List.mem_of_getElem? (i := 53) rfl))) (mvT hZ (hw _ (List.mem_of_getElem? (i := 12) rfl))) (mvT hZ (hw _ (List.mem_of_getElem? (i := 54) rfl))) (by decide) (backOf (W := 4) (rm11 l Z a0 hw [] (Int32.ofNat M) 8 h23 n0 Zs) hZ (hw _ (List.mem_of_getElem? (i := 54) rfl)) (hw _ (List.mem_of_getElem? (i := 12) rfl)) (by decide) (by decide)) (g := (mkF m 25 #[.val (.ref a1), .val (.int (8 : Int32)), .val (.ref b23)] [(.int (8 : Int32)), (.int (Int32.ofNat M)), (.int (0 : Int32)), (.ref b23), (.int (0 : Int32)), (.ref a1)])) rfl (by rw [hml]; rfl) (argsL := [(.int (Int32.ofNat M)), (.int (8 : Int32))]) (rest := [(.int (0 : Int32)), (.ref b23), (.int (0 : Int32)), (.ref a1)]) (lenOf pd_1 rfl) rfl (by show 2 * 0 + _ ≤ _; exact Nat.le_of_eq rfl) (hb hby d10_25) (fun _ _ => ⟨rfl, e23, (by decide : 1 + 0 ≤ _), (by decide : 8 + 0 ≤ _)⟩)
  dsimp only [Pt.U, Pt.locs, Pt.cells, Pt.slots] at X24 l24 y24 z24 st24 hQ24
  subst l24 y24 z24
  obtain ⟨rfl, M24, e24⟩ := hQ24
  have N24 := Fr.app N0 M24
  refine own_back st24 ?_
  show own_Gl _ _ _ _ (T24.setTop (mkF m 28 #[.val (.ref a1), .val (.int (8 : Int32)), .val (.ref b23)] [(.int (if (8 : Int32) < Int32.ofNat M then (8 : Int32) else Int32.ofNat M)), (.int (0 : Int32)), (.ref b23), (.int (0 : Int32)), (.ref a1)]))
  rw [if_pos (show (8 : Int32) < Int32.ofNat M by
        have z8 : (8 : Int32).toInt = 8 := by decide
        rw [Int32.lt_iff_toInt_lt, (own_nat (i := M) (by omega)).2.2, z8]; omega)]
  show own_Gl _ _ _ _ (T24.setTop (mkF m 28 #[.val (.ref a1), .val (.int (8 : Int32)), .val (.ref b23)] [(.int (8 : Int32)), (.int (0 : Int32)), (.ref b23), (.int (0 : Int32)), (.ref a1)]))
  obtain ⟨T25, h25, L25, X25, e25, N25, K25, V25, st25⟩ := cpA X24 hx hZ hown (hw _ (List.mem_of_getElem? (i := 55) rfl)) (hw _ (List.mem_of_getElem? (i := 58) rfl)) (hw _ (List.mem_of_getElem? (i := 56) rfl)) (hw _ (List.mem_of_getElem? (i := 57) rfl)) e24 (us := (List.range (8 : Int32).toNatClampNeg).map fun i => ((List.range M).map fun i => Value.int (f i)).getD ((0 : Int32).toNatClampNeg + i) (.int (0 : Int32))) (Va.ext E23) Vb (Or.inl ⟨rfl, rfl⟩) (by decide) (by decide) (by decide) (by rw [(own_nat (i := M) (by omega)).2.1, show (0 : Int32).toNatClampNeg = 0 by decide, show (8 : Int32).toNatClampNeg = 8 by decide]; omega) (by decide) rfl (by decide) N24 gb (g := (mkF m 28 #[.val (.ref a1), .val (.int (8 : Int32)), .val (.ref b23)] [(.int (8 : Int32)), (.int (0 : Int32)), (.ref b23), (.int (0 : Int32)), (.ref a1)])) rfl (by rw [hml]; rfl) rfl (hb hby d10_28) (by decide) (W := 0) (by show 2 * 0 + _ ≤ _; exact Nat.le_of_eq rfl) (by decide)
  refine own_back st25 ?_
  show own_Gl _ _ _ _ (T25.setTop (mkF m 31 #[.val (.ref a1), .val (.int (8 : Int32)), .val (.ref b23)] []))
  refine own_back (fun t_ q_ => XS.aloadN X25.here hx rfl (hb hby d10_31) rfl rfl q_) ?_
  show own_Gl _ _ _ _ (T25.setTop (mkF m 32 #[.val (.ref a1), .val (.int (8 : Int32)), .val (.ref b23)] [(.ref b23)]))
  have Bf : own_B Z h25 b23 8 f := by
    obtain ⟨c2, A2, -, S2, -, H2, G2⟩ := V25
    have S2' : c2.slots.size = 8 := S2
    refine ⟨c2, A2, S2', fun j hj => ?_, G⟩
    rw [H2 j (by omega)]
    have hj' : j = 0 ∨ j = 1 ∨ j = 2 ∨ j = 3 ∨ j = 4 ∨ j = 5 ∨ j = 6 ∨ j = 7 := by omega
    rcases hj' with rfl | rfl | rfl | rfl | rfl | rfl | rfl | rfl
    · exact congrArg some (own_getD f M 0 (by omega) _)
    · exact congrArg some (own_getD f M 1 (by omega) _)
    · exact congrArg some (own_getD f M 2 (by omega) _)
    · exact congrArg some (own_getD f M 3 (by omega) _)
    · exact congrArg some (own_getD f M 4 (by omega) _)
    · exact congrArg some (own_getD f M 5 (by omega) _)
    · exact congrArg some (own_getD f M 6 (by omega) _)
    · exact congrArg some (own_getD f M 7 (by omega) _)
  exact own_rA X25 hx hlk Bd.returns rfl rfl rfl (hb hby d10_32) (by show Qrm10 Z f h0 n0 _ T25.heap _; rw [e25]; exact ⟨b23, rfl, N25, (((Keep.refl h0 []).ext E23).trans K25 (fun x hx => Or.inr (by cases List.mem_singleton.mp hx; exact Nat.le_of_eq g23.symm))), Bf⟩) (by decide) (by decide)
theorem d9_0 : decode prog_27_method_15_code 0 = .ok (.aload_n 0, 1) := by decide +kernel
theorem d9_1 : decode prog_27_method_15_code 1 = .ok (.getfield 18, 3) := by decide +kernel
theorem d9_4 : decode prog_27_method_15_code 4 = .ok (.aload_n 0, 1) := by decide +kernel
theorem d9_5 : decode prog_27_method_15_code 5 = .ok (.getfield 25, 3) := by decide +kernel
theorem d9_8 : decode prog_27_method_15_code 8 = .ok (.invokestatic 71, 3) := by decide +kernel
theorem pd_4 : parseMethodDescriptor "([BI)[B" = some ⟨[(.array .byte), .int], some (.array .byte)⟩ := by decide +kernel
theorem d9_11 : decode prog_27_method_15_code 11 = .ok (.areturn, 1) := by decide +kernel
theorem pn_9 : plainFor (⟨"com/example/bytewright/bytewright/classfile/ClassOutput", "toByteArray", "()[B"⟩ : MethodName) = true := plainFor_of_name (by first | (simp [plainName, overriddenIn]; done) | decide +kernel)
def Qrm9 (Z : State) (f : Nat → Int32) (h0 : Heap) (n0 : Nat) (v : Option Value) (h : Heap) (L : List Loc) : Prop := ∃ r2, v = some (.ref r2) ∧ Fr n0 L ∧ Keep h0 h [] ∧ own_B Z h r2 8 f
set_option maxRecDepth 65536 in
set_option maxHeartbeats 40000000 in
theorem rm9 (l : Launch) (Z : State) (a0 : Array Value) (hw : ∀ d ∈ tables_1, d.before a0 Z = true) (ws : List Jvm.Cond) (a1 : Addr) (h0 : Heap) (n0 : Nat) (Z0 : n0 ≤ h0.size) (r : Addr) (M : Nat) (f : Nat → Int32) (F1 : Fld Z h0 a1 "com/example/bytewright/bytewright/classfile/ClassOutput" "bytes" "[B" (.ref r)) (F2 : Fld Z h0 a1 "com/example/bytewright/bytewright/classfile/ClassOutput" "size" "I" (.int 8)) (B : own_B Z h0 r M f) (hM : 16 ≤ M) (hM' : M ≤ 31) :
    MetFree l (⟨"com/example/bytewright/bytewright/classfile/ClassOutput", "toByteArray", "()[B"⟩ : MethodName) (head1 (Jvm.Cond.code (⟨"com/example/bytewright/bytewright/classfile/ClassOutput", "toByteArray", "()[B"⟩ : MethodName) prog_27_method_15_code 1 (some (.array .byte)) :: ws) ({ frames := 2, cells := 1, slots := 8, locals := 54 } : Room)) (fun a_ U_ => a_ = #[(.ref a1)] ∧ Z.Warmed39 U_.vm ∧ U_.heap = h0) (fun _ _ _ _ _ => True) (fun _ U_ o_ U'_ => ∃ v_ L_, o_ = .returned v_ ∧ (Qrm9 Z f h0 n0) v_ U'_.heap L_ ∧ FrameEnd U_ o_ U'_ L_ 1 8) := by
  refine MetFree.of_bodySF pn_9 hisR ?_
  intro p e s m args below meth c s₁ Bd hml0 hP hK
  obtain ⟨rfl, hZ, hh⟩ := hP
  have hx := Bd.exec
  have hby := Bd.bytes
  have hlk : meth.locks = false := Bd.notSynchronized
  have hml : c.maxLocals = 1 := hml0
  have hown : s.vm.findClass "com/example/bytewright/bytewright/classfile/ClassOutput" = some m.cls := findClass_of_methodNamed Bd.named
  have hnm := (name_of_methodNamed Bd.named Bd.method).1
  have X0 : Stand p l e ({ frames := 2, cells := 1, slots := 8, locals := 54 } : Room) s m #[(.ref a1)] below meth c s₁ [] 0 0 := Stand.of_body Bd
  have e0 : s₁.heap = h0 := by rw [← hh, Bd.state]; rfl
  have N0 := Fr.nil n0
  refine own_start (Q := Qrm9 Z f h0 n0) (g' := (mkF m 0 #[.val (.ref a1)] [])) (by first | (simp [entryFrame, mkF, argsToLocals, Value.category]; done) | rfl) ?_
  show own_Gl _ _ _ _ (s₁.setTop (mkF m 0 #[.val (.ref a1)] []))
  refine own_back (fun t_ q_ => XS.aloadN X0.here hx rfl (hb hby d9_0) rfl rfl q_) ?_
  show own_Gl _ _ _ _ (s₁.setTop (mkF m 1 #[.val (.ref a1)] [(.ref a1)]))
  obtain ⟨T26, X26, e26, st26⟩ := getF X0 hx hZ hown (host := "") (Or.inl (hw _ (List.mem_of_getElem? (i := 15) rfl))) Via.refl e0 F1 (g := (mkF m 1 #[.val (.ref a1)] [(.ref a1)])) rfl rfl (hb hby d9_1)
  refine own_back st26 ?_
  show own_Gl _ _ _ _ (T26.setTop (mkF m 4 #[.val (.ref a1)] [(.ref r)]))
  refine own_back (fun t_ q_ => XS.aloadN X26.here hx rfl (hb hby d9_4) rfl rfl q_) ?_
  show own_Gl _ _ _ _ (T26.setTop (mkF m 5 #[.val (.ref a1)] [(.ref a1), (.ref r)]))
  obtain ⟨T27, X27, e27, st27⟩ := getF X26 hx hZ hown (host := "") (Or.inl (hw _ (List.mem_of_getElem? (i := 31) rfl))) Via.refl e26 F2 (g := (mkF m 5 #[.val (.ref a1)] [(.ref a1), (.ref r)])) rfl rfl (hb hby d9_5)
  refine own_back st27 ?_
  show own_Gl _ _ _ _ (T27.setTop (mkF m 8 #[.val (.ref a1)] [(.int (8 : Int32)), (.ref r)]))
  obtain ⟨_, _, ⟨T28, L28, k28, n28⟩, -, X28, ⟨Lc28, hQ28, l28, y28, z28⟩, st28⟩ := Jvm.LawKit.callS X27 hx (y := (⟨"java/util/Arrays", "copyOf", "([BI)[B"⟩ : MethodName)) hown (mvT hZ (hw _ (List.mem_of_getElem? (i := 48) rfl))) (mvT hZ (hw _ (List.mem_of_getElem? (i := 49) rfl))) (mvT hZ (hw _ (List.mem_of_getElem? (i := 50) rfl))) (mvT hZ (hw _ (List.mem_of_getElem? (i := 51) rfl))) (by decide) (backOf (W := 0) (rm10 l Z a0 hw [] r 8 h0 n0 Z0 M f B rfl hM hM') hZ (hw _ (List.mem_of_getElem? (i := 51) rfl)) (hw _ (List.mem_of_getElem? (i := 50) rfl)) (by decide) (by decide)) (g := (mkF m 8 #[.val (.ref a1)] [(.int (8 : Int32)), (.ref r)])) rfl (by rw [hml]; rfl) (argsL := [(.ref r), (.int (8 : Int32))]) (rest := []) (lenOf pd_4 rfl) rfl (by show 2 * 0 + _ ≤ _; exact Nat.le_of_eq rfl) (hb hby d9_8) (fun _ _ => ⟨rfl, e27, (by decide : 0 + 1 ≤ _), (by decide : 0 + 8 ≤ _)⟩)
  dsimp only [Pt.U, Pt.locs, Pt.cells, Pt.slots] at X28 l28 y28 z28 st28 hQ28
  subst l28 y28 z28
  obtain ⟨r28, rfl, M28, K28, B28⟩ := hQ28
  have N28 := Fr.app N0 M28
  refine own_back st28 ?_
  show own_Gl _ _ _ _ (T28.setTop (mkF m 11 #[.val (.ref a1)] [(.ref r28)]))
  exact own_rA X28 hx hlk Bd.returns rfl rfl rfl (hb hby d9_11) (by show Qrm9 Z f h0 n0 _ T28.heap _; exact ⟨r28, rfl, N28, K28, B28⟩) (by decide) (by decide)
theorem d12_0 : decode method_2_code 0 = .ok (.iload_n 1, 1) := by decide +kernel
theorem d12_1 : decode method_2_code 1 = .ok (.iload_n 2, 1) := by decide +kernel
theorem d12_2 : decode method_2_code 2 = .ok (.if_icmp .ne 13, 3) := by decide +kernel
theorem d12_5 : decode method_2_code 5 = .ok (.iload_n 3, 1) := by decide +kernel
theorem d12_6 : decode method_2_code 6 = .ok (.bipush 8, 2) := by decide +kernel
theorem d12_8 : decode method_2_code 8 = .ok (.iushr, 1) := by decide +kernel
theorem d12_9 : decode method_2_code 9 = .ok (.i2b, 1) := by decide +kernel
theorem d12_10 : decode method_2_code 10 = .ok (.istore 6, 2) := by decide +kernel
theorem d12_12 : decode method_2_code 12 = .ok (.goto 51, 3) := by decide +kernel
theorem d12_15 : decode method_2_code 15 = .ok (.iload_n 1, 1) := by decide +kernel
theorem d12_16 : decode method_2_code 16 = .ok (.iload_n 2, 1) := by decide +kernel
theorem d12_17 : decode method_2_code 17 = .ok (.iconst 1, 1) := by decide +kernel
theorem d12_18 : decode method_2_code 18 = .ok (.iadd, 1) := by decide +kernel
theorem d12_19 : decode method_2_code 19 = .ok (.if_icmp .ne 10, 3) := by decide +kernel
theorem d12_22 : decode method_2_code 22 = .ok (.iload_n 3, 1) := by decide +kernel
theorem d12_23 : decode method_2_code 23 = .ok (.i2b, 1) := by decide +kernel
theorem d12_24 : decode method_2_code 24 = .ok (.istore 6, 2) := by decide +kernel
theorem d12_26 : decode method_2_code 26 = .ok (.goto 37, 3) := by decide +kernel
theorem d12_29 : decode method_2_code 29 = .ok (.iload_n 1, 1) := by decide +kernel
theorem d12_30 : decode method_2_code 30 = .ok (.iconst 4, 1) := by decide +kernel
theorem d12_31 : decode method_2_code 31 = .ok (.if_icmp .ge 19, 3) := by decide +kernel
theorem d12_34 : decode method_2_code 34 = .ok (.iload 4, 2) := by decide +kernel
theorem d12_36 : decode method_2_code 36 = .ok (.bipush 24, 2) := by decide +kernel
theorem d12_38 : decode method_2_code 38 = .ok (.bipush 8, 2) := by decide +kernel
theorem d12_40 : decode method_2_code 40 = .ok (.iload_n 1, 1) := by decide +kernel
theorem d12_41 : decode method_2_code 41 = .ok (.imul, 1) := by decide +kernel
theorem d12_42 : decode method_2_code 42 = .ok (.isub, 1) := by decide +kernel
theorem d12_43 : decode method_2_code 43 = .ok (.iushr, 1) := by decide +kernel
theorem d12_44 : decode method_2_code 44 = .ok (.i2b, 1) := by decide +kernel
theorem d12_45 : decode method_2_code 45 = .ok (.istore 6, 2) := by decide +kernel
theorem d12_47 : decode method_2_code 47 = .ok (.goto 16, 3) := by decide +kernel
theorem d12_50 : decode method_2_code 50 = .ok (.iload 5, 2) := by decide +kernel
theorem d12_52 : decode method_2_code 52 = .ok (.bipush 56, 2) := by decide +kernel
theorem d12_54 : decode method_2_code 54 = .ok (.bipush 8, 2) := by decide +kernel
theorem d12_56 : decode method_2_code 56 = .ok (.iload_n 1, 1) := by decide +kernel
theorem d12_57 : decode method_2_code 57 = .ok (.imul, 1) := by decide +kernel
theorem d12_58 : decode method_2_code 58 = .ok (.isub, 1) := by decide +kernel
theorem d12_59 : decode method_2_code 59 = .ok (.iushr, 1) := by decide +kernel
theorem d12_60 : decode method_2_code 60 = .ok (.i2b, 1) := by decide +kernel
theorem d12_61 : decode method_2_code 61 = .ok (.istore 6, 2) := by decide +kernel
theorem d12_63 : decode method_2_code 63 = .ok (.aload_n 0, 1) := by decide +kernel
theorem d12_64 : decode method_2_code 64 = .ok (.iload_n 1, 1) := by decide +kernel
theorem d12_65 : decode method_2_code 65 = .ok (.baload, 1) := by decide +kernel
theorem d12_66 : decode method_2_code 66 = .ok (.iload 6, 2) := by decide +kernel
theorem d12_68 : decode method_2_code 68 = .ok (.if_icmp .ne 7, 3) := by decide +kernel
theorem d12_71 : decode method_2_code 71 = .ok (.iconst 1, 1) := by decide +kernel
theorem d12_72 : decode method_2_code 72 = .ok (.goto 4, 3) := by decide +kernel
theorem d12_75 : decode method_2_code 75 = .ok (.iconst 0, 1) := by decide +kernel
theorem d12_76 : decode method_2_code 76 = .ok (.ireturn, 1) := by decide +kernel
theorem pn_12 : plainFor (⟨"com/example/bytewright/bytewright/classfile/ClassOutputU2AtPinLaw", "ok", "([BIIIII)Z"⟩ : MethodName) = true := plainFor_of_name (by first | (simp [plainName, overriddenIn]; done) | decide +kernel)
def Qrm12 (h0 : Heap) (n0 : Nat) (v : Option Value) (h : Heap) (L : List Loc) : Prop := v = some (.int 1) ∧ Fr n0 L ∧ h = h0
set_option maxRecDepth 65536 in
set_option maxHeartbeats 40000000 in
theorem rm12 (l : Launch) (Z : State) (a0 : Array Value) (hw : ∀ d ∈ tables_1, d.before a0 Z = true) (ws : List Jvm.Cond) (a1 : Addr) (p2 : Int32) (p3 : Int32) (p4 : Int32) (p5 : Int32) (p6 : Int32) (h0 : Heap) (n0 : Nat) (Z0 : n0 ≤ h0.size) (j : Nat) (f : Nat → Int32) (B : own_B Z h0 a1 8 f) (hj : p2 = Int32.ofNat j) (h8 : j < 8) (hv : f j = own_ex p2 p3 p4 p5 p6) :
    MetFree l (⟨"com/example/bytewright/bytewright/classfile/ClassOutputU2AtPinLaw", "ok", "([BIIIII)Z"⟩ : MethodName) (head1 (Jvm.Cond.code (⟨"com/example/bytewright/bytewright/classfile/ClassOutputU2AtPinLaw", "ok", "([BIIIII)Z"⟩ : MethodName) method_2_code 7 (some .boolean) :: ws) ({ frames := 0, cells := 0, slots := 0, locals := 0 } : Room)) (fun a_ U_ => a_ = #[(.ref a1), (.int p2), (.int p3), (.int p4), (.int p5), (.int p6)] ∧ Z.Warmed39 U_.vm ∧ U_.heap = h0) (fun _ _ _ _ _ => True) (fun _ U_ o_ U'_ => ∃ v_ L_, o_ = .returned v_ ∧ (Qrm12 h0 n0) v_ U'_.heap L_ ∧ FrameEnd U_ o_ U'_ L_ 0 0) := by
  refine MetFree.of_bodySF pn_12 hisR ?_
  intro p e s m args below meth c s₁ Bd hml0 hP hK
  obtain ⟨rfl, hZ, hh⟩ := hP
  have hx := Bd.exec
  have hby := Bd.bytes
  have hlk : meth.locks = false := Bd.notSynchronized
  have hml : c.maxLocals = 7 := hml0
  have hown : s.vm.findClass "com/example/bytewright/bytewright/classfile/ClassOutputU2AtPinLaw" = some m.cls := findClass_of_methodNamed Bd.named
  have hnm := (name_of_methodNamed Bd.named Bd.method).1
  have X0 : Stand p l e ({ frames := 0, cells := 0, slots := 0, locals := 0 } : Room) s m #[(.ref a1), (.int p2), (.int p3), (.int p4), (.int p5), (.int p6)] below meth c s₁ [] 0 0 := Stand.of_body Bd
  have e0 : s₁.heap = h0 := by rw [← hh, Bd.state]; rfl
  have N0 := Fr.nil n0
  refine own_start (Q := Qrm12 h0 n0) (g' := (mkF m 0 #[.val (.ref a1), .val (.int p2), .val (.int p3), .val (.int p4), .val (.int p5), .val (.int p6), .unset] [])) (by first | (simp [entryFrame, mkF, argsToLocals, Value.category]; done) | rfl) ?_
  show own_Gl _ _ _ _ (s₁.setTop (mkF m 0 #[.val (.ref a1), .val (.int p2), .val (.int p3), .val (.int p4), .val (.int p5), .val (.int p6), .unset] []))
  obtain ⟨n1, n2, n3⟩ := own_nat (i := j) (by omega)
  obtain ⟨cl, A, S, H, G⟩ := B
  refine own_back (fun t_ q_ => XS.iloadN X0.here hx rfl (hb hby d12_0) rfl q_) ?_
  show own_Gl _ _ _ _ (s₁.setTop (mkF m 1 #[.val (.ref a1), .val (.int p2), .val (.int p3), .val (.int p4), .val (.int p5), .val (.int p6), .unset] [(.int p2)]))
  refine own_back (fun t_ q_ => XS.iloadN X0.here hx rfl (hb hby d12_1) rfl q_) ?_
  show own_Gl _ _ _ _ (s₁.setTop (mkF m 2 #[.val (.ref a1), .val (.int p2), .val (.int p3), .val (.int p4), .val (.int p5), .val (.int p6), .unset] [(.int p3), (.int p2)]))
  refine own_join (α := Int32) (fun z => s₁.setTop (mkF m 63 #[.val (.ref a1), .val (.int p2), .val (.int p3), .val (.int p4), .val (.int p5), .val (.int p6), .val (.int z)] [])) (fun z => z = own_ex p2 p3 p4 p5 p6) (fun x629 hz => ?_) (fun tail29 => ?_)
  · skip
    have hc29 := hz
    have hc29 : x629 = own_ex p2 p3 p4 p5 p6 := hc29
    show own_Gl _ _ _ _ (s₁.setTop (mkF m 63 #[.val (.ref a1), .val (.int p2), .val (.int p3), .val (.int p4), .val (.int p5), .val (.int p6), .val (.int x629)] []))
    refine own_back (fun t_ q_ => XS.aloadN X0.here hx rfl (hb hby d12_63) rfl rfl q_) ?_
    show own_Gl _ _ _ _ (s₁.setTop (mkF m 64 #[.val (.ref a1), .val (.int p2), .val (.int p3), .val (.int p4), .val (.int p5), .val (.int p6), .val (.int x629)] [(.ref a1)]))
    refine own_back (fun t_ q_ => XS.iloadN X0.here hx rfl (hb hby d12_64) rfl q_) ?_
    show own_Gl _ _ _ _ (s₁.setTop (mkF m 65 #[.val (.ref a1), .val (.int p2), .val (.int p3), .val (.int p4), .val (.int p5), .val (.int p6), .val (.int x629)] [(.int p2), (.ref a1)]))
    refine own_back (fun t_ q_ => X0.baloadBytes hx (j := p2) (v := (.int (f j))) (by rw [e0]; exact A.1) (State.isArrayOf_alike hZ.alike A.2.1) A.2.2 (show ¬ (p2 < 0 ∨ cl.slots.size ≤ p2.toNatClampNeg) by rw [hj, n2, S]; exact fun q => q.elim n1 (by omega)) (show cl.slots[p2.toNatClampNeg]? = some (.int (f j)) by rw [hj, n2]; exact H j h8) (g := (mkF m 65 #[.val (.ref a1), .val (.int p2), .val (.int p3), .val (.int p4), .val (.int p5), .val (.int p6), .val (.int x629)] [(.int p2), (.ref a1)])) rfl rfl (hb hby d12_65) t_ q_) ?_
    show own_Gl _ _ _ _ (s₁.setTop (mkF m 66 #[.val (.ref a1), .val (.int p2), .val (.int p3), .val (.int p4), .val (.int p5), .val (.int p6), .val (.int x629)] [(.int (f j))]))
    refine own_back (fun t_ q_ => XS.iload X0.here hx rfl (hb hby d12_66) rfl q_) ?_
    show own_Gl _ _ _ _ (s₁.setTop (mkF m 68 #[.val (.ref a1), .val (.int p2), .val (.int p3), .val (.int p4), .val (.int p5), .val (.int p6), .val (.int x629)] [(.int x629), (.int (f j))]))
    refine own_back (fun t_ q_ => XS.icmpNo X0.here hx rfl (hb hby d12_68) rfl (teq (hv.trans hc29.symm : (f j) = x629)).2 q_) ?_
    show own_Gl _ _ _ _ (s₁.setTop (mkF m 71 #[.val (.ref a1), .val (.int p2), .val (.int p3), .val (.int p4), .val (.int p5), .val (.int p6), .val (.int x629)] []))
    refine own_back (fun t_ q_ => XS.iconst X0.here hx rfl (hb hby d12_71) q_) ?_
    show own_Gl _ _ _ _ (s₁.setTop (mkF m 72 #[.val (.ref a1), .val (.int p2), .val (.int p3), .val (.int p4), .val (.int p5), .val (.int p6), .val (.int x629)] [(.int (1 : Int32))]))
    refine own_back (fun t_ q_ => XS.goto X0.here hx rfl (pc0 := 72) (pc' := 76) rfl (hb hby d12_72) (by decide) (by decide) q_) ?_
    show own_Gl _ _ _ _ (s₁.setTop (mkF m 76 #[.val (.ref a1), .val (.int p2), .val (.int p3), .val (.int p4), .val (.int p5), .val (.int p6), .val (.int x629)] [(.int (1 : Int32))]))
    exact own_rZ X0 hx hlk Bd.returns (hb hby d12_76) (own_one rfl) (by show Qrm12 h0 n0 _ s₁.heap _; rw [e0]; exact ⟨rfl, N0, rfl⟩) (by decide) (by decide)
  · skip
    by_cases k1 : p2 = p3
    · skip
      refine own_back (fun t_ q_ => XS.icmpNo X0.here hx rfl (hb hby d12_2) rfl (teq (k1 : p2 = p3)).2 q_) ?_
      show own_Gl _ _ _ _ (s₁.setTop (mkF m 5 #[.val (.ref a1), .val (.int p2), .val (.int p3), .val (.int p4), .val (.int p5), .val (.int p6), .unset] []))
      refine own_back (fun t_ q_ => XS.iloadN X0.here hx rfl (hb hby d12_5) rfl q_) ?_
      show own_Gl _ _ _ _ (s₁.setTop (mkF m 6 #[.val (.ref a1), .val (.int p2), .val (.int p3), .val (.int p4), .val (.int p5), .val (.int p6), .unset] [(.int p4)]))
      refine own_back (fun t_ q_ => XS.bipush X0.here hx rfl (hb hby d12_6) q_) ?_
      show own_Gl _ _ _ _ (s₁.setTop (mkF m 8 #[.val (.ref a1), .val (.int p2), .val (.int p3), .val (.int p4), .val (.int p5), .val (.int p6), .unset] [(.int (8 : Int32)), (.int p4)]))
      refine own_back (fun t_ q_ => XS.iushr X0.here hx rfl (hb hby d12_8) rfl q_) ?_
      show own_Gl _ _ _ _ (s₁.setTop (mkF m 9 #[.val (.ref a1), .val (.int p2), .val (.int p3), .val (.int p4), .val (.int p5), .val (.int p6), .unset] [(.int ((p4.toUInt32 >>> ((8 : Int32) &&& 31).toUInt32).toInt32))]))
      refine own_back (fun t_ q_ => XS.i2b X0.here hx rfl (hb hby d12_9) rfl q_) ?_
      show own_Gl _ _ _ _ (s₁.setTop (mkF m 10 #[.val (.ref a1), .val (.int p2), .val (.int p3), .val (.int p4), .val (.int p5), .val (.int p6), .unset] [(.int (((p4.toUInt32 >>> ((8 : Int32) &&& 31).toUInt32).toInt32).toInt8.toInt32))]))
      refine own_back (fun t_ q_ => XS.istore X0.here hx rfl (hb hby d12_10) rfl (l' := #[.val (.ref a1), .val (.int p2), .val (.int p3), .val (.int p4), .val (.int p5), .val (.int p6), .val (.int (((p4.toUInt32 >>> ((8 : Int32) &&& 31).toUInt32).toInt32).toInt8.toInt32))]) rfl q_) ?_
      show own_Gl _ _ _ _ (s₁.setTop (mkF m 12 #[.val (.ref a1), .val (.int p2), .val (.int p3), .val (.int p4), .val (.int p5), .val (.int p6), .val (.int (((p4.toUInt32 >>> ((8 : Int32) &&& 31).toUInt32).toInt32).toInt8.toInt32))] []))
      refine own_back (fun t_ q_ => XS.goto X0.here hx rfl (pc0 := 12) (pc' := 63) rfl (hb hby d12_12) (by decide) (by decide) q_) ?_
      show own_Gl _ _ _ _ (s₁.setTop (mkF m 63 #[.val (.ref a1), .val (.int p2), .val (.int p3), .val (.int p4), .val (.int p5), .val (.int p6), .val (.int (((p4.toUInt32 >>> ((8 : Int32) &&& 31).toUInt32).toInt32).toInt8.toInt32))] []))
      exact tail29 (((p4.toUInt32 >>> ((8 : Int32) &&& 31).toUInt32).toInt32).toInt8.toInt32) (by rw [own_ex, if_pos k1])
    · skip
      refine own_back (fun t_ q_ => XS.icmpYes X0.here hx rfl (pc0 := 2) (pc' := 15) rfl (hb hby d12_2) rfl (feq (k1 : ¬ (p2 = p3))).2 (by decide) (by decide) q_) ?_
      show own_Gl _ _ _ _ (s₁.setTop (mkF m 15 #[.val (.ref a1), .val (.int p2), .val (.int p3), .val (.int p4), .val (.int p5), .val (.int p6), .unset] []))
      refine own_back (fun t_ q_ => XS.iloadN X0.here hx rfl (hb hby d12_15) rfl q_) ?_
      show own_Gl _ _ _ _ (s₁.setTop (mkF m 16 #[.val (.ref a1), .val (.int p2), .val (.int p3), .val (.int p4), .val (.int p5), .val (.int p6), .unset] [(.int p2)]))
      refine own_back (fun t_ q_ => XS.iloadN X0.here hx rfl (hb hby d12_16) rfl q_) ?_
      show own_Gl _ _ _ _ (s₁.setTop (mkF m 17 #[.val (.ref a1), .val (.int p2), .val (.int p3), .val (.int p4), .val (.int p5), .val (.int p6), .unset] [(.int p3), (.int p2)]))
      refine own_back (fun t_ q_ => XS.iconst X0.here hx rfl (hb hby d12_17) q_) ?_
      show own_Gl _ _ _ _ (s₁.setTop (mkF m 18 #[.val (.ref a1), .val (.int p2), .val (.int p3), .val (.int p4), .val (.int p5), .val (.int p6), .unset] [(.int (1 : Int32)), (.int p3), (.int p2)]))
      refine own_back (fun t_ q_ => XS.iadd X0.here hx rfl (hb hby d12_18) rfl q_) ?_
      show own_Gl _ _ _ _ (s₁.setTop (mkF m 19 #[.val (.ref a1), .val (.int p2), .val (.int p3), .val (.int p4), .val (.int p5), .val (.int p6), .unset] [(.int (p3 + (1 : Int32))), (.int p2)]))
      by_cases k2 : p2 = (p3 + (1 : Int32))
      · skip
        refine own_back (fun t_ q_ => XS.icmpNo X0.here hx rfl (hb hby d12_19) rfl (teq (k2 : p2 = (p3 + (1 : Int32)))).2 q_) ?_
        show own_Gl _ _ _ _ (s₁.setTop (mkF m 22 #[.val (.ref a1), .val (.int p2), .val (.int p3), .val (.int p4), .val (.int p5), .val (.int p6), .unset] []))
        refine own_back (fun t_ q_ => XS.iloadN X0.here hx rfl (hb hby d12_22) rfl q_) ?_
        show own_Gl _ _ _ _ (s₁.setTop (mkF m 23 #[.val (.ref a1), .val (.int p2), .val (.int p3), .val (.int p4), .val (.int p5), .val (.int p6), .unset] [(.int p4)]))
        refine own_back (fun t_ q_ => XS.i2b X0.here hx rfl (hb hby d12_23) rfl q_) ?_
        show own_Gl _ _ _ _ (s₁.setTop (mkF m 24 #[.val (.ref a1), .val (.int p2), .val (.int p3), .val (.int p4), .val (.int p5), .val (.int p6), .unset] [(.int (p4.toInt8.toInt32))]))
        refine own_back (fun t_ q_ => XS.istore X0.here hx rfl (hb hby d12_24) rfl (l' := #[.val (.ref a1), .val (.int p2), .val (.int p3), .val (.int p4), .val (.int p5), .val (.int p6), .val (.int (p4.toInt8.toInt32))]) rfl q_) ?_
        show own_Gl _ _ _ _ (s₁.setTop (mkF m 26 #[.val (.ref a1), .val (.int p2), .val (.int p3), .val (.int p4), .val (.int p5), .val (.int p6), .val (.int (p4.toInt8.toInt32))] []))
        refine own_back (fun t_ q_ => XS.goto X0.here hx rfl (pc0 := 26) (pc' := 63) rfl (hb hby d12_26) (by decide) (by decide) q_) ?_
        show own_Gl _ _ _ _ (s₁.setTop (mkF m 63 #[.val (.ref a1), .val (.int p2), .val (.int p3), .val (.int p4), .val (.int p5), .val (.int p6), .val (.int (p4.toInt8.toInt32))] []))
        exact tail29 (p4.toInt8.toInt32) (by rw [own_ex, if_neg k1, if_pos k2])
      · skip
        refine own_back (fun t_ q_ => XS.icmpYes X0.here hx rfl (pc0 := 19) (pc' := 29) rfl (hb hby d12_19) rfl (feq (k2 : ¬ (p2 = (p3 + (1 : Int32))))).2 (by decide) (by decide) q_) ?_
        show own_Gl _ _ _ _ (s₁.setTop (mkF m 29 #[.val (.ref a1), .val (.int p2), .val (.int p3), .val (.int p4), .val (.int p5), .val (.int p6), .unset] []))
        refine own_back (fun t_ q_ => XS.iloadN X0.here hx rfl (hb hby d12_29) rfl q_) ?_
        show own_Gl _ _ _ _ (s₁.setTop (mkF m 30 #[.val (.ref a1), .val (.int p2), .val (.int p3), .val (.int p4), .val (.int p5), .val (.int p6), .unset] [(.int p2)]))
        refine own_back (fun t_ q_ => XS.iconst X0.here hx rfl (hb hby d12_30) q_) ?_
        show own_Gl _ _ _ _ (s₁.setTop (mkF m 31 #[.val (.ref a1), .val (.int p2), .val (.int p3), .val (.int p4), .val (.int p5), .val (.int p6), .unset] [(.int (4 : Int32)), (.int p2)]))
        by_cases k3 : p2 < (4 : Int32)
        · skip
          refine own_back (fun t_ q_ => XS.icmpNo X0.here hx rfl (hb hby d12_31) rfl (tlt (k3 : p2 < (4 : Int32))).2.1 q_) ?_
          show own_Gl _ _ _ _ (s₁.setTop (mkF m 34 #[.val (.ref a1), .val (.int p2), .val (.int p3), .val (.int p4), .val (.int p5), .val (.int p6), .unset] []))
          refine own_back (fun t_ q_ => XS.iload X0.here hx rfl (hb hby d12_34) rfl q_) ?_
          show own_Gl _ _ _ _ (s₁.setTop (mkF m 36 #[.val (.ref a1), .val (.int p2), .val (.int p3), .val (.int p4), .val (.int p5), .val (.int p6), .unset] [(.int p5)]))
          refine own_back (fun t_ q_ => XS.bipush X0.here hx rfl (hb hby d12_36) q_) ?_
          show own_Gl _ _ _ _ (s₁.setTop (mkF m 38 #[.val (.ref a1), .val (.int p2), .val (.int p3), .val (.int p4), .val (.int p5), .val (.int p6), .unset] [(.int (24 : Int32)), (.int p5)]))
          refine own_back (fun t_ q_ => XS.bipush X0.here hx rfl (hb hby d12_38) q_) ?_
          show own_Gl _ _ _ _ (s₁.setTop (mkF m 40 #[.val (.ref a1), .val (.int p2), .val (.int p3), .val (.int p4), .val (.int p5), .val (.int p6), .unset] [(.int (8 : Int32)), (.int (24 : Int32)), (.int p5)]))
          refine own_back (fun t_ q_ => XS.iloadN X0.here hx rfl (hb hby d12_40) rfl q_) ?_
          show own_Gl _ _ _ _ (s₁.setTop (mkF m 41 #[.val (.ref a1), .val (.int p2), .val (.int p3), .val (.int p4), .val (.int p5), .val (.int p6), .unset] [(.int p2), (.int (8 : Int32)), (.int (24 : Int32)), (.int p5)]))
          refine own_back (fun t_ q_ => XS.imul X0.here hx rfl (hb hby d12_41) rfl q_) ?_
          show own_Gl _ _ _ _ (s₁.setTop (mkF m 42 #[.val (.ref a1), .val (.int p2), .val (.int p3), .val (.int p4), .val (.int p5), .val (.int p6), .unset] [(.int ((8 : Int32) * p2)), (.int (24 : Int32)), (.int p5)]))
          refine own_back (fun t_ q_ => XS.isub X0.here hx rfl (hb hby d12_42) rfl q_) ?_
          show own_Gl _ _ _ _ (s₁.setTop (mkF m 43 #[.val (.ref a1), .val (.int p2), .val (.int p3), .val (.int p4), .val (.int p5), .val (.int p6), .unset] [(.int ((24 : Int32) - ((8 : Int32) * p2))), (.int p5)]))
          refine own_back (fun t_ q_ => XS.iushr X0.here hx rfl (hb hby d12_43) rfl q_) ?_
          show own_Gl _ _ _ _ (s₁.setTop (mkF m 44 #[.val (.ref a1), .val (.int p2), .val (.int p3), .val (.int p4), .val (.int p5), .val (.int p6), .unset] [(.int ((p5.toUInt32 >>> (((24 : Int32) - ((8 : Int32) * p2)) &&& 31).toUInt32).toInt32))]))
          refine own_back (fun t_ q_ => XS.i2b X0.here hx rfl (hb hby d12_44) rfl q_) ?_
          show own_Gl _ _ _ _ (s₁.setTop (mkF m 45 #[.val (.ref a1), .val (.int p2), .val (.int p3), .val (.int p4), .val (.int p5), .val (.int p6), .unset] [(.int (((p5.toUInt32 >>> (((24 : Int32) - ((8 : Int32) * p2)) &&& 31).toUInt32).toInt32).toInt8.toInt32))]))
          refine own_back (fun t_ q_ => XS.istore X0.here hx rfl (hb hby d12_45) rfl (l' := #[.val (.ref a1), .val (.int p2), .val (.int p3), .val (.int p4), .val (.int p5), .val (.int p6), .val (.int (((p5.toUInt32 >>> (((24 : Int32) - ((8 : Int32) * p2)) &&& 31).toUInt32).toInt32).toInt8.toInt32))]) rfl q_) ?_
          show own_Gl _ _ _ _ (s₁.setTop (mkF m 47 #[.val (.ref a1), .val (.int p2), .val (.int p3), .val (.int p4), .val (.int p5), .val (.int p6), .val (.int (((p5.toUInt32 >>> (((24 : Int32) - ((8 : Int32) * p2)) &&& 31).toUInt32).toInt32).toInt8.toInt32))] []))
          refine own_back (fun t_ q_ => XS.goto X0.here hx rfl (pc0 := 47) (pc' := 63) rfl (hb hby d12_47) (by decide) (by decide) q_) ?_
          show own_Gl _ _ _ _ (s₁.setTop (mkF m 63 #[.val (.ref a1), .val (.int p2), .val (.int p3), .val (.int p4), .val (.int p5), .val (.int p6), .val (.int (((p5.toUInt32 >>> (((24 : Int32) - ((8 : Int32) * p2)) &&& 31).toUInt32).toInt32).toInt8.toInt32))] []))
          exact tail29 (((p5.toUInt32 >>> (((24 : Int32) - ((8 : Int32) * p2)) &&& 31).toUInt32).toInt32).toInt8.toInt32) (by rw [own_ex, if_neg k1, if_neg k2, if_pos k3])
        · skip
          refine own_back (fun t_ q_ => XS.icmpYes X0.here hx rfl (pc0 := 31) (pc' := 50) rfl (hb hby d12_31) rfl (flt (k3 : ¬ (p2 < (4 : Int32)))).2.1 (by decide) (by decide) q_) ?_
          show own_Gl _ _ _ _ (s₁.setTop (mkF m 50 #[.val (.ref a1), .val (.int p2), .val (.int p3), .val (.int p4), .val (.int p5), .val (.int p6), .unset] []))
          refine own_back (fun t_ q_ => XS.iload X0.here hx rfl (hb hby d12_50) rfl q_) ?_
          show own_Gl _ _ _ _ (s₁.setTop (mkF m 52 #[.val (.ref a1), .val (.int p2), .val (.int p3), .val (.int p4), .val (.int p5), .val (.int p6), .unset] [(.int p6)]))
          refine own_back (fun t_ q_ => XS.bipush X0.here hx rfl (hb hby d12_52) q_) ?_
          show own_Gl _ _ _ _ (s₁.setTop (mkF m 54 #[.val (.ref a1), .val (.int p2), .val (.int p3), .val (.int p4), .val (.int p5), .val (.int p6), .unset] [(.int (56 : Int32)), (.int p6)]))
          refine own_back (fun t_ q_ => XS.bipush X0.here hx rfl (hb hby d12_54) q_) ?_
          show own_Gl _ _ _ _ (s₁.setTop (mkF m 56 #[.val (.ref a1), .val (.int p2), .val (.int p3), .val (.int p4), .val (.int p5), .val (.int p6), .unset] [(.int (8 : Int32)), (.int (56 : Int32)), (.int p6)]))
          refine own_back (fun t_ q_ => XS.iloadN X0.here hx rfl (hb hby d12_56) rfl q_) ?_
          show own_Gl _ _ _ _ (s₁.setTop (mkF m 57 #[.val (.ref a1), .val (.int p2), .val (.int p3), .val (.int p4), .val (.int p5), .val (.int p6), .unset] [(.int p2), (.int (8 : Int32)), (.int (56 : Int32)), (.int p6)]))
          refine own_back (fun t_ q_ => XS.imul X0.here hx rfl (hb hby d12_57) rfl q_) ?_
          show own_Gl _ _ _ _ (s₁.setTop (mkF m 58 #[.val (.ref a1), .val (.int p2), .val (.int p3), .val (.int p4), .val (.int p5), .val (.int p6), .unset] [(.int ((8 : Int32) * p2)), (.int (56 : Int32)), (.int p6)]))
          refine own_back (fun t_ q_ => XS.isub X0.here hx rfl (hb hby d12_58) rfl q_) ?_
          show own_Gl _ _ _ _ (s₁.setTop (mkF m 59 #[.val (.ref a1), .val (.int p2), .val (.int p3), .val (.int p4), .val (.int p5), .val (.int p6), .unset] [(.int ((56 : Int32) - ((8 : Int32) * p2))), (.int p6)]))
          refine own_back (fun t_ q_ => XS.iushr X0.here hx rfl (hb hby d12_59) rfl q_) ?_
          show own_Gl _ _ _ _ (s₁.setTop (mkF m 60 #[.val (.ref a1), .val (.int p2), .val (.int p3), .val (.int p4), .val (.int p5), .val (.int p6), .unset] [(.int ((p6.toUInt32 >>> (((56 : Int32) - ((8 : Int32) * p2)) &&& 31).toUInt32).toInt32))]))
          refine own_back (fun t_ q_ => XS.i2b X0.here hx rfl (hb hby d12_60) rfl q_) ?_
          show own_Gl _ _ _ _ (s₁.setTop (mkF m 61 #[.val (.ref a1), .val (.int p2), .val (.int p3), .val (.int p4), .val (.int p5), .val (.int p6), .unset] [(.int (((p6.toUInt32 >>> (((56 : Int32) - ((8 : Int32) * p2)) &&& 31).toUInt32).toInt32).toInt8.toInt32))]))
          refine own_back (fun t_ q_ => XS.istore X0.here hx rfl (hb hby d12_61) rfl (l' := #[.val (.ref a1), .val (.int p2), .val (.int p3), .val (.int p4), .val (.int p5), .val (.int p6), .val (.int (((p6.toUInt32 >>> (((56 : Int32) - ((8 : Int32) * p2)) &&& 31).toUInt32).toInt32).toInt8.toInt32))]) rfl q_) ?_
          show own_Gl _ _ _ _ (s₁.setTop (mkF m 63 #[.val (.ref a1), .val (.int p2), .val (.int p3), .val (.int p4), .val (.int p5), .val (.int p6), .val (.int (((p6.toUInt32 >>> (((56 : Int32) - ((8 : Int32) * p2)) &&& 31).toUInt32).toInt32).toInt8.toInt32))] []))
          exact tail29 (((p6.toUInt32 >>> (((56 : Int32) - ((8 : Int32) * p2)) &&& 31).toUInt32).toInt32).toInt8.toInt32) (by rw [own_ex, if_neg k1, if_neg k2, if_neg k3])
theorem own_nn (x : Int32) : nar .byte (x.toInt8.toInt32) = x.toInt8.toInt32 := by show x.toInt8.toInt32.toInt8.toInt32 = _; simp
theorem own_sh8 (x : Int32) : (((((x.toUInt32 >>> ((16 : Int32) &&& 31).toUInt32).toInt32)).toUInt32 >>> ((8 : Int32) &&& 31).toUInt32).toInt32) = ((x.toUInt32 >>> ((24 : Int32) &&& 31).toUInt32).toInt32) := by
  have e : ∀ y : UInt32, (y >>> ((16 : Int32) &&& 31).toUInt32).toInt32.toUInt32 >>> ((8 : Int32) &&& 31).toUInt32 = y >>> ((24 : Int32) &&& 31).toUInt32 := fun y => by
    apply UInt32.toBitVec_inj.mp
    show ((y >>> ((16 : Int32) &&& 31).toUInt32) >>> ((8 : Int32) &&& 31).toUInt32).toBitVec = _
    rw [UInt32.toBitVec_shiftRight, UInt32.toBitVec_shiftRight, UInt32.toBitVec_shiftRight, show ((16 : Int32) &&& 31).toUInt32.toBitVec % 32 = 16#32 by decide, show ((8 : Int32) &&& 31).toUInt32.toBitVec % 32 = 8#32 by decide, show ((24 : Int32) &&& 31).toUInt32.toBitVec % 32 = 24#32 by decide, BitVec.ushiftRight_eq', BitVec.ushiftRight_eq', BitVec.ushiftRight_eq', ← BitVec.shiftRight_add]; rfl
  rw [e]
theorem own_sh0 (x : Int32) : ((x.toUInt32 >>> ((0 : Int32) &&& 31).toUInt32).toInt32) = x := by
  apply Int32.toBitVec_inj.mp
  show (x.toUInt32 >>> ((0 : Int32) &&& 31).toUInt32).toBitVec = _
  rw [UInt32.toBitVec_shiftRight, show ((0 : Int32) &&& 31).toUInt32.toBitVec % 32 = 0#32 by decide, BitVec.ushiftRight_eq']; simp
def own_fin (a b v : Int32) (k : Nat) : Nat → Int32 := own_upd (own_upd (own_upd (own_upd (own_upd (own_upd (own_upd (own_upd (own_upd (own_upd (fun _ => 0) (0) (nar .byte (((((a.toUInt32 >>> ((16 : Int32) &&& 31).toUInt32).toInt32).toUInt32 >>> ((8 : Int32) &&& 31).toUInt32).toInt32).toInt8.toInt32))) (0 + 1) (nar .byte (((a.toUInt32 >>> ((16 : Int32) &&& 31).toUInt32).toInt32).toInt8.toInt32))) (0 + 2) (nar .byte (((a.toUInt32 >>> ((8 : Int32) &&& 31).toUInt32).toInt32).toInt8.toInt32))) (0 + 2 + 1) (nar .byte (a.toInt8.toInt32))) (0 + 2 + 2) (nar .byte (((((b.toUInt32 >>> ((16 : Int32) &&& 31).toUInt32).toInt32).toUInt32 >>> ((8 : Int32) &&& 31).toUInt32).toInt32).toInt8.toInt32))) (0 + 2 + 2 + 1) (nar .byte (((b.toUInt32 >>> ((16 : Int32) &&& 31).toUInt32).toInt32).toInt8.toInt32))) (0 + 2 + 2 + 2) (nar .byte (((b.toUInt32 >>> ((8 : Int32) &&& 31).toUInt32).toInt32).toInt8.toInt32))) (0 + 2 + 2 + 2 + 1) (nar .byte (b.toInt8.toInt32))) k (nar .byte (((v.toUInt32 >>> ((8 : Int32) &&& 31).toUInt32).toInt32).toInt8.toInt32))) (k + 1) (nar .byte (v.toInt8.toInt32))
theorem own_base (a b : Int32) (j : Nat) (h8 : j < 8) : (own_upd (own_upd (own_upd (own_upd (own_upd (own_upd (own_upd (own_upd (fun _ => 0) (0) (nar .byte (((((a.toUInt32 >>> ((16 : Int32) &&& 31).toUInt32).toInt32).toUInt32 >>> ((8 : Int32) &&& 31).toUInt32).toInt32).toInt8.toInt32))) (0 + 1) (nar .byte (((a.toUInt32 >>> ((16 : Int32) &&& 31).toUInt32).toInt32).toInt8.toInt32))) (0 + 2) (nar .byte (((a.toUInt32 >>> ((8 : Int32) &&& 31).toUInt32).toInt32).toInt8.toInt32))) (0 + 2 + 1) (nar .byte (a.toInt8.toInt32))) (0 + 2 + 2) (nar .byte (((((b.toUInt32 >>> ((16 : Int32) &&& 31).toUInt32).toInt32).toUInt32 >>> ((8 : Int32) &&& 31).toUInt32).toInt32).toInt8.toInt32))) (0 + 2 + 2 + 1) (nar .byte (((b.toUInt32 >>> ((16 : Int32) &&& 31).toUInt32).toInt32).toInt8.toInt32))) (0 + 2 + 2 + 2) (nar .byte (((b.toUInt32 >>> ((8 : Int32) &&& 31).toUInt32).toInt32).toInt8.toInt32))) (0 + 2 + 2 + 2 + 1) (nar .byte (b.toInt8.toInt32))) j = if (Int32.ofNat j) < 4 then ((a.toUInt32 >>> (((24 : Int32) - ((8 : Int32) * Int32.ofNat j)) &&& 31).toUInt32).toInt32).toInt8.toInt32 else ((b.toUInt32 >>> (((56 : Int32) - ((8 : Int32) * Int32.ofNat j)) &&& 31).toUInt32).toInt32).toInt8.toInt32 := by
  have hj' : j = 0 ∨ j = 1 ∨ j = 2 ∨ j = 3 ∨ j = 4 ∨ j = 5 ∨ j = 6 ∨ j = 7 := by omega
  rcases hj' with rfl | rfl | rfl | rfl | rfl | rfl | rfl | rfl
  · rw [if_pos (by decide), show ((24 : Int32) - ((8 : Int32) * Int32.ofNat 0)) = (24 : Int32) by decide]
    show nar .byte (((((a.toUInt32 >>> ((16 : Int32) &&& 31).toUInt32).toInt32.toUInt32 >>> ((8 : Int32) &&& 31).toUInt32).toInt32).toInt8.toInt32)) = _
    rw [own_nn, own_sh8]
  · rw [if_pos (by decide), show ((24 : Int32) - ((8 : Int32) * Int32.ofNat 1)) = (16 : Int32) by decide]
    show nar .byte ((((a.toUInt32 >>> ((16 : Int32) &&& 31).toUInt32).toInt32).toInt8.toInt32)) = _
    rw [own_nn]
  · rw [if_pos (by decide), show ((24 : Int32) - ((8 : Int32) * Int32.ofNat 2)) = (8 : Int32) by decide]
    show nar .byte ((((a.toUInt32 >>> ((8 : Int32) &&& 31).toUInt32).toInt32).toInt8.toInt32)) = _
    rw [own_nn]
  · rw [if_pos (by decide), show ((24 : Int32) - ((8 : Int32) * Int32.ofNat 3)) = (0 : Int32) by decide]
    show nar .byte ((a.toInt8.toInt32)) = _
    rw [own_nn, own_sh0]
  · rw [if_neg (by decide), show ((56 : Int32) - ((8 : Int32) * Int32.ofNat 4)) = (24 : Int32) by decide]
    show nar .byte (((((b.toUInt32 >>> ((16 : Int32) &&& 31).toUInt32).toInt32.toUInt32 >>> ((8 : Int32) &&& 31).toUInt32).toInt32).toInt8.toInt32)) = _
    rw [own_nn, own_sh8]
  · rw [if_neg (by decide), show ((56 : Int32) - ((8 : Int32) * Int32.ofNat 5)) = (16 : Int32) by decide]
    show nar .byte ((((b.toUInt32 >>> ((16 : Int32) &&& 31).toUInt32).toInt32).toInt8.toInt32)) = _
    rw [own_nn]
  · rw [if_neg (by decide), show ((56 : Int32) - ((8 : Int32) * Int32.ofNat 6)) = (8 : Int32) by decide]
    show nar .byte ((((b.toUInt32 >>> ((8 : Int32) &&& 31).toUInt32).toInt32).toInt8.toInt32)) = _
    rw [own_nn]
  · rw [if_neg (by decide), show ((56 : Int32) - ((8 : Int32) * Int32.ofNat 7)) = (0 : Int32) by decide]
    show nar .byte ((b.toInt8.toInt32)) = _
    rw [own_nn, own_sh0]
theorem own_law (a b v : Int32) (k j : Nat) (hk : k ≤ 6) (h8 : j < 8) : own_fin a b v k j = own_ex (Int32.ofNat j) (Int32.ofNat k) v a b := by
  have e1 : (Int32.ofNat j = Int32.ofNat k) ↔ j = k := ⟨fun q => by have e := congrArg Int32.toInt q; rw [(own_nat (i := j) (by omega)).2.2, (own_nat (i := k) (by omega)).2.2] at e; omega, fun q => by rw [q]⟩
  have e2 : (Int32.ofNat j = Int32.ofNat k + 1) ↔ j = k + 1 := by
    rw [own_addn (i := k) (k := 1) (by omega) (by decide)]
    exact ⟨fun q => by have e := congrArg Int32.toInt q; rw [(own_nat (i := j) (by omega)).2.2, (own_nat (i := k + 1) (by omega)).2.2] at e; omega, fun q => by rw [q]⟩
  unfold own_fin own_ex
  by_cases q1 : j = k
  · rw [if_pos (e1.mpr q1), own_upd, if_neg (by omega), own_upd, if_pos q1, own_nn]
  · rw [if_neg (fun q => q1 (e1.mp q))]
    by_cases q2 : j = k + 1
    · rw [if_pos (e2.mpr q2), own_upd, if_pos q2, own_nn]
    · rw [if_neg (fun q => q2 (e2.mp q)), own_upd, if_neg q2, own_upd, if_neg q1]
      exact own_base a b j h8
theorem own_r7 (f j : Int32) (hj : j = (f &&& (2147483647 : Int32)) % (7 : Int32)) : ∃ k : Nat, k ≤ 6 ∧ j = Int32.ofNat k := by
  have e2 := c_mask f 2147483647 31 (by decide) (by decide)
  have e4 := (c_irem (f &&& 2147483647) 7 7 (by decide)).1 (by omega)
  rw [← hj] at e4
  refine ⟨j.toInt.toNat, by omega, Int32.toInt_inj.mp ?_⟩
  rw [(own_nat (i := j.toInt.toNat) (by omega)).2.2]; omega
theorem own_m31 (f : Int32) : 0 ≤ (f &&& (31 : Int32)).toInt ∧ (f &&& (31 : Int32)).toInt ≤ 31 := by
  have e2 := c_mask f 31 5 (by decide) (by decide)
  omega
theorem pd_5 : parseMethodDescriptor "(II)V" = some ⟨[.int, .int], none⟩ := by decide +kernel
theorem pd_6 : parseMethodDescriptor "()I" = some ⟨[], some .int⟩ := by decide +kernel
theorem pd_7 : parseMethodDescriptor "()[B" = some ⟨[], some (.array .byte)⟩ := by decide +kernel
theorem pd_8 : parseMethodDescriptor "([BIIIII)Z" = some ⟨[(.array .byte), .int, .int, .int, .int, .int], some .boolean⟩ := by decide +kernel
theorem pn_0 : plainFor x = true := plainFor_of_name (by first | (simp [plainName, overriddenIn, x]; done) | decide +kernel)
def Qrm0 (h0 : Heap) (n0 : Nat) (v : Option Value) (h : Heap) (L : List Loc) : Prop := v = some (.int 1) ∧ Fr n0 L
set_option maxRecDepth 65536 in
set_option maxHeartbeats 40000000 in
theorem rm0 (l : Launch) (Z : State) (a0 : Array Value) (hw : ∀ d ∈ tables_1, d.before a0 Z = true) (ws : List Jvm.Cond) (a : Int32) (b : Int32) (pp : Int32) (vv : Int32) (cap : Int32) (h0 : Heap) (n0 : Nat) (Z0 : n0 ≤ h0.size)  :
    MetFree l x (head1 (Jvm.Cond.code x code maxLocals ret :: ws) room_1) (fun a_ U_ => a_ = #[(.int a), (.int b), (.int pp), (.int vv), (.int cap)] ∧ Z.Warmed39 U_.vm ∧ U_.heap = h0) (fun _ _ _ _ _ => True) (fun _ U_ o_ U'_ => ∃ v_ L_, o_ = .returned v_ ∧ (Qrm0 h0 n0) v_ U'_.heap L_ ∧ FrameEnd U_ o_ U'_ L_ 16 192) := by
  refine MetFree.of_bodySF pn_0 hisR ?_
  intro p e s m args below meth c s₁ Bd hml0 hP hK
  obtain ⟨rfl, hZ, hh⟩ := hP
  have hx := Bd.exec
  have hby := Bd.bytes
  have hlk : meth.locks = false := Bd.notSynchronized
  have hml : c.maxLocals = 8 := hml0
  have hown : s.vm.findClass "com/example/bytewright/bytewright/classfile/ClassOutputU2AtPinLaw" = some m.cls := findClass_of_methodNamed Bd.named
  have hnm := (name_of_methodNamed Bd.named Bd.method).1
  have X0 : Stand p l e room_1 s m #[(.int a), (.int b), (.int pp), (.int vv), (.int cap)] below meth c s₁ [] 0 0 := Stand.of_body Bd
  have e0 : s₁.heap = h0 := by rw [← hh, Bd.state]; rfl
  have N0 := Fr.nil n0
  refine own_start (Q := Qrm0 h0 n0) (g' := (mkF m 0 #[.val (.int a), .val (.int b), .val (.int pp), .val (.int vv), .val (.int cap), .unset, .unset, .unset] [])) (by first | (simp [entryFrame, mkF, argsToLocals, Value.category, maxLocals]; done) | rfl) ?_
  show own_Gl _ _ _ _ (s₁.setTop (mkF m 0 #[.val (.int a), .val (.int b), .val (.int pp), .val (.int vv), .val (.int cap), .unset, .unset, .unset] []))
  refine own_back (fun t_ q_ => XS.iloadN X0.here hx rfl (hb hby at_0) rfl q_) ?_
  show own_Gl _ _ _ _ (s₁.setTop (mkF m 1 #[.val (.int a), .val (.int b), .val (.int pp), .val (.int vv), .val (.int cap), .unset, .unset, .unset] [(.int pp)]))
  refine own_back (fun t_ q_ => X0.ldcInt hx hown (mvT hZ (hw _ (List.mem_of_getElem? (i := 0) rfl))) (g := (mkF m 1 #[.val (.int a), .val (.int b), .val (.int pp), .val (.int vv), .val (.int cap), .unset, .unset, .unset] [(.int pp)])) rfl (hb hby at_1) t_ q_) ?_
  show own_Gl _ _ _ _ (s₁.setTop (mkF m 3 #[.val (.int a), .val (.int b), .val (.int pp), .val (.int vv), .val (.int cap), .unset, .unset, .unset] [(.int (2147483647 : Int32)), (.int pp)]))
  refine own_back (fun t_ q_ => XS.iand X0.here hx rfl (hb hby at_3) rfl q_) ?_
  show own_Gl _ _ _ _ (s₁.setTop (mkF m 4 #[.val (.int a), .val (.int b), .val (.int pp), .val (.int vv), .val (.int cap), .unset, .unset, .unset] [(.int (pp &&& (2147483647 : Int32)))]))
  refine own_back (fun t_ q_ => XS.bipush X0.here hx rfl (hb hby at_4) q_) ?_
  show own_Gl _ _ _ _ (s₁.setTop (mkF m 6 #[.val (.int a), .val (.int b), .val (.int pp), .val (.int vv), .val (.int cap), .unset, .unset, .unset] [(.int (7 : Int32)), (.int (pp &&& (2147483647 : Int32)))]))
  refine own_back (fun t_ q_ => Jvm.RoadKit.iremM (g := (mkF m 6 #[.val (.int a), .val (.int b), .val (.int pp), .val (.int vv), .val (.int cap), .unset, .unset, .unset] [(.int (7 : Int32)), (.int (pp &&& (2147483647 : Int32)))])) X0 hx rfl (hb hby at_6) rfl (by decide) q_) ?_
  show own_Gl _ _ _ _ (s₁.setTop (mkF m 7 #[.val (.int a), .val (.int b), .val (.int pp), .val (.int vv), .val (.int cap), .unset, .unset, .unset] [(.int ((pp &&& (2147483647 : Int32)) % (7 : Int32)))]))
  obtain ⟨att, hatt⟩ : ∃ z, z = ((pp &&& (2147483647 : Int32)) % (7 : Int32)) := ⟨_, rfl⟩
  rw [← hatt]
  show own_Gl _ _ _ _ (s₁.setTop (mkF m 7 #[.val (.int a), .val (.int b), .val (.int pp), .val (.int vv), .val (.int cap), .unset, .unset, .unset] [(.int att)]))
  obtain ⟨k, hk, rfl⟩ := own_r7 pp att hatt
  show own_Gl _ _ _ _ (s₁.setTop (mkF m 7 #[.val (.int a), .val (.int b), .val (.int pp), .val (.int vv), .val (.int cap), .unset, .unset, .unset] [(.int (Int32.ofNat k))]))
  refine own_back (fun t_ q_ => XS.istore X0.here hx rfl (hb hby at_7) rfl (l' := #[.val (.int a), .val (.int b), .val (.int pp), .val (.int vv), .val (.int cap), .val (.int (Int32.ofNat k)), .unset, .unset]) rfl q_) ?_
  show own_Gl _ _ _ _ (s₁.setTop (mkF m 9 #[.val (.int a), .val (.int b), .val (.int pp), .val (.int vv), .val (.int cap), .val (.int (Int32.ofNat k)), .unset, .unset] []))
  obtain ⟨T30, h30, X30, e30, E30, A30, D30, -, st30⟩ := newO X0 hx hZ hown (hw _ (List.mem_of_getElem? (i := 1) rfl)) (hw _ (List.mem_of_getElem? (i := 2) rfl)) (hw _ (List.mem_of_getElem? (i := 3) rfl)) e0 (g := (mkF m 9 #[.val (.int a), .val (.int b), .val (.int pp), .val (.int vv), .val (.int cap), .val (.int (Int32.ofNat k)), .unset, .unset] [])) rfl (hb hby at_9) (by decide) (by decide)
  obtain ⟨b30, g30⟩ : ∃ z, z = h0.size := ⟨_, rfl⟩
  rw [← g30] at A30 D30 st30
  refine own_back st30 ?_
  show own_Gl _ _ _ _ (T30.setTop (mkF m 12 #[.val (.int a), .val (.int b), .val (.int pp), .val (.int vv), .val (.int cap), .val (.int (Int32.ofNat k)), .unset, .unset] [(.ref b30)]))
  refine own_back (fun t_ q_ => XS.dup X30.here hx rfl (hb hby at_12) rfl rfl q_) ?_
  show own_Gl _ _ _ _ (T30.setTop (mkF m 13 #[.val (.int a), .val (.int b), .val (.int pp), .val (.int vv), .val (.int cap), .val (.int (Int32.ofNat k)), .unset, .unset] [(.ref b30), (.ref b30)]))
  refine own_back (fun t_ q_ => XS.iload X30.here hx rfl (hb hby at_13) rfl q_) ?_
  show own_Gl _ _ _ _ (T30.setTop (mkF m 15 #[.val (.int a), .val (.int b), .val (.int pp), .val (.int vv), .val (.int cap), .val (.int (Int32.ofNat k)), .unset, .unset] [(.int cap), (.ref b30), (.ref b30)]))
  refine own_back (fun t_ q_ => XS.bipush X30.here hx rfl (hb hby at_15) q_) ?_
  show own_Gl _ _ _ _ (T30.setTop (mkF m 17 #[.val (.int a), .val (.int b), .val (.int pp), .val (.int vv), .val (.int cap), .val (.int (Int32.ofNat k)), .unset, .unset] [(.int (31 : Int32)), (.int cap), (.ref b30), (.ref b30)]))
  refine own_back (fun t_ q_ => XS.iand X30.here hx rfl (hb hby at_17) rfl q_) ?_
  show own_Gl _ _ _ _ (T30.setTop (mkF m 18 #[.val (.int a), .val (.int b), .val (.int pp), .val (.int vv), .val (.int cap), .val (.int (Int32.ofNat k)), .unset, .unset] [(.int (cap &&& (31 : Int32))), (.ref b30), (.ref b30)]))
  have G1 : n0 ≤ b30 := Nat.le_trans Z0 (Nat.le_of_eq g30.symm)
  have Z1 : n0 ≤ h30.size := Nat.le_trans Z0 E30.1
  obtain ⟨_, _, ⟨T31, L31, k31, n31⟩, -, X31, ⟨Lc31, hQ31, l31, y31, z31⟩, st31⟩ := X30.specialBack hx (y := (⟨"com/example/bytewright/bytewright/classfile/ClassOutput", "<init>", "(I)V"⟩ : MethodName)) rfl hown (mvT hZ (hw _ (List.mem_of_getElem? (i := 4) rfl))) (mvT hZ (hw _ (List.mem_of_getElem? (i := 5) rfl))) (mvT hZ (hw _ (List.mem_of_getElem? (i := 6) rfl))) (by decide) (backOf (W := 1) (rm1 l Z a0 hw [] b30 (cap &&& 31) h30 n0 Z1 A30 (D30 (Or.inl (hw _ (List.mem_of_getElem? (i := 16) rfl))) (ty := .array .byte) (by decide)) (D30 (Or.inl (hw _ (List.mem_of_getElem? (i := 32) rfl))) (ty := .int) (by decide)) G1 (own_m31 cap).1 (own_m31 cap).2) hZ (hw _ (List.mem_of_getElem? (i := 6) rfl)) (hw _ (List.mem_of_getElem? (i := 3) rfl)) (by decide) (by decide)) (g := (mkF m 18 #[.val (.int a), .val (.int b), .val (.int pp), .val (.int vv), .val (.int cap), .val (.int (Int32.ofNat k)), .unset, .unset] [(.int (cap &&& (31 : Int32))), (.ref b30), (.ref b30)])) rfl (by rw [hml]; rfl) (Steps.refl _) (a := b30) (argsL := [(.int (cap &&& (31 : Int32)))]) (rest := [(.ref b30)]) (lenOf pd_2 rfl) rfl (by show 2 * 0 + _ ≤ _; exact Nat.le_of_eq rfl) (hb hby at_18) (fun _ _ => ⟨rfl, e30, (by decide : 1 + 1 ≤ _), (by decide : 2 + 31 ≤ _)⟩)
  dsimp only [Pt.U, Pt.locs, Pt.cells, Pt.slots] at X31 l31 y31 z31 st31 hQ31
  subst l31 y31 z31
  obtain ⟨rfl, M31, K31, Ea, r, M, G2, mLo, mHi, Fa, Fb, B⟩ := hQ31
  have N31 := Fr.app N0 M31
  refine own_trans st31 ?_
  show own_Gl _ _ _ _ (T31.setTop (mkF m 21 #[.val (.int a), .val (.int b), .val (.int pp), .val (.int vv), .val (.int cap), .val (.int (Int32.ofNat k)), .unset, .unset] [(.ref b30)]))
  have Z2 : n0 ≤ T31.heap.size := Nat.le_trans Z1 K31.1
  have ne1 : b30 ≠ r := by obtain ⟨cl, A, -⟩ := B; exact ne_arr Ea (hw _ (List.mem_of_getElem? (i := 2) rfl)) A
  refine own_back (fun t_ q_ => XS.astore X31.here hx rfl (hb hby at_21) rfl rfl (l' := #[.val (.int a), .val (.int b), .val (.int pp), .val (.int vv), .val (.int cap), .val (.int (Int32.ofNat k)), .val (.ref b30), .unset]) rfl q_) ?_
  show own_Gl _ _ _ _ (T31.setTop (mkF m 23 #[.val (.int a), .val (.int b), .val (.int pp), .val (.int vv), .val (.int cap), .val (.int (Int32.ofNat k)), .val (.ref b30), .unset] []))
  refine own_back (fun t_ q_ => XS.aload X31.here hx rfl (hb hby at_23) rfl rfl q_) ?_
  show own_Gl _ _ _ _ (T31.setTop (mkF m 25 #[.val (.int a), .val (.int b), .val (.int pp), .val (.int vv), .val (.int cap), .val (.int (Int32.ofNat k)), .val (.ref b30), .unset] [(.ref b30)]))
  refine own_back (fun t_ q_ => XS.iloadN X31.here hx rfl (hb hby at_25) rfl q_) ?_
  show own_Gl _ _ _ _ (T31.setTop (mkF m 26 #[.val (.int a), .val (.int b), .val (.int pp), .val (.int vv), .val (.int cap), .val (.int (Int32.ofNat k)), .val (.ref b30), .unset] [(.int a), (.ref b30)]))
  obtain ⟨cq32, kq32, q32a, q32b, q32c⟩ := isOf hZ rfl Ea
  obtain ⟨_, _, ⟨T32, L32, k32, n32⟩, -, X32, ⟨Lc32, hQ32, l32, y32, z32⟩, st32⟩ := X31.virtualBack hx (y := (⟨"com/example/bytewright/bytewright/classfile/ClassOutput", "u4", "(I)V"⟩ : MethodName)) (z := (⟨"com/example/bytewright/bytewright/classfile/ClassOutput", "u4", "(I)V"⟩ : MethodName)) hown (mvT hZ (hw _ (List.mem_of_getElem? (i := 17) rfl))) (mvT hZ (hw _ (List.mem_of_getElem? (i := 18) rfl))) (notFace_of_selects (args := #[]) (mvT hZ (hw _ (List.mem_of_getElem? (i := 20) rfl)))) (mvT hZ (hw _ (List.mem_of_getElem? (i := 20) rfl))) (mvT hZ (hw _ (List.mem_of_getElem? (i := 19) rfl))) (by decide) (backOf (W := 0) (rm4 l Z a0 hw [] b30 a T31.heap n0 Z2 r M 0 _ Ea Fa Fb B G1 G2 (by omega) mHi) hZ (hw _ (List.mem_of_getElem? (i := 21) rfl)) (hw _ (List.mem_of_getElem? (i := 3) rfl)) (by decide) (by decide)) q32a q32c (g := (mkF m 26 #[.val (.int a), .val (.int b), .val (.int pp), .val (.int vv), .val (.int cap), .val (.int (Int32.ofNat k)), .val (.ref b30), .unset] [(.int a), (.ref b30)])) rfl (by rw [hml]; rfl) (Steps.refl _) (argsL := [(.int a)]) (rest := []) (lenOf pd_2 rfl) rfl (by show 2 * 0 + _ ≤ _; exact Nat.le_of_eq rfl) (hb hby at_26) (fun _ _ => ⟨rfl, rfl, (by decide : 2 + 0 ≤ _), (by decide : 33 + 0 ≤ _)⟩)
  dsimp only [Pt.U, Pt.locs, Pt.cells, Pt.slots] at X32 l32 y32 z32 st32 hQ32
  subst l32 y32 z32
  obtain ⟨rfl, M32, K32, Ea32, Fa32, Fb32, B32⟩ := hQ32
  have N32 := Fr.app N31 M32
  refine own_trans st32 ?_
  show own_Gl _ _ _ _ (T32.setTop (mkF m 29 #[.val (.int a), .val (.int b), .val (.int pp), .val (.int vv), .val (.int cap), .val (.int (Int32.ofNat k)), .val (.ref b30), .unset] []))
  have Z3 : n0 ≤ T32.heap.size := Nat.le_trans Z2 K32.1
  refine own_back (fun t_ q_ => XS.aload X32.here hx rfl (hb hby at_29) rfl rfl q_) ?_
  show own_Gl _ _ _ _ (T32.setTop (mkF m 31 #[.val (.int a), .val (.int b), .val (.int pp), .val (.int vv), .val (.int cap), .val (.int (Int32.ofNat k)), .val (.ref b30), .unset] [(.ref b30)]))
  refine own_back (fun t_ q_ => XS.iloadN X32.here hx rfl (hb hby at_31) rfl q_) ?_
  show own_Gl _ _ _ _ (T32.setTop (mkF m 32 #[.val (.int a), .val (.int b), .val (.int pp), .val (.int vv), .val (.int cap), .val (.int (Int32.ofNat k)), .val (.ref b30), .unset] [(.int b), (.ref b30)]))
  obtain ⟨cq33, kq33, q33a, q33b, q33c⟩ := isOf hZ rfl Ea32
  obtain ⟨_, _, ⟨T33, L33, k33, n33⟩, -, X33, ⟨Lc33, hQ33, l33, y33, z33⟩, st33⟩ := X32.virtualBack hx (y := (⟨"com/example/bytewright/bytewright/classfile/ClassOutput", "u4", "(I)V"⟩ : MethodName)) (z := (⟨"com/example/bytewright/bytewright/classfile/ClassOutput", "u4", "(I)V"⟩ : MethodName)) hown (mvT hZ (hw _ (List.mem_of_getElem? (i := 17) rfl))) (mvT hZ (hw _ (List.mem_of_getElem? (i := 18) rfl))) (notFace_of_selects (args := #[]) (mvT hZ (hw _ (List.mem_of_getElem? (i := 20) rfl)))) (mvT hZ (hw _ (List.mem_of_getElem? (i := 20) rfl))) (mvT hZ (hw _ (List.mem_of_getElem? (i := 19) rfl))) (by decide) (backOf (W := 0) (rm4 l Z a0 hw [] b30 b T32.heap n0 Z3 r M (0 + 2 + 2) _ Ea32 Fa32 Fb32 B32 G1 G2 (by omega) mHi) hZ (hw _ (List.mem_of_getElem? (i := 21) rfl)) (hw _ (List.mem_of_getElem? (i := 3) rfl)) (by decide) (by decide)) q33a q33c (g := (mkF m 32 #[.val (.int a), .val (.int b), .val (.int pp), .val (.int vv), .val (.int cap), .val (.int (Int32.ofNat k)), .val (.ref b30), .unset] [(.int b), (.ref b30)])) rfl (by rw [hml]; rfl) (Steps.refl _) (argsL := [(.int b)]) (rest := []) (lenOf pd_2 rfl) rfl (by show 2 * 0 + _ ≤ _; exact Nat.le_of_eq rfl) (hb hby at_32) (fun _ _ => ⟨rfl, rfl, (by decide : 2 + 0 ≤ _), (by decide : 33 + 0 ≤ _)⟩)
  dsimp only [Pt.U, Pt.locs, Pt.cells, Pt.slots] at X33 l33 y33 z33 st33 hQ33
  subst l33 y33 z33
  obtain ⟨rfl, M33, K33, Ea33, Fa33, Fb33, B33⟩ := hQ33
  have N33 := Fr.app N32 M33
  refine own_trans st33 ?_
  show own_Gl _ _ _ _ (T33.setTop (mkF m 35 #[.val (.int a), .val (.int b), .val (.int pp), .val (.int vv), .val (.int cap), .val (.int (Int32.ofNat k)), .val (.ref b30), .unset] []))
  have Z4 : n0 ≤ T33.heap.size := Nat.le_trans Z3 K33.1
  refine own_back (fun t_ q_ => XS.aload X33.here hx rfl (hb hby at_35) rfl rfl q_) ?_
  show own_Gl _ _ _ _ (T33.setTop (mkF m 37 #[.val (.int a), .val (.int b), .val (.int pp), .val (.int vv), .val (.int cap), .val (.int (Int32.ofNat k)), .val (.ref b30), .unset] [(.ref b30)]))
  refine own_back (fun t_ q_ => XS.iload X33.here hx rfl (hb hby at_37) rfl q_) ?_
  show own_Gl _ _ _ _ (T33.setTop (mkF m 39 #[.val (.int a), .val (.int b), .val (.int pp), .val (.int vv), .val (.int cap), .val (.int (Int32.ofNat k)), .val (.ref b30), .unset] [(.int (Int32.ofNat k)), (.ref b30)]))
  refine own_back (fun t_ q_ => XS.iloadN X33.here hx rfl (hb hby at_39) rfl q_) ?_
  show own_Gl _ _ _ _ (T33.setTop (mkF m 40 #[.val (.int a), .val (.int b), .val (.int pp), .val (.int vv), .val (.int cap), .val (.int (Int32.ofNat k)), .val (.ref b30), .unset] [(.int vv), (.int (Int32.ofNat k)), (.ref b30)]))
  obtain ⟨cq34, kq34, q34a, q34b, q34c⟩ := isOf hZ rfl Ea33
  obtain ⟨_, _, ⟨T34, L34, k34, n34⟩, -, X34, ⟨Lc34, hQ34, l34, y34, z34⟩, st34⟩ := X33.virtualBack hx (y := (⟨"com/example/bytewright/bytewright/classfile/ClassOutput", "u2At", "(II)V"⟩ : MethodName)) (z := (⟨"com/example/bytewright/bytewright/classfile/ClassOutput", "u2At", "(II)V"⟩ : MethodName)) hown (mvT hZ (hw _ (List.mem_of_getElem? (i := 33) rfl))) (mvT hZ (hw _ (List.mem_of_getElem? (i := 34) rfl))) (notFace_of_selects (args := #[]) (mvT hZ (hw _ (List.mem_of_getElem? (i := 36) rfl)))) (mvT hZ (hw _ (List.mem_of_getElem? (i := 36) rfl))) (mvT hZ (hw _ (List.mem_of_getElem? (i := 35) rfl))) (by decide) (backOf (W := 0) (rm7 l Z a0 hw [] b30 (Int32.ofNat k) vv T33.heap n0 Z4 r M k _ Fa33 B33 G2 rfl (by omega) mHi ne1) hZ (hw _ (List.mem_of_getElem? (i := 37) rfl)) (hw _ (List.mem_of_getElem? (i := 3) rfl)) (by decide) (by decide)) q34a q34c (g := (mkF m 40 #[.val (.int a), .val (.int b), .val (.int pp), .val (.int vv), .val (.int cap), .val (.int (Int32.ofNat k)), .val (.ref b30), .unset] [(.int vv), (.int (Int32.ofNat k)), (.ref b30)])) rfl (by rw [hml]; rfl) (Steps.refl _) (argsL := [(.int (Int32.ofNat k)), (.int vv)]) (rest := []) (lenOf pd_5 rfl) rfl (by show 2 * 0 + _ ≤ _; exact Nat.le_of_eq rfl) (hb hby at_40) (fun _ _ => ⟨rfl, rfl, (by decide : 2 + 0 ≤ _), (by decide : 33 + 0 ≤ _)⟩)
  dsimp only [Pt.U, Pt.locs, Pt.cells, Pt.slots] at X34 l34 y34 z34 st34 hQ34
  subst l34 y34 z34
  obtain ⟨rfl, M34, K34, B34⟩ := hQ34
  have N34 := Fr.app N33 M34
  refine own_trans st34 ?_
  show own_Gl _ _ _ _ (T34.setTop (mkF m 43 #[.val (.int a), .val (.int b), .val (.int pp), .val (.int vv), .val (.int cap), .val (.int (Int32.ofNat k)), .val (.ref b30), .unset] []))
  have Z5 : n0 ≤ T34.heap.size := Nat.le_trans Z4 K34.1
  have Bf : own_B Z T34.heap r M (own_fin a b vv k) := B34
  have E6 := Ea33.keep K34
  have F6 := Fa33.keep K34 (ninS ne1 nin0)
  have F7 : Fld Z T34.heap b30 "com/example/bytewright/bytewright/classfile/ClassOutput" "size" "I" (.int (8 : Int32)) := Fb33.keep K34 (ninS ne1 nin0)
  refine own_back (fun t_ q_ => XS.aload X34.here hx rfl (hb hby at_43) rfl rfl q_) ?_
  show own_Gl _ _ _ _ (T34.setTop (mkF m 45 #[.val (.int a), .val (.int b), .val (.int pp), .val (.int vv), .val (.int cap), .val (.int (Int32.ofNat k)), .val (.ref b30), .unset] [(.ref b30)]))
  obtain ⟨cq35, kq35, q35a, q35b, q35c⟩ := isOf hZ rfl E6
  obtain ⟨_, _, ⟨T35, L35, k35, n35⟩, -, X35, ⟨Lc35, hQ35, l35, y35, z35⟩, st35⟩ := X34.virtualBack hx (y := (⟨"com/example/bytewright/bytewright/classfile/ClassOutput", "size", "()I"⟩ : MethodName)) (z := (⟨"com/example/bytewright/bytewright/classfile/ClassOutput", "size", "()I"⟩ : MethodName)) hown (mvT hZ (hw _ (List.mem_of_getElem? (i := 38) rfl))) (mvT hZ (hw _ (List.mem_of_getElem? (i := 39) rfl))) (notFace_of_selects (args := #[]) (mvT hZ (hw _ (List.mem_of_getElem? (i := 41) rfl)))) (mvT hZ (hw _ (List.mem_of_getElem? (i := 41) rfl))) (mvT hZ (hw _ (List.mem_of_getElem? (i := 40) rfl))) (by decide) (backOf (W := 0) (rm8 l Z a0 hw [] b30 T34.heap n0 Z5 8 F7) hZ (hw _ (List.mem_of_getElem? (i := 42) rfl)) (hw _ (List.mem_of_getElem? (i := 3) rfl)) (by decide) (by decide)) q35a q35c (g := (mkF m 45 #[.val (.int a), .val (.int b), .val (.int pp), .val (.int vv), .val (.int cap), .val (.int (Int32.ofNat k)), .val (.ref b30), .unset] [(.ref b30)])) rfl (by rw [hml]; rfl) (Steps.refl _) (argsL := []) (rest := []) (lenOf pd_6 rfl) rfl (by show 2 * 0 + _ ≤ _; exact Nat.le_of_eq rfl) (hb hby at_45) (fun _ _ => ⟨rfl, rfl, (by decide : 2 + 0 ≤ _), (by decide : 33 + 0 ≤ _)⟩)
  dsimp only [Pt.U, Pt.locs, Pt.cells, Pt.slots] at X35 l35 y35 z35 st35 hQ35
  subst l35 y35 z35
  obtain ⟨rfl, M35, e35⟩ := hQ35
  have N35 := Fr.app N34 M35
  refine own_trans st35 ?_
  show own_Gl _ _ _ _ (T35.setTop (mkF m 48 #[.val (.int a), .val (.int b), .val (.int pp), .val (.int vv), .val (.int cap), .val (.int (Int32.ofNat k)), .val (.ref b30), .unset] [(.int (8 : Int32))]))
  refine own_back (fun t_ q_ => XS.bipush X35.here hx rfl (hb hby at_48) q_) ?_
  show own_Gl _ _ _ _ (T35.setTop (mkF m 50 #[.val (.int a), .val (.int b), .val (.int pp), .val (.int vv), .val (.int cap), .val (.int (Int32.ofNat k)), .val (.ref b30), .unset] [(.int (8 : Int32)), (.int (8 : Int32))]))
  refine own_back (fun t_ q_ => XS.icmpYes X35.here hx rfl (pc0 := 50) (pc' := 55) rfl (hb hby at_50) rfl (teq (rfl : (8 : Int32) = (8 : Int32))).1 (by decide) (by decide) q_) ?_
  show own_Gl _ _ _ _ (T35.setTop (mkF m 55 #[.val (.int a), .val (.int b), .val (.int pp), .val (.int vv), .val (.int cap), .val (.int (Int32.ofNat k)), .val (.ref b30), .unset] []))
  refine own_back (fun t_ q_ => XS.aload X35.here hx rfl (hb hby at_55) rfl rfl q_) ?_
  show own_Gl _ _ _ _ (T35.setTop (mkF m 57 #[.val (.int a), .val (.int b), .val (.int pp), .val (.int vv), .val (.int cap), .val (.int (Int32.ofNat k)), .val (.ref b30), .unset] [(.ref b30)]))
  obtain ⟨cq36, kq36, q36a, q36b, q36c⟩ := isOf hZ e35 E6
  obtain ⟨_, _, ⟨T36, L36, k36, n36⟩, -, X36, ⟨Lc36, hQ36, l36, y36, z36⟩, st36⟩ := X35.virtualBack hx (y := (⟨"com/example/bytewright/bytewright/classfile/ClassOutput", "toByteArray", "()[B"⟩ : MethodName)) (z := (⟨"com/example/bytewright/bytewright/classfile/ClassOutput", "toByteArray", "()[B"⟩ : MethodName)) hown (mvT hZ (hw _ (List.mem_of_getElem? (i := 43) rfl))) (mvT hZ (hw _ (List.mem_of_getElem? (i := 44) rfl))) (notFace_of_selects (args := #[]) (mvT hZ (hw _ (List.mem_of_getElem? (i := 46) rfl)))) (mvT hZ (hw _ (List.mem_of_getElem? (i := 46) rfl))) (mvT hZ (hw _ (List.mem_of_getElem? (i := 45) rfl))) (by decide) (backOf (W := 0) (rm9 l Z a0 hw [] b30 T34.heap n0 Z5 r M _ F6 F7 Bf mLo mHi) hZ (hw _ (List.mem_of_getElem? (i := 47) rfl)) (hw _ (List.mem_of_getElem? (i := 3) rfl)) (by decide) (by decide)) q36a q36c (g := (mkF m 57 #[.val (.int a), .val (.int b), .val (.int pp), .val (.int vv), .val (.int cap), .val (.int (Int32.ofNat k)), .val (.ref b30), .unset] [(.ref b30)])) rfl (by rw [hml]; rfl) (Steps.refl _) (argsL := []) (rest := []) (lenOf pd_7 rfl) rfl (by show 2 * 0 + _ ≤ _; exact Nat.le_of_eq rfl) (hb hby at_57) (fun _ _ => ⟨rfl, e35, (by decide : 2 + 1 ≤ _), (by decide : 33 + 8 ≤ _)⟩)
  dsimp only [Pt.U, Pt.locs, Pt.cells, Pt.slots] at X36 l36 y36 z36 st36 hQ36
  subst l36 y36 z36
  obtain ⟨r2, rfl, M36, K36, B36⟩ := hQ36
  have N36 := Fr.app N35 M36
  refine own_trans st36 ?_
  show own_Gl _ _ _ _ (T36.setTop (mkF m 60 #[.val (.int a), .val (.int b), .val (.int pp), .val (.int vv), .val (.int cap), .val (.int (Int32.ofNat k)), .val (.ref b30), .unset] [(.ref r2)]))
  have Z6 : n0 ≤ T36.heap.size := Nat.le_trans Z5 K36.1
  obtain ⟨cl, A, S, HG⟩ := B36
  have Bq : own_B Z T36.heap r2 8 (own_fin a b vv k) := ⟨cl, A, S, HG⟩
  refine own_back (fun t_ q_ => XS.astore X36.here hx rfl (hb hby at_60) rfl rfl (l' := #[.val (.int a), .val (.int b), .val (.int pp), .val (.int vv), .val (.int cap), .val (.int (Int32.ofNat k)), .val (.ref b30), .val (.ref r2)]) rfl q_) ?_
  show own_Gl _ _ _ _ (T36.setTop (mkF m 62 #[.val (.int a), .val (.int b), .val (.int pp), .val (.int vv), .val (.int cap), .val (.int (Int32.ofNat k)), .val (.ref b30), .val (.ref r2)] []))
  refine own_back (fun t_ q_ => XS.aload X36.here hx rfl (hb hby at_62) rfl rfl q_) ?_
  show own_Gl _ _ _ _ (T36.setTop (mkF m 64 #[.val (.int a), .val (.int b), .val (.int pp), .val (.int vv), .val (.int cap), .val (.int (Int32.ofNat k)), .val (.ref b30), .val (.ref r2)] [(.ref r2)]))
  refine own_back (fun t_ q_ => X36.arraylength hx A.1 (State.isArrayOf_alike hZ.alike A.2.1) (g := (mkF m 64 #[.val (.int a), .val (.int b), .val (.int pp), .val (.int vv), .val (.int cap), .val (.int (Int32.ofNat k)), .val (.ref b30), .val (.ref r2)] [(.ref r2)])) rfl rfl (hb hby at_64) t_ q_) ?_
  rw [(show cl.slots.size.toInt32 = (8 : Int32) by rw [S] <;> rfl)]
  show own_Gl _ _ _ _ (T36.setTop (mkF m 65 #[.val (.int a), .val (.int b), .val (.int pp), .val (.int vv), .val (.int cap), .val (.int (Int32.ofNat k)), .val (.ref b30), .val (.ref r2)] [(.int (8 : Int32))]))
  refine own_back (fun t_ q_ => XS.bipush X36.here hx rfl (hb hby at_65) q_) ?_
  show own_Gl _ _ _ _ (T36.setTop (mkF m 67 #[.val (.int a), .val (.int b), .val (.int pp), .val (.int vv), .val (.int cap), .val (.int (Int32.ofNat k)), .val (.ref b30), .val (.ref r2)] [(.int (8 : Int32)), (.int (8 : Int32))]))
  refine own_back (fun t_ q_ => XS.icmpYes X36.here hx rfl (pc0 := 67) (pc' := 72) rfl (hb hby at_67) rfl (teq (rfl : (8 : Int32) = (8 : Int32))).1 (by decide) (by decide) q_) ?_
  show own_Gl _ _ _ _ (T36.setTop (mkF m 72 #[.val (.int a), .val (.int b), .val (.int pp), .val (.int vv), .val (.int cap), .val (.int (Int32.ofNat k)), .val (.ref b30), .val (.ref r2)] []))
  refine own_back (fun t_ q_ => XS.aload X36.here hx rfl (hb hby at_72) rfl rfl q_) ?_
  show own_Gl _ _ _ _ (T36.setTop (mkF m 74 #[.val (.int a), .val (.int b), .val (.int pp), .val (.int vv), .val (.int cap), .val (.int (Int32.ofNat k)), .val (.ref b30), .val (.ref r2)] [(.ref r2)]))
  refine own_back (fun t_ q_ => XS.iconst X36.here hx rfl (hb hby at_74) q_) ?_
  show own_Gl _ _ _ _ (T36.setTop (mkF m 75 #[.val (.int a), .val (.int b), .val (.int pp), .val (.int vv), .val (.int cap), .val (.int (Int32.ofNat k)), .val (.ref b30), .val (.ref r2)] [(.int (0 : Int32)), (.ref r2)]))
  refine own_back (fun t_ q_ => XS.iload X36.here hx rfl (hb hby at_75) rfl q_) ?_
  show own_Gl _ _ _ _ (T36.setTop (mkF m 77 #[.val (.int a), .val (.int b), .val (.int pp), .val (.int vv), .val (.int cap), .val (.int (Int32.ofNat k)), .val (.ref b30), .val (.ref r2)] [(.int (Int32.ofNat k)), (.int (0 : Int32)), (.ref r2)]))
  refine own_back (fun t_ q_ => XS.iloadN X36.here hx rfl (hb hby at_77) rfl q_) ?_
  show own_Gl _ _ _ _ (T36.setTop (mkF m 78 #[.val (.int a), .val (.int b), .val (.int pp), .val (.int vv), .val (.int cap), .val (.int (Int32.ofNat k)), .val (.ref b30), .val (.ref r2)] [(.int vv), (.int (Int32.ofNat k)), (.int (0 : Int32)), (.ref r2)]))
  refine own_back (fun t_ q_ => XS.iloadN X36.here hx rfl (hb hby at_78) rfl q_) ?_
  show own_Gl _ _ _ _ (T36.setTop (mkF m 79 #[.val (.int a), .val (.int b), .val (.int pp), .val (.int vv), .val (.int cap), .val (.int (Int32.ofNat k)), .val (.ref b30), .val (.ref r2)] [(.int a), (.int vv), (.int (Int32.ofNat k)), (.int (0 : Int32)), (.ref r2)]))
  refine own_back (fun t_ q_ => XS.iloadN X36.here hx rfl (hb hby at_79) rfl q_) ?_
  show own_Gl _ _ _ _ (T36.setTop (mkF m 80 #[.val (.int a), .val (.int b), .val (.int pp), .val (.int vv), .val (.int cap), .val (.int (Int32.ofNat k)), .val (.ref b30), .val (.ref r2)] [(.int b), (.int a), (.int vv), (.int (Int32.ofNat k)), (.int (0 : Int32)), (.ref r2)]))
  obtain ⟨_, _, ⟨T37, L37, k37, n37⟩, -, X37, ⟨Lc37, hQ37, l37, y37, z37⟩, st37⟩ := Jvm.LawKit.callS X36 hx (y := (⟨"com/example/bytewright/bytewright/classfile/ClassOutputU2AtPinLaw", "ok", "([BIIIII)Z"⟩ : MethodName)) hown (mvT hZ (hw _ (List.mem_of_getElem? (i := 59) rfl))) (mvT hZ (hw _ (List.mem_of_getElem? (i := 60) rfl))) (mvT hZ (hw _ (List.mem_of_getElem? (i := 61) rfl))) (mvT hZ (hw _ (List.mem_of_getElem? (i := 62) rfl))) (by decide) (backOf (W := 0) (rm12 l Z a0 hw [] r2 0 (Int32.ofNat k) vv a b T36.heap n0 Z6 0 _ Bq rfl (by omega) (own_law a b vv k 0 hk (by omega))) hZ (hw _ (List.mem_of_getElem? (i := 62) rfl)) (hw _ (List.mem_of_getElem? (i := 61) rfl)) (by decide) (by decide)) (g := (mkF m 80 #[.val (.int a), .val (.int b), .val (.int pp), .val (.int vv), .val (.int cap), .val (.int (Int32.ofNat k)), .val (.ref b30), .val (.ref r2)] [(.int b), (.int a), (.int vv), (.int (Int32.ofNat k)), (.int (0 : Int32)), (.ref r2)])) rfl (by rw [hml]; rfl) (argsL := [(.ref r2), (.int (0 : Int32)), (.int (Int32.ofNat k)), (.int vv), (.int a), (.int b)]) (rest := []) (lenOf pd_8 rfl) rfl (by show 2 * 0 + _ ≤ _; exact Nat.le_of_eq rfl) (hb hby at_80) (fun _ _ => ⟨rfl, rfl, (by decide : 3 + 0 ≤ _), (by decide : 41 + 0 ≤ _)⟩)
  dsimp only [Pt.U, Pt.locs, Pt.cells, Pt.slots] at X37 l37 y37 z37 st37 hQ37
  subst l37 y37 z37
  obtain ⟨rfl, M37, e37⟩ := hQ37
  have N37 := Fr.app N36 M37
  refine own_back st37 ?_
  show own_Gl _ _ _ _ (T37.setTop (mkF m 83 #[.val (.int a), .val (.int b), .val (.int pp), .val (.int vv), .val (.int cap), .val (.int (Int32.ofNat k)), .val (.ref b30), .val (.ref r2)] [(.int (1 : Int32))]))
  refine own_back (fun t_ q_ => XS.ifNo X37.here hx rfl (hb hby at_83) rfl ((if0 _ _).trans (feq (by decide : ¬ ((1 : Int32) = (0 : Int32)))).1) q_) ?_
  show own_Gl _ _ _ _ (T37.setTop (mkF m 86 #[.val (.int a), .val (.int b), .val (.int pp), .val (.int vv), .val (.int cap), .val (.int (Int32.ofNat k)), .val (.ref b30), .val (.ref r2)] []))
  refine own_back (fun t_ q_ => XS.aload X37.here hx rfl (hb hby at_86) rfl rfl q_) ?_
  show own_Gl _ _ _ _ (T37.setTop (mkF m 88 #[.val (.int a), .val (.int b), .val (.int pp), .val (.int vv), .val (.int cap), .val (.int (Int32.ofNat k)), .val (.ref b30), .val (.ref r2)] [(.ref r2)]))
  refine own_back (fun t_ q_ => XS.iconst X37.here hx rfl (hb hby at_88) q_) ?_
  show own_Gl _ _ _ _ (T37.setTop (mkF m 89 #[.val (.int a), .val (.int b), .val (.int pp), .val (.int vv), .val (.int cap), .val (.int (Int32.ofNat k)), .val (.ref b30), .val (.ref r2)] [(.int (1 : Int32)), (.ref r2)]))
  refine own_back (fun t_ q_ => XS.iload X37.here hx rfl (hb hby at_89) rfl q_) ?_
  show own_Gl _ _ _ _ (T37.setTop (mkF m 91 #[.val (.int a), .val (.int b), .val (.int pp), .val (.int vv), .val (.int cap), .val (.int (Int32.ofNat k)), .val (.ref b30), .val (.ref r2)] [(.int (Int32.ofNat k)), (.int (1 : Int32)), (.ref r2)]))
  refine own_back (fun t_ q_ => XS.iloadN X37.here hx rfl (hb hby at_91) rfl q_) ?_
  show own_Gl _ _ _ _ (T37.setTop (mkF m 92 #[.val (.int a), .val (.int b), .val (.int pp), .val (.int vv), .val (.int cap), .val (.int (Int32.ofNat k)), .val (.ref b30), .val (.ref r2)] [(.int vv), (.int (Int32.ofNat k)), (.int (1 : Int32)), (.ref r2)]))
  refine own_back (fun t_ q_ => XS.iloadN X37.here hx rfl (hb hby at_92) rfl q_) ?_
  show own_Gl _ _ _ _ (T37.setTop (mkF m 93 #[.val (.int a), .val (.int b), .val (.int pp), .val (.int vv), .val (.int cap), .val (.int (Int32.ofNat k)), .val (.ref b30), .val (.ref r2)] [(.int a), (.int vv), (.int (Int32.ofNat k)), (.int (1 : Int32)), (.ref r2)]))
  refine own_back (fun t_ q_ => XS.iloadN X37.here hx rfl (hb hby at_93) rfl q_) ?_
  show own_Gl _ _ _ _ (T37.setTop (mkF m 94 #[.val (.int a), .val (.int b), .val (.int pp), .val (.int vv), .val (.int cap), .val (.int (Int32.ofNat k)), .val (.ref b30), .val (.ref r2)] [(.int b), (.int a), (.int vv), (.int (Int32.ofNat k)), (.int (1 : Int32)), (.ref r2)]))
  obtain ⟨_, _, ⟨T38, L38, k38, n38⟩, -, X38, ⟨Lc38, hQ38, l38, y38, z38⟩, st38⟩ := Jvm.LawKit.callS X37 hx (y := (⟨"com/example/bytewright/bytewright/classfile/ClassOutputU2AtPinLaw", "ok", "([BIIIII)Z"⟩ : MethodName)) hown (mvT hZ (hw _ (List.mem_of_getElem? (i := 59) rfl))) (mvT hZ (hw _ (List.mem_of_getElem? (i := 60) rfl))) (mvT hZ (hw _ (List.mem_of_getElem? (i := 61) rfl))) (mvT hZ (hw _ (List.mem_of_getElem? (i := 62) rfl))) (by decide) (backOf (W := 0) (rm12 l Z a0 hw [] r2 1 (Int32.ofNat k) vv a b T36.heap n0 Z6 1 _ Bq rfl (by omega) (own_law a b vv k 1 hk (by omega))) hZ (hw _ (List.mem_of_getElem? (i := 62) rfl)) (hw _ (List.mem_of_getElem? (i := 61) rfl)) (by decide) (by decide)) (g := (mkF m 94 #[.val (.int a), .val (.int b), .val (.int pp), .val (.int vv), .val (.int cap), .val (.int (Int32.ofNat k)), .val (.ref b30), .val (.ref r2)] [(.int b), (.int a), (.int vv), (.int (Int32.ofNat k)), (.int (1 : Int32)), (.ref r2)])) rfl (by rw [hml]; rfl) (argsL := [(.ref r2), (.int (1 : Int32)), (.int (Int32.ofNat k)), (.int vv), (.int a), (.int b)]) (rest := []) (lenOf pd_8 rfl) rfl (by show 2 * 0 + _ ≤ _; exact Nat.le_of_eq rfl) (hb hby at_94) (fun _ _ => ⟨rfl, e37, (by decide : 3 + 0 ≤ _), (by decide : 41 + 0 ≤ _)⟩)
  dsimp only [Pt.U, Pt.locs, Pt.cells, Pt.slots] at X38 l38 y38 z38 st38 hQ38
  subst l38 y38 z38
  obtain ⟨rfl, M38, e38⟩ := hQ38
  have N38 := Fr.app N37 M38
  refine own_back st38 ?_
  show own_Gl _ _ _ _ (T38.setTop (mkF m 97 #[.val (.int a), .val (.int b), .val (.int pp), .val (.int vv), .val (.int cap), .val (.int (Int32.ofNat k)), .val (.ref b30), .val (.ref r2)] [(.int (1 : Int32))]))
  refine own_back (fun t_ q_ => XS.ifNo X38.here hx rfl (hb hby at_97) rfl ((if0 _ _).trans (feq (by decide : ¬ ((1 : Int32) = (0 : Int32)))).1) q_) ?_
  show own_Gl _ _ _ _ (T38.setTop (mkF m 100 #[.val (.int a), .val (.int b), .val (.int pp), .val (.int vv), .val (.int cap), .val (.int (Int32.ofNat k)), .val (.ref b30), .val (.ref r2)] []))
  refine own_back (fun t_ q_ => XS.aload X38.here hx rfl (hb hby at_100) rfl rfl q_) ?_
  show own_Gl _ _ _ _ (T38.setTop (mkF m 102 #[.val (.int a), .val (.int b), .val (.int pp), .val (.int vv), .val (.int cap), .val (.int (Int32.ofNat k)), .val (.ref b30), .val (.ref r2)] [(.ref r2)]))
  refine own_back (fun t_ q_ => XS.iconst X38.here hx rfl (hb hby at_102) q_) ?_
  show own_Gl _ _ _ _ (T38.setTop (mkF m 103 #[.val (.int a), .val (.int b), .val (.int pp), .val (.int vv), .val (.int cap), .val (.int (Int32.ofNat k)), .val (.ref b30), .val (.ref r2)] [(.int (2 : Int32)), (.ref r2)]))
  refine own_back (fun t_ q_ => XS.iload X38.here hx rfl (hb hby at_103) rfl q_) ?_
  show own_Gl _ _ _ _ (T38.setTop (mkF m 105 #[.val (.int a), .val (.int b), .val (.int pp), .val (.int vv), .val (.int cap), .val (.int (Int32.ofNat k)), .val (.ref b30), .val (.ref r2)] [(.int (Int32.ofNat k)), (.int (2 : Int32)), (.ref r2)]))
  refine own_back (fun t_ q_ => XS.iloadN X38.here hx rfl (hb hby at_105) rfl q_) ?_
  show own_Gl _ _ _ _ (T38.setTop (mkF m 106 #[.val (.int a), .val (.int b), .val (.int pp), .val (.int vv), .val (.int cap), .val (.int (Int32.ofNat k)), .val (.ref b30), .val (.ref r2)] [(.int vv), (.int (Int32.ofNat k)), (.int (2 : Int32)), (.ref r2)]))
  refine own_back (fun t_ q_ => XS.iloadN X38.here hx rfl (hb hby at_106) rfl q_) ?_
  show own_Gl _ _ _ _ (T38.setTop (mkF m 107 #[.val (.int a), .val (.int b), .val (.int pp), .val (.int vv), .val (.int cap), .val (.int (Int32.ofNat k)), .val (.ref b30), .val (.ref r2)] [(.int a), (.int vv), (.int (Int32.ofNat k)), (.int (2 : Int32)), (.ref r2)]))
  refine own_back (fun t_ q_ => XS.iloadN X38.here hx rfl (hb hby at_107) rfl q_) ?_
  show own_Gl _ _ _ _ (T38.setTop (mkF m 108 #[.val (.int a), .val (.int b), .val (.int pp), .val (.int vv), .val (.int cap), .val (.int (Int32.ofNat k)), .val (.ref b30), .val (.ref r2)] [(.int b), (.int a), (.int vv), (.int (Int32.ofNat k)), (.int (2 : Int32)), (.ref r2)]))
  obtain ⟨_, _, ⟨T39, L39, k39, n39⟩, -, X39, ⟨Lc39, hQ39, l39, y39, z39⟩, st39⟩ := Jvm.LawKit.callS X38 hx (y := (⟨"com/example/bytewright/bytewright/classfile/ClassOutputU2AtPinLaw", "ok", "([BIIIII)Z"⟩ : MethodName)) hown (mvT hZ (hw _ (List.mem_of_getElem? (i := 59) rfl))) (mvT hZ (hw _ (List.mem_of_getElem? (i := 60) rfl))) (mvT hZ (hw _ (List.mem_of_getElem? (i := 61) rfl))) (mvT hZ (hw _ (List.mem_of_getElem? (i := 62) rfl))) (by decide) (backOf (W := 0) (rm12 l Z a0 hw [] r2 2 (Int32.ofNat k) vv a b T36.heap n0 Z6 2 _ Bq rfl (by omega) (own_law a b vv k 2 hk (by omega))) hZ (hw _ (List.mem_of_getElem? (i := 62) rfl)) (hw _ (List.mem_of_getElem? (i := 61) rfl)) (by decide) (by decide)) (g := (mkF m 108 #[.val (.int a), .val (.int b), .val (.int pp), .val (.int vv), .val (.int cap), .val (.int (Int32.ofNat k)), .val (.ref b30), .val (.ref r2)] [(.int b), (.int a), (.int vv), (.int (Int32.ofNat k)), (.int (2 : Int32)), (.ref r2)])) rfl (by rw [hml]; rfl) (argsL := [(.ref r2), (.int (2 : Int32)), (.int (Int32.ofNat k)), (.int vv), (.int a), (.int b)]) (rest := []) (lenOf pd_8 rfl) rfl (by show 2 * 0 + _ ≤ _; exact Nat.le_of_eq rfl) (hb hby at_108) (fun _ _ => ⟨rfl, e38, (by decide : 3 + 0 ≤ _), (by decide : 41 + 0 ≤ _)⟩)
  dsimp only [Pt.U, Pt.locs, Pt.cells, Pt.slots] at X39 l39 y39 z39 st39 hQ39
  subst l39 y39 z39
  obtain ⟨rfl, M39, e39⟩ := hQ39
  have N39 := Fr.app N38 M39
  refine own_back st39 ?_
  show own_Gl _ _ _ _ (T39.setTop (mkF m 111 #[.val (.int a), .val (.int b), .val (.int pp), .val (.int vv), .val (.int cap), .val (.int (Int32.ofNat k)), .val (.ref b30), .val (.ref r2)] [(.int (1 : Int32))]))
  refine own_back (fun t_ q_ => XS.ifNo X39.here hx rfl (hb hby at_111) rfl ((if0 _ _).trans (feq (by decide : ¬ ((1 : Int32) = (0 : Int32)))).1) q_) ?_
  show own_Gl _ _ _ _ (T39.setTop (mkF m 114 #[.val (.int a), .val (.int b), .val (.int pp), .val (.int vv), .val (.int cap), .val (.int (Int32.ofNat k)), .val (.ref b30), .val (.ref r2)] []))
  refine own_back (fun t_ q_ => XS.aload X39.here hx rfl (hb hby at_114) rfl rfl q_) ?_
  show own_Gl _ _ _ _ (T39.setTop (mkF m 116 #[.val (.int a), .val (.int b), .val (.int pp), .val (.int vv), .val (.int cap), .val (.int (Int32.ofNat k)), .val (.ref b30), .val (.ref r2)] [(.ref r2)]))
  refine own_back (fun t_ q_ => XS.iconst X39.here hx rfl (hb hby at_116) q_) ?_
  show own_Gl _ _ _ _ (T39.setTop (mkF m 117 #[.val (.int a), .val (.int b), .val (.int pp), .val (.int vv), .val (.int cap), .val (.int (Int32.ofNat k)), .val (.ref b30), .val (.ref r2)] [(.int (3 : Int32)), (.ref r2)]))
  refine own_back (fun t_ q_ => XS.iload X39.here hx rfl (hb hby at_117) rfl q_) ?_
  show own_Gl _ _ _ _ (T39.setTop (mkF m 119 #[.val (.int a), .val (.int b), .val (.int pp), .val (.int vv), .val (.int cap), .val (.int (Int32.ofNat k)), .val (.ref b30), .val (.ref r2)] [(.int (Int32.ofNat k)), (.int (3 : Int32)), (.ref r2)]))
  refine own_back (fun t_ q_ => XS.iloadN X39.here hx rfl (hb hby at_119) rfl q_) ?_
  show own_Gl _ _ _ _ (T39.setTop (mkF m 120 #[.val (.int a), .val (.int b), .val (.int pp), .val (.int vv), .val (.int cap), .val (.int (Int32.ofNat k)), .val (.ref b30), .val (.ref r2)] [(.int vv), (.int (Int32.ofNat k)), (.int (3 : Int32)), (.ref r2)]))
  refine own_back (fun t_ q_ => XS.iloadN X39.here hx rfl (hb hby at_120) rfl q_) ?_
  show own_Gl _ _ _ _ (T39.setTop (mkF m 121 #[.val (.int a), .val (.int b), .val (.int pp), .val (.int vv), .val (.int cap), .val (.int (Int32.ofNat k)), .val (.ref b30), .val (.ref r2)] [(.int a), (.int vv), (.int (Int32.ofNat k)), (.int (3 : Int32)), (.ref r2)]))
  refine own_back (fun t_ q_ => XS.iloadN X39.here hx rfl (hb hby at_121) rfl q_) ?_
  show own_Gl _ _ _ _ (T39.setTop (mkF m 122 #[.val (.int a), .val (.int b), .val (.int pp), .val (.int vv), .val (.int cap), .val (.int (Int32.ofNat k)), .val (.ref b30), .val (.ref r2)] [(.int b), (.int a), (.int vv), (.int (Int32.ofNat k)), (.int (3 : Int32)), (.ref r2)]))
  obtain ⟨_, _, ⟨T40, L40, k40, n40⟩, -, X40, ⟨Lc40, hQ40, l40, y40, z40⟩, st40⟩ := Jvm.LawKit.callS X39 hx (y := (⟨"com/example/bytewright/bytewright/classfile/ClassOutputU2AtPinLaw", "ok", "([BIIIII)Z"⟩ : MethodName)) hown (mvT hZ (hw _ (List.mem_of_getElem? (i := 59) rfl))) (mvT hZ (hw _ (List.mem_of_getElem? (i := 60) rfl))) (mvT hZ (hw _ (List.mem_of_getElem? (i := 61) rfl))) (mvT hZ (hw _ (List.mem_of_getElem? (i := 62) rfl))) (by decide) (backOf (W := 0) (rm12 l Z a0 hw [] r2 3 (Int32.ofNat k) vv a b T36.heap n0 Z6 3 _ Bq rfl (by omega) (own_law a b vv k 3 hk (by omega))) hZ (hw _ (List.mem_of_getElem? (i := 62) rfl)) (hw _ (List.mem_of_getElem? (i := 61) rfl)) (by decide) (by decide)) (g := (mkF m 122 #[.val (.int a), .val (.int b), .val (.int pp), .val (.int vv), .val (.int cap), .val (.int (Int32.ofNat k)), .val (.ref b30), .val (.ref r2)] [(.int b), (.int a), (.int vv), (.int (Int32.ofNat k)), (.int (3 : Int32)), (.ref r2)])) rfl (by rw [hml]; rfl) (argsL := [(.ref r2), (.int (3 : Int32)), (.int (Int32.ofNat k)), (.int vv), (.int a), (.int b)]) (rest := []) (lenOf pd_8 rfl) rfl (by show 2 * 0 + _ ≤ _; exact Nat.le_of_eq rfl) (hb hby at_122) (fun _ _ => ⟨rfl, e39, (by decide : 3 + 0 ≤ _), (by decide : 41 + 0 ≤ _)⟩)
  dsimp only [Pt.U, Pt.locs, Pt.cells, Pt.slots] at X40 l40 y40 z40 st40 hQ40
  subst l40 y40 z40
  obtain ⟨rfl, M40, e40⟩ := hQ40
  have N40 := Fr.app N39 M40
  refine own_back st40 ?_
  show own_Gl _ _ _ _ (T40.setTop (mkF m 125 #[.val (.int a), .val (.int b), .val (.int pp), .val (.int vv), .val (.int cap), .val (.int (Int32.ofNat k)), .val (.ref b30), .val (.ref r2)] [(.int (1 : Int32))]))
  refine own_back (fun t_ q_ => XS.ifNo X40.here hx rfl (hb hby at_125) rfl ((if0 _ _).trans (feq (by decide : ¬ ((1 : Int32) = (0 : Int32)))).1) q_) ?_
  show own_Gl _ _ _ _ (T40.setTop (mkF m 128 #[.val (.int a), .val (.int b), .val (.int pp), .val (.int vv), .val (.int cap), .val (.int (Int32.ofNat k)), .val (.ref b30), .val (.ref r2)] []))
  refine own_back (fun t_ q_ => XS.aload X40.here hx rfl (hb hby at_128) rfl rfl q_) ?_
  show own_Gl _ _ _ _ (T40.setTop (mkF m 130 #[.val (.int a), .val (.int b), .val (.int pp), .val (.int vv), .val (.int cap), .val (.int (Int32.ofNat k)), .val (.ref b30), .val (.ref r2)] [(.ref r2)]))
  refine own_back (fun t_ q_ => XS.iconst X40.here hx rfl (hb hby at_130) q_) ?_
  show own_Gl _ _ _ _ (T40.setTop (mkF m 131 #[.val (.int a), .val (.int b), .val (.int pp), .val (.int vv), .val (.int cap), .val (.int (Int32.ofNat k)), .val (.ref b30), .val (.ref r2)] [(.int (4 : Int32)), (.ref r2)]))
  refine own_back (fun t_ q_ => XS.iload X40.here hx rfl (hb hby at_131) rfl q_) ?_
  show own_Gl _ _ _ _ (T40.setTop (mkF m 133 #[.val (.int a), .val (.int b), .val (.int pp), .val (.int vv), .val (.int cap), .val (.int (Int32.ofNat k)), .val (.ref b30), .val (.ref r2)] [(.int (Int32.ofNat k)), (.int (4 : Int32)), (.ref r2)]))
  refine own_back (fun t_ q_ => XS.iloadN X40.here hx rfl (hb hby at_133) rfl q_) ?_
  show own_Gl _ _ _ _ (T40.setTop (mkF m 134 #[.val (.int a), .val (.int b), .val (.int pp), .val (.int vv), .val (.int cap), .val (.int (Int32.ofNat k)), .val (.ref b30), .val (.ref r2)] [(.int vv), (.int (Int32.ofNat k)), (.int (4 : Int32)), (.ref r2)]))
  refine own_back (fun t_ q_ => XS.iloadN X40.here hx rfl (hb hby at_134) rfl q_) ?_
  show own_Gl _ _ _ _ (T40.setTop (mkF m 135 #[.val (.int a), .val (.int b), .val (.int pp), .val (.int vv), .val (.int cap), .val (.int (Int32.ofNat k)), .val (.ref b30), .val (.ref r2)] [(.int a), (.int vv), (.int (Int32.ofNat k)), (.int (4 : Int32)), (.ref r2)]))
  refine own_back (fun t_ q_ => XS.iloadN X40.here hx rfl (hb hby at_135) rfl q_) ?_
  show own_Gl _ _ _ _ (T40.setTop (mkF m 136 #[.val (.int a), .val (.int b), .val (.int pp), .val (.int vv), .val (.int cap), .val (.int (Int32.ofNat k)), .val (.ref b30), .val (.ref r2)] [(.int b), (.int a), (.int vv), (.int (Int32.ofNat k)), (.int (4 : Int32)), (.ref r2)]))
  obtain ⟨_, _, ⟨T41, L41, k41, n41⟩, -, X41, ⟨Lc41, hQ41, l41, y41, z41⟩, st41⟩ := Jvm.LawKit.callS X40 hx (y := (⟨"com/example/bytewright/bytewright/classfile/ClassOutputU2AtPinLaw", "ok", "([BIIIII)Z"⟩ : MethodName)) hown (mvT hZ (hw _ (List.mem_of_getElem? (i := 59) rfl))) (mvT hZ (hw _ (List.mem_of_getElem? (i := 60) rfl))) (mvT hZ (hw _ (List.mem_of_getElem? (i := 61) rfl))) (mvT hZ (hw _ (List.mem_of_getElem? (i := 62) rfl))) (by decide) (backOf (W := 0) (rm12 l Z a0 hw [] r2 4 (Int32.ofNat k) vv a b T36.heap n0 Z6 4 _ Bq rfl (by omega) (own_law a b vv k 4 hk (by omega))) hZ (hw _ (List.mem_of_getElem? (i := 62) rfl)) (hw _ (List.mem_of_getElem? (i := 61) rfl)) (by decide) (by decide)) (g := (mkF m 136 #[.val (.int a), .val (.int b), .val (.int pp), .val (.int vv), .val (.int cap), .val (.int (Int32.ofNat k)), .val (.ref b30), .val (.ref r2)] [(.int b), (.int a), (.int vv), (.int (Int32.ofNat k)), (.int (4 : Int32)), (.ref r2)])) rfl (by rw [hml]; rfl) (argsL := [(.ref r2), (.int (4 : Int32)), (.int (Int32.ofNat k)), (.int vv), (.int a), (.int b)]) (rest := []) (lenOf pd_8 rfl) rfl (by show 2 * 0 + _ ≤ _; exact Nat.le_of_eq rfl) (hb hby at_136) (fun _ _ => ⟨rfl, e40, (by decide : 3 + 0 ≤ _), (by decide : 41 + 0 ≤ _)⟩)
  dsimp only [Pt.U, Pt.locs, Pt.cells, Pt.slots] at X41 l41 y41 z41 st41 hQ41
  subst l41 y41 z41
  obtain ⟨rfl, M41, e41⟩ := hQ41
  have N41 := Fr.app N40 M41
  refine own_back st41 ?_
  show own_Gl _ _ _ _ (T41.setTop (mkF m 139 #[.val (.int a), .val (.int b), .val (.int pp), .val (.int vv), .val (.int cap), .val (.int (Int32.ofNat k)), .val (.ref b30), .val (.ref r2)] [(.int (1 : Int32))]))
  refine own_back (fun t_ q_ => XS.ifNo X41.here hx rfl (hb hby at_139) rfl ((if0 _ _).trans (feq (by decide : ¬ ((1 : Int32) = (0 : Int32)))).1) q_) ?_
  show own_Gl _ _ _ _ (T41.setTop (mkF m 142 #[.val (.int a), .val (.int b), .val (.int pp), .val (.int vv), .val (.int cap), .val (.int (Int32.ofNat k)), .val (.ref b30), .val (.ref r2)] []))
  refine own_back (fun t_ q_ => XS.aload X41.here hx rfl (hb hby at_142) rfl rfl q_) ?_
  show own_Gl _ _ _ _ (T41.setTop (mkF m 144 #[.val (.int a), .val (.int b), .val (.int pp), .val (.int vv), .val (.int cap), .val (.int (Int32.ofNat k)), .val (.ref b30), .val (.ref r2)] [(.ref r2)]))
  refine own_back (fun t_ q_ => XS.iconst X41.here hx rfl (hb hby at_144) q_) ?_
  show own_Gl _ _ _ _ (T41.setTop (mkF m 145 #[.val (.int a), .val (.int b), .val (.int pp), .val (.int vv), .val (.int cap), .val (.int (Int32.ofNat k)), .val (.ref b30), .val (.ref r2)] [(.int (5 : Int32)), (.ref r2)]))
  refine own_back (fun t_ q_ => XS.iload X41.here hx rfl (hb hby at_145) rfl q_) ?_
  show own_Gl _ _ _ _ (T41.setTop (mkF m 147 #[.val (.int a), .val (.int b), .val (.int pp), .val (.int vv), .val (.int cap), .val (.int (Int32.ofNat k)), .val (.ref b30), .val (.ref r2)] [(.int (Int32.ofNat k)), (.int (5 : Int32)), (.ref r2)]))
  refine own_back (fun t_ q_ => XS.iloadN X41.here hx rfl (hb hby at_147) rfl q_) ?_
  show own_Gl _ _ _ _ (T41.setTop (mkF m 148 #[.val (.int a), .val (.int b), .val (.int pp), .val (.int vv), .val (.int cap), .val (.int (Int32.ofNat k)), .val (.ref b30), .val (.ref r2)] [(.int vv), (.int (Int32.ofNat k)), (.int (5 : Int32)), (.ref r2)]))
  refine own_back (fun t_ q_ => XS.iloadN X41.here hx rfl (hb hby at_148) rfl q_) ?_
  show own_Gl _ _ _ _ (T41.setTop (mkF m 149 #[.val (.int a), .val (.int b), .val (.int pp), .val (.int vv), .val (.int cap), .val (.int (Int32.ofNat k)), .val (.ref b30), .val (.ref r2)] [(.int a), (.int vv), (.int (Int32.ofNat k)), (.int (5 : Int32)), (.ref r2)]))
  refine own_back (fun t_ q_ => XS.iloadN X41.here hx rfl (hb hby at_149) rfl q_) ?_
  show own_Gl _ _ _ _ (T41.setTop (mkF m 150 #[.val (.int a), .val (.int b), .val (.int pp), .val (.int vv), .val (.int cap), .val (.int (Int32.ofNat k)), .val (.ref b30), .val (.ref r2)] [(.int b), (.int a), (.int vv), (.int (Int32.ofNat k)), (.int (5 : Int32)), (.ref r2)]))
  obtain ⟨_, _, ⟨T42, L42, k42, n42⟩, -, X42, ⟨Lc42, hQ42, l42, y42, z42⟩, st42⟩ := Jvm.LawKit.callS X41 hx (y := (⟨"com/example/bytewright/bytewright/classfile/ClassOutputU2AtPinLaw", "ok", "([BIIIII)Z"⟩ : MethodName)) hown (mvT hZ (hw _ (List.mem_of_getElem? (i := 59) rfl))) (mvT hZ (hw _ (List.mem_of_getElem? (i := 60) rfl))) (mvT hZ (hw _ (List.mem_of_getElem? (i := 61) rfl))) (mvT hZ (hw _ (List.mem_of_getElem? (i := 62) rfl))) (by decide) (backOf (W := 0) (rm12 l Z a0 hw [] r2 5 (Int32.ofNat k) vv a b T36.heap n0 Z6 5 _ Bq rfl (by omega) (own_law a b vv k 5 hk (by omega))) hZ (hw _ (List.mem_of_getElem? (i := 62) rfl)) (hw _ (List.mem_of_getElem? (i := 61) rfl)) (by decide) (by decide)) (g := (mkF m 150 #[.val (.int a), .val (.int b), .val (.int pp), .val (.int vv), .val (.int cap), .val (.int (Int32.ofNat k)), .val (.ref b30), .val (.ref r2)] [(.int b), (.int a), (.int vv), (.int (Int32.ofNat k)), (.int (5 : Int32)), (.ref r2)])) rfl (by rw [hml]; rfl) (argsL := [(.ref r2), (.int (5 : Int32)), (.int (Int32.ofNat k)), (.int vv), (.int a), (.int b)]) (rest := []) (lenOf pd_8 rfl) rfl (by show 2 * 0 + _ ≤ _; exact Nat.le_of_eq rfl) (hb hby at_150) (fun _ _ => ⟨rfl, e41, (by decide : 3 + 0 ≤ _), (by decide : 41 + 0 ≤ _)⟩)
  dsimp only [Pt.U, Pt.locs, Pt.cells, Pt.slots] at X42 l42 y42 z42 st42 hQ42
  subst l42 y42 z42
  obtain ⟨rfl, M42, e42⟩ := hQ42
  have N42 := Fr.app N41 M42
  refine own_back st42 ?_
  show own_Gl _ _ _ _ (T42.setTop (mkF m 153 #[.val (.int a), .val (.int b), .val (.int pp), .val (.int vv), .val (.int cap), .val (.int (Int32.ofNat k)), .val (.ref b30), .val (.ref r2)] [(.int (1 : Int32))]))
  refine own_back (fun t_ q_ => XS.ifNo X42.here hx rfl (hb hby at_153) rfl ((if0 _ _).trans (feq (by decide : ¬ ((1 : Int32) = (0 : Int32)))).1) q_) ?_
  show own_Gl _ _ _ _ (T42.setTop (mkF m 156 #[.val (.int a), .val (.int b), .val (.int pp), .val (.int vv), .val (.int cap), .val (.int (Int32.ofNat k)), .val (.ref b30), .val (.ref r2)] []))
  refine own_back (fun t_ q_ => XS.aload X42.here hx rfl (hb hby at_156) rfl rfl q_) ?_
  show own_Gl _ _ _ _ (T42.setTop (mkF m 158 #[.val (.int a), .val (.int b), .val (.int pp), .val (.int vv), .val (.int cap), .val (.int (Int32.ofNat k)), .val (.ref b30), .val (.ref r2)] [(.ref r2)]))
  refine own_back (fun t_ q_ => XS.bipush X42.here hx rfl (hb hby at_158) q_) ?_
  show own_Gl _ _ _ _ (T42.setTop (mkF m 160 #[.val (.int a), .val (.int b), .val (.int pp), .val (.int vv), .val (.int cap), .val (.int (Int32.ofNat k)), .val (.ref b30), .val (.ref r2)] [(.int (6 : Int32)), (.ref r2)]))
  refine own_back (fun t_ q_ => XS.iload X42.here hx rfl (hb hby at_160) rfl q_) ?_
  show own_Gl _ _ _ _ (T42.setTop (mkF m 162 #[.val (.int a), .val (.int b), .val (.int pp), .val (.int vv), .val (.int cap), .val (.int (Int32.ofNat k)), .val (.ref b30), .val (.ref r2)] [(.int (Int32.ofNat k)), (.int (6 : Int32)), (.ref r2)]))
  refine own_back (fun t_ q_ => XS.iloadN X42.here hx rfl (hb hby at_162) rfl q_) ?_
  show own_Gl _ _ _ _ (T42.setTop (mkF m 163 #[.val (.int a), .val (.int b), .val (.int pp), .val (.int vv), .val (.int cap), .val (.int (Int32.ofNat k)), .val (.ref b30), .val (.ref r2)] [(.int vv), (.int (Int32.ofNat k)), (.int (6 : Int32)), (.ref r2)]))
  refine own_back (fun t_ q_ => XS.iloadN X42.here hx rfl (hb hby at_163) rfl q_) ?_
  show own_Gl _ _ _ _ (T42.setTop (mkF m 164 #[.val (.int a), .val (.int b), .val (.int pp), .val (.int vv), .val (.int cap), .val (.int (Int32.ofNat k)), .val (.ref b30), .val (.ref r2)] [(.int a), (.int vv), (.int (Int32.ofNat k)), (.int (6 : Int32)), (.ref r2)]))
  refine own_back (fun t_ q_ => XS.iloadN X42.here hx rfl (hb hby at_164) rfl q_) ?_
  show own_Gl _ _ _ _ (T42.setTop (mkF m 165 #[.val (.int a), .val (.int b), .val (.int pp), .val (.int vv), .val (.int cap), .val (.int (Int32.ofNat k)), .val (.ref b30), .val (.ref r2)] [(.int b), (.int a), (.int vv), (.int (Int32.ofNat k)), (.int (6 : Int32)), (.ref r2)]))
  obtain ⟨_, _, ⟨T43, L43, k43, n43⟩, -, X43, ⟨Lc43, hQ43, l43, y43, z43⟩, st43⟩ := Jvm.LawKit.callS X42 hx (y := (⟨"com/example/bytewright/bytewright/classfile/ClassOutputU2AtPinLaw", "ok", "([BIIIII)Z"⟩ : MethodName)) hown (mvT hZ (hw _ (List.mem_of_getElem? (i := 59) rfl))) (mvT hZ (hw _ (List.mem_of_getElem? (i := 60) rfl))) (mvT hZ (hw _ (List.mem_of_getElem? (i := 61) rfl))) (mvT hZ (hw _ (List.mem_of_getElem? (i := 62) rfl))) (by decide) (backOf (W := 0) (rm12 l Z a0 hw [] r2 6 (Int32.ofNat k) vv a b T36.heap n0 Z6 6 _ Bq rfl (by omega) (own_law a b vv k 6 hk (by omega))) hZ (hw _ (List.mem_of_getElem? (i := 62) rfl)) (hw _ (List.mem_of_getElem? (i := 61) rfl)) (by decide) (by decide)) (g := (mkF m 165 #[.val (.int a), .val (.int b), .val (.int pp), .val (.int vv), .val (.int cap), .val (.int (Int32.ofNat k)), .val (.ref b30), .val (.ref r2)] [(.int b), (.int a), (.int vv), (.int (Int32.ofNat k)), (.int (6 : Int32)), (.ref r2)])) rfl (by rw [hml]; rfl) (argsL := [(.ref r2), (.int (6 : Int32)), (.int (Int32.ofNat k)), (.int vv), (.int a), (.int b)]) (rest := []) (lenOf pd_8 rfl) rfl (by show 2 * 0 + _ ≤ _; exact Nat.le_of_eq rfl) (hb hby at_165) (fun _ _ => ⟨rfl, e42, (by decide : 3 + 0 ≤ _), (by decide : 41 + 0 ≤ _)⟩)
  dsimp only [Pt.U, Pt.locs, Pt.cells, Pt.slots] at X43 l43 y43 z43 st43 hQ43
  subst l43 y43 z43
  obtain ⟨rfl, M43, e43⟩ := hQ43
  have N43 := Fr.app N42 M43
  refine own_back st43 ?_
  show own_Gl _ _ _ _ (T43.setTop (mkF m 168 #[.val (.int a), .val (.int b), .val (.int pp), .val (.int vv), .val (.int cap), .val (.int (Int32.ofNat k)), .val (.ref b30), .val (.ref r2)] [(.int (1 : Int32))]))
  refine own_back (fun t_ q_ => XS.ifNo X43.here hx rfl (hb hby at_168) rfl ((if0 _ _).trans (feq (by decide : ¬ ((1 : Int32) = (0 : Int32)))).1) q_) ?_
  show own_Gl _ _ _ _ (T43.setTop (mkF m 171 #[.val (.int a), .val (.int b), .val (.int pp), .val (.int vv), .val (.int cap), .val (.int (Int32.ofNat k)), .val (.ref b30), .val (.ref r2)] []))
  refine own_back (fun t_ q_ => XS.aload X43.here hx rfl (hb hby at_171) rfl rfl q_) ?_
  show own_Gl _ _ _ _ (T43.setTop (mkF m 173 #[.val (.int a), .val (.int b), .val (.int pp), .val (.int vv), .val (.int cap), .val (.int (Int32.ofNat k)), .val (.ref b30), .val (.ref r2)] [(.ref r2)]))
  refine own_back (fun t_ q_ => XS.bipush X43.here hx rfl (hb hby at_173) q_) ?_
  show own_Gl _ _ _ _ (T43.setTop (mkF m 175 #[.val (.int a), .val (.int b), .val (.int pp), .val (.int vv), .val (.int cap), .val (.int (Int32.ofNat k)), .val (.ref b30), .val (.ref r2)] [(.int (7 : Int32)), (.ref r2)]))
  refine own_back (fun t_ q_ => XS.iload X43.here hx rfl (hb hby at_175) rfl q_) ?_
  show own_Gl _ _ _ _ (T43.setTop (mkF m 177 #[.val (.int a), .val (.int b), .val (.int pp), .val (.int vv), .val (.int cap), .val (.int (Int32.ofNat k)), .val (.ref b30), .val (.ref r2)] [(.int (Int32.ofNat k)), (.int (7 : Int32)), (.ref r2)]))
  refine own_back (fun t_ q_ => XS.iloadN X43.here hx rfl (hb hby at_177) rfl q_) ?_
  show own_Gl _ _ _ _ (T43.setTop (mkF m 178 #[.val (.int a), .val (.int b), .val (.int pp), .val (.int vv), .val (.int cap), .val (.int (Int32.ofNat k)), .val (.ref b30), .val (.ref r2)] [(.int vv), (.int (Int32.ofNat k)), (.int (7 : Int32)), (.ref r2)]))
  refine own_back (fun t_ q_ => XS.iloadN X43.here hx rfl (hb hby at_178) rfl q_) ?_
  show own_Gl _ _ _ _ (T43.setTop (mkF m 179 #[.val (.int a), .val (.int b), .val (.int pp), .val (.int vv), .val (.int cap), .val (.int (Int32.ofNat k)), .val (.ref b30), .val (.ref r2)] [(.int a), (.int vv), (.int (Int32.ofNat k)), (.int (7 : Int32)), (.ref r2)]))
  refine own_back (fun t_ q_ => XS.iloadN X43.here hx rfl (hb hby at_179) rfl q_) ?_
  show own_Gl _ _ _ _ (T43.setTop (mkF m 180 #[.val (.int a), .val (.int b), .val (.int pp), .val (.int vv), .val (.int cap), .val (.int (Int32.ofNat k)), .val (.ref b30), .val (.ref r2)] [(.int b), (.int a), (.int vv), (.int (Int32.ofNat k)), (.int (7 : Int32)), (.ref r2)]))
  obtain ⟨_, _, ⟨T44, L44, k44, n44⟩, -, X44, ⟨Lc44, hQ44, l44, y44, z44⟩, st44⟩ := Jvm.LawKit.callS X43 hx (y := (⟨"com/example/bytewright/bytewright/classfile/ClassOutputU2AtPinLaw", "ok", "([BIIIII)Z"⟩ : MethodName)) hown (mvT hZ (hw _ (List.mem_of_getElem? (i := 59) rfl))) (mvT hZ (hw _ (List.mem_of_getElem? (i := 60) rfl))) (mvT hZ (hw _ (List.mem_of_getElem? (i := 61) rfl))) (mvT hZ (hw _ (List.mem_of_getElem? (i := 62) rfl))) (by decide) (backOf (W := 0) (rm12 l Z a0 hw [] r2 7 (Int32.ofNat k) vv a b T36.heap n0 Z6 7 _ Bq rfl (by omega) (own_law a b vv k 7 hk (by omega))) hZ (hw _ (List.mem_of_getElem? (i := 62) rfl)) (hw _ (List.mem_of_getElem? (i := 61) rfl)) (by decide) (by decide)) (g := (mkF m 180 #[.val (.int a), .val (.int b), .val (.int pp), .val (.int vv), .val (.int cap), .val (.int (Int32.ofNat k)), .val (.ref b30), .val (.ref r2)] [(.int b), (.int a), (.int vv), (.int (Int32.ofNat k)), (.int (7 : Int32)), (.ref r2)])) rfl (by rw [hml]; rfl) (argsL := [(.ref r2), (.int (7 : Int32)), (.int (Int32.ofNat k)), (.int vv), (.int a), (.int b)]) (rest := []) (lenOf pd_8 rfl) rfl (by show 2 * 0 + _ ≤ _; exact Nat.le_of_eq rfl) (hb hby at_180) (fun _ _ => ⟨rfl, e43, (by decide : 3 + 0 ≤ _), (by decide : 41 + 0 ≤ _)⟩)
  dsimp only [Pt.U, Pt.locs, Pt.cells, Pt.slots] at X44 l44 y44 z44 st44 hQ44
  subst l44 y44 z44
  obtain ⟨rfl, M44, e44⟩ := hQ44
  have N44 := Fr.app N43 M44
  refine own_back st44 ?_
  show own_Gl _ _ _ _ (T44.setTop (mkF m 183 #[.val (.int a), .val (.int b), .val (.int pp), .val (.int vv), .val (.int cap), .val (.int (Int32.ofNat k)), .val (.ref b30), .val (.ref r2)] [(.int (1 : Int32))]))
  refine own_back (fun t_ q_ => XS.ifNo X44.here hx rfl (hb hby at_183) rfl ((if0 _ _).trans (feq (by decide : ¬ ((1 : Int32) = (0 : Int32)))).1) q_) ?_
  show own_Gl _ _ _ _ (T44.setTop (mkF m 186 #[.val (.int a), .val (.int b), .val (.int pp), .val (.int vv), .val (.int cap), .val (.int (Int32.ofNat k)), .val (.ref b30), .val (.ref r2)] []))
  refine own_back (fun t_ q_ => XS.iconst X44.here hx rfl (hb hby at_186) q_) ?_
  show own_Gl _ _ _ _ (T44.setTop (mkF m 187 #[.val (.int a), .val (.int b), .val (.int pp), .val (.int vv), .val (.int cap), .val (.int (Int32.ofNat k)), .val (.ref b30), .val (.ref r2)] [(.int (1 : Int32))]))
  refine own_back (fun t_ q_ => XS.goto X44.here hx rfl (pc0 := 187) (pc' := 191) rfl (hb hby at_187) (by decide) (by decide) q_) ?_
  show own_Gl _ _ _ _ (T44.setTop (mkF m 191 #[.val (.int a), .val (.int b), .val (.int pp), .val (.int vv), .val (.int cap), .val (.int (Int32.ofNat k)), .val (.ref b30), .val (.ref r2)] [(.int (1 : Int32))]))
  exact own_rZ X44 hx hlk Bd.returns (hb hby at_191) (own_one rfl) (by show Qrm0 h0 n0 _ T44.heap _; rw [e44]; exact ⟨rfl, N44⟩) (by decide) (by decide)
set_option maxRecDepth 65536 in
set_option maxHeartbeats 40000000 in
theorem comes_1 {Post : Tables → Env → Array Value → State → Outcome → State → Prop} (hpost : ∀ tb e args s v u, (limb_1_1.after args s (.returned v) u = true ∧ limb_1_2.after args s (.returned v) u = true ∧ True) → FrameEnd s (.returned v) u (Jvm.fieldLocs frame_1_writes args s ++ Jvm.arrayLocs frame_1_arrays args s ++ Jvm.staticLocs frame_1_statics s) 16 192 → Post tb e args s (.returned v) u) :
    ArmFor flags0 classFile x code maxLocals ret World_1 tables_1 room_1 Calls_1 rest_1 Pre_1 Post := by
  intro l hfl _ _ p e ha hc hk s m args below hf hA hF happ hP
  obtain ⟨hcalls, hrest, hpre⟩ := hP
  obtain ⟨-, -, -, hnamed, -, -, -, hat⟩ := (Spec.applies_iff hf).mp happ
  obtain ⟨hg, hn⟩ := and_e (Cond.before_iff.mp (show (Jvm.Cond.and given_1 narrow_1).before args s = true from hpre))
  obtain ⟨h1, hg1⟩ := and_e hg
  obtain ⟨w0, w1, w2, w3, w4, rfl⟩ : ∃ w0 w1 w2 w3 w4 : Value, args = #[w0, w1, w2, w3, w4] := by
    have hs : args.size = 5 := by simpa [Cond.value, given_1] using h1
    obtain ⟨L⟩ := args
    match L, hs with
    | [w0, w1, w2, w3, w4], _ => exact ⟨w0, w1, w2, w3, w4, rfl⟩
  have hw := fun d (hd : d ∈ tables_1) => atoms_spec (ws := Jvm.Cond.code x code maxLocals ret :: tables_1) hat d (List.mem_cons_of_mem _ hd)
  obtain ⟨hk0, hg2⟩ := and_e hg1
  obtain ⟨i0, ei0⟩ := is_v hk0
  obtain rfl : w0 = (.int i0) := Option.some.inj ei0
  obtain ⟨hk1, hg3⟩ := and_e hg2
  obtain ⟨i1, ei1⟩ := is_v hk1
  obtain rfl : w1 = (.int i1) := Option.some.inj ei1
  obtain ⟨hk2, hg4⟩ := and_e hg3
  obtain ⟨i2, ei2⟩ := is_v hk2
  obtain rfl : w2 = (.int i2) := Option.some.inj ei2
  obtain ⟨hk3, hg5⟩ := and_e hg4
  obtain ⟨i3, ei3⟩ := is_v hk3
  obtain rfl : w3 = (.int i3) := Option.some.inj ei3
  obtain ⟨i4, ei4⟩ := is_v hg5
  obtain rfl : w4 = (.int i4) := Option.some.inj ei4
  obtain ⟨n, o, h1, h2, h3, _, L, rfl, ⟨rfl, N⟩, hq⟩ := rm0 l s _ hw tables_1 i0 i1 i2 i3 i4 s.heap s.heap.size (Nat.le_refl _) p e ha hc hk s m _ below hf ((Spec.applies_iff_loose hf).mp happ).1 ⟨rfl, State.Warmed39.refl s, rfl⟩ trivial
  refine ⟨n, _, h1, h2, h3, hpost _ _ _ _ _ _ ⟨Cond.after_iff.mpr rfl, Cond.after_iff.mpr (eq_i res_at (Term.int_eval (1)) rfl), trivial⟩ ⟨hq.1, hq.2.1, (hq.2.2.sift fun y hy => Or.inr (N y hy)).mono (by decide) (by decide)⟩⟩
theorem main_1_1 : Claimed_1_1 := comes_1 fun _ _ _ _ _ _ h hF => ⟨h.1, hF⟩
theorem main_1_2 : Claimed_1_2 := comes_1 fun _ _ _ _ _ _ h hF => ⟨h.2.1, hF⟩
end Jvm.Pilot.@@N@@
namespace Jvm.Pilot.@@N@@
open Jvm Jvm.ClassFile Sem Op Lib Jvm.Free Jvm.Stand Jvm.Pilot.@@N@@.Jvm.D
/-! MADE BY PROGRAM (witnessworld.py) out of the Statement's table words and the real class files: 12 classes; the members and pool entries that the words name. The judged class is class 1, her method 2. -/
namespace start1
open Jvm.ClassFile
def u (s : String) : CpInfo := .utf8 (stringToUtf16 s)
/-- a pool by its gaps: so many unusable entries, then the entry; so many at the end -/
def gap : Nat → List CpInfo → List CpInfo
  | 0, r => r
  | n + 1, r => .unusable :: gap n r
def poolList (es : List (Nat × CpInfo)) (last : Nat) : List CpInfo := es.foldr (fun e r => gap e.1 (e.2 :: r)) (gap last [])
def pool (es : List (Nat × CpInfo)) (last : Nat) : Array CpInfo := ⟨poolList es last⟩
def fileOf (pool : Array CpInfo) (this : Nat) (attrs : Array Attribute := #[]) (ms : Array MethodInfo := #[]) (fl : Nat := 33) (sup : Nat := 0) (ifs : Array Nat := #[]) (fds : Array FieldInfo := #[]) : ClassFile where
  minorVersion := 0
  majorVersion := 65
  constantPool := pool
  accessFlags := fl
  thisClass := this
  superClass := sup
  interfaces := ifs
  fields := fds
  methods := ms
  attributes := attrs
def plain (name : String) (sup : Option ClassId) : Class where
  name := name
  kind := .ordinary
  loader := none
  accessFlags := 33
  super := sup
  interfaces := #[]
  cf := none
  fields := #[]
  methods := #[]
  instanceTypes := #[]
  staticTypes := #[]
  resolved := #[]
  callSites := []
  init := .initialized
  statics := none
  mirror := none

def pool0 : Array CpInfo := pool [(5, u "<init>"), (0, u "()V"), (1, .class_ 10), (1, u "java/lang/Object")] 113

def k0c0 : Code := { maxStack := 0, maxLocals := 1, code := object_method_1_code, exceptionTable := #[], attributes := #[] }
def k0m0 : Method := { name := "<init>", desc := "()V", sig := { parameters := [], returnType := none }, accessFlags := 1, code := some k0c0 }
/-- java/lang/Object -/
def k0 : Class := { plain "java/lang/Object" none with
  accessFlags := 33
  interfaces := #[]
  cf := some (fileOf pool0 8 #[] #[{ accessFlags := 1, nameIndex := 5, descriptorIndex := 6, attributes := #[] }] 33 0 #[] #[])
  fields := #[]
  methods := #[k0m0]
  instanceTypes := #[]
  staticTypes := #[]
  resolved := Array.replicate 124 none
  statics := none }

def pool1 : Array CpInfo := pool [(2, .class_ 4), (1, u "java/lang/Object"), (0, u "<init>"), (0, u "()V"), (0, .integer 2147483647), (0, .class_ 9), (0, u "com/example/bytewright/bytewright/classfile/ClassOutput"), (0, .methodref 8 11), (0, .nameAndType 5 12), (0, u "(I)V"), (0, .methodref 8 14), (0, .nameAndType 15 12), (0, u "u4"), (0, .methodref 8 17), (0, .nameAndType 18 19), (0, u "u2At"), (0, u "(II)V"), (0, .methodref 8 21), (0, .nameAndType 22 23), (0, u "size"), (0, u "()I"), (0, .methodref 8 25), (0, .nameAndType 26 27), (0, u "toByteArray"), (0, u "()[B"), (0, .methodref 29 30), (0, .class_ 31), (0, .nameAndType 32 33), (0, u "com/example/bytewright/bytewright/classfile/ClassOutputU2AtPinLaw"), (0, u "ok"), (0, u "([BIIIII)Z"), (3, u "law"), (0, u "(IIIII)Z")] 4

def k1m0 : Method := { name := "<init>", desc := "()V", sig := { parameters := [], returnType := none }, accessFlags := 1, code := none }
def k1c1 : Code := { maxStack := 4, maxLocals := 7, code := method_2_code, exceptionTable := #[], attributes := #[] }
def k1m1 : Method := { name := "ok", desc := "([BIIIII)Z", sig := { parameters := [(.array .byte), .int, .int, .int, .int, .int], returnType := some .boolean }, accessFlags := 10, code := some k1c1 }
def k1c2 : Code := { maxStack := 6, maxLocals := 8, code := code, exceptionTable := #[], attributes := #[] }
def k1m2 : Method := { name := "law", desc := "(IIIII)Z", sig := { parameters := [.int, .int, .int, .int, .int], returnType := some .boolean }, accessFlags := 9, code := some k1c2 }
/-- com/example/bytewright/bytewright/classfile/ClassOutputU2AtPinLaw -/
def k1 : Class := { plain "com/example/bytewright/bytewright/classfile/ClassOutputU2AtPinLaw" (some 0) with
  accessFlags := 49
  interfaces := #[]
  cf := some (fileOf pool1 29 #[] #[{ accessFlags := 1, nameIndex := 5, descriptorIndex := 6, attributes := #[] }, { accessFlags := 10, nameIndex := 32, descriptorIndex := 33, attributes := #[] }, { accessFlags := 9, nameIndex := 37, descriptorIndex := 38, attributes := #[] }] 49 2 #[] #[])
  fields := #[]
  methods := #[k1m0, k1m1, k1m2]
  instanceTypes := #[]
  staticTypes := #[]
  resolved := Array.replicate 43 none
  statics := none }

def pool2 : Array CpInfo := pool [(1, .class_ 2), (0, u "com/example/bytewright/bytewright/classfile/ClassOutput"), (2, u "<init>"), (0, u "(I)V"), (0, .methodref 8 9), (0, .class_ 10), (0, .nameAndType 5 11), (0, u "java/lang/Object"), (0, u "()V"), (0, .methodref 13 14), (0, .class_ 15), (0, .nameAndType 16 17), (0, u "java/lang/Math"), (0, u "max"), (0, u "(II)I"), (0, .fieldref 1 19), (0, .nameAndType 20 21), (0, u "bytes"), (0, u "[B"), (0, .methodref 1 23), (0, .nameAndType 24 6), (0, u "ensure"), (0, .fieldref 1 26), (0, .nameAndType 27 28), (0, u "size"), (0, u "I"), (0, .methodref 1 30), (0, .nameAndType 31 6), (0, u "u2"), (2, u "u2At"), (0, u "(II)V"), (14, u "()I"), (20, .methodref 72 73), (0, .class_ 74), (0, .nameAndType 75 76), (0, u "java/util/Arrays"), (0, u "copyOf"), (0, u "([BI)[B"), (2, u "toByteArray"), (0, u "()[B"), (3, u "DEFAULT_CAPACITY"), (4, u "u4")] 25

def k2m0 : Method := { name := "<init>", desc := "()V", sig := { parameters := [], returnType := none }, accessFlags := 0, code := none }
def k2c1 : Code := { maxStack := 3, maxLocals := 2, code := prog_27_method_2_code, exceptionTable := #[], attributes := #[] }
def k2m1 : Method := { name := "<init>", desc := "(I)V", sig := { parameters := [.int], returnType := none }, accessFlags := 0, code := some k2c1 }
def k2c2 : Code := { maxStack := 5, maxLocals := 2, code := prog_27_method_4_code, exceptionTable := #[], attributes := #[] }
def k2m2 : Method := { name := "u2", desc := "(I)V", sig := { parameters := [.int], returnType := none }, accessFlags := 0, code := some k2c2 }
def k2c3 : Code := { maxStack := 3, maxLocals := 2, code := prog_27_method_5_code, exceptionTable := #[], attributes := #[] }
def k2m3 : Method := { name := "u4", desc := "(I)V", sig := { parameters := [.int], returnType := none }, accessFlags := 0, code := some k2c3 }
def k2c4 : Code := { maxStack := 4, maxLocals := 3, code := prog_27_method_6_code, exceptionTable := #[], attributes := #[] }
def k2m4 : Method := { name := "u2At", desc := "(II)V", sig := { parameters := [.int, .int], returnType := none }, accessFlags := 0, code := some k2c4 }
def k2c5 : Code := { maxStack := 1, maxLocals := 1, code := prog_27_method_13_code, exceptionTable := #[], attributes := #[] }
def k2m5 : Method := { name := "size", desc := "()I", sig := { parameters := [], returnType := some .int }, accessFlags := 0, code := some k2c5 }
def k2c6 : Code := { maxStack := 2, maxLocals := 1, code := prog_27_method_15_code, exceptionTable := #[], attributes := #[] }
def k2m6 : Method := { name := "toByteArray", desc := "()[B", sig := { parameters := [], returnType := some (.array .byte) }, accessFlags := 0, code := some k2c6 }
def k2c7 : Code := { maxStack := 2, maxLocals := 2, code := prog_27_method_17_code, exceptionTable := #[], attributes := #[] }
def k2m7 : Method := { name := "ensure", desc := "(I)V", sig := { parameters := [.int], returnType := none }, accessFlags := 2, code := some k2c7 }
/-- com/example/bytewright/bytewright/classfile/ClassOutput -/
def k2 : Class := { plain "com/example/bytewright/bytewright/classfile/ClassOutput" (some 0) with
  accessFlags := 48
  interfaces := #[]
  cf := some (fileOf pool2 1 #[] #[{ accessFlags := 0, nameIndex := 5, descriptorIndex := 11, attributes := #[] }, { accessFlags := 0, nameIndex := 5, descriptorIndex := 6, attributes := #[] }, { accessFlags := 0, nameIndex := 31, descriptorIndex := 6, attributes := #[] }, { accessFlags := 0, nameIndex := 89, descriptorIndex := 6, attributes := #[] }, { accessFlags := 0, nameIndex := 34, descriptorIndex := 35, attributes := #[] }, { accessFlags := 0, nameIndex := 27, descriptorIndex := 50, attributes := #[] }, { accessFlags := 0, nameIndex := 79, descriptorIndex := 80, attributes := #[] }, { accessFlags := 2, nameIndex := 24, descriptorIndex := 6, attributes := #[] }] 48 8 #[] #[{ accessFlags := 26, nameIndex := 84, descriptorIndex := 28, attributes := #[] }, { accessFlags := 2, nameIndex := 20, descriptorIndex := 21, attributes := #[] }, { accessFlags := 2, nameIndex := 27, descriptorIndex := 28, attributes := #[] }])
  fields := #[{ name := "DEFAULT_CAPACITY", type := .int, accessFlags := 26, slot := 0, constantValue := 0 }, { name := "bytes", type := (.array .byte), accessFlags := 2, slot := 0, constantValue := 0 }, { name := "size", type := .int, accessFlags := 2, slot := 1, constantValue := 0 }]
  methods := #[k2m0, k2m1, k2m2, k2m3, k2m4, k2m5, k2m6, k2m7]
  instanceTypes := #[(.array .byte), .int]
  staticTypes := #[.int]
  resolved := Array.replicate 115 none
  statics := none }

def pool3 : Array CpInfo := pool [(1, .class_ 2), (0, u "java/lang/Math"), (1, .class_ 6), (1, u "java/lang/Object"), (0, u "<init>"), (0, u "()V"), (89, .class_ 100), (1, u "java/lang/Math$RandomNumberGeneratorHolder"), (71, u "negativeZeroFloatBits"), (0, u "J"), (2, u "negativeZeroDoubleBits"), (21, u "max"), (2, u "min"), (43, u "$assertionsDisabled"), (0, u "Z"), (88, u "(II)I"), (2, u "twoToTheDoubleScaleDown"), (0, u "D"), (4, u "twoToTheDoubleScaleUp"), (9, u "E"), (3, u "PI"), (2, u "TAU"), (2, u "DEGREES_TO_RADIANS"), (0, u "RADIANS_TO_DEGREES")] 94

def k3m0 : Method := { name := "<init>", desc := "()V", sig := { parameters := [], returnType := none }, accessFlags := 2, code := none }
def k3c1 : Code := { maxStack := 2, maxLocals := 2, code := jdk_29_method_65_code, exceptionTable := #[], attributes := #[] }
def k3m1 : Method := { name := "max", desc := "(II)I", sig := { parameters := [.int, .int], returnType := some .int }, accessFlags := 9, code := some k3c1 }
def k3c2 : Code := { maxStack := 2, maxLocals := 2, code := jdk_29_method_69_code, exceptionTable := #[], attributes := #[] }
def k3m2 : Method := { name := "min", desc := "(II)I", sig := { parameters := [.int, .int], returnType := some .int }, accessFlags := 9, code := some k3c2 }
/-- java/lang/Math -/
def k3 : Class := { plain "java/lang/Math" (some 0) with
  accessFlags := 49
  interfaces := #[]
  cf := some (fileOf pool3 1 #[.nestMembers #[98]] #[{ accessFlags := 2, nameIndex := 7, descriptorIndex := 8, attributes := #[] }, { accessFlags := 9, nameIndex := 198, descriptorIndex := 335, attributes := #[] }, { accessFlags := 9, nameIndex := 201, descriptorIndex := 335, attributes := #[] }] 49 4 #[] #[{ accessFlags := 25, nameIndex := 354, descriptorIndex := 339, attributes := #[] }, { accessFlags := 25, nameIndex := 358, descriptorIndex := 339, attributes := #[] }, { accessFlags := 25, nameIndex := 361, descriptorIndex := 339, attributes := #[] }, { accessFlags := 26, nameIndex := 364, descriptorIndex := 339, attributes := #[] }, { accessFlags := 26, nameIndex := 365, descriptorIndex := 339, attributes := #[] }, { accessFlags := 26, nameIndex := 172, descriptorIndex := 173, attributes := #[] }, { accessFlags := 26, nameIndex := 176, descriptorIndex := 173, attributes := #[] }, { accessFlags := 8, nameIndex := 344, descriptorIndex := 339, attributes := #[] }, { accessFlags := 8, nameIndex := 338, descriptorIndex := 339, attributes := #[] }, { accessFlags := 4120, nameIndex := 245, descriptorIndex := 246, attributes := #[] }])
  fields := #[{ name := "E", type := .double, accessFlags := 25, slot := 0, constantValue := 0 }, { name := "PI", type := .double, accessFlags := 25, slot := 1, constantValue := 0 }, { name := "TAU", type := .double, accessFlags := 25, slot := 2, constantValue := 0 }, { name := "DEGREES_TO_RADIANS", type := .double, accessFlags := 26, slot := 3, constantValue := 0 }, { name := "RADIANS_TO_DEGREES", type := .double, accessFlags := 26, slot := 4, constantValue := 0 }, { name := "negativeZeroFloatBits", type := .long, accessFlags := 26, slot := 5, constantValue := 0 }, { name := "negativeZeroDoubleBits", type := .long, accessFlags := 26, slot := 6, constantValue := 0 }, { name := "twoToTheDoubleScaleUp", type := .double, accessFlags := 8, slot := 7, constantValue := 0 }, { name := "twoToTheDoubleScaleDown", type := .double, accessFlags := 8, slot := 8, constantValue := 0 }, { name := "$assertionsDisabled", type := .boolean, accessFlags := 4120, slot := 9, constantValue := 0 }]
  methods := #[k3m0, k3m1, k3m2]
  instanceTypes := #[]
  staticTypes := #[.double, .double, .double, .double, .double, .long, .long, .double, .double, .boolean]
  resolved := Array.replicate 460 none
  statics := none }

def pool4 : Array CpInfo := pool [(2, .class_ 4), (1, u "java/lang/Object"), (0, u "<init>"), (0, u "()V"), (7, .class_ 16), (1, u "java/util/Arrays"), (57, .class_ 76), (1, u "java/util/Arrays$NaturalOrder"), (36, .class_ 115), (1, u "java/util/Arrays$LegacyMergeSort"), (1, u "Z"), (32, .methodref 151 152), (0, .class_ 153), (0, .nameAndType 154 155), (0, u "java/lang/System"), (0, u "arraycopy"), (0, u "(Ljava/lang/Object;ILjava/lang/Object;II)V"), (146, u "copyOf"), (1, .methodref 305 306), (0, .class_ 307), (0, .nameAndType 308 309), (0, u "java/lang/Math"), (0, u "min"), (0, u "(II)I"), (65, .class_ 376), (0, u "java/util/Arrays$ArrayList"), (68, u "$assertionsDisabled"), (269, u "MIN_ARRAY_SORT_GRAN"), (0, u "I"), (2, u "INSERTIONSORT_THRESHOLD"), (149, u "([BI)[B"), (105, .class_ 976), (0, u "java/util/Arrays$ArrayItr")] 52

def k4m0 : Method := { name := "<init>", desc := "()V", sig := { parameters := [], returnType := none }, accessFlags := 2, code := none }
def k4c1 : Code := { maxStack := 6, maxLocals := 3, code := jdk_65_method_121_code, exceptionTable := #[], attributes := #[] }
def k4m1 : Method := { name := "copyOf", desc := "([BI)[B", sig := { parameters := [(.array .byte), .int], returnType := some (.array .byte) }, accessFlags := 9, code := some k4c1 }
/-- java/util/Arrays -/
def k4 : Class := { plain "java/util/Arrays" (some 0) with
  accessFlags := 49
  interfaces := #[]
  cf := some (fileOf pool4 14 #[.nestMembers #[975, 375, 113, 74]] #[{ accessFlags := 2, nameIndex := 5, descriptorIndex := 6, attributes := #[] }, { accessFlags := 9, nameIndex := 302, descriptorIndex := 869, attributes := #[] }] 49 2 #[] #[{ accessFlags := 26, nameIndex := 715, descriptorIndex := 716, attributes := #[] }, { accessFlags := 26, nameIndex := 719, descriptorIndex := 716, attributes := #[] }, { accessFlags := 4120, nameIndex := 445, descriptorIndex := 117, attributes := #[] }])
  fields := #[{ name := "MIN_ARRAY_SORT_GRAN", type := .int, accessFlags := 26, slot := 0, constantValue := 0 }, { name := "INSERTIONSORT_THRESHOLD", type := .int, accessFlags := 26, slot := 1, constantValue := 0 }, { name := "$assertionsDisabled", type := .boolean, accessFlags := 4120, slot := 2, constantValue := 0 }]
  methods := #[k4m0, k4m1]
  instanceTypes := #[]
  staticTypes := #[.int, .int, .boolean]
  resolved := Array.replicate 1029 none
  statics := none }

def pool5 : Array CpInfo := pool [(2, .class_ 4), (1, u "java/lang/Object"), (0, u "<init>"), (0, u "()V"), (1, .class_ 10), (1, u "java/lang/System"), (0, u "allowSecurityManager"), (0, u "I"), (16, u "cons"), (0, u "Ljava/io/Console;"), (77, .class_ 110), (1, u "java/lang/System$CallersHolder"), (43, u "initialErrStream"), (0, u "Ljava/io/PrintStream;"), (19, u "security"), (0, u "Ljava/lang/SecurityManager;"), (31, .class_ 209), (0, u "java/lang/System$1"), (7, u "props"), (0, u "Ljava/util/Properties;"), (2, u "lineSeparator"), (0, u "Ljava/lang/String;"), (96, .class_ 321), (1, u "java/lang/System$LoggerFinder"), (5, .class_ 328), (0, u "java/lang/System$Logger"), (67, u "err"), (2, u "out"), (91, u "notSupportedJnuEncoding"), (15, u "in"), (17, u "initialIn"), (0, u "Ljava/io/InputStream;"), (35, u "bootLayer"), (0, u "Ljava/lang/ModuleLayer;"), (99, .class_ 664), (0, u "java/lang/System$2"), (9, u "NEVER"), (2, u "MAYBE"), (49, u "arraycopy"), (0, u "(Ljava/lang/Object;ILjava/lang/Object;II)V"), (72, .class_ 802), (0, u "java/lang/System$Logger$Level")] 31

def k5m0 : Method := { name := "<init>", desc := "()V", sig := { parameters := [], returnType := none }, accessFlags := 2, code := none }
def k5m1 : Method := { name := "arraycopy", desc := "(Ljava/lang/Object;ILjava/lang/Object;II)V", sig := { parameters := [(.object "java/lang/Object"), .int, (.object "java/lang/Object"), .int, .int], returnType := none }, accessFlags := 265, code := none }
/-- java/lang/System -/
def k5 : Class := { plain "java/lang/System" (some 0) with
  accessFlags := 49
  interfaces := #[]
  cf := some (fileOf pool5 8 #[.nestMembers #[319, 327, 801, 108, 663, 208]] #[{ accessFlags := 2, nameIndex := 5, descriptorIndex := 6, attributes := #[] }, { accessFlags := 265, nameIndex := 727, descriptorIndex := 728, attributes := #[] }] 49 2 #[] #[{ accessFlags := 25, nameIndex := 507, descriptorIndex := 526, attributes := #[] }, { accessFlags := 25, nameIndex := 399, descriptorIndex := 155, attributes := #[] }, { accessFlags := 25, nameIndex := 396, descriptorIndex := 155, attributes := #[] }, { accessFlags := 10, nameIndex := 525, descriptorIndex := 526, attributes := #[] }, { accessFlags := 26, nameIndex := 674, descriptorIndex := 12, attributes := #[] }, { accessFlags := 26, nameIndex := 677, descriptorIndex := 12, attributes := #[] }, { accessFlags := 10, nameIndex := 11, descriptorIndex := 12, attributes := #[] }, { accessFlags := 74, nameIndex := 175, descriptorIndex := 176, attributes := #[] }, { accessFlags := 10, nameIndex := 491, descriptorIndex := 222, attributes := #[] }, { accessFlags := 74, nameIndex := 29, descriptorIndex := 30, attributes := #[] }, { accessFlags := 74, nameIndex := 154, descriptorIndex := 155, attributes := #[] }, { accessFlags := 10, nameIndex := 217, descriptorIndex := 218, attributes := #[] }, { accessFlags := 10, nameIndex := 221, descriptorIndex := 222, attributes := #[] }, { accessFlags := 8, nameIndex := 562, descriptorIndex := 563, attributes := #[] }])
  fields := #[{ name := "in", type := (.object "java/io/InputStream"), accessFlags := 25, slot := 0, constantValue := 0 }, { name := "out", type := (.object "java/io/PrintStream"), accessFlags := 25, slot := 1, constantValue := 0 }, { name := "err", type := (.object "java/io/PrintStream"), accessFlags := 25, slot := 2, constantValue := 0 }, { name := "initialIn", type := (.object "java/io/InputStream"), accessFlags := 10, slot := 3, constantValue := 0 }, { name := "NEVER", type := .int, accessFlags := 26, slot := 4, constantValue := 0 }, { name := "MAYBE", type := .int, accessFlags := 26, slot := 5, constantValue := 0 }, { name := "allowSecurityManager", type := .int, accessFlags := 10, slot := 6, constantValue := 0 }, { name := "security", type := (.object "java/lang/SecurityManager"), accessFlags := 74, slot := 7, constantValue := 0 }, { name := "notSupportedJnuEncoding", type := (.object "java/lang/String"), accessFlags := 10, slot := 8, constantValue := 0 }, { name := "cons", type := (.object "java/io/Console"), accessFlags := 74, slot := 9, constantValue := 0 }, { name := "initialErrStream", type := (.object "java/io/PrintStream"), accessFlags := 74, slot := 10, constantValue := 0 }, { name := "props", type := (.object "java/util/Properties"), accessFlags := 10, slot := 11, constantValue := 0 }, { name := "lineSeparator", type := (.object "java/lang/String"), accessFlags := 10, slot := 12, constantValue := 0 }, { name := "bootLayer", type := (.object "java/lang/ModuleLayer"), accessFlags := 8, slot := 13, constantValue := 0 }]
  methods := #[k5m0, k5m1]
  instanceTypes := #[]
  staticTypes := #[(.object "java/io/InputStream"), (.object "java/io/PrintStream"), (.object "java/io/PrintStream"), (.object "java/io/InputStream"), .int, .int, .int, (.object "java/lang/SecurityManager"), (.object "java/lang/String"), (.object "java/io/Console"), (.object "java/io/PrintStream"), (.object "java/util/Properties"), (.object "java/lang/String"), (.object "java/lang/ModuleLayer")]
  resolved := Array.replicate 834 none
  statics := none }

def pool6 : Array CpInfo := pool [(1, u "java/lang/Cloneable"), (0, .class_ 1), (0, u "java/lang/Object"), (0, .class_ 3)] 3

/-- java/lang/Cloneable -/
def k6 : Class := { plain "java/lang/Cloneable" (some 0) with
  accessFlags := 1537
  interfaces := #[]
  cf := some (fileOf pool6 2 #[] #[] 1537 4 #[] #[])
  fields := #[]
  methods := #[]
  instanceTypes := #[]
  staticTypes := #[]
  resolved := Array.replicate 8 none
  statics := none }

def pool7 : Array CpInfo := pool [(1, u "java/io/Serializable"), (0, .class_ 1), (0, u "java/lang/Object"), (0, .class_ 3)] 3

/-- java/io/Serializable -/
def k7 : Class := { plain "java/io/Serializable" (some 0) with
  accessFlags := 1537
  interfaces := #[]
  cf := some (fileOf pool7 2 #[] #[] 1537 4 #[] #[])
  fields := #[]
  methods := #[]
  instanceTypes := #[]
  staticTypes := #[]
  resolved := Array.replicate 8 none
  statics := none }

/-- the primitive byte -/
def k8 : Class := { plain "byte" none with kind := .primitive 'B', accessFlags := 0x411 }
/-- [B -/
def k9 : Class := { plain "[B" (some 0) with kind := .array 8 .byte, interfaces := #[6, 7], accessFlags := 1041 }

/-- the primitive int -/
def k10 : Class := { plain "int" none with kind := .primitive 'I', accessFlags := 0x411 }
/-- [I -/
def k11 : Class := { plain "[I" (some 0) with kind := .array 10 .int, interfaces := #[6, 7], accessFlags := 1041 }

def heap : Heap := #[]
def classes : Array Class := #[k0, k1, k2, k3, k4, k5, k6, k7, k8, k9, k10, k11]
def interned : List (Array UInt16 × Addr) := []
def slotsUsed : Nat := 0
def theMethod : MethodId := ⟨1, 2⟩
def args0 : Array Value := #[.int 5, .int 7, .int 9, .int 11, .int 1]
def aboutOver (below : List Frame) : State where
  vm := { classes := classes, interned := interned.toArray }
  heap := heap
  slotsUsed := slotsUsed
  threads := #[{ frames := .invoking theMethod args0 :: below }]
def below0 : List Frame := [.native { method := ⟨0, 0⟩, args := #[] }]
def about1 : State := aboutOver below0
def p0 : Program := .bare "" "" ""
def e0 : Env := launch0.env 0 0 0
theorem w_frames : about1.frames = Frame.invoking theMethod args0 :: below0 := rfl
set_option maxRecDepth 65536 in
theorem w_args : argsFit about1.vm theMethod args0 = true := by decide +kernel
set_option maxRecDepth 65536 in
theorem w_heap : heapFits about1 = true := by decide +kernel
set_option maxRecDepth 65536 in
theorem w_runnable : about1.curStatus? = some .runnable := by decide +kernel
set_option maxRecDepth 65536 in
theorem w_alone : about1.alone = true := by decide +kernel
set_option maxRecDepth 65536 in
theorem w_named : about1.methodNamed? x = some theMethod := by decide +kernel
set_option maxRecDepth 65536 in
theorem w_hears : about1.hears theMethod below0 = true := by decide +kernel
set_option maxRecDepth 65536 in
theorem w_ripe : about1.ripe theMethod args0 below0 = true := by decide +kernel
theorem w_running : about1.status = .running := rfl
set_option maxRecDepth 65536 in
theorem w_room : about1.hasRoom e0.platform room_1 = true :=
  launch0.hasRoom_least _ room_1 (by decide +kernel) (by decide +kernel) (by decide +kernel) (by decide +kernel) (by decide +kernel) (by decide +kernel)
theorem allAtoms_all (ts : List Jvm.Cond) (a : Array Jvm.Value) (st : Jvm.State) : (allAtoms ts).before a st = ts.all (fun c => c.before a st) := by
  induction ts with
  | nil => rfl
  | cons c t ih =>
    show (Jvm.Cond.and c (allAtoms t)).before a st = _
    rw [Jvm.Cond.before_and, ih, List.all_cons]
def words1 : List Jvm.Cond := Jvm.Cond.code x code maxLocals ret :: tables_1
/-- a 'code' word, met by the world's own term for the bytes: nothing is compared byte by byte -/
theorem code_word {y : MethodName} {bytes : ByteArray} {mx : Nat} {rt : Option FieldType} {a : Array Value} {s : State} {m : MethodId} {meth : Method} {c : Code} (h1 : s.methodNamed? y = some m) (h2 : s.vm.method? m = some meth) (h3 : meth.code = some c) (h4 : c.code = bytes)
    (h5 : (c.maxLocals == mx && c.exceptionTable.isEmpty && decide (c.maxStack ≤ mostOperands) && decide (meth.sig.returnType = rt) && !meth.locks && decide (parseMethodDescriptor y.desc = some meth.sig)) = true) : (Jvm.Cond.code y bytes mx rt).before a s = true := by
  simp only [Bool.and_eq_true, beq_iff_eq, Bool.not_eq_true', decide_eq_true_eq] at h5
  obtain ⟨⟨⟨⟨⟨g1, g2⟩, g3⟩, g4⟩, g5⟩, g6⟩ := h5
  simp [Cond.before, Cond.holds, Cond.value, h1, h2, h3, h4, g1, g2, g3, g4, g5, g6]
def isCode : Jvm.Cond → Bool
  | .code _ _ _ _ => true
  | _ => false
theorem all_split {L : List Jvm.Cond} {P : Jvm.Cond → Bool} (h1 : L.all (fun c => isCode c || P c) = true) (h2 : ∀ c ∈ L.filter isCode, P c = true) : L.all P = true := by
  refine List.all_eq_true.mpr fun c hc => ?_
  have h := List.all_eq_true.mp h1 c hc
  rcases Bool.eq_false_or_eq_true (isCode c) with hi | hi
  · exact h2 c (List.mem_filter.mpr ⟨hc, hi⟩)
  · simpa [hi] using h
set_option maxRecDepth 65536 in
theorem w_c0 : (Jvm.Cond.code x code maxLocals ret).before args0 about1 = true := code_word (m := ⟨1, 2⟩) (meth := k1m2) (c := k1c2) (by decide +kernel) rfl rfl rfl (by decide +kernel)
set_option maxRecDepth 65536 in
theorem w_c1 : (Jvm.Cond.code ({ cls := "com/example/bytewright/bytewright/classfile/ClassOutput", name := "<init>", desc := "(I)V" } : Jvm.MethodName) prog_27_method_2_code (2 : Nat) (Option.none : Option Jvm.ClassFile.FieldType)).before args0 about1 = true := code_word (m := ⟨2, 1⟩) (meth := k2m1) (c := k2c1) (by decide +kernel) rfl rfl rfl (by decide +kernel)
set_option maxRecDepth 65536 in
theorem w_c2 : (Jvm.Cond.code ({ cls := "java/lang/Object", name := "<init>", desc := "()V" } : Jvm.MethodName) object_method_1_code (1 : Nat) (Option.none : Option Jvm.ClassFile.FieldType)).before args0 about1 = true := code_word (m := ⟨0, 0⟩) (meth := k0m0) (c := k0c0) (by decide +kernel) rfl rfl rfl (by decide +kernel)
set_option maxRecDepth 65536 in
theorem w_c3 : (Jvm.Cond.code ({ cls := "java/lang/Math", name := "max", desc := "(II)I" } : Jvm.MethodName) jdk_29_method_65_code (2 : Nat) (Option.some Jvm.ClassFile.FieldType.int)).before args0 about1 = true := code_word (m := ⟨3, 1⟩) (meth := k3m1) (c := k3c1) (by decide +kernel) rfl rfl rfl (by decide +kernel)
set_option maxRecDepth 65536 in
theorem w_c4 : (Jvm.Cond.code ({ cls := "com/example/bytewright/bytewright/classfile/ClassOutput", name := "u4", desc := "(I)V" } : Jvm.MethodName) prog_27_method_5_code (2 : Nat) (Option.none : Option Jvm.ClassFile.FieldType)).before args0 about1 = true := code_word (m := ⟨2, 3⟩) (meth := k2m3) (c := k2c3) (by decide +kernel) rfl rfl rfl (by decide +kernel)
set_option maxRecDepth 65536 in
theorem w_c5 : (Jvm.Cond.code ({ cls := "com/example/bytewright/bytewright/classfile/ClassOutput", name := "u2", desc := "(I)V" } : Jvm.MethodName) prog_27_method_4_code (2 : Nat) (Option.none : Option Jvm.ClassFile.FieldType)).before args0 about1 = true := code_word (m := ⟨2, 2⟩) (meth := k2m2) (c := k2c2) (by decide +kernel) rfl rfl rfl (by decide +kernel)
set_option maxRecDepth 65536 in
theorem w_c6 : (Jvm.Cond.code ({ cls := "com/example/bytewright/bytewright/classfile/ClassOutput", name := "ensure", desc := "(I)V" } : Jvm.MethodName) prog_27_method_17_code (2 : Nat) (Option.none : Option Jvm.ClassFile.FieldType)).before args0 about1 = true := code_word (m := ⟨2, 7⟩) (meth := k2m7) (c := k2c7) (by decide +kernel) rfl rfl rfl (by decide +kernel)
set_option maxRecDepth 65536 in
theorem w_c7 : (Jvm.Cond.code ({ cls := "com/example/bytewright/bytewright/classfile/ClassOutput", name := "u2At", desc := "(II)V" } : Jvm.MethodName) prog_27_method_6_code (3 : Nat) (Option.none : Option Jvm.ClassFile.FieldType)).before args0 about1 = true := code_word (m := ⟨2, 4⟩) (meth := k2m4) (c := k2c4) (by decide +kernel) rfl rfl rfl (by decide +kernel)
set_option maxRecDepth 65536 in
theorem w_c8 : (Jvm.Cond.code ({ cls := "com/example/bytewright/bytewright/classfile/ClassOutput", name := "size", desc := "()I" } : Jvm.MethodName) prog_27_method_13_code (1 : Nat) (Option.some Jvm.ClassFile.FieldType.int)).before args0 about1 = true := code_word (m := ⟨2, 5⟩) (meth := k2m5) (c := k2c5) (by decide +kernel) rfl rfl rfl (by decide +kernel)
set_option maxRecDepth 65536 in
theorem w_c9 : (Jvm.Cond.code ({ cls := "com/example/bytewright/bytewright/classfile/ClassOutput", name := "toByteArray", desc := "()[B" } : Jvm.MethodName) prog_27_method_15_code (1 : Nat) (Option.some (Jvm.ClassFile.FieldType.array Jvm.ClassFile.FieldType.byte))).before args0 about1 = true := code_word (m := ⟨2, 6⟩) (meth := k2m6) (c := k2c6) (by decide +kernel) rfl rfl rfl (by decide +kernel)
set_option maxRecDepth 65536 in
theorem w_c10 : (Jvm.Cond.code ({ cls := "java/util/Arrays", name := "copyOf", desc := "([BI)[B" } : Jvm.MethodName) jdk_65_method_121_code (3 : Nat) (Option.some (Jvm.ClassFile.FieldType.array Jvm.ClassFile.FieldType.byte))).before args0 about1 = true := code_word (m := ⟨4, 1⟩) (meth := k4m1) (c := k4c1) (by decide +kernel) rfl rfl rfl (by decide +kernel)
set_option maxRecDepth 65536 in
theorem w_c11 : (Jvm.Cond.code ({ cls := "java/lang/Math", name := "min", desc := "(II)I" } : Jvm.MethodName) jdk_29_method_69_code (2 : Nat) (Option.some Jvm.ClassFile.FieldType.int)).before args0 about1 = true := code_word (m := ⟨3, 2⟩) (meth := k3m2) (c := k3c2) (by decide +kernel) rfl rfl rfl (by decide +kernel)
set_option maxRecDepth 65536 in
theorem w_c12 : (Jvm.Cond.code ({ cls := "com/example/bytewright/bytewright/classfile/ClassOutputU2AtPinLaw", name := "ok", desc := "([BIIIII)Z" } : Jvm.MethodName) method_2_code (7 : Nat) (Option.some Jvm.ClassFile.FieldType.boolean)).before args0 about1 = true := code_word (m := ⟨1, 1⟩) (meth := k1m1) (c := k1c1) (by decide +kernel) rfl rfl rfl (by decide +kernel)
def codes1 : List Jvm.Cond := [Jvm.Cond.code x code maxLocals ret, Jvm.Cond.code ({ cls := "com/example/bytewright/bytewright/classfile/ClassOutput", name := "<init>", desc := "(I)V" } : Jvm.MethodName) prog_27_method_2_code (2 : Nat) (Option.none : Option Jvm.ClassFile.FieldType), Jvm.Cond.code ({ cls := "java/lang/Object", name := "<init>", desc := "()V" } : Jvm.MethodName) object_method_1_code (1 : Nat) (Option.none : Option Jvm.ClassFile.FieldType), Jvm.Cond.code ({ cls := "java/lang/Math", name := "max", desc := "(II)I" } : Jvm.MethodName) jdk_29_method_65_code (2 : Nat) (Option.some Jvm.ClassFile.FieldType.int), Jvm.Cond.code ({ cls := "com/example/bytewright/bytewright/classfile/ClassOutput", name := "u4", desc := "(I)V" } : Jvm.MethodName) prog_27_method_5_code (2 : Nat) (Option.none : Option Jvm.ClassFile.FieldType), Jvm.Cond.code ({ cls := "com/example/bytewright/bytewright/classfile/ClassOutput", name := "u2", desc := "(I)V" } : Jvm.MethodName) prog_27_method_4_code (2 : Nat) (Option.none : Option Jvm.ClassFile.FieldType), Jvm.Cond.code ({ cls := "com/example/bytewright/bytewright/classfile/ClassOutput", name := "ensure", desc := "(I)V" } : Jvm.MethodName) prog_27_method_17_code (2 : Nat) (Option.none : Option Jvm.ClassFile.FieldType), Jvm.Cond.code ({ cls := "com/example/bytewright/bytewright/classfile/ClassOutput", name := "u2At", desc := "(II)V" } : Jvm.MethodName) prog_27_method_6_code (3 : Nat) (Option.none : Option Jvm.ClassFile.FieldType), Jvm.Cond.code ({ cls := "com/example/bytewright/bytewright/classfile/ClassOutput", name := "size", desc := "()I" } : Jvm.MethodName) prog_27_method_13_code (1 : Nat) (Option.some Jvm.ClassFile.FieldType.int), Jvm.Cond.code ({ cls := "com/example/bytewright/bytewright/classfile/ClassOutput", name := "toByteArray", desc := "()[B" } : Jvm.MethodName) prog_27_method_15_code (1 : Nat) (Option.some (Jvm.ClassFile.FieldType.array Jvm.ClassFile.FieldType.byte)), Jvm.Cond.code ({ cls := "java/util/Arrays", name := "copyOf", desc := "([BI)[B" } : Jvm.MethodName) jdk_65_method_121_code (3 : Nat) (Option.some (Jvm.ClassFile.FieldType.array Jvm.ClassFile.FieldType.byte)), Jvm.Cond.code ({ cls := "java/lang/Math", name := "min", desc := "(II)I" } : Jvm.MethodName) jdk_29_method_69_code (2 : Nat) (Option.some Jvm.ClassFile.FieldType.int), Jvm.Cond.code ({ cls := "com/example/bytewright/bytewright/classfile/ClassOutputU2AtPinLaw", name := "ok", desc := "([BIIIII)Z" } : Jvm.MethodName) method_2_code (7 : Nat) (Option.some Jvm.ClassFile.FieldType.boolean)]
set_option maxRecDepth 65536 in
theorem codes_eq : words1.filter isCode = codes1 := rfl
theorem w_codes : ∀ c ∈ words1.filter isCode, c.before args0 about1 = true := by
  rw [codes_eq]
  intro c hc
  simp only [codes1, List.mem_cons, List.not_mem_nil, or_false] at hc
  rcases hc with rfl | rfl | rfl | rfl | rfl | rfl | rfl | rfl | rfl | rfl | rfl | rfl | rfl
  · exact w_c0
  · exact w_c1
  · exact w_c2
  · exact w_c3
  · exact w_c4
  · exact w_c5
  · exact w_c6
  · exact w_c7
  · exact w_c8
  · exact w_c9
  · exact w_c10
  · exact w_c11
  · exact w_c12
set_option maxRecDepth 65536 in
theorem w_t1 : (words1.take 24).all (fun c => isCode c || c.before args0 about1) = true := by decide +kernel
set_option maxRecDepth 65536 in
theorem w_t2 : ((words1.drop 24).take 24).all (fun c => isCode c || c.before args0 about1) = true := by decide +kernel
set_option maxRecDepth 65536 in
theorem w_t3 : ((words1.drop 24).drop 24).all (fun c => isCode c || c.before args0 about1) = true := by decide +kernel
theorem w_tables : (allAtoms (Jvm.Cond.code x code maxLocals ret :: tables_1)).before args0 about1 = true := by
  rw [allAtoms_all]
  show words1.all (fun c => c.before args0 about1) = true
  refine all_split ?_ w_codes
  rw [← List.take_append_drop 24 words1, List.all_append, w_t1, ← List.take_append_drop 24 (words1.drop 24), List.all_append, w_t2, w_t3]
  rfl
set_option maxRecDepth 65536 in
theorem w_case : (Jvm.Cond.and given_1 narrow_1).before args0 about1 = true := by decide +kernel
theorem w_applies : (headSpec (Jvm.Cond.code x code maxLocals ret :: tables_1) room_1).applies x e0.platform about1 = true :=
  (Spec.applies_iff w_frames).mpr ⟨w_running, w_runnable, w_alone, w_named, w_hears, w_ripe, w_room, w_tables⟩
theorem atStart : AtStart classFile x code maxLocals ret World_1 tables_1 room_1 Calls_1 rest_1 Pre_1 launch0 p0 e0 about1 theMethod args0 below0 :=
  ⟨lists_1, trivial, launch0.admits_env _ _ _, launch0.least_env, fairChoices_fair.cas, fairChoices_fair.clock, w_frames, w_args, w_heap, w_applies, trivial, trivial, w_case⟩
end start1
theorem witness_1 : WitnessClaimed_1 := ⟨start1.p0, start1.e0, start1.about1, start1.theMethod, start1.args0, start1.below0, start1.atStart⟩
end Jvm.Pilot.@@N@@
