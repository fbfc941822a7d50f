import JvmDerived
import JvmDerived.Pilot.@@N@@Statement
import JvmDerived.Pilot.@@N@@Code
set_option linter.unusedVariables false
set_option linter.unusedSimpArgs false
namespace Jvm.RoadKit
open Sem ClassFile Op Lib Jvm.Stand Jvm.Free Jvm.LawKit
section New
variable {p : Program} {l : Launch} {e : Env} {R : Room} {s : State} {m : MethodId} {args : Array Value} {below : List Frame} {meth : Method} {c : Code} {T : State} {locs : List Loc} {cells slots : Nat}
theorem retI (X : Stand p l e R s m args below meth c T locs cells slots) (hx : p.tables.exec = Jvm.exec) {pc : Nat} {Ls : Array Slot} {z : Int32} {rest : List Value} (hret : meth.sig.returnType = some .int) (hd : decode c.code pc = .ok (.ireturn, 1)) {fs : List Frame}
    (hl : ∀ (f : JFrame) (acts : List Action), f.method = m → f.locked = none → f.entered = [] → (doReturn e (T.setTop f) acts (some (.int z))).1 = T.setFrames fs) : Steps p.tables e below (T.setTop (mkF m pc Ls (.int z :: rest))) (T.setFrames fs) := by
  have hm' : T.vm.method? m = some meth := X.method'
  have hn : narrow .int (.int z) = .int z := rfl
  show Steps p.tables e below (T.setTop { method := m, pc := pc, locals := Ls, stack := _ :: rest, locked := none }) _
  jvm_step X.here [X.here.top, hx, hd, hm', hret, hn]
  first | (intro acts; rw [hl _ acts rfl rfl rfl]) | rw [hl _ _ rfl rfl rfl]
  exact Steps.refl _
end New
end Jvm.RoadKit
namespace Jvm.Pilot.@@N@@
open Jvm Jvm.ClassFile Sem Op Lib Jvm.Free Jvm.Stand Jvm.LawKit Jvm.RoadKit Bundle Jvm.Pilot.@@N@@.Jvm.D
/-! the walk's own form: from the state S the run ends in a return that P speaks of -/
def own_Gl (tb : Tables) (e : Env) (below : List Frame) (P : Outcome → State → Prop) (S : State) : Prop := ∃ s₂ o, Steps tb e below S s₂ ∧ s₂.status = .running ∧ Ended s₂ below o ∧ P o s₂
def own_P (s : State) (Q : Option Value → Heap → List Loc → Prop) (C N : Nat) (o : Outcome) (u : State) : Prop := ∃ v L, o = .returned v ∧ Q v u.heap L ∧ FrameEnd s o u L C N
theorem own_back {tb : Tables} {e : Env} {below : List Frame} {P : Outcome → State → Prop} {S S' : State} (k : ∀ t, Steps tb e below S' t → Steps tb e below S t) (h : own_Gl tb e below P S') : own_Gl tb e below P S := by
  obtain ⟨s₂, o, h1, h2⟩ := h
  exact ⟨s₂, o, k _ h1, h2⟩
theorem own_trans {tb : Tables} {e : Env} {below : List Frame} {P : Outcome → State → Prop} {S S' : State} (k : Steps tb e below S S') (h : own_Gl tb e below P S') : own_Gl tb e below P S := own_back (fun _ q => k.trans q) h
theorem own_join {tb : Tables} {e : Env} {below : List Frame} {P : Outcome → State → Prop} {S : State} {α : Type} (F : α → State) (C : α → Prop) (tail : ∀ i, C i → own_Gl tb e below P (F i)) (main : (∀ i, C i → own_Gl tb e below P (F i)) → own_Gl tb e below P S) : own_Gl tb e below P S := main tail
section OwnRet
variable {p : Program} {l : Launch} {e : Env} {R : Room} {s : State} {m : MethodId} {args : Array Value} {below : List Frame} {meth : Method} {c : Code} {T : State} {locs : List Loc} {cells slots : Nat}
theorem own_start {C N : Nat} {Q : Option Value → Heap → List Loc → Prop} {g g' : JFrame} (q : g = g') (h : own_Gl p.tables e below (own_P s Q C N) (T.setTop g')) :
    ∃ s₂ o, Steps p.tables e below (T.setTop g) s₂ ∧ s₂.status = .running ∧ Ended s₂ below o ∧ ∃ v L, o = .returned v ∧ Q v s₂.heap L ∧ FrameEnd s o s₂ L C N := by
  subst q; exact h
theorem own_ret (X : Stand p l e R s m args below meth c T locs cells slots) (hlk : meth.locks = false) {v : Option Value} {C N : Nat} {Q : Option Value → Heap → List Loc → Prop} {g : JFrame} (hv : meth.sig.returnType = none → v = none) (hq : Q v T.heap locs) (hc : cells ≤ C) (hn : slots ≤ N)
    (st : ∀ fs, (∀ (f : JFrame) (acts : List Action), f.method = m → f.locked = none → f.entered = [] → (doReturn e (T.setTop f) acts v).1 = T.setFrames fs) → Steps p.tables e below (T.setTop g) (T.setFrames fs)) : own_Gl p.tables e below (own_P s Q C N) (T.setTop g) := by
  obtain ⟨fs, hr, hrun, hended, hW, hsame⟩ := X.leave (v := v) hv hlk
  exact ⟨_, _, st fs hr, hrun, hended, _, _, rfl, hq, ⟨_, rfl⟩, hW, hsame.mono hc hn⟩
theorem own_rZ (X : Stand p l e R s m args below meth c T locs cells slots) (hx : p.tables.exec = Jvm.exec) (hlk : meth.locks = false) (hret : meth.sig.returnType = some .boolean) {z z' : Int32} {C N pc : Nat} {Ls : Array Slot} {rest : List Value} {Q : Option Value → Heap → List Loc → Prop} (hd : decode c.code pc = .ok (.ireturn, 1)) (hz : z &&& 1 = z') (hq : Q (some (.int z')) T.heap locs) (hc : cells ≤ C) (hn : slots ≤ N) :
    own_Gl p.tables e below (own_P s Q C N) (T.setTop (mkF m pc Ls (.int z :: rest))) := by
  subst hz
  exact own_ret X hlk (fun h => by rw [hret] at h; cases h) hq hc hn (fun fs hr => retN X hx (t := .boolean) hret (by simp) hd hr)
theorem own_rC (X : Stand p l e R s m args below meth c T locs cells slots) (hx : p.tables.exec = Jvm.exec) (hlk : meth.locks = false) (hret : meth.sig.returnType = some .char) {z z' : Int32} {C N pc : Nat} {Ls : Array Slot} {rest : List Value} {Q : Option Value → Heap → List Loc → Prop} (hd : decode c.code pc = .ok (.ireturn, 1)) (hz : nar .char z = z') (hq : Q (some (.int z')) T.heap locs) (hc : cells ≤ C) (hn : slots ≤ N) :
    own_Gl p.tables e below (own_P s Q C N) (T.setTop (mkF m pc Ls (.int z :: rest))) := by
  subst hz
  exact own_ret X hlk (fun h => by rw [hret] at h; cases h) hq hc hn (fun fs hr => retN X hx (t := .char) hret (by simp) hd hr)
theorem own_rI (X : Stand p l e R s m args below meth c T locs cells slots) (hx : p.tables.exec = Jvm.exec) (hlk : meth.locks = false) (hret : meth.sig.returnType = some .int) {z : Int32} {C N pc : Nat} {Ls : Array Slot} {rest : List Value} {Q : Option Value → Heap → List Loc → Prop} (hd : decode c.code pc = .ok (.ireturn, 1)) (hq : Q (some (.int z)) T.heap locs) (hc : cells ≤ C) (hn : slots ≤ N) :
    own_Gl p.tables e below (own_P s Q C N) (T.setTop (mkF m pc Ls (.int z :: rest))) :=
  own_ret X hlk (fun h => by rw [hret] at h; cases h) hq hc hn (fun fs hr => retI X hx hret hd hr)
theorem own_rJ (X : Stand p l e R s m args below meth c T locs cells slots) (hx : p.tables.exec = Jvm.exec) (hlk : meth.locks = false) (hret : meth.sig.returnType = some .long) {z : Int64} {C N pc : Nat} {Ls : Array Slot} {rest : List Value} {Q : Option Value → Heap → List Loc → Prop} (hd : decode c.code pc = .ok (.lreturn, 1)) (hq : Q (some (.long z)) T.heap locs) (hc : cells ≤ C) (hn : slots ≤ N) :
    own_Gl p.tables e below (own_P s Q C N) (T.setTop (mkF m pc Ls (.long z :: rest))) :=
  own_ret X hlk (fun h => by rw [hret] at h; cases h) hq hc hn (fun fs hr => retOut X hx hret rfl (Or.inr (Or.inl ⟨rfl, rfl, _, rfl⟩)) hd hr)
theorem own_rA (X : Stand p l e R s m args below meth c T locs cells slots) (hx : p.tables.exec = Jvm.exec) (hlk : meth.locks = false) {t : FieldType} (hret : meth.sig.returnType = some t) (ht : t.isReference = true) {z : Value} (hz : z.isRef = true) (hnz : narrow t z = z) {C N pc : Nat} {Ls : Array Slot} {rest : List Value} {Q : Option Value → Heap → List Loc → Prop} (hd : decode c.code pc = .ok (.areturn, 1)) (hq : Q (some z) T.heap locs) (hc : cells ≤ C) (hn : slots ≤ N) :
    own_Gl p.tables e below (own_P s Q C N) (T.setTop (mkF m pc Ls (z :: rest))) :=
  own_ret X hlk (fun h => by rw [hret] at h; cases h) hq hc hn (fun fs hr => retOut X hx hret hnz (Or.inr (Or.inr (Or.inr (Or.inr ⟨rfl, ht, hz⟩)))) hd hr)
theorem own_rV (X : Stand p l e R s m args below meth c T locs cells slots) (hx : p.tables.exec = Jvm.exec) (hlk : meth.locks = false) (hret : meth.sig.returnType = none) {C N pc : Nat} {Ls : Array Slot} {Q : Option Value → Heap → List Loc → Prop} (hd : decode c.code pc = .ok (.return_, 1)) (hq : Q none T.heap locs) (hc : cells ≤ C) (hn : slots ≤ N) :
    own_Gl p.tables e below (own_P s Q C N) (T.setTop (mkF m pc Ls [])) :=
  own_ret X hlk (fun _ => rfl) hq hc hn (fun fs hr => X.returnOut hx hret hd hr)
end OwnRet
/-! a comparison made a number: branch over; iconst_1; goto; iconst_0 -/
theorem own_bi {tb : Tables} [Ours tb] {e : Env} {below : List Frame} {P : Outcome → State → Prop} {T : State} {m : MethodId} {c : Code} (h : At T m c below) (hx : tb.exec = Jvm.exec) {cd : ClassFile.Cond} {x y : Int32} {Ls : Array Slot} {rest : List Value} (pc pc1 pc2 pc3 pc4 : Nat)
    (d0 : decode c.code pc = .ok (.if_icmp cd 7, 3)) (d1 : decode c.code pc1 = .ok (.iconst 1, 1)) (d2 : decode c.code pc2 = .ok (.goto 4, 3)) (d3 : decode c.code pc3 = .ok (.iconst 0, 1)) (q1 : pc1 = pc + 3) (q2 : pc2 = pc + 4) (q3 : pc3 = pc + 7) (q4 : pc4 = pc + 8)
    (k : own_Gl tb e below P (T.setTop (mkF m pc4 Ls (.int (if if_icmp.holds cd x y = true then 0 else 1) :: rest)))) : own_Gl tb e below P (T.setTop (mkF m pc Ls (.int y :: .int x :: rest))) := by
  subst q1 q2 q3 q4
  cases hc : if_icmp.holds cd x y
  · rw [hc] at k
    refine own_back (fun t q => XS.icmpNo h hx rfl d0 rfl hc q) ?_
    refine own_back (fun t q => XS.iconst h hx rfl d1 q) ?_
    refine own_back (fun t q => XS.goto h hx rfl (pc0 := pc + 4) (pc' := pc + 8) rfl d2 (by omega) (by omega) q) ?_
    exact k
  · rw [hc] at k
    refine own_back (fun t q => XS.icmpYes h hx rfl (pc0 := pc) (pc' := pc + 7) rfl d0 rfl hc (by omega) (by omega) q) ?_
    refine own_back (fun t q => XS.iconst h hx rfl d3 q) ?_
    exact k
theorem own_bz {tb : Tables} [Ours tb] {e : Env} {below : List Frame} {P : Outcome → State → Prop} {T : State} {m : MethodId} {c : Code} (h : At T m c below) (hx : tb.exec = Jvm.exec) {cd : ClassFile.Cond} {x : Int32} {Ls : Array Slot} {rest : List Value} (pc pc1 pc2 pc3 pc4 : Nat)
    (d0 : decode c.code pc = .ok (.ifCond cd 7, 3)) (d1 : decode c.code pc1 = .ok (.iconst 1, 1)) (d2 : decode c.code pc2 = .ok (.goto 4, 3)) (d3 : decode c.code pc3 = .ok (.iconst 0, 1)) (q1 : pc1 = pc + 3) (q2 : pc2 = pc + 4) (q3 : pc3 = pc + 7) (q4 : pc4 = pc + 8)
    (k : own_Gl tb e below P (T.setTop (mkF m pc4 Ls (.int (if if_icmp.holds cd x 0 = true then 0 else 1) :: rest)))) : own_Gl tb e below P (T.setTop (mkF m pc Ls (.int x :: rest))) := by
  subst q1 q2 q3 q4
  cases hc : if_icmp.holds cd x 0
  · rw [hc] at k
    refine own_back (fun t q => XS.ifNo h hx rfl d0 rfl ((if0 _ _).trans hc) q) ?_
    refine own_back (fun t q => XS.iconst h hx rfl d1 q) ?_
    refine own_back (fun t q => XS.goto h hx rfl (pc0 := pc + 4) (pc' := pc + 8) rfl d2 (by omega) (by omega) q) ?_
    exact k
  · rw [hc] at k
    refine own_back (fun t q => XS.ifYes h hx rfl (pc0 := pc) (pc' := pc + 7) rfl d0 rfl ((if0 _ _).trans hc) (by omega) (by omega) q) ?_
    refine own_back (fun t q => XS.iconst h hx rfl d3 q) ?_
    exact k
theorem own_one {z : Int32} (h : z = 1) : z &&& 1 = 1 := by subst h; decide
theorem own_zero {z : Int32} (h : z = 0) : z &&& 1 = 0 := by subst h; decide
def own_find (f : Int32 → Int32) (b to : Int32) : Nat → Int32 → Int32
  | 0, _ => -1
  | n + 1, i => if i < to then (if f i = b then i else own_find f b to n (i + 1)) else -1
def own_x (y0 y1 y2 y3 : Int32) (j : Int32) : Int32 := if j = 0 then y0 else if j = 1 then y1 else if j = 2 then y2 else y3
def own_h (f : Int32 → Int32) (b fr to k : Int32) : Bool := decide (¬ (k < fr) ∧ k < to ∧ f k = b)
def own_exp (f : Int32 → Int32) (b fr to : Int32) : Int32 := if own_h f b fr to 0 = true then 0 else if own_h f b fr to 1 = true then 1 else if own_h f b fr to 2 = true then 2 else if own_h f b fr to 3 = true then 3 else -1
theorem own_j4 (j : Int32) (h0 : ¬ j < 0) (h4 : j < 4) : j = 0 ∨ j = 1 ∨ j = 2 ∨ j = 3 := by
  rw [Int32.lt_iff_toInt_lt] at h0 h4
  have z0 : (0 : Int32).toInt = 0 := by decide
  have z4 : (4 : Int32).toInt = 4 := by decide
  have : j.toInt = 0 ∨ j.toInt = 1 ∨ j.toInt = 2 ∨ j.toInt = 3 := by omega
  rcases this with q | q | q | q
  · exact Or.inl (Int32.toInt_inj.mp q)
  · exact Or.inr (Or.inl (Int32.toInt_inj.mp q))
  · exact Or.inr (Or.inr (Or.inl (Int32.toInt_inj.mp q)))
  · exact Or.inr (Or.inr (Or.inr (Int32.toInt_inj.mp q)))
theorem own_r5 (f : Int32) : ∀ j : Int32, j = (f &&& (2147483647 : Int32)) % (5 : Int32) → j = 0 ∨ j = 1 ∨ j = 2 ∨ j = 3 ∨ j = 4 := by
  intro j hj
  have e2 := c_mask f 2147483647 31 (by decide) (by decide)
  have e4 := (c_irem (f &&& 2147483647) 5 5 (by decide)).1 (by omega)
  rw [← hj] at e4
  have : j.toInt = 0 ∨ j.toInt = 1 ∨ j.toInt = 2 ∨ j.toInt = 3 ∨ j.toInt = 4 := by omega
  rcases this with q | q | q | q | q
  · exact Or.inl (Int32.toInt_inj.mp q)
  · exact Or.inr (Or.inl (Int32.toInt_inj.mp q))
  · exact Or.inr (Or.inr (Or.inl (Int32.toInt_inj.mp q)))
  · exact Or.inr (Or.inr (Or.inr (Or.inl (Int32.toInt_inj.mp q))))
  · exact Or.inr (Or.inr (Or.inr (Or.inr (Int32.toInt_inj.mp q))))
theorem own_law (f : Int32 → Int32) (b fr to : Int32) (h1 : fr = 0 ∨ fr = 1 ∨ fr = 2 ∨ fr = 3 ∨ fr = 4) (h2 : to = 0 ∨ to = 1 ∨ to = 2 ∨ to = 3 ∨ to = 4) : own_find f b to 5 fr = own_exp f b fr to := by
  rcases h1 with rfl | rfl | rfl | rfl | rfl <;> rcases h2 with rfl | rfl | rfl | rfl | rfl <;> simp +decide [own_find, own_exp, own_h]
theorem own_nn (fr : Int32) (h1 : fr = 0 ∨ fr = 1 ∨ fr = 2 ∨ fr = 3 ∨ fr = 4) : ¬ fr < 0 ∧ fr.toInt ≤ 4 ∧ 0 ≤ fr.toInt := by
  rcases h1 with rfl | rfl | rfl | rfl | rfl <;> decide
theorem own_next (i to : Int32) (hi : ¬ i < 0) (ht : to.toInt ≤ 4) (h : i < to) : ¬ (i + (1 : Int32)) < 0 ∧ (i + (1 : Int32)).toInt = i.toInt + 1 ∧ i < 4 := by
  rw [Int32.lt_iff_toInt_lt] at *
  have z0 : (0 : Int32).toInt = 0 := by decide
  have z4 : (4 : Int32).toInt = 4 := by decide
  have z1 : (1 : Int32).toInt = 1 := by decide
  have e := c_iadd i 1
  have r := rng32 (i + 1)
  rw [z1] at e
  rw [Int32.lt_iff_toInt_lt]
  omega
theorem own_in {cl : Cell} {i : Int32} (S : cl.slots.size = 4) (h0 : ¬ i < 0) (h4 : i < 4) : ¬ (i < 0 ∨ cl.slots.size ≤ i.toNatClampNeg) := by
  rcases own_j4 i h0 h4 with rfl | rfl | rfl | rfl <;> (rw [S]; decide)
theorem own_hat {cl : Cell} {y0 y1 y2 y3 : Int32} (S : cl.slots.size = (4 : Int32).toNatClampNeg) (H : Has cl [.int y0, .int y1, .int y2, .int y3] (.int 0)) (j : Int32) (h0 : ¬ j < 0) (h4 : j < 4) : cl.slots[j.toNatClampNeg]? = some (.int (own_x y0 y1 y2 y3 j)) := by
  have S' : cl.slots.size = 4 := S
  rcases own_j4 j h0 h4 with rfl | rfl | rfl | rfl
  · exact H 0 (by omega)
  · exact H 1 (by omega)
  · exact H 2 (by omega)
  · exact H 3 (by omega)
theorem d1_0 : decode method_2_code 0 = .ok (.iload_n 3, 1) := by decide +kernel
theorem d1_1 : decode method_2_code 1 = .ok (.iload_n 2, 1) := by decide +kernel
theorem d1_2 : decode method_2_code 2 = .ok (.if_icmp .gt 20, 3) := by decide +kernel
theorem d1_5 : decode method_2_code 5 = .ok (.iload_n 2, 1) := by decide +kernel
theorem d1_6 : decode method_2_code 6 = .ok (.iload 4, 2) := by decide +kernel
theorem d1_8 : decode method_2_code 8 = .ok (.if_icmp .ge 14, 3) := by decide +kernel
theorem d1_11 : decode method_2_code 11 = .ok (.aload_n 0, 1) := by decide +kernel
theorem d1_12 : decode method_2_code 12 = .ok (.iload_n 2, 1) := by decide +kernel
theorem d1_13 : decode method_2_code 13 = .ok (.baload, 1) := by decide +kernel
theorem d1_14 : decode method_2_code 14 = .ok (.iload_n 1, 1) := by decide +kernel
theorem d1_15 : decode method_2_code 15 = .ok (.if_icmp .ne 7, 3) := by decide +kernel
theorem d1_18 : decode method_2_code 18 = .ok (.iconst 1, 1) := by decide +kernel
theorem d1_19 : decode method_2_code 19 = .ok (.goto 4, 3) := by decide +kernel
theorem d1_22 : decode method_2_code 22 = .ok (.iconst 0, 1) := by decide +kernel
theorem d1_23 : decode method_2_code 23 = .ok (.ireturn, 1) := by decide +kernel
theorem pn_1 : plainFor (⟨"com/example/stream_sieve/streamsieve/io/BytesIndexOfPinLaw", "hit", "([BBIII)Z"⟩ : MethodName) = true := plainFor_of_name (by first | (simp [plainName, overriddenIn]; done) | decide +kernel)
def Qrm1 (f : Int32 → Int32) (p2 p3 p4 p5 : Int32) (h0 : Heap) (n0 : Nat) (v : Option Value) (h : Heap) (L : List Loc) : Prop := v = some (.int (if own_h f p2 p4 p5 p3 = true then 1 else 0)) ∧ Fr n0 L ∧ h = h0
set_option maxRecDepth 65536 in
set_option maxHeartbeats 40000000 in
theorem rm1 (l : Launch) (Z : State) (a0 : Array Value) (hw : ∀ d ∈ tables_1, d.before a0 Z = true) (ws : List Jvm.Cond) (a1 : Addr) (p2 : Int32) (p3 : Int32) (p4 : Int32) (p5 : Int32) (h0 : Heap) (n0 : Nat) (Z0 : n0 ≤ h0.size) (cl : Cell) (f : Int32 → Int32) (A : Arr Z h0 a1 cl .byte) (hin : ¬ (p3 < 0 ∨ cl.slots.size ≤ p3.toNatClampNeg)) (hat : cl.slots[p3.toNatClampNeg]? = some (.int (f p3))) :
    MetFree l (⟨"com/example/stream_sieve/streamsieve/io/BytesIndexOfPinLaw", "hit", "([BBIII)Z"⟩ : MethodName) (head1 (Jvm.Cond.code (⟨"com/example/stream_sieve/streamsieve/io/BytesIndexOfPinLaw", "hit", "([BBIII)Z"⟩ : MethodName) method_2_code 5 (some .boolean) :: ws) ({ frames := 0, cells := 0, slots := 0, locals := 0 } : Room)) (fun a_ U_ => a_ = #[(.ref a1), (.int p2), (.int p3), (.int p4), (.int p5)] ∧ Z.Warmed39 U_.vm ∧ U_.heap = h0) (fun _ _ _ _ _ => True) (fun _ U_ o_ U'_ => ∃ v_ L_, o_ = .returned v_ ∧ (Qrm1 f p2 p3 p4 p5 h0 n0) v_ U'_.heap L_ ∧ FrameEnd U_ o_ U'_ L_ 0 0) := by
  refine MetFree.of_bodySF pn_1 hisR ?_
  intro p e s m args below meth c s₁ Bd hml0 hP hK
  obtain ⟨rfl, hZ, hh⟩ := hP
  have hx := Bd.exec
  have hby := Bd.bytes
  have hlk : meth.locks = false := Bd.notSynchronized
  have hml : c.maxLocals = 5 := hml0
  have hown : s.vm.findClass "com/example/stream_sieve/streamsieve/io/BytesIndexOfPinLaw" = some m.cls := findClass_of_methodNamed Bd.named
  have hnm := (name_of_methodNamed Bd.named Bd.method).1
  have X0 : Stand p l e ({ frames := 0, cells := 0, slots := 0, locals := 0 } : Room) s m #[(.ref a1), (.int p2), (.int p3), (.int p4), (.int p5)] below meth c s₁ [] 0 0 := Stand.of_body Bd
  have e0 : s₁.heap = h0 := by rw [← hh, Bd.state]; rfl
  have N0 := Fr.nil n0
  refine own_start (Q := Qrm1 f p2 p3 p4 p5 h0 n0) (g' := (mkF m 0 #[.val (.ref a1), .val (.int p2), .val (.int p3), .val (.int p4), .val (.int p5)] [])) (by first | (simp [entryFrame, mkF, argsToLocals, Value.category]; done) | rfl) ?_
  show own_Gl _ _ _ _ (s₁.setTop (mkF m 0 #[.val (.ref a1), .val (.int p2), .val (.int p3), .val (.int p4), .val (.int p5)] []))
  refine own_back (fun t_ q_ => XS.iloadN X0.here hx rfl (hb hby d1_0) rfl q_) ?_
  show own_Gl _ _ _ _ (s₁.setTop (mkF m 1 #[.val (.ref a1), .val (.int p2), .val (.int p3), .val (.int p4), .val (.int p5)] [(.int p4)]))
  refine own_back (fun t_ q_ => XS.iloadN X0.here hx rfl (hb hby d1_1) rfl q_) ?_
  show own_Gl _ _ _ _ (s₁.setTop (mkF m 2 #[.val (.ref a1), .val (.int p2), .val (.int p3), .val (.int p4), .val (.int p5)] [(.int p3), (.int p4)]))
  by_cases k1 : p3 < p4
  · skip
    refine own_back (fun t_ q_ => XS.icmpYes X0.here hx rfl (pc0 := 2) (pc' := 22) rfl (hb hby d1_2) rfl (tlt (k1 : p3 < p4)).2.2.1 (by decide) (by decide) q_) ?_
    show own_Gl _ _ _ _ (s₁.setTop (mkF m 22 #[.val (.ref a1), .val (.int p2), .val (.int p3), .val (.int p4), .val (.int p5)] []))
    refine own_back (fun t_ q_ => XS.iconst X0.here hx rfl (hb hby d1_22) q_) ?_
    show own_Gl _ _ _ _ (s₁.setTop (mkF m 23 #[.val (.ref a1), .val (.int p2), .val (.int p3), .val (.int p4), .val (.int p5)] [(.int (0 : Int32))]))
    exact own_rZ X0 hx hlk Bd.returns (hb hby d1_23) (own_zero rfl) (by show Qrm1 f p2 p3 p4 p5 h0 n0 _ s₁.heap _; rw [e0]; exact ⟨by rw [if_neg (show ¬ own_h f p2 p4 p5 p3 = true from fun q => (of_decide_eq_true q).1 k1)], N0, rfl⟩) (by decide) (by decide)
  · skip
    refine own_back (fun t_ q_ => XS.icmpNo X0.here hx rfl (hb hby d1_2) rfl (flt (k1 : ¬ (p3 < p4))).2.2.1 q_) ?_
    show own_Gl _ _ _ _ (s₁.setTop (mkF m 5 #[.val (.ref a1), .val (.int p2), .val (.int p3), .val (.int p4), .val (.int p5)] []))
    refine own_back (fun t_ q_ => XS.iloadN X0.here hx rfl (hb hby d1_5) rfl q_) ?_
    show own_Gl _ _ _ _ (s₁.setTop (mkF m 6 #[.val (.ref a1), .val (.int p2), .val (.int p3), .val (.int p4), .val (.int p5)] [(.int p3)]))
    refine own_back (fun t_ q_ => XS.iload X0.here hx rfl (hb hby d1_6) rfl q_) ?_
    show own_Gl _ _ _ _ (s₁.setTop (mkF m 8 #[.val (.ref a1), .val (.int p2), .val (.int p3), .val (.int p4), .val (.int p5)] [(.int p5), (.int p3)]))
    by_cases k2 : p3 < p5
    · skip
      refine own_back (fun t_ q_ => XS.icmpNo X0.here hx rfl (hb hby d1_8) rfl (tlt (k2 : p3 < p5)).2.1 q_) ?_
      show own_Gl _ _ _ _ (s₁.setTop (mkF m 11 #[.val (.ref a1), .val (.int p2), .val (.int p3), .val (.int p4), .val (.int p5)] []))
      refine own_back (fun t_ q_ => XS.aloadN X0.here hx rfl (hb hby d1_11) rfl rfl q_) ?_
      show own_Gl _ _ _ _ (s₁.setTop (mkF m 12 #[.val (.ref a1), .val (.int p2), .val (.int p3), .val (.int p4), .val (.int p5)] [(.ref a1)]))
      refine own_back (fun t_ q_ => XS.iloadN X0.here hx rfl (hb hby d1_12) rfl q_) ?_
      show own_Gl _ _ _ _ (s₁.setTop (mkF m 13 #[.val (.ref a1), .val (.int p2), .val (.int p3), .val (.int p4), .val (.int p5)] [(.int p3), (.ref a1)]))
      refine own_back (fun t_ q_ => X0.baloadBytes hx (j := p3) (v := (.int (f p3))) (by rw [e0]; exact A.1) (State.isArrayOf_alike hZ.alike A.2.1) A.2.2 hin hat (g := (mkF m 13 #[.val (.ref a1), .val (.int p2), .val (.int p3), .val (.int p4), .val (.int p5)] [(.int p3), (.ref a1)])) rfl rfl (hb hby d1_13) t_ q_) ?_
      show own_Gl _ _ _ _ (s₁.setTop (mkF m 14 #[.val (.ref a1), .val (.int p2), .val (.int p3), .val (.int p4), .val (.int p5)] [(.int (f p3))]))
      refine own_back (fun t_ q_ => XS.iloadN X0.here hx rfl (hb hby d1_14) rfl q_) ?_
      show own_Gl _ _ _ _ (s₁.setTop (mkF m 15 #[.val (.ref a1), .val (.int p2), .val (.int p3), .val (.int p4), .val (.int p5)] [(.int p2), (.int (f p3))]))
      by_cases k3 : (f p3) = p2
      · skip
        refine own_back (fun t_ q_ => XS.icmpNo X0.here hx rfl (hb hby d1_15) rfl (teq (k3 : (f p3) = p2)).2 q_) ?_
        show own_Gl _ _ _ _ (s₁.setTop (mkF m 18 #[.val (.ref a1), .val (.int p2), .val (.int p3), .val (.int p4), .val (.int p5)] []))
        refine own_back (fun t_ q_ => XS.iconst X0.here hx rfl (hb hby d1_18) q_) ?_
        show own_Gl _ _ _ _ (s₁.setTop (mkF m 19 #[.val (.ref a1), .val (.int p2), .val (.int p3), .val (.int p4), .val (.int p5)] [(.int (1 : Int32))]))
        refine own_back (fun t_ q_ => XS.goto X0.here hx rfl (pc0 := 19) (pc' := 23) rfl (hb hby d1_19) (by decide) (by decide) q_) ?_
        show own_Gl _ _ _ _ (s₁.setTop (mkF m 23 #[.val (.ref a1), .val (.int p2), .val (.int p3), .val (.int p4), .val (.int p5)] [(.int (1 : Int32))]))
        exact own_rZ X0 hx hlk Bd.returns (hb hby d1_23) (own_one rfl) (by show Qrm1 f p2 p3 p4 p5 h0 n0 _ s₁.heap _; rw [e0]; exact ⟨by rw [if_pos (show own_h f p2 p4 p5 p3 = true from decide_eq_true ⟨k1, k2, k3⟩)], N0, rfl⟩) (by decide) (by decide)
      · skip
        refine own_back (fun t_ q_ => XS.icmpYes X0.here hx rfl (pc0 := 15) (pc' := 22) rfl (hb hby d1_15) rfl (feq (k3 : ¬ ((f p3) = p2))).2 (by decide) (by decide) q_) ?_
        show own_Gl _ _ _ _ (s₁.setTop (mkF m 22 #[.val (.ref a1), .val (.int p2), .val (.int p3), .val (.int p4), .val (.int p5)] []))
        refine own_back (fun t_ q_ => XS.iconst X0.here hx rfl (hb hby d1_22) q_) ?_
        show own_Gl _ _ _ _ (s₁.setTop (mkF m 23 #[.val (.ref a1), .val (.int p2), .val (.int p3), .val (.int p4), .val (.int p5)] [(.int (0 : Int32))]))
        exact own_rZ X0 hx hlk Bd.returns (hb hby d1_23) (own_zero rfl) (by show Qrm1 f p2 p3 p4 p5 h0 n0 _ s₁.heap _; rw [e0]; exact ⟨by rw [if_neg (show ¬ own_h f p2 p4 p5 p3 = true from fun q => k3 (of_decide_eq_true q).2.2)], N0, rfl⟩) (by decide) (by decide)
    · skip
      refine own_back (fun t_ q_ => XS.icmpYes X0.here hx rfl (pc0 := 8) (pc' := 22) rfl (hb hby d1_8) rfl (flt (k2 : ¬ (p3 < p5))).2.1 (by decide) (by decide) q_) ?_
      show own_Gl _ _ _ _ (s₁.setTop (mkF m 22 #[.val (.ref a1), .val (.int p2), .val (.int p3), .val (.int p4), .val (.int p5)] []))
      refine own_back (fun t_ q_ => XS.iconst X0.here hx rfl (hb hby d1_22) q_) ?_
      show own_Gl _ _ _ _ (s₁.setTop (mkF m 23 #[.val (.ref a1), .val (.int p2), .val (.int p3), .val (.int p4), .val (.int p5)] [(.int (0 : Int32))]))
      exact own_rZ X0 hx hlk Bd.returns (hb hby d1_23) (own_zero rfl) (by show Qrm1 f p2 p3 p4 p5 h0 n0 _ s₁.heap _; rw [e0]; exact ⟨by rw [if_neg (show ¬ own_h f p2 p4 p5 p3 = true from fun q => k2 (of_decide_eq_true q).2.1)], N0, rfl⟩) (by decide) (by decide)
theorem d2_0 : decode prog_69_method_2_code 0 = .ok (.iload_n 2, 1) := by decide +kernel
theorem d2_1 : decode prog_69_method_2_code 1 = .ok (.istore 4, 2) := by decide +kernel
theorem d2_3 : decode prog_69_method_2_code 3 = .ok (.iload 4, 2) := by decide +kernel
theorem d2_5 : decode prog_69_method_2_code 5 = .ok (.iload_n 3, 1) := by decide +kernel
theorem d2_6 : decode prog_69_method_2_code 6 = .ok (.if_icmp .ge 20, 3) := by decide +kernel
theorem d2_9 : decode prog_69_method_2_code 9 = .ok (.aload_n 0, 1) := by decide +kernel
theorem d2_10 : decode prog_69_method_2_code 10 = .ok (.iload 4, 2) := by decide +kernel
theorem d2_12 : decode prog_69_method_2_code 12 = .ok (.baload, 1) := by decide +kernel
theorem d2_13 : decode prog_69_method_2_code 13 = .ok (.iload_n 1, 1) := by decide +kernel
theorem d2_14 : decode prog_69_method_2_code 14 = .ok (.if_icmp .ne 6, 3) := by decide +kernel
theorem d2_17 : decode prog_69_method_2_code 17 = .ok (.iload 4, 2) := by decide +kernel
theorem d2_19 : decode prog_69_method_2_code 19 = .ok (.ireturn, 1) := by decide +kernel
theorem d2_20 : decode prog_69_method_2_code 20 = .ok (.iinc 4 1, 3) := by decide +kernel
theorem d2_23 : decode prog_69_method_2_code 23 = .ok (.goto (-20), 3) := by decide +kernel
theorem d2_26 : decode prog_69_method_2_code 26 = .ok (.iconst (-1), 1) := by decide +kernel
theorem d2_27 : decode prog_69_method_2_code 27 = .ok (.ireturn, 1) := by decide +kernel
theorem pn_2 : plainFor (⟨"com/example/stream_sieve/streamsieve/io/Bytes", "indexOf", "([BBII)I"⟩ : MethodName) = true := plainFor_of_name (by first | (simp [plainName, overriddenIn]; done) | decide +kernel)
def Qrm2 (f : Int32 → Int32) (p2 p3 p4 : Int32) (h0 : Heap) (n0 : Nat) (v : Option Value) (h : Heap) (L : List Loc) : Prop := v = some (.int (own_find f p2 p4 5 p3)) ∧ Fr n0 L ∧ h = h0
set_option maxRecDepth 65536 in
set_option maxHeartbeats 40000000 in
theorem rm2 (l : Launch) (Z : State) (a0 : Array Value) (hw : ∀ d ∈ tables_1, d.before a0 Z = true) (ws : List Jvm.Cond) (a1 : Addr) (p2 : Int32) (p3 : Int32) (p4 : Int32) (h0 : Heap) (n0 : Nat) (Z0 : n0 ≤ h0.size) (cl : Cell) (f : Int32 → Int32) (A : Arr Z h0 a1 cl .byte) (S : cl.slots.size = 4) (hat : ∀ j : Int32, ¬ j < 0 → j < 4 → cl.slots[j.toNatClampNeg]? = some (.int (f j))) (hf : ¬ p3 < 0) (hf' : 0 ≤ p3.toInt) (ht : p4.toInt ≤ 4) :
    MetFree l (⟨"com/example/stream_sieve/streamsieve/io/Bytes", "indexOf", "([BBII)I"⟩ : MethodName) (head1 (Jvm.Cond.code (⟨"com/example/stream_sieve/streamsieve/io/Bytes", "indexOf", "([BBII)I"⟩ : MethodName) prog_69_method_2_code 5 (some .int) :: ws) ({ frames := 0, cells := 0, slots := 0, locals := 0 } : Room)) (fun a_ U_ => a_ = #[(.ref a1), (.int p2), (.int p3), (.int p4)] ∧ Z.Warmed39 U_.vm ∧ U_.heap = h0) (fun _ _ _ _ _ => True) (fun _ U_ o_ U'_ => ∃ v_ L_, o_ = .returned v_ ∧ (Qrm2 f p2 p3 p4 h0 n0) v_ U'_.heap L_ ∧ FrameEnd U_ o_ U'_ L_ 0 0) := by
  refine MetFree.of_bodySF pn_2 hisR ?_
  intro p e s m args below meth c s₁ Bd hml0 hP hK
  obtain ⟨rfl, hZ, hh⟩ := hP
  have hx := Bd.exec
  have hby := Bd.bytes
  have hlk : meth.locks = false := Bd.notSynchronized
  have hml : c.maxLocals = 5 := hml0
  have hown : s.vm.findClass "com/example/stream_sieve/streamsieve/io/Bytes" = some m.cls := findClass_of_methodNamed Bd.named
  have hnm := (name_of_methodNamed Bd.named Bd.method).1
  have X0 : Stand p l e ({ frames := 0, cells := 0, slots := 0, locals := 0 } : Room) s m #[(.ref a1), (.int p2), (.int p3), (.int p4)] below meth c s₁ [] 0 0 := Stand.of_body Bd
  have e0 : s₁.heap = h0 := by rw [← hh, Bd.state]; rfl
  have N0 := Fr.nil n0
  refine own_start (Q := Qrm2 f p2 p3 p4 h0 n0) (g' := (mkF m 0 #[.val (.ref a1), .val (.int p2), .val (.int p3), .val (.int p4), .unset] [])) (by first | (simp [entryFrame, mkF, argsToLocals, Value.category]; done) | rfl) ?_
  show own_Gl _ _ _ _ (s₁.setTop (mkF m 0 #[.val (.ref a1), .val (.int p2), .val (.int p3), .val (.int p4), .unset] []))
  have loop : ∀ (n : Nat) (i : Int32), ¬ i < 0 → p4.toInt - i.toInt ≤ n → own_find f p2 p4 5 p3 = own_find f p2 p4 n i → own_Gl p.tables e below (own_P s (Qrm2 f p2 p3 p4 h0 n0) 0 0) (s₁.setTop (mkF m 3 #[.val (.ref a1), .val (.int p2), .val (.int p3), .val (.int p4), .val (.int i)] [])) := by
    intro n
    induction n with
    | zero =>
      intro i hi hm hv
      show own_Gl _ _ _ _ (s₁.setTop (mkF m 3 #[.val (.ref a1), .val (.int p2), .val (.int p3), .val (.int p4), .val (.int i)] []))
      refine own_back (fun t_ q_ => XS.iload X0.here hx rfl (hb hby d2_3) rfl q_) ?_
      show own_Gl _ _ _ _ (s₁.setTop (mkF m 5 #[.val (.ref a1), .val (.int p2), .val (.int p3), .val (.int p4), .val (.int i)] [(.int i)]))
      refine own_back (fun t_ q_ => XS.iloadN X0.here hx rfl (hb hby d2_5) rfl q_) ?_
      show own_Gl _ _ _ _ (s₁.setTop (mkF m 6 #[.val (.ref a1), .val (.int p2), .val (.int p3), .val (.int p4), .val (.int i)] [(.int p4), (.int i)]))
      refine own_back (fun t_ q_ => XS.icmpYes X0.here hx rfl (pc0 := 6) (pc' := 26) rfl (hb hby d2_6) rfl (flt (fun q => by rw [Int32.lt_iff_toInt_lt] at q; omega : ¬ (i < p4))).2.1 (by decide) (by decide) q_) ?_
      show own_Gl _ _ _ _ (s₁.setTop (mkF m 26 #[.val (.ref a1), .val (.int p2), .val (.int p3), .val (.int p4), .val (.int i)] []))
      refine own_back (fun t_ q_ => XS.iconst X0.here hx rfl (hb hby d2_26) q_) ?_
      show own_Gl _ _ _ _ (s₁.setTop (mkF m 27 #[.val (.ref a1), .val (.int p2), .val (.int p3), .val (.int p4), .val (.int i)] [(.int (-1 : Int32))]))
      exact own_rI X0 hx hlk Bd.returns (hb hby d2_27) (by show Qrm2 f p2 p3 p4 h0 n0 _ s₁.heap _; rw [e0]; exact ⟨by rw [hv]; rfl, N0, rfl⟩) (by decide) (by decide)
    | succ n ih =>
      intro i hi hm hv
      show own_Gl _ _ _ _ (s₁.setTop (mkF m 3 #[.val (.ref a1), .val (.int p2), .val (.int p3), .val (.int p4), .val (.int i)] []))
      refine own_back (fun t_ q_ => XS.iload X0.here hx rfl (hb hby d2_3) rfl q_) ?_
      show own_Gl _ _ _ _ (s₁.setTop (mkF m 5 #[.val (.ref a1), .val (.int p2), .val (.int p3), .val (.int p4), .val (.int i)] [(.int i)]))
      refine own_back (fun t_ q_ => XS.iloadN X0.here hx rfl (hb hby d2_5) rfl q_) ?_
      show own_Gl _ _ _ _ (s₁.setTop (mkF m 6 #[.val (.ref a1), .val (.int p2), .val (.int p3), .val (.int p4), .val (.int i)] [(.int p4), (.int i)]))
      by_cases k1 : i < p4
      · skip
        refine own_back (fun t_ q_ => XS.icmpNo X0.here hx rfl (hb hby d2_6) rfl (tlt (k1 : i < p4)).2.1 q_) ?_
        show own_Gl _ _ _ _ (s₁.setTop (mkF m 9 #[.val (.ref a1), .val (.int p2), .val (.int p3), .val (.int p4), .val (.int i)] []))
        obtain ⟨hi1, hi2, hi4⟩ := own_next i p4 hi ht k1
        refine own_back (fun t_ q_ => XS.aloadN X0.here hx rfl (hb hby d2_9) rfl rfl q_) ?_
        show own_Gl _ _ _ _ (s₁.setTop (mkF m 10 #[.val (.ref a1), .val (.int p2), .val (.int p3), .val (.int p4), .val (.int i)] [(.ref a1)]))
        refine own_back (fun t_ q_ => XS.iload X0.here hx rfl (hb hby d2_10) rfl q_) ?_
        show own_Gl _ _ _ _ (s₁.setTop (mkF m 12 #[.val (.ref a1), .val (.int p2), .val (.int p3), .val (.int p4), .val (.int i)] [(.int i), (.ref a1)]))
        refine own_back (fun t_ q_ => X0.baloadBytes hx (j := i) (v := (.int (f i))) (by rw [e0]; exact A.1) (State.isArrayOf_alike hZ.alike A.2.1) A.2.2 (own_in S hi hi4) (hat i hi hi4) (g := (mkF m 12 #[.val (.ref a1), .val (.int p2), .val (.int p3), .val (.int p4), .val (.int i)] [(.int i), (.ref a1)])) rfl rfl (hb hby d2_12) t_ q_) ?_
        show own_Gl _ _ _ _ (s₁.setTop (mkF m 13 #[.val (.ref a1), .val (.int p2), .val (.int p3), .val (.int p4), .val (.int i)] [(.int (f i))]))
        refine own_back (fun t_ q_ => XS.iloadN X0.here hx rfl (hb hby d2_13) rfl q_) ?_
        show own_Gl _ _ _ _ (s₁.setTop (mkF m 14 #[.val (.ref a1), .val (.int p2), .val (.int p3), .val (.int p4), .val (.int i)] [(.int p2), (.int (f i))]))
        by_cases k2 : (f i) = p2
        · skip
          refine own_back (fun t_ q_ => XS.icmpNo X0.here hx rfl (hb hby d2_14) rfl (teq (k2 : (f i) = p2)).2 q_) ?_
          show own_Gl _ _ _ _ (s₁.setTop (mkF m 17 #[.val (.ref a1), .val (.int p2), .val (.int p3), .val (.int p4), .val (.int i)] []))
          refine own_back (fun t_ q_ => XS.iload X0.here hx rfl (hb hby d2_17) rfl q_) ?_
          show own_Gl _ _ _ _ (s₁.setTop (mkF m 19 #[.val (.ref a1), .val (.int p2), .val (.int p3), .val (.int p4), .val (.int i)] [(.int i)]))
          exact own_rI X0 hx hlk Bd.returns (hb hby d2_19) (by show Qrm2 f p2 p3 p4 h0 n0 _ s₁.heap _; rw [e0]; exact ⟨by rw [hv, own_find, if_pos k1, if_pos k2], N0, rfl⟩) (by decide) (by decide)
        · skip
          refine own_back (fun t_ q_ => XS.icmpYes X0.here hx rfl (pc0 := 14) (pc' := 20) rfl (hb hby d2_14) rfl (feq (k2 : ¬ ((f i) = p2))).2 (by decide) (by decide) q_) ?_
          show own_Gl _ _ _ _ (s₁.setTop (mkF m 20 #[.val (.ref a1), .val (.int p2), .val (.int p3), .val (.int p4), .val (.int i)] []))
          refine own_back (fun t_ q_ => XS.iinc X0.here hx rfl (hb hby d2_20) rfl (l' := #[.val (.ref a1), .val (.int p2), .val (.int p3), .val (.int p4), .val (.int (i + (1 : Int32)))]) rfl q_) ?_
          show own_Gl _ _ _ _ (s₁.setTop (mkF m 23 #[.val (.ref a1), .val (.int p2), .val (.int p3), .val (.int p4), .val (.int (i + (1 : Int32)))] []))
          refine own_back (fun t_ q_ => XS.goto X0.here hx rfl (pc0 := 23) (pc' := 3) rfl (hb hby d2_23) (by decide) (by decide) q_) ?_
          show own_Gl _ _ _ _ (s₁.setTop (mkF m 3 #[.val (.ref a1), .val (.int p2), .val (.int p3), .val (.int p4), .val (.int (i + (1 : Int32)))] []))
          exact ih _ hi1 (by omega) (by rw [hv, own_find, if_pos k1, if_neg k2])
      · skip
        refine own_back (fun t_ q_ => XS.icmpYes X0.here hx rfl (pc0 := 6) (pc' := 26) rfl (hb hby d2_6) rfl (flt (k1 : ¬ (i < p4))).2.1 (by decide) (by decide) q_) ?_
        show own_Gl _ _ _ _ (s₁.setTop (mkF m 26 #[.val (.ref a1), .val (.int p2), .val (.int p3), .val (.int p4), .val (.int i)] []))
        refine own_back (fun t_ q_ => XS.iconst X0.here hx rfl (hb hby d2_26) q_) ?_
        show own_Gl _ _ _ _ (s₁.setTop (mkF m 27 #[.val (.ref a1), .val (.int p2), .val (.int p3), .val (.int p4), .val (.int i)] [(.int (-1 : Int32))]))
        exact own_rI X0 hx hlk Bd.returns (hb hby d2_27) (by show Qrm2 f p2 p3 p4 h0 n0 _ s₁.heap _; rw [e0]; exact ⟨by rw [hv, own_find, if_neg k1], N0, rfl⟩) (by decide) (by decide)
  refine own_back (fun t_ q_ => XS.iloadN X0.here hx rfl (hb hby d2_0) rfl q_) ?_
  show own_Gl _ _ _ _ (s₁.setTop (mkF m 1 #[.val (.ref a1), .val (.int p2), .val (.int p3), .val (.int p4), .unset] [(.int p3)]))
  refine own_back (fun t_ q_ => XS.istore X0.here hx rfl (hb hby d2_1) rfl (l' := #[.val (.ref a1), .val (.int p2), .val (.int p3), .val (.int p4), .val (.int p3)]) rfl q_) ?_
  show own_Gl _ _ _ _ (s₁.setTop (mkF m 3 #[.val (.ref a1), .val (.int p2), .val (.int p3), .val (.int p4), .val (.int p3)] []))
  exact loop 5 p3 hf (by omega) rfl
theorem pd_0 : parseMethodDescriptor "([BBIII)Z" = some ⟨[(.array .byte), .byte, .int, .int, .int], some .boolean⟩ := by decide +kernel
theorem pd_1 : parseMethodDescriptor "([BBII)I" = some ⟨[(.array .byte), .byte, .int, .int], some .int⟩ := by decide +kernel
theorem pn_0 : plainFor x = true := plainFor_of_name (by first | (simp [plainName, overriddenIn, x]; done) | decide +kernel)
def Qrm0 (h0 : Heap) (n0 : Nat) (v : Option Value) (h : Heap) (L : List Loc) : Prop := v = some (.int 1) ∧ Fr n0 L
set_option maxRecDepth 65536 in
set_option maxHeartbeats 40000000 in
theorem rm0 (l : Launch) (Z : State) (a0 : Array Value) (hw : ∀ d ∈ tables_1, d.before a0 Z = true) (ws : List Jvm.Cond) (vals : Int32) (bi : Int32) (sel : Int32) (f1 : Int32) (tt1 : Int32) (h0 : Heap) (n0 : Nat) (Z0 : n0 ≤ h0.size)  :
    MetFree l x (head1 (Jvm.Cond.code x code maxLocals ret :: ws) room_1) (fun a_ U_ => a_ = #[(.int vals), (.int bi), (.int sel), (.int f1), (.int tt1)] ∧ Z.Warmed39 U_.vm ∧ U_.heap = h0) (fun _ _ _ _ _ => True) (fun _ U_ o_ U'_ => ∃ v_ L_, o_ = .returned v_ ∧ (Qrm0 h0 n0) v_ U'_.heap L_ ∧ FrameEnd U_ o_ U'_ L_ 16 128) := by
  refine MetFree.of_bodySF pn_0 hisR ?_
  intro p e s m args below meth c s₁ Bd hml0 hP hK
  obtain ⟨rfl, hZ, hh⟩ := hP
  have hx := Bd.exec
  have hby := Bd.bytes
  have hlk : meth.locks = false := Bd.notSynchronized
  have hml : c.maxLocals = 10 := hml0
  have hown : s.vm.findClass "com/example/stream_sieve/streamsieve/io/BytesIndexOfPinLaw" = some m.cls := findClass_of_methodNamed Bd.named
  have hnm := (name_of_methodNamed Bd.named Bd.method).1
  have X0 : Stand p l e room_1 s m #[(.int vals), (.int bi), (.int sel), (.int f1), (.int tt1)] below meth c s₁ [] 0 0 := Stand.of_body Bd
  have e0 : s₁.heap = h0 := by rw [← hh, Bd.state]; rfl
  have N0 := Fr.nil n0
  refine own_start (Q := Qrm0 h0 n0) (g' := (mkF m 0 #[.val (.int vals), .val (.int bi), .val (.int sel), .val (.int f1), .val (.int tt1), .unset, .unset, .unset, .unset, .unset] [])) (by first | (simp [entryFrame, mkF, argsToLocals, Value.category, maxLocals]; done) | rfl) ?_
  show own_Gl _ _ _ _ (s₁.setTop (mkF m 0 #[.val (.int vals), .val (.int bi), .val (.int sel), .val (.int f1), .val (.int tt1), .unset, .unset, .unset, .unset, .unset] []))
  refine own_back (fun t_ q_ => XS.iloadN X0.here hx rfl (hb hby at_0) rfl q_) ?_
  show own_Gl _ _ _ _ (s₁.setTop (mkF m 1 #[.val (.int vals), .val (.int bi), .val (.int sel), .val (.int f1), .val (.int tt1), .unset, .unset, .unset, .unset, .unset] [(.int bi)]))
  refine own_back (fun t_ q_ => XS.i2b X0.here hx rfl (hb hby at_1) rfl q_) ?_
  show own_Gl _ _ _ _ (s₁.setTop (mkF m 2 #[.val (.int vals), .val (.int bi), .val (.int sel), .val (.int f1), .val (.int tt1), .unset, .unset, .unset, .unset, .unset] [(.int (bi.toInt8.toInt32))]))
  obtain ⟨bb, hbb⟩ : ∃ z, z = (bi.toInt8.toInt32) := ⟨_, rfl⟩
  rw [← hbb]
  show own_Gl _ _ _ _ (s₁.setTop (mkF m 2 #[.val (.int vals), .val (.int bi), .val (.int sel), .val (.int f1), .val (.int tt1), .unset, .unset, .unset, .unset, .unset] [(.int bb)]))
  refine own_back (fun t_ q_ => XS.istore X0.here hx rfl (hb hby at_2) rfl (l' := #[.val (.int vals), .val (.int bi), .val (.int sel), .val (.int f1), .val (.int tt1), .val (.int bb), .unset, .unset, .unset, .unset]) rfl q_) ?_
  show own_Gl _ _ _ _ (s₁.setTop (mkF m 4 #[.val (.int vals), .val (.int bi), .val (.int sel), .val (.int f1), .val (.int tt1), .val (.int bb), .unset, .unset, .unset, .unset] []))
  refine own_back (fun t_ q_ => XS.iconst X0.here hx rfl (hb hby at_4) q_) ?_
  show own_Gl _ _ _ _ (s₁.setTop (mkF m 5 #[.val (.int vals), .val (.int bi), .val (.int sel), .val (.int f1), .val (.int tt1), .val (.int bb), .unset, .unset, .unset, .unset] [(.int (4 : Int32))]))
  obtain ⟨T1, h1, k1, X1, e1, E1, A1, st1⟩ := newP X0 hx hZ (hw _ (List.mem_of_getElem? (i := 0) rfl)) e0 (g := (mkF m 5 #[.val (.int vals), .val (.int bi), .val (.int sel), .val (.int f1), .val (.int tt1), .val (.int bb), .unset, .unset, .unset, .unset] [(.int (4 : Int32))])) rfl (hb hby at_5) rfl (by decide) (cap := 4) (by decide) (by decide) (by decide) (by decide)
  obtain ⟨b1, g1⟩ : ∃ z, z = h0.size := ⟨_, rfl⟩
  rw [← g1] at A1 st1
  refine own_back st1 ?_
  show own_Gl _ _ _ _ (T1.setTop (mkF m 7 #[.val (.int vals), .val (.int bi), .val (.int sel), .val (.int f1), .val (.int tt1), .val (.int bb), .unset, .unset, .unset, .unset] [(.ref b1)]))
  have V0 : Arv Z h1 b1 k1 .byte (4 : Int32) [(.int (0 : Int32)), (.int (0 : Int32)), (.int (0 : Int32)), (.int (0 : Int32))] (.int (0 : Int32)) := (Arv.new A1 (by decide)).pad (pad_rep [] (.int (0 : Int32)) 4)
  have gb : n0 ≤ b1 := Nat.le_trans Z0 (Nat.le_of_eq g1.symm)
  have Zs : n0 ≤ h1.size := Nat.le_trans Z0 E1.1
  refine own_back (fun t_ q_ => XS.astore X1.here hx rfl (hb hby at_7) rfl rfl (l' := #[.val (.int vals), .val (.int bi), .val (.int sel), .val (.int f1), .val (.int tt1), .val (.int bb), .val (.ref b1), .unset, .unset, .unset]) rfl q_) ?_
  show own_Gl _ _ _ _ (T1.setTop (mkF m 9 #[.val (.int vals), .val (.int bi), .val (.int sel), .val (.int f1), .val (.int tt1), .val (.int bb), .val (.ref b1), .unset, .unset, .unset] []))
  refine own_back (fun t_ q_ => XS.aload X1.here hx rfl (hb hby at_9) rfl rfl q_) ?_
  show own_Gl _ _ _ _ (T1.setTop (mkF m 11 #[.val (.int vals), .val (.int bi), .val (.int sel), .val (.int f1), .val (.int tt1), .val (.int bb), .val (.ref b1), .unset, .unset, .unset] [(.ref b1)]))
  refine own_back (fun t_ q_ => XS.iconst X1.here hx rfl (hb hby at_11) q_) ?_
  show own_Gl _ _ _ _ (T1.setTop (mkF m 12 #[.val (.int vals), .val (.int bi), .val (.int sel), .val (.int f1), .val (.int tt1), .val (.int bb), .val (.ref b1), .unset, .unset, .unset] [(.int (0 : Int32)), (.ref b1)]))
  refine own_back (fun t_ q_ => XS.iloadN X1.here hx rfl (hb hby at_12) rfl q_) ?_
  show own_Gl _ _ _ _ (T1.setTop (mkF m 13 #[.val (.int vals), .val (.int bi), .val (.int sel), .val (.int f1), .val (.int tt1), .val (.int bb), .val (.ref b1), .unset, .unset, .unset] [(.int sel), (.int (0 : Int32)), (.ref b1)]))
  refine own_back (fun t_ q_ => XS.iconst X1.here hx rfl (hb hby at_13) q_) ?_
  show own_Gl _ _ _ _ (T1.setTop (mkF m 14 #[.val (.int vals), .val (.int bi), .val (.int sel), .val (.int f1), .val (.int tt1), .val (.int bb), .val (.ref b1), .unset, .unset, .unset] [(.int (1 : Int32)), (.int sel), (.int (0 : Int32)), (.ref b1)]))
  refine own_back (fun t_ q_ => XS.iand X1.here hx rfl (hb hby at_14) rfl q_) ?_
  show own_Gl _ _ _ _ (T1.setTop (mkF m 15 #[.val (.int vals), .val (.int bi), .val (.int sel), .val (.int f1), .val (.int tt1), .val (.int bb), .val (.ref b1), .unset, .unset, .unset] [(.int (sel &&& (1 : Int32))), (.int (0 : Int32)), (.ref b1)]))
  refine own_join (α := Int32) (fun z_ => T1.setTop (mkF m 25 #[.val (.int vals), .val (.int bi), .val (.int sel), .val (.int f1), .val (.int tt1), .val (.int bb), .val (.ref b1), .unset, .unset, .unset] [(.int z_), (.int (0 : Int32)), (.ref b1)])) (fun z_ => True) (fun v2 hz => ?_) (fun tail2 => ?_)
  · skip
    have hc2 := hz
    have hc2 : True := hc2
    show own_Gl _ _ _ _ (T1.setTop (mkF m 25 #[.val (.int vals), .val (.int bi), .val (.int sel), .val (.int f1), .val (.int tt1), .val (.int bb), .val (.ref b1), .unset, .unset, .unset] [(.int v2), (.int (0 : Int32)), (.ref b1)]))
    obtain ⟨cl0, Ar0, q0, S0, P0, H0, G0⟩ := V0
    have hin0 : ¬ ((0 : Int32) < 0 ∨ cl0.slots.size ≤ (0 : Int32).toNatClampNeg) := inb_of S0 ⟨by decide, by decide⟩
    obtain ⟨T3, h3, X3, e3, W3, st3⟩ := stB X1 hx hZ e1 Ar0 (j := (0 : Int32)) hin0 (g := (mkF m 25 #[.val (.int vals), .val (.int bi), .val (.int sel), .val (.int f1), .val (.int tt1), .val (.int bb), .val (.ref b1), .unset, .unset, .unset] [(.int v2), (.int (0 : Int32)), (.ref b1)])) rfl rfl (hb hby at_25)
    refine own_back st3 ?_
    have N3 := Fr.snoc X3 N0 gb
    show own_Gl _ _ _ _ (T3.setTop (mkF m 26 #[.val (.int vals), .val (.int bi), .val (.int sel), .val (.int f1), .val (.int tt1), .val (.int bb), .val (.ref b1), .unset, .unset, .unset] []))
    have V1 : Arv Z h3 b1 k1 .byte (4 : Int32) [(.int (nar .byte v2)), (.int (0 : Int32)), (.int (0 : Int32)), (.int (0 : Int32))] (.int (0 : Int32)) := Arv.set Ar0 q0 S0 P0 H0 G0 (fits_nar_byte _) W3 0 rfl (Nat.le_of_ble_eq_true rfl)
    have Zs : n0 ≤ h3.size := by rw [W3.size]; exact Zs
    refine own_back (fun t_ q_ => XS.aload X3.here hx rfl (hb hby at_26) rfl rfl q_) ?_
    show own_Gl _ _ _ _ (T3.setTop (mkF m 28 #[.val (.int vals), .val (.int bi), .val (.int sel), .val (.int f1), .val (.int tt1), .val (.int bb), .val (.ref b1), .unset, .unset, .unset] [(.ref b1)]))
    refine own_back (fun t_ q_ => XS.iconst X3.here hx rfl (hb hby at_28) q_) ?_
    show own_Gl _ _ _ _ (T3.setTop (mkF m 29 #[.val (.int vals), .val (.int bi), .val (.int sel), .val (.int f1), .val (.int tt1), .val (.int bb), .val (.ref b1), .unset, .unset, .unset] [(.int (1 : Int32)), (.ref b1)]))
    refine own_back (fun t_ q_ => XS.iloadN X3.here hx rfl (hb hby at_29) rfl q_) ?_
    show own_Gl _ _ _ _ (T3.setTop (mkF m 30 #[.val (.int vals), .val (.int bi), .val (.int sel), .val (.int f1), .val (.int tt1), .val (.int bb), .val (.ref b1), .unset, .unset, .unset] [(.int sel), (.int (1 : Int32)), (.ref b1)]))
    refine own_back (fun t_ q_ => XS.iconst X3.here hx rfl (hb hby at_30) q_) ?_
    show own_Gl _ _ _ _ (T3.setTop (mkF m 31 #[.val (.int vals), .val (.int bi), .val (.int sel), .val (.int f1), .val (.int tt1), .val (.int bb), .val (.ref b1), .unset, .unset, .unset] [(.int (2 : Int32)), (.int sel), (.int (1 : Int32)), (.ref b1)]))
    refine own_back (fun t_ q_ => XS.iand X3.here hx rfl (hb hby at_31) rfl q_) ?_
    show own_Gl _ _ _ _ (T3.setTop (mkF m 32 #[.val (.int vals), .val (.int bi), .val (.int sel), .val (.int f1), .val (.int tt1), .val (.int bb), .val (.ref b1), .unset, .unset, .unset] [(.int (sel &&& (2 : Int32))), (.int (1 : Int32)), (.ref b1)]))
    refine own_join (α := Int32) (fun z_ => T3.setTop (mkF m 45 #[.val (.int vals), .val (.int bi), .val (.int sel), .val (.int f1), .val (.int tt1), .val (.int bb), .val (.ref b1), .unset, .unset, .unset] [(.int z_), (.int (1 : Int32)), (.ref b1)])) (fun z_ => True) (fun v4 hz => ?_) (fun tail4 => ?_)
    · skip
      have hc4 := hz
      have hc4 : True := hc4
      show own_Gl _ _ _ _ (T3.setTop (mkF m 45 #[.val (.int vals), .val (.int bi), .val (.int sel), .val (.int f1), .val (.int tt1), .val (.int bb), .val (.ref b1), .unset, .unset, .unset] [(.int v4), (.int (1 : Int32)), (.ref b1)]))
      obtain ⟨cl1, Ar1, q1, S1, P1, H1, G1⟩ := V1
      have hin1 : ¬ ((1 : Int32) < 0 ∨ cl1.slots.size ≤ (1 : Int32).toNatClampNeg) := inb_of S1 ⟨by decide, by decide⟩
      obtain ⟨T5, h5, X5, e5, W5, st5⟩ := stB X3 hx hZ e3 Ar1 (j := (1 : Int32)) hin1 (g := (mkF m 45 #[.val (.int vals), .val (.int bi), .val (.int sel), .val (.int f1), .val (.int tt1), .val (.int bb), .val (.ref b1), .unset, .unset, .unset] [(.int v4), (.int (1 : Int32)), (.ref b1)])) rfl rfl (hb hby at_45)
      refine own_back st5 ?_
      have N5 := Fr.snoc X5 N3 gb
      show own_Gl _ _ _ _ (T5.setTop (mkF m 46 #[.val (.int vals), .val (.int bi), .val (.int sel), .val (.int f1), .val (.int tt1), .val (.int bb), .val (.ref b1), .unset, .unset, .unset] []))
      have V2 : Arv Z h5 b1 k1 .byte (4 : Int32) [(.int (nar .byte v2)), (.int (nar .byte v4)), (.int (0 : Int32)), (.int (0 : Int32))] (.int (0 : Int32)) := Arv.set Ar1 q1 S1 P1 H1 G1 (fits_nar_byte _) W5 1 rfl (Nat.le_of_ble_eq_true rfl)
      have Zs : n0 ≤ h5.size := by rw [W5.size]; exact Zs
      refine own_back (fun t_ q_ => XS.aload X5.here hx rfl (hb hby at_46) rfl rfl q_) ?_
      show own_Gl _ _ _ _ (T5.setTop (mkF m 48 #[.val (.int vals), .val (.int bi), .val (.int sel), .val (.int f1), .val (.int tt1), .val (.int bb), .val (.ref b1), .unset, .unset, .unset] [(.ref b1)]))
      refine own_back (fun t_ q_ => XS.iconst X5.here hx rfl (hb hby at_48) q_) ?_
      show own_Gl _ _ _ _ (T5.setTop (mkF m 49 #[.val (.int vals), .val (.int bi), .val (.int sel), .val (.int f1), .val (.int tt1), .val (.int bb), .val (.ref b1), .unset, .unset, .unset] [(.int (2 : Int32)), (.ref b1)]))
      refine own_back (fun t_ q_ => XS.iloadN X5.here hx rfl (hb hby at_49) rfl q_) ?_
      show own_Gl _ _ _ _ (T5.setTop (mkF m 50 #[.val (.int vals), .val (.int bi), .val (.int sel), .val (.int f1), .val (.int tt1), .val (.int bb), .val (.ref b1), .unset, .unset, .unset] [(.int sel), (.int (2 : Int32)), (.ref b1)]))
      refine own_back (fun t_ q_ => XS.iconst X5.here hx rfl (hb hby at_50) q_) ?_
      show own_Gl _ _ _ _ (T5.setTop (mkF m 51 #[.val (.int vals), .val (.int bi), .val (.int sel), .val (.int f1), .val (.int tt1), .val (.int bb), .val (.ref b1), .unset, .unset, .unset] [(.int (4 : Int32)), (.int sel), (.int (2 : Int32)), (.ref b1)]))
      refine own_back (fun t_ q_ => XS.iand X5.here hx rfl (hb hby at_51) rfl q_) ?_
      show own_Gl _ _ _ _ (T5.setTop (mkF m 52 #[.val (.int vals), .val (.int bi), .val (.int sel), .val (.int f1), .val (.int tt1), .val (.int bb), .val (.ref b1), .unset, .unset, .unset] [(.int (sel &&& (4 : Int32))), (.int (2 : Int32)), (.ref b1)]))
      refine own_join (α := Int32) (fun z_ => T5.setTop (mkF m 65 #[.val (.int vals), .val (.int bi), .val (.int sel), .val (.int f1), .val (.int tt1), .val (.int bb), .val (.ref b1), .unset, .unset, .unset] [(.int z_), (.int (2 : Int32)), (.ref b1)])) (fun z_ => True) (fun v6 hz => ?_) (fun tail6 => ?_)
      · skip
        have hc6 := hz
        have hc6 : True := hc6
        show own_Gl _ _ _ _ (T5.setTop (mkF m 65 #[.val (.int vals), .val (.int bi), .val (.int sel), .val (.int f1), .val (.int tt1), .val (.int bb), .val (.ref b1), .unset, .unset, .unset] [(.int v6), (.int (2 : Int32)), (.ref b1)]))
        obtain ⟨cl2, Ar2, q2, S2, P2, H2, G2⟩ := V2
        have hin2 : ¬ ((2 : Int32) < 0 ∨ cl2.slots.size ≤ (2 : Int32).toNatClampNeg) := inb_of S2 ⟨by decide, by decide⟩
        obtain ⟨T7, h7, X7, e7, W7, st7⟩ := stB X5 hx hZ e5 Ar2 (j := (2 : Int32)) hin2 (g := (mkF m 65 #[.val (.int vals), .val (.int bi), .val (.int sel), .val (.int f1), .val (.int tt1), .val (.int bb), .val (.ref b1), .unset, .unset, .unset] [(.int v6), (.int (2 : Int32)), (.ref b1)])) rfl rfl (hb hby at_65)
        refine own_back st7 ?_
        have N7 := Fr.snoc X7 N5 gb
        show own_Gl _ _ _ _ (T7.setTop (mkF m 66 #[.val (.int vals), .val (.int bi), .val (.int sel), .val (.int f1), .val (.int tt1), .val (.int bb), .val (.ref b1), .unset, .unset, .unset] []))
        have V3 : Arv Z h7 b1 k1 .byte (4 : Int32) [(.int (nar .byte v2)), (.int (nar .byte v4)), (.int (nar .byte v6)), (.int (0 : Int32))] (.int (0 : Int32)) := Arv.set Ar2 q2 S2 P2 H2 G2 (fits_nar_byte _) W7 2 rfl (Nat.le_of_ble_eq_true rfl)
        have Zs : n0 ≤ h7.size := by rw [W7.size]; exact Zs
        refine own_back (fun t_ q_ => XS.aload X7.here hx rfl (hb hby at_66) rfl rfl q_) ?_
        show own_Gl _ _ _ _ (T7.setTop (mkF m 68 #[.val (.int vals), .val (.int bi), .val (.int sel), .val (.int f1), .val (.int tt1), .val (.int bb), .val (.ref b1), .unset, .unset, .unset] [(.ref b1)]))
        refine own_back (fun t_ q_ => XS.iconst X7.here hx rfl (hb hby at_68) q_) ?_
        show own_Gl _ _ _ _ (T7.setTop (mkF m 69 #[.val (.int vals), .val (.int bi), .val (.int sel), .val (.int f1), .val (.int tt1), .val (.int bb), .val (.ref b1), .unset, .unset, .unset] [(.int (3 : Int32)), (.ref b1)]))
        refine own_back (fun t_ q_ => XS.iloadN X7.here hx rfl (hb hby at_69) rfl q_) ?_
        show own_Gl _ _ _ _ (T7.setTop (mkF m 70 #[.val (.int vals), .val (.int bi), .val (.int sel), .val (.int f1), .val (.int tt1), .val (.int bb), .val (.ref b1), .unset, .unset, .unset] [(.int sel), (.int (3 : Int32)), (.ref b1)]))
        refine own_back (fun t_ q_ => XS.bipush X7.here hx rfl (hb hby at_70) q_) ?_
        show own_Gl _ _ _ _ (T7.setTop (mkF m 72 #[.val (.int vals), .val (.int bi), .val (.int sel), .val (.int f1), .val (.int tt1), .val (.int bb), .val (.ref b1), .unset, .unset, .unset] [(.int (8 : Int32)), (.int sel), (.int (3 : Int32)), (.ref b1)]))
        refine own_back (fun t_ q_ => XS.iand X7.here hx rfl (hb hby at_72) rfl q_) ?_
        show own_Gl _ _ _ _ (T7.setTop (mkF m 73 #[.val (.int vals), .val (.int bi), .val (.int sel), .val (.int f1), .val (.int tt1), .val (.int bb), .val (.ref b1), .unset, .unset, .unset] [(.int (sel &&& (8 : Int32))), (.int (3 : Int32)), (.ref b1)]))
        refine own_join (α := Int32) (fun z_ => T7.setTop (mkF m 86 #[.val (.int vals), .val (.int bi), .val (.int sel), .val (.int f1), .val (.int tt1), .val (.int bb), .val (.ref b1), .unset, .unset, .unset] [(.int z_), (.int (3 : Int32)), (.ref b1)])) (fun z_ => True) (fun v8 hz => ?_) (fun tail8 => ?_)
        · skip
          have hc8 := hz
          have hc8 : True := hc8
          show own_Gl _ _ _ _ (T7.setTop (mkF m 86 #[.val (.int vals), .val (.int bi), .val (.int sel), .val (.int f1), .val (.int tt1), .val (.int bb), .val (.ref b1), .unset, .unset, .unset] [(.int v8), (.int (3 : Int32)), (.ref b1)]))
          obtain ⟨cl3, Ar3, q3, S3, P3, H3, G3⟩ := V3
          have hin3 : ¬ ((3 : Int32) < 0 ∨ cl3.slots.size ≤ (3 : Int32).toNatClampNeg) := inb_of S3 ⟨by decide, by decide⟩
          obtain ⟨T9, h9, X9, e9, W9, st9⟩ := stB X7 hx hZ e7 Ar3 (j := (3 : Int32)) hin3 (g := (mkF m 86 #[.val (.int vals), .val (.int bi), .val (.int sel), .val (.int f1), .val (.int tt1), .val (.int bb), .val (.ref b1), .unset, .unset, .unset] [(.int v8), (.int (3 : Int32)), (.ref b1)])) rfl rfl (hb hby at_86)
          refine own_back st9 ?_
          have N9 := Fr.snoc X9 N7 gb
          show own_Gl _ _ _ _ (T9.setTop (mkF m 87 #[.val (.int vals), .val (.int bi), .val (.int sel), .val (.int f1), .val (.int tt1), .val (.int bb), .val (.ref b1), .unset, .unset, .unset] []))
          have V4 : Arv Z h9 b1 k1 .byte (4 : Int32) [(.int (nar .byte v2)), (.int (nar .byte v4)), (.int (nar .byte v6)), (.int (nar .byte v8))] (.int (0 : Int32)) := Arv.set Ar3 q3 S3 P3 H3 G3 (fits_nar_byte _) W9 3 rfl (Nat.le_of_ble_eq_true rfl)
          have Zs : n0 ≤ h9.size := by rw [W9.size]; exact Zs
          refine own_back (fun t_ q_ => XS.iloadN X9.here hx rfl (hb hby at_87) rfl q_) ?_
          show own_Gl _ _ _ _ (T9.setTop (mkF m 88 #[.val (.int vals), .val (.int bi), .val (.int sel), .val (.int f1), .val (.int tt1), .val (.int bb), .val (.ref b1), .unset, .unset, .unset] [(.int f1)]))
          refine own_back (fun t_ q_ => X9.ldcInt hx hown (mvT hZ (hw _ (List.mem_of_getElem? (i := 1) rfl))) (g := (mkF m 88 #[.val (.int vals), .val (.int bi), .val (.int sel), .val (.int f1), .val (.int tt1), .val (.int bb), .val (.ref b1), .unset, .unset, .unset] [(.int f1)])) rfl (hb hby at_88) t_ q_) ?_
          show own_Gl _ _ _ _ (T9.setTop (mkF m 90 #[.val (.int vals), .val (.int bi), .val (.int sel), .val (.int f1), .val (.int tt1), .val (.int bb), .val (.ref b1), .unset, .unset, .unset] [(.int (2147483647 : Int32)), (.int f1)]))
          refine own_back (fun t_ q_ => XS.iand X9.here hx rfl (hb hby at_90) rfl q_) ?_
          show own_Gl _ _ _ _ (T9.setTop (mkF m 91 #[.val (.int vals), .val (.int bi), .val (.int sel), .val (.int f1), .val (.int tt1), .val (.int bb), .val (.ref b1), .unset, .unset, .unset] [(.int (f1 &&& (2147483647 : Int32)))]))
          refine own_back (fun t_ q_ => XS.iconst X9.here hx rfl (hb hby at_91) q_) ?_
          show own_Gl _ _ _ _ (T9.setTop (mkF m 92 #[.val (.int vals), .val (.int bi), .val (.int sel), .val (.int f1), .val (.int tt1), .val (.int bb), .val (.ref b1), .unset, .unset, .unset] [(.int (5 : Int32)), (.int (f1 &&& (2147483647 : Int32)))]))
          refine own_back (fun t_ q_ => Jvm.RoadKit.iremM (g := (mkF m 92 #[.val (.int vals), .val (.int bi), .val (.int sel), .val (.int f1), .val (.int tt1), .val (.int bb), .val (.ref b1), .unset, .unset, .unset] [(.int (5 : Int32)), (.int (f1 &&& (2147483647 : Int32)))])) X9 hx rfl (hb hby at_92) rfl (by decide) q_) ?_
          show own_Gl _ _ _ _ (T9.setTop (mkF m 93 #[.val (.int vals), .val (.int bi), .val (.int sel), .val (.int f1), .val (.int tt1), .val (.int bb), .val (.ref b1), .unset, .unset, .unset] [(.int ((f1 &&& (2147483647 : Int32)) % (5 : Int32)))]))
          obtain ⟨fr, hfr⟩ : ∃ z, z = ((f1 &&& (2147483647 : Int32)) % (5 : Int32)) := ⟨_, rfl⟩
          rw [← hfr]
          show own_Gl _ _ _ _ (T9.setTop (mkF m 93 #[.val (.int vals), .val (.int bi), .val (.int sel), .val (.int f1), .val (.int tt1), .val (.int bb), .val (.ref b1), .unset, .unset, .unset] [(.int fr)]))
          refine own_back (fun t_ q_ => XS.istore X9.here hx rfl (hb hby at_93) rfl (l' := #[.val (.int vals), .val (.int bi), .val (.int sel), .val (.int f1), .val (.int tt1), .val (.int bb), .val (.ref b1), .val (.int fr), .unset, .unset]) rfl q_) ?_
          show own_Gl _ _ _ _ (T9.setTop (mkF m 95 #[.val (.int vals), .val (.int bi), .val (.int sel), .val (.int f1), .val (.int tt1), .val (.int bb), .val (.ref b1), .val (.int fr), .unset, .unset] []))
          refine own_back (fun t_ q_ => XS.iload X9.here hx rfl (hb hby at_95) rfl q_) ?_
          show own_Gl _ _ _ _ (T9.setTop (mkF m 97 #[.val (.int vals), .val (.int bi), .val (.int sel), .val (.int f1), .val (.int tt1), .val (.int bb), .val (.ref b1), .val (.int fr), .unset, .unset] [(.int tt1)]))
          refine own_back (fun t_ q_ => X9.ldcInt hx hown (mvT hZ (hw _ (List.mem_of_getElem? (i := 1) rfl))) (g := (mkF m 97 #[.val (.int vals), .val (.int bi), .val (.int sel), .val (.int f1), .val (.int tt1), .val (.int bb), .val (.ref b1), .val (.int fr), .unset, .unset] [(.int tt1)])) rfl (hb hby at_97) t_ q_) ?_
          show own_Gl _ _ _ _ (T9.setTop (mkF m 99 #[.val (.int vals), .val (.int bi), .val (.int sel), .val (.int f1), .val (.int tt1), .val (.int bb), .val (.ref b1), .val (.int fr), .unset, .unset] [(.int (2147483647 : Int32)), (.int tt1)]))
          refine own_back (fun t_ q_ => XS.iand X9.here hx rfl (hb hby at_99) rfl q_) ?_
          show own_Gl _ _ _ _ (T9.setTop (mkF m 100 #[.val (.int vals), .val (.int bi), .val (.int sel), .val (.int f1), .val (.int tt1), .val (.int bb), .val (.ref b1), .val (.int fr), .unset, .unset] [(.int (tt1 &&& (2147483647 : Int32)))]))
          refine own_back (fun t_ q_ => XS.iconst X9.here hx rfl (hb hby at_100) q_) ?_
          show own_Gl _ _ _ _ (T9.setTop (mkF m 101 #[.val (.int vals), .val (.int bi), .val (.int sel), .val (.int f1), .val (.int tt1), .val (.int bb), .val (.ref b1), .val (.int fr), .unset, .unset] [(.int (5 : Int32)), (.int (tt1 &&& (2147483647 : Int32)))]))
          refine own_back (fun t_ q_ => Jvm.RoadKit.iremM (g := (mkF m 101 #[.val (.int vals), .val (.int bi), .val (.int sel), .val (.int f1), .val (.int tt1), .val (.int bb), .val (.ref b1), .val (.int fr), .unset, .unset] [(.int (5 : Int32)), (.int (tt1 &&& (2147483647 : Int32)))])) X9 hx rfl (hb hby at_101) rfl (by decide) q_) ?_
          show own_Gl _ _ _ _ (T9.setTop (mkF m 102 #[.val (.int vals), .val (.int bi), .val (.int sel), .val (.int f1), .val (.int tt1), .val (.int bb), .val (.ref b1), .val (.int fr), .unset, .unset] [(.int ((tt1 &&& (2147483647 : Int32)) % (5 : Int32)))]))
          obtain ⟨to, hto⟩ : ∃ z, z = ((tt1 &&& (2147483647 : Int32)) % (5 : Int32)) := ⟨_, rfl⟩
          rw [← hto]
          show own_Gl _ _ _ _ (T9.setTop (mkF m 102 #[.val (.int vals), .val (.int bi), .val (.int sel), .val (.int f1), .val (.int tt1), .val (.int bb), .val (.ref b1), .val (.int fr), .unset, .unset] [(.int to)]))
          refine own_back (fun t_ q_ => XS.istore X9.here hx rfl (hb hby at_102) rfl (l' := #[.val (.int vals), .val (.int bi), .val (.int sel), .val (.int f1), .val (.int tt1), .val (.int bb), .val (.ref b1), .val (.int fr), .val (.int to), .unset]) rfl q_) ?_
          show own_Gl _ _ _ _ (T9.setTop (mkF m 104 #[.val (.int vals), .val (.int bi), .val (.int sel), .val (.int f1), .val (.int tt1), .val (.int bb), .val (.ref b1), .val (.int fr), .val (.int to), .unset] []))
          refine own_back (fun t_ q_ => XS.aload X9.here hx rfl (hb hby at_104) rfl rfl q_) ?_
          show own_Gl _ _ _ _ (T9.setTop (mkF m 106 #[.val (.int vals), .val (.int bi), .val (.int sel), .val (.int f1), .val (.int tt1), .val (.int bb), .val (.ref b1), .val (.int fr), .val (.int to), .unset] [(.ref b1)]))
          refine own_back (fun t_ q_ => XS.iload X9.here hx rfl (hb hby at_106) rfl q_) ?_
          show own_Gl _ _ _ _ (T9.setTop (mkF m 108 #[.val (.int vals), .val (.int bi), .val (.int sel), .val (.int f1), .val (.int tt1), .val (.int bb), .val (.ref b1), .val (.int fr), .val (.int to), .unset] [(.int bb), (.ref b1)]))
          refine own_back (fun t_ q_ => XS.iconst X9.here hx rfl (hb hby at_108) q_) ?_
          show own_Gl _ _ _ _ (T9.setTop (mkF m 109 #[.val (.int vals), .val (.int bi), .val (.int sel), .val (.int f1), .val (.int tt1), .val (.int bb), .val (.ref b1), .val (.int fr), .val (.int to), .unset] [(.int (0 : Int32)), (.int bb), (.ref b1)]))
          refine own_back (fun t_ q_ => XS.iload X9.here hx rfl (hb hby at_109) rfl q_) ?_
          show own_Gl _ _ _ _ (T9.setTop (mkF m 111 #[.val (.int vals), .val (.int bi), .val (.int sel), .val (.int f1), .val (.int tt1), .val (.int bb), .val (.ref b1), .val (.int fr), .val (.int to), .unset] [(.int fr), (.int (0 : Int32)), (.int bb), (.ref b1)]))
          refine own_back (fun t_ q_ => XS.iload X9.here hx rfl (hb hby at_111) rfl q_) ?_
          show own_Gl _ _ _ _ (T9.setTop (mkF m 113 #[.val (.int vals), .val (.int bi), .val (.int sel), .val (.int f1), .val (.int tt1), .val (.int bb), .val (.ref b1), .val (.int fr), .val (.int to), .unset] [(.int to), (.int fr), (.int (0 : Int32)), (.int bb), (.ref b1)]))
          obtain ⟨cl, Ar, -, S, -, H, -⟩ := V4
          have S4 : cl.slots.size = 4 := S
          obtain ⟨f, hf⟩ : ∃ f, f = (own_x (nar .byte v2) (nar .byte v4) (nar .byte v6) (nar .byte v8)) := ⟨_, rfl⟩
          have hat : ∀ j : Int32, ¬ j < 0 → j < 4 → cl.slots[j.toNatClampNeg]? = some (.int (f j)) := hf ▸ own_hat S H
          have r1 := own_r5 f1 fr hfr
          have r2 := own_r5 tt1 to hto
          obtain ⟨fr0, fr1, fr2⟩ := own_nn fr r1
          obtain ⟨to0, to1, to2⟩ := own_nn to r2
          refine own_join (α := State × Int32) (fun z_ => z_.1.setTop (mkF m 191 #[.val (.int vals), .val (.int bi), .val (.int sel), .val (.int f1), .val (.int tt1), .val (.int bb), .val (.ref b1), .val (.int fr), .val (.int to), .val (.int z_.2)] [])) (fun z_ => (∃ L, Stand p l e room_1 s m #[(.int vals), (.int bi), (.int sel), (.int f1), (.int tt1)] below meth c z_.1 L 1 4 ∧ Fr n0 L) ∧ z_.1.heap = h9 ∧ z_.2 = own_exp f bb fr to) (fun z_ hz => ?_) (fun tail10 => ?_)
          · skip
            obtain ⟨T10, ex10⟩ := z_
            obtain ⟨⟨L10, X10, N10⟩, e10, hc10⟩ := hz
            have X10 : Stand p l e room_1 s m #[(.int vals), (.int bi), (.int sel), (.int f1), (.int tt1)] below meth c T10 L10 1 4 := X10
            have e10 : T10.heap = h9 := e10
            have hc10 : ex10 = own_exp f bb fr to := hc10
            show own_Gl _ _ _ _ (T10.setTop (mkF m 191 #[.val (.int vals), .val (.int bi), .val (.int sel), .val (.int f1), .val (.int tt1), .val (.int bb), .val (.ref b1), .val (.int fr), .val (.int to), .val (.int ex10)] []))
            refine own_back (fun t_ q_ => XS.aload X10.here hx rfl (hb hby at_191) rfl rfl q_) ?_
            show own_Gl _ _ _ _ (T10.setTop (mkF m 193 #[.val (.int vals), .val (.int bi), .val (.int sel), .val (.int f1), .val (.int tt1), .val (.int bb), .val (.ref b1), .val (.int fr), .val (.int to), .val (.int ex10)] [(.ref b1)]))
            refine own_back (fun t_ q_ => XS.iload X10.here hx rfl (hb hby at_193) rfl q_) ?_
            show own_Gl _ _ _ _ (T10.setTop (mkF m 195 #[.val (.int vals), .val (.int bi), .val (.int sel), .val (.int f1), .val (.int tt1), .val (.int bb), .val (.ref b1), .val (.int fr), .val (.int to), .val (.int ex10)] [(.int bb), (.ref b1)]))
            refine own_back (fun t_ q_ => XS.iload X10.here hx rfl (hb hby at_195) rfl q_) ?_
            show own_Gl _ _ _ _ (T10.setTop (mkF m 197 #[.val (.int vals), .val (.int bi), .val (.int sel), .val (.int f1), .val (.int tt1), .val (.int bb), .val (.ref b1), .val (.int fr), .val (.int to), .val (.int ex10)] [(.int fr), (.int bb), (.ref b1)]))
            refine own_back (fun t_ q_ => XS.iload X10.here hx rfl (hb hby at_197) rfl q_) ?_
            show own_Gl _ _ _ _ (T10.setTop (mkF m 199 #[.val (.int vals), .val (.int bi), .val (.int sel), .val (.int f1), .val (.int tt1), .val (.int bb), .val (.ref b1), .val (.int fr), .val (.int to), .val (.int ex10)] [(.int to), (.int fr), (.int bb), (.ref b1)]))
            obtain ⟨_, _, ⟨T11, L11, k11, n11⟩, -, X11, ⟨Lc11, hQ11, l11, y11, z11⟩, st11⟩ := Jvm.LawKit.callS X10 hx (y := (⟨"com/example/stream_sieve/streamsieve/io/Bytes", "indexOf", "([BBII)I"⟩ : MethodName)) hown (mvT hZ (hw _ (List.mem_of_getElem? (i := 6) rfl))) (mvT hZ (hw _ (List.mem_of_getElem? (i := 7) rfl))) (mvT hZ (hw _ (List.mem_of_getElem? (i := 8) rfl))) (mvT hZ (hw _ (List.mem_of_getElem? (i := 9) rfl))) (by decide) (backOf (W := 0) (rm2 l Z a0 hw [] b1 bb fr to h9 n0 Zs cl f Ar S4 hat fr0 fr2 to1) hZ (hw _ (List.mem_of_getElem? (i := 9) rfl)) (hw _ (List.mem_of_getElem? (i := 8) rfl)) (by decide) (by decide)) (g := (mkF m 199 #[.val (.int vals), .val (.int bi), .val (.int sel), .val (.int f1), .val (.int tt1), .val (.int bb), .val (.ref b1), .val (.int fr), .val (.int to), .val (.int ex10)] [(.int to), (.int fr), (.int bb), (.ref b1)])) rfl (by rw [hml]; rfl) (argsL := [(.ref b1), (.int bb), (.int fr), (.int to)]) (rest := []) (lenOf pd_1 rfl) rfl (by show 2 * 0 + _ ≤ _; exact Nat.le_of_eq rfl) (hb hby at_199) (fun _ _ => ⟨rfl, e10, (by decide : 1 + 0 ≤ _), (by decide : 4 + 0 ≤ _)⟩)
            dsimp only [Pt.U, Pt.locs, Pt.cells, Pt.slots] at X11 l11 y11 z11 st11 hQ11
            subst l11 y11 z11
            obtain ⟨rfl, M11, e11⟩ := hQ11
            have N11 := Fr.app N10 M11
            refine own_back st11 ?_
            show own_Gl _ _ _ _ (T11.setTop (mkF m 202 #[.val (.int vals), .val (.int bi), .val (.int sel), .val (.int f1), .val (.int tt1), .val (.int bb), .val (.ref b1), .val (.int fr), .val (.int to), .val (.int ex10)] [(.int (own_find f bb to 5 fr))]))
            refine own_back (fun t_ q_ => XS.iload X11.here hx rfl (hb hby at_202) rfl q_) ?_
            show own_Gl _ _ _ _ (T11.setTop (mkF m 204 #[.val (.int vals), .val (.int bi), .val (.int sel), .val (.int f1), .val (.int tt1), .val (.int bb), .val (.ref b1), .val (.int fr), .val (.int to), .val (.int ex10)] [(.int ex10), (.int (own_find f bb to 5 fr))]))
            refine own_back (fun t_ q_ => XS.icmpNo X11.here hx rfl (hb hby at_204) rfl (teq (by rw [own_law f bb fr to r1 r2, hc10] : (own_find f bb to 5 fr) = ex10)).2 q_) ?_
            show own_Gl _ _ _ _ (T11.setTop (mkF m 207 #[.val (.int vals), .val (.int bi), .val (.int sel), .val (.int f1), .val (.int tt1), .val (.int bb), .val (.ref b1), .val (.int fr), .val (.int to), .val (.int ex10)] []))
            refine own_back (fun t_ q_ => XS.iconst X11.here hx rfl (hb hby at_207) q_) ?_
            show own_Gl _ _ _ _ (T11.setTop (mkF m 208 #[.val (.int vals), .val (.int bi), .val (.int sel), .val (.int f1), .val (.int tt1), .val (.int bb), .val (.ref b1), .val (.int fr), .val (.int to), .val (.int ex10)] [(.int (1 : Int32))]))
            refine own_back (fun t_ q_ => XS.goto X11.here hx rfl (pc0 := 208) (pc' := 212) rfl (hb hby at_208) (by decide) (by decide) q_) ?_
            show own_Gl _ _ _ _ (T11.setTop (mkF m 212 #[.val (.int vals), .val (.int bi), .val (.int sel), .val (.int f1), .val (.int tt1), .val (.int bb), .val (.ref b1), .val (.int fr), .val (.int to), .val (.int ex10)] [(.int (1 : Int32))]))
            exact own_rZ X11 hx hlk Bd.returns (hb hby at_212) (own_one rfl) (by show Qrm0 h0 n0 _ T11.heap _; rw [e11]; exact ⟨rfl, N11⟩) (by decide) (by decide)
          · skip
            obtain ⟨_, _, ⟨T12, L12, k12, n12⟩, -, X12, ⟨Lc12, hQ12, l12, y12, z12⟩, st12⟩ := Jvm.LawKit.callS X9 hx (y := (⟨"com/example/stream_sieve/streamsieve/io/BytesIndexOfPinLaw", "hit", "([BBIII)Z"⟩ : MethodName)) hown (mvT hZ (hw _ (List.mem_of_getElem? (i := 2) rfl))) (mvT hZ (hw _ (List.mem_of_getElem? (i := 3) rfl))) (mvT hZ (hw _ (List.mem_of_getElem? (i := 4) rfl))) (mvT hZ (hw _ (List.mem_of_getElem? (i := 5) rfl))) (by decide) (backOf (W := 0) (rm1 l Z a0 hw [] b1 bb 0 fr to h9 n0 Zs cl f Ar (own_in S4 (by decide) (by decide)) (hat 0 (by decide) (by decide))) hZ (hw _ (List.mem_of_getElem? (i := 5) rfl)) (hw _ (List.mem_of_getElem? (i := 4) rfl)) (by decide) (by decide)) (g := (mkF m 113 #[.val (.int vals), .val (.int bi), .val (.int sel), .val (.int f1), .val (.int tt1), .val (.int bb), .val (.ref b1), .val (.int fr), .val (.int to), .unset] [(.int to), (.int fr), (.int (0 : Int32)), (.int bb), (.ref b1)])) rfl (by rw [hml]; rfl) (argsL := [(.ref b1), (.int bb), (.int (0 : Int32)), (.int fr), (.int to)]) (rest := []) (lenOf pd_0 rfl) rfl (by show 2 * 0 + _ ≤ _; exact Nat.le_of_eq rfl) (hb hby at_113) (fun _ _ => ⟨rfl, e9, (by decide : 1 + 0 ≤ _), (by decide : 4 + 0 ≤ _)⟩)
            dsimp only [Pt.U, Pt.locs, Pt.cells, Pt.slots] at X12 l12 y12 z12 st12 hQ12
            subst l12 y12 z12
            obtain ⟨rfl, M12, e12⟩ := hQ12
            have N12 := Fr.app N9 M12
            refine own_back st12 ?_
            show own_Gl _ _ _ _ (T12.setTop (mkF m 116 #[.val (.int vals), .val (.int bi), .val (.int sel), .val (.int f1), .val (.int tt1), .val (.int bb), .val (.ref b1), .val (.int fr), .val (.int to), .unset] [(.int (if own_h f bb fr to 0 = true then (1 : Int32) else 0))]))
            by_cases t0 : (if own_h f bb fr to 0 = true then (1 : Int32) else 0) = (0 : Int32)
            · skip
              refine own_back (fun t_ q_ => XS.ifYes X12.here hx rfl (pc0 := 116) (pc' := 125) rfl (hb hby at_116) rfl ((if0 _ _).trans (teq (t0 : (if own_h f bb fr to 0 = true then (1 : Int32) else 0) = (0 : Int32))).1) (by decide) (by decide) q_) ?_
              show own_Gl _ _ _ _ (T12.setTop (mkF m 125 #[.val (.int vals), .val (.int bi), .val (.int sel), .val (.int f1), .val (.int tt1), .val (.int bb), .val (.ref b1), .val (.int fr), .val (.int to), .unset] []))
              have d0 : ¬ own_h f bb fr to 0 = true := fun q => by rw [if_pos q] at t0; exact absurd t0 (by decide)
              refine own_back (fun t_ q_ => XS.aload X12.here hx rfl (hb hby at_125) rfl rfl q_) ?_
              show own_Gl _ _ _ _ (T12.setTop (mkF m 127 #[.val (.int vals), .val (.int bi), .val (.int sel), .val (.int f1), .val (.int tt1), .val (.int bb), .val (.ref b1), .val (.int fr), .val (.int to), .unset] [(.ref b1)]))
              refine own_back (fun t_ q_ => XS.iload X12.here hx rfl (hb hby at_127) rfl q_) ?_
              show own_Gl _ _ _ _ (T12.setTop (mkF m 129 #[.val (.int vals), .val (.int bi), .val (.int sel), .val (.int f1), .val (.int tt1), .val (.int bb), .val (.ref b1), .val (.int fr), .val (.int to), .unset] [(.int bb), (.ref b1)]))
              refine own_back (fun t_ q_ => XS.iconst X12.here hx rfl (hb hby at_129) q_) ?_
              show own_Gl _ _ _ _ (T12.setTop (mkF m 130 #[.val (.int vals), .val (.int bi), .val (.int sel), .val (.int f1), .val (.int tt1), .val (.int bb), .val (.ref b1), .val (.int fr), .val (.int to), .unset] [(.int (1 : Int32)), (.int bb), (.ref b1)]))
              refine own_back (fun t_ q_ => XS.iload X12.here hx rfl (hb hby at_130) rfl q_) ?_
              show own_Gl _ _ _ _ (T12.setTop (mkF m 132 #[.val (.int vals), .val (.int bi), .val (.int sel), .val (.int f1), .val (.int tt1), .val (.int bb), .val (.ref b1), .val (.int fr), .val (.int to), .unset] [(.int fr), (.int (1 : Int32)), (.int bb), (.ref b1)]))
              refine own_back (fun t_ q_ => XS.iload X12.here hx rfl (hb hby at_132) rfl q_) ?_
              show own_Gl _ _ _ _ (T12.setTop (mkF m 134 #[.val (.int vals), .val (.int bi), .val (.int sel), .val (.int f1), .val (.int tt1), .val (.int bb), .val (.ref b1), .val (.int fr), .val (.int to), .unset] [(.int to), (.int fr), (.int (1 : Int32)), (.int bb), (.ref b1)]))
              obtain ⟨_, _, ⟨T13, L13, k13, n13⟩, -, X13, ⟨Lc13, hQ13, l13, y13, z13⟩, st13⟩ := Jvm.LawKit.callS X12 hx (y := (⟨"com/example/stream_sieve/streamsieve/io/BytesIndexOfPinLaw", "hit", "([BBIII)Z"⟩ : MethodName)) hown (mvT hZ (hw _ (List.mem_of_getElem? (i := 2) rfl))) (mvT hZ (hw _ (List.mem_of_getElem? (i := 3) rfl))) (mvT hZ (hw _ (List.mem_of_getElem? (i := 4) rfl))) (mvT hZ (hw _ (List.mem_of_getElem? (i := 5) rfl))) (by decide) (backOf (W := 0) (rm1 l Z a0 hw [] b1 bb 1 fr to h9 n0 Zs cl f Ar (own_in S4 (by decide) (by decide)) (hat 1 (by decide) (by decide))) hZ (hw _ (List.mem_of_getElem? (i := 5) rfl)) (hw _ (List.mem_of_getElem? (i := 4) rfl)) (by decide) (by decide)) (g := (mkF m 134 #[.val (.int vals), .val (.int bi), .val (.int sel), .val (.int f1), .val (.int tt1), .val (.int bb), .val (.ref b1), .val (.int fr), .val (.int to), .unset] [(.int to), (.int fr), (.int (1 : Int32)), (.int bb), (.ref b1)])) rfl (by rw [hml]; rfl) (argsL := [(.ref b1), (.int bb), (.int (1 : Int32)), (.int fr), (.int to)]) (rest := []) (lenOf pd_0 rfl) rfl (by show 2 * 0 + _ ≤ _; exact Nat.le_of_eq rfl) (hb hby at_134) (fun _ _ => ⟨rfl, e12, (by decide : 1 + 0 ≤ _), (by decide : 4 + 0 ≤ _)⟩)
              dsimp only [Pt.U, Pt.locs, Pt.cells, Pt.slots] at X13 l13 y13 z13 st13 hQ13
              subst l13 y13 z13
              obtain ⟨rfl, M13, e13⟩ := hQ13
              have N13 := Fr.app N12 M13
              refine own_back st13 ?_
              show own_Gl _ _ _ _ (T13.setTop (mkF m 137 #[.val (.int vals), .val (.int bi), .val (.int sel), .val (.int f1), .val (.int tt1), .val (.int bb), .val (.ref b1), .val (.int fr), .val (.int to), .unset] [(.int (if own_h f bb fr to 1 = true then (1 : Int32) else 0))]))
              by_cases t1 : (if own_h f bb fr to 1 = true then (1 : Int32) else 0) = (0 : Int32)
              · skip
                refine own_back (fun t_ q_ => XS.ifYes X13.here hx rfl (pc0 := 137) (pc' := 146) rfl (hb hby at_137) rfl ((if0 _ _).trans (teq (t1 : (if own_h f bb fr to 1 = true then (1 : Int32) else 0) = (0 : Int32))).1) (by decide) (by decide) q_) ?_
                show own_Gl _ _ _ _ (T13.setTop (mkF m 146 #[.val (.int vals), .val (.int bi), .val (.int sel), .val (.int f1), .val (.int tt1), .val (.int bb), .val (.ref b1), .val (.int fr), .val (.int to), .unset] []))
                have d1 : ¬ own_h f bb fr to 1 = true := fun q => by rw [if_pos q] at t1; exact absurd t1 (by decide)
                refine own_back (fun t_ q_ => XS.aload X13.here hx rfl (hb hby at_146) rfl rfl q_) ?_
                show own_Gl _ _ _ _ (T13.setTop (mkF m 148 #[.val (.int vals), .val (.int bi), .val (.int sel), .val (.int f1), .val (.int tt1), .val (.int bb), .val (.ref b1), .val (.int fr), .val (.int to), .unset] [(.ref b1)]))
                refine own_back (fun t_ q_ => XS.iload X13.here hx rfl (hb hby at_148) rfl q_) ?_
                show own_Gl _ _ _ _ (T13.setTop (mkF m 150 #[.val (.int vals), .val (.int bi), .val (.int sel), .val (.int f1), .val (.int tt1), .val (.int bb), .val (.ref b1), .val (.int fr), .val (.int to), .unset] [(.int bb), (.ref b1)]))
                refine own_back (fun t_ q_ => XS.iconst X13.here hx rfl (hb hby at_150) q_) ?_
                show own_Gl _ _ _ _ (T13.setTop (mkF m 151 #[.val (.int vals), .val (.int bi), .val (.int sel), .val (.int f1), .val (.int tt1), .val (.int bb), .val (.ref b1), .val (.int fr), .val (.int to), .unset] [(.int (2 : Int32)), (.int bb), (.ref b1)]))
                refine own_back (fun t_ q_ => XS.iload X13.here hx rfl (hb hby at_151) rfl q_) ?_
                show own_Gl _ _ _ _ (T13.setTop (mkF m 153 #[.val (.int vals), .val (.int bi), .val (.int sel), .val (.int f1), .val (.int tt1), .val (.int bb), .val (.ref b1), .val (.int fr), .val (.int to), .unset] [(.int fr), (.int (2 : Int32)), (.int bb), (.ref b1)]))
                refine own_back (fun t_ q_ => XS.iload X13.here hx rfl (hb hby at_153) rfl q_) ?_
                show own_Gl _ _ _ _ (T13.setTop (mkF m 155 #[.val (.int vals), .val (.int bi), .val (.int sel), .val (.int f1), .val (.int tt1), .val (.int bb), .val (.ref b1), .val (.int fr), .val (.int to), .unset] [(.int to), (.int fr), (.int (2 : Int32)), (.int bb), (.ref b1)]))
                obtain ⟨_, _, ⟨T14, L14, k14, n14⟩, -, X14, ⟨Lc14, hQ14, l14, y14, z14⟩, st14⟩ := Jvm.LawKit.callS X13 hx (y := (⟨"com/example/stream_sieve/streamsieve/io/BytesIndexOfPinLaw", "hit", "([BBIII)Z"⟩ : MethodName)) hown (mvT hZ (hw _ (List.mem_of_getElem? (i := 2) rfl))) (mvT hZ (hw _ (List.mem_of_getElem? (i := 3) rfl))) (mvT hZ (hw _ (List.mem_of_getElem? (i := 4) rfl))) (mvT hZ (hw _ (List.mem_of_getElem? (i := 5) rfl))) (by decide) (backOf (W := 0) (rm1 l Z a0 hw [] b1 bb 2 fr to h9 n0 Zs cl f Ar (own_in S4 (by decide) (by decide)) (hat 2 (by decide) (by decide))) hZ (hw _ (List.mem_of_getElem? (i := 5) rfl)) (hw _ (List.mem_of_getElem? (i := 4) rfl)) (by decide) (by decide)) (g := (mkF m 155 #[.val (.int vals), .val (.int bi), .val (.int sel), .val (.int f1), .val (.int tt1), .val (.int bb), .val (.ref b1), .val (.int fr), .val (.int to), .unset] [(.int to), (.int fr), (.int (2 : Int32)), (.int bb), (.ref b1)])) rfl (by rw [hml]; rfl) (argsL := [(.ref b1), (.int bb), (.int (2 : Int32)), (.int fr), (.int to)]) (rest := []) (lenOf pd_0 rfl) rfl (by show 2 * 0 + _ ≤ _; exact Nat.le_of_eq rfl) (hb hby at_155) (fun _ _ => ⟨rfl, e13, (by decide : 1 + 0 ≤ _), (by decide : 4 + 0 ≤ _)⟩)
                dsimp only [Pt.U, Pt.locs, Pt.cells, Pt.slots] at X14 l14 y14 z14 st14 hQ14
                subst l14 y14 z14
                obtain ⟨rfl, M14, e14⟩ := hQ14
                have N14 := Fr.app N13 M14
                refine own_back st14 ?_
                show own_Gl _ _ _ _ (T14.setTop (mkF m 158 #[.val (.int vals), .val (.int bi), .val (.int sel), .val (.int f1), .val (.int tt1), .val (.int bb), .val (.ref b1), .val (.int fr), .val (.int to), .unset] [(.int (if own_h f bb fr to 2 = true then (1 : Int32) else 0))]))
                by_cases t2 : (if own_h f bb fr to 2 = true then (1 : Int32) else 0) = (0 : Int32)
                · skip
                  refine own_back (fun t_ q_ => XS.ifYes X14.here hx rfl (pc0 := 158) (pc' := 167) rfl (hb hby at_158) rfl ((if0 _ _).trans (teq (t2 : (if own_h f bb fr to 2 = true then (1 : Int32) else 0) = (0 : Int32))).1) (by decide) (by decide) q_) ?_
                  show own_Gl _ _ _ _ (T14.setTop (mkF m 167 #[.val (.int vals), .val (.int bi), .val (.int sel), .val (.int f1), .val (.int tt1), .val (.int bb), .val (.ref b1), .val (.int fr), .val (.int to), .unset] []))
                  have d2 : ¬ own_h f bb fr to 2 = true := fun q => by rw [if_pos q] at t2; exact absurd t2 (by decide)
                  refine own_back (fun t_ q_ => XS.aload X14.here hx rfl (hb hby at_167) rfl rfl q_) ?_
                  show own_Gl _ _ _ _ (T14.setTop (mkF m 169 #[.val (.int vals), .val (.int bi), .val (.int sel), .val (.int f1), .val (.int tt1), .val (.int bb), .val (.ref b1), .val (.int fr), .val (.int to), .unset] [(.ref b1)]))
                  refine own_back (fun t_ q_ => XS.iload X14.here hx rfl (hb hby at_169) rfl q_) ?_
                  show own_Gl _ _ _ _ (T14.setTop (mkF m 171 #[.val (.int vals), .val (.int bi), .val (.int sel), .val (.int f1), .val (.int tt1), .val (.int bb), .val (.ref b1), .val (.int fr), .val (.int to), .unset] [(.int bb), (.ref b1)]))
                  refine own_back (fun t_ q_ => XS.iconst X14.here hx rfl (hb hby at_171) q_) ?_
                  show own_Gl _ _ _ _ (T14.setTop (mkF m 172 #[.val (.int vals), .val (.int bi), .val (.int sel), .val (.int f1), .val (.int tt1), .val (.int bb), .val (.ref b1), .val (.int fr), .val (.int to), .unset] [(.int (3 : Int32)), (.int bb), (.ref b1)]))
                  refine own_back (fun t_ q_ => XS.iload X14.here hx rfl (hb hby at_172) rfl q_) ?_
                  show own_Gl _ _ _ _ (T14.setTop (mkF m 174 #[.val (.int vals), .val (.int bi), .val (.int sel), .val (.int f1), .val (.int tt1), .val (.int bb), .val (.ref b1), .val (.int fr), .val (.int to), .unset] [(.int fr), (.int (3 : Int32)), (.int bb), (.ref b1)]))
                  refine own_back (fun t_ q_ => XS.iload X14.here hx rfl (hb hby at_174) rfl q_) ?_
                  show own_Gl _ _ _ _ (T14.setTop (mkF m 176 #[.val (.int vals), .val (.int bi), .val (.int sel), .val (.int f1), .val (.int tt1), .val (.int bb), .val (.ref b1), .val (.int fr), .val (.int to), .unset] [(.int to), (.int fr), (.int (3 : Int32)), (.int bb), (.ref b1)]))
                  obtain ⟨_, _, ⟨T15, L15, k15, n15⟩, -, X15, ⟨Lc15, hQ15, l15, y15, z15⟩, st15⟩ := Jvm.LawKit.callS X14 hx (y := (⟨"com/example/stream_sieve/streamsieve/io/BytesIndexOfPinLaw", "hit", "([BBIII)Z"⟩ : MethodName)) hown (mvT hZ (hw _ (List.mem_of_getElem? (i := 2) rfl))) (mvT hZ (hw _ (List.mem_of_getElem? (i := 3) rfl))) (mvT hZ (hw _ (List.mem_of_getElem? (i := 4) rfl))) (mvT hZ (hw _ (List.mem_of_getElem? (i := 5) rfl))) (by decide) (backOf (W := 0) (rm1 l Z a0 hw [] b1 bb 3 fr to h9 n0 Zs cl f Ar (own_in S4 (by decide) (by decide)) (hat 3 (by decide) (by decide))) hZ (hw _ (List.mem_of_getElem? (i := 5) rfl)) (hw _ (List.mem_of_getElem? (i := 4) rfl)) (by decide) (by decide)) (g := (mkF m 176 #[.val (.int vals), .val (.int bi), .val (.int sel), .val (.int f1), .val (.int tt1), .val (.int bb), .val (.ref b1), .val (.int fr), .val (.int to), .unset] [(.int to), (.int fr), (.int (3 : Int32)), (.int bb), (.ref b1)])) rfl (by rw [hml]; rfl) (argsL := [(.ref b1), (.int bb), (.int (3 : Int32)), (.int fr), (.int to)]) (rest := []) (lenOf pd_0 rfl) rfl (by show 2 * 0 + _ ≤ _; exact Nat.le_of_eq rfl) (hb hby at_176) (fun _ _ => ⟨rfl, e14, (by decide : 1 + 0 ≤ _), (by decide : 4 + 0 ≤ _)⟩)
                  dsimp only [Pt.U, Pt.locs, Pt.cells, Pt.slots] at X15 l15 y15 z15 st15 hQ15
                  subst l15 y15 z15
                  obtain ⟨rfl, M15, e15⟩ := hQ15
                  have N15 := Fr.app N14 M15
                  refine own_back st15 ?_
                  show own_Gl _ _ _ _ (T15.setTop (mkF m 179 #[.val (.int vals), .val (.int bi), .val (.int sel), .val (.int f1), .val (.int tt1), .val (.int bb), .val (.ref b1), .val (.int fr), .val (.int to), .unset] [(.int (if own_h f bb fr to 3 = true then (1 : Int32) else 0))]))
                  by_cases t3 : (if own_h f bb fr to 3 = true then (1 : Int32) else 0) = (0 : Int32)
                  · skip
                    refine own_back (fun t_ q_ => XS.ifYes X15.here hx rfl (pc0 := 179) (pc' := 188) rfl (hb hby at_179) rfl ((if0 _ _).trans (teq (t3 : (if own_h f bb fr to 3 = true then (1 : Int32) else 0) = (0 : Int32))).1) (by decide) (by decide) q_) ?_
                    show own_Gl _ _ _ _ (T15.setTop (mkF m 188 #[.val (.int vals), .val (.int bi), .val (.int sel), .val (.int f1), .val (.int tt1), .val (.int bb), .val (.ref b1), .val (.int fr), .val (.int to), .unset] []))
                    have d3 : ¬ own_h f bb fr to 3 = true := fun q => by rw [if_pos q] at t3; exact absurd t3 (by decide)
                    refine own_back (fun t_ q_ => XS.iconst X15.here hx rfl (hb hby at_188) q_) ?_
                    show own_Gl _ _ _ _ (T15.setTop (mkF m 189 #[.val (.int vals), .val (.int bi), .val (.int sel), .val (.int f1), .val (.int tt1), .val (.int bb), .val (.ref b1), .val (.int fr), .val (.int to), .unset] [(.int (-1 : Int32))]))
                    refine own_back (fun t_ q_ => XS.istore X15.here hx rfl (hb hby at_189) rfl (l' := #[.val (.int vals), .val (.int bi), .val (.int sel), .val (.int f1), .val (.int tt1), .val (.int bb), .val (.ref b1), .val (.int fr), .val (.int to), .val (.int (-1 : Int32))]) rfl q_) ?_
                    show own_Gl _ _ _ _ (T15.setTop (mkF m 191 #[.val (.int vals), .val (.int bi), .val (.int sel), .val (.int f1), .val (.int tt1), .val (.int bb), .val (.ref b1), .val (.int fr), .val (.int to), .val (.int (-1 : Int32))] []))
                    exact tail10 (T15, (-1)) ⟨⟨_, X15, N15⟩, e15, by rw [own_exp, if_neg d0, if_neg d1, if_neg d2, if_neg d3]⟩
                  · skip
                    refine own_back (fun t_ q_ => XS.ifNo X15.here hx rfl (hb hby at_179) rfl ((if0 _ _).trans (feq (t3 : ¬ ((if own_h f bb fr to 3 = true then (1 : Int32) else 0) = (0 : Int32)))).1) q_) ?_
                    show own_Gl _ _ _ _ (T15.setTop (mkF m 182 #[.val (.int vals), .val (.int bi), .val (.int sel), .val (.int f1), .val (.int tt1), .val (.int bb), .val (.ref b1), .val (.int fr), .val (.int to), .unset] []))
                    have d3 : own_h f bb fr to 3 = true := by by_cases q : own_h f bb fr to 3 = true; exact q; exact absurd (if_neg q) t3
                    refine own_back (fun t_ q_ => XS.iconst X15.here hx rfl (hb hby at_182) q_) ?_
                    show own_Gl _ _ _ _ (T15.setTop (mkF m 183 #[.val (.int vals), .val (.int bi), .val (.int sel), .val (.int f1), .val (.int tt1), .val (.int bb), .val (.ref b1), .val (.int fr), .val (.int to), .unset] [(.int (3 : Int32))]))
                    refine own_back (fun t_ q_ => XS.istore X15.here hx rfl (hb hby at_183) rfl (l' := #[.val (.int vals), .val (.int bi), .val (.int sel), .val (.int f1), .val (.int tt1), .val (.int bb), .val (.ref b1), .val (.int fr), .val (.int to), .val (.int (3 : Int32))]) rfl q_) ?_
                    show own_Gl _ _ _ _ (T15.setTop (mkF m 185 #[.val (.int vals), .val (.int bi), .val (.int sel), .val (.int f1), .val (.int tt1), .val (.int bb), .val (.ref b1), .val (.int fr), .val (.int to), .val (.int (3 : Int32))] []))
                    refine own_back (fun t_ q_ => XS.goto X15.here hx rfl (pc0 := 185) (pc' := 191) rfl (hb hby at_185) (by decide) (by decide) q_) ?_
                    show own_Gl _ _ _ _ (T15.setTop (mkF m 191 #[.val (.int vals), .val (.int bi), .val (.int sel), .val (.int f1), .val (.int tt1), .val (.int bb), .val (.ref b1), .val (.int fr), .val (.int to), .val (.int (3 : Int32))] []))
                    exact tail10 (T15, 3) ⟨⟨_, X15, N15⟩, e15, by rw [own_exp, if_neg d0, if_neg d1, if_neg d2, if_pos d3]⟩
                · skip
                  refine own_back (fun t_ q_ => XS.ifNo X14.here hx rfl (hb hby at_158) rfl ((if0 _ _).trans (feq (t2 : ¬ ((if own_h f bb fr to 2 = true then (1 : Int32) else 0) = (0 : Int32)))).1) q_) ?_
                  show own_Gl _ _ _ _ (T14.setTop (mkF m 161 #[.val (.int vals), .val (.int bi), .val (.int sel), .val (.int f1), .val (.int tt1), .val (.int bb), .val (.ref b1), .val (.int fr), .val (.int to), .unset] []))
                  have d2 : own_h f bb fr to 2 = true := by by_cases q : own_h f bb fr to 2 = true; exact q; exact absurd (if_neg q) t2
                  refine own_back (fun t_ q_ => XS.iconst X14.here hx rfl (hb hby at_161) q_) ?_
                  show own_Gl _ _ _ _ (T14.setTop (mkF m 162 #[.val (.int vals), .val (.int bi), .val (.int sel), .val (.int f1), .val (.int tt1), .val (.int bb), .val (.ref b1), .val (.int fr), .val (.int to), .unset] [(.int (2 : Int32))]))
                  refine own_back (fun t_ q_ => XS.istore X14.here hx rfl (hb hby at_162) rfl (l' := #[.val (.int vals), .val (.int bi), .val (.int sel), .val (.int f1), .val (.int tt1), .val (.int bb), .val (.ref b1), .val (.int fr), .val (.int to), .val (.int (2 : Int32))]) rfl q_) ?_
                  show own_Gl _ _ _ _ (T14.setTop (mkF m 164 #[.val (.int vals), .val (.int bi), .val (.int sel), .val (.int f1), .val (.int tt1), .val (.int bb), .val (.ref b1), .val (.int fr), .val (.int to), .val (.int (2 : Int32))] []))
                  refine own_back (fun t_ q_ => XS.goto X14.here hx rfl (pc0 := 164) (pc' := 191) rfl (hb hby at_164) (by decide) (by decide) q_) ?_
                  show own_Gl _ _ _ _ (T14.setTop (mkF m 191 #[.val (.int vals), .val (.int bi), .val (.int sel), .val (.int f1), .val (.int tt1), .val (.int bb), .val (.ref b1), .val (.int fr), .val (.int to), .val (.int (2 : Int32))] []))
                  exact tail10 (T14, 2) ⟨⟨_, X14, N14⟩, e14, by rw [own_exp, if_neg d0, if_neg d1, if_pos d2]⟩
              · skip
                refine own_back (fun t_ q_ => XS.ifNo X13.here hx rfl (hb hby at_137) rfl ((if0 _ _).trans (feq (t1 : ¬ ((if own_h f bb fr to 1 = true then (1 : Int32) else 0) = (0 : Int32)))).1) q_) ?_
                show own_Gl _ _ _ _ (T13.setTop (mkF m 140 #[.val (.int vals), .val (.int bi), .val (.int sel), .val (.int f1), .val (.int tt1), .val (.int bb), .val (.ref b1), .val (.int fr), .val (.int to), .unset] []))
                have d1 : own_h f bb fr to 1 = true := by by_cases q : own_h f bb fr to 1 = true; exact q; exact absurd (if_neg q) t1
                refine own_back (fun t_ q_ => XS.iconst X13.here hx rfl (hb hby at_140) q_) ?_
                show own_Gl _ _ _ _ (T13.setTop (mkF m 141 #[.val (.int vals), .val (.int bi), .val (.int sel), .val (.int f1), .val (.int tt1), .val (.int bb), .val (.ref b1), .val (.int fr), .val (.int to), .unset] [(.int (1 : Int32))]))
                refine own_back (fun t_ q_ => XS.istore X13.here hx rfl (hb hby at_141) rfl (l' := #[.val (.int vals), .val (.int bi), .val (.int sel), .val (.int f1), .val (.int tt1), .val (.int bb), .val (.ref b1), .val (.int fr), .val (.int to), .val (.int (1 : Int32))]) rfl q_) ?_
                show own_Gl _ _ _ _ (T13.setTop (mkF m 143 #[.val (.int vals), .val (.int bi), .val (.int sel), .val (.int f1), .val (.int tt1), .val (.int bb), .val (.ref b1), .val (.int fr), .val (.int to), .val (.int (1 : Int32))] []))
                refine own_back (fun t_ q_ => XS.goto X13.here hx rfl (pc0 := 143) (pc' := 191) rfl (hb hby at_143) (by decide) (by decide) q_) ?_
                show own_Gl _ _ _ _ (T13.setTop (mkF m 191 #[.val (.int vals), .val (.int bi), .val (.int sel), .val (.int f1), .val (.int tt1), .val (.int bb), .val (.ref b1), .val (.int fr), .val (.int to), .val (.int (1 : Int32))] []))
                exact tail10 (T13, 1) ⟨⟨_, X13, N13⟩, e13, by rw [own_exp, if_neg d0, if_pos d1]⟩
            · skip
              refine own_back (fun t_ q_ => XS.ifNo X12.here hx rfl (hb hby at_116) rfl ((if0 _ _).trans (feq (t0 : ¬ ((if own_h f bb fr to 0 = true then (1 : Int32) else 0) = (0 : Int32)))).1) q_) ?_
              show own_Gl _ _ _ _ (T12.setTop (mkF m 119 #[.val (.int vals), .val (.int bi), .val (.int sel), .val (.int f1), .val (.int tt1), .val (.int bb), .val (.ref b1), .val (.int fr), .val (.int to), .unset] []))
              have d0 : own_h f bb fr to 0 = true := by by_cases q : own_h f bb fr to 0 = true; exact q; exact absurd (if_neg q) t0
              refine own_back (fun t_ q_ => XS.iconst X12.here hx rfl (hb hby at_119) q_) ?_
              show own_Gl _ _ _ _ (T12.setTop (mkF m 120 #[.val (.int vals), .val (.int bi), .val (.int sel), .val (.int f1), .val (.int tt1), .val (.int bb), .val (.ref b1), .val (.int fr), .val (.int to), .unset] [(.int (0 : Int32))]))
              refine own_back (fun t_ q_ => XS.istore X12.here hx rfl (hb hby at_120) rfl (l' := #[.val (.int vals), .val (.int bi), .val (.int sel), .val (.int f1), .val (.int tt1), .val (.int bb), .val (.ref b1), .val (.int fr), .val (.int to), .val (.int (0 : Int32))]) rfl q_) ?_
              show own_Gl _ _ _ _ (T12.setTop (mkF m 122 #[.val (.int vals), .val (.int bi), .val (.int sel), .val (.int f1), .val (.int tt1), .val (.int bb), .val (.ref b1), .val (.int fr), .val (.int to), .val (.int (0 : Int32))] []))
              refine own_back (fun t_ q_ => XS.goto X12.here hx rfl (pc0 := 122) (pc' := 191) rfl (hb hby at_122) (by decide) (by decide) q_) ?_
              show own_Gl _ _ _ _ (T12.setTop (mkF m 191 #[.val (.int vals), .val (.int bi), .val (.int sel), .val (.int f1), .val (.int tt1), .val (.int bb), .val (.ref b1), .val (.int fr), .val (.int to), .val (.int (0 : Int32))] []))
              exact tail10 (T12, 0) ⟨⟨_, X12, N12⟩, e12, by rw [own_exp, if_pos d0]⟩
        · skip
          by_cases hs3 : (sel &&& (8 : Int32)) = (0 : Int32)
          · skip
            refine own_back (fun t_ q_ => XS.ifYes X7.here hx rfl (pc0 := 73) (pc' := 81) rfl (hb hby at_73) rfl ((if0 _ _).trans (teq (hs3 : (sel &&& (8 : Int32)) = (0 : Int32))).1) (by decide) (by decide) q_) ?_
            show own_Gl _ _ _ _ (T7.setTop (mkF m 81 #[.val (.int vals), .val (.int bi), .val (.int sel), .val (.int f1), .val (.int tt1), .val (.int bb), .val (.ref b1), .unset, .unset, .unset] [(.int (3 : Int32)), (.ref b1)]))
            refine own_back (fun t_ q_ => XS.iloadN X7.here hx rfl (hb hby at_81) rfl q_) ?_
            show own_Gl _ _ _ _ (T7.setTop (mkF m 82 #[.val (.int vals), .val (.int bi), .val (.int sel), .val (.int f1), .val (.int tt1), .val (.int bb), .val (.ref b1), .unset, .unset, .unset] [(.int vals), (.int (3 : Int32)), (.ref b1)]))
            refine own_back (fun t_ q_ => XS.bipush X7.here hx rfl (hb hby at_82) q_) ?_
            show own_Gl _ _ _ _ (T7.setTop (mkF m 84 #[.val (.int vals), .val (.int bi), .val (.int sel), .val (.int f1), .val (.int tt1), .val (.int bb), .val (.ref b1), .unset, .unset, .unset] [(.int (24 : Int32)), (.int vals), (.int (3 : Int32)), (.ref b1)]))
            refine own_back (fun t_ q_ => XS.ishr X7.here hx rfl (hb hby at_84) rfl q_) ?_
            show own_Gl _ _ _ _ (T7.setTop (mkF m 85 #[.val (.int vals), .val (.int bi), .val (.int sel), .val (.int f1), .val (.int tt1), .val (.int bb), .val (.ref b1), .unset, .unset, .unset] [(.int (vals >>> ((24 : Int32) &&& 31))), (.int (3 : Int32)), (.ref b1)]))
            refine own_back (fun t_ q_ => XS.i2b X7.here hx rfl (hb hby at_85) rfl q_) ?_
            show own_Gl _ _ _ _ (T7.setTop (mkF m 86 #[.val (.int vals), .val (.int bi), .val (.int sel), .val (.int f1), .val (.int tt1), .val (.int bb), .val (.ref b1), .unset, .unset, .unset] [(.int ((vals >>> ((24 : Int32) &&& 31)).toInt8.toInt32)), (.int (3 : Int32)), (.ref b1)]))
            exact tail8 ((vals >>> ((24 : Int32) &&& 31)).toInt8.toInt32) (trivial)
          · skip
            refine own_back (fun t_ q_ => XS.ifNo X7.here hx rfl (hb hby at_73) rfl ((if0 _ _).trans (feq (hs3 : ¬ ((sel &&& (8 : Int32)) = (0 : Int32)))).1) q_) ?_
            show own_Gl _ _ _ _ (T7.setTop (mkF m 76 #[.val (.int vals), .val (.int bi), .val (.int sel), .val (.int f1), .val (.int tt1), .val (.int bb), .val (.ref b1), .unset, .unset, .unset] [(.int (3 : Int32)), (.ref b1)]))
            refine own_back (fun t_ q_ => XS.iload X7.here hx rfl (hb hby at_76) rfl q_) ?_
            show own_Gl _ _ _ _ (T7.setTop (mkF m 78 #[.val (.int vals), .val (.int bi), .val (.int sel), .val (.int f1), .val (.int tt1), .val (.int bb), .val (.ref b1), .unset, .unset, .unset] [(.int bb), (.int (3 : Int32)), (.ref b1)]))
            refine own_back (fun t_ q_ => XS.goto X7.here hx rfl (pc0 := 78) (pc' := 86) rfl (hb hby at_78) (by decide) (by decide) q_) ?_
            show own_Gl _ _ _ _ (T7.setTop (mkF m 86 #[.val (.int vals), .val (.int bi), .val (.int sel), .val (.int f1), .val (.int tt1), .val (.int bb), .val (.ref b1), .unset, .unset, .unset] [(.int bb), (.int (3 : Int32)), (.ref b1)]))
            exact tail8 bb (trivial)
      · skip
        by_cases hs2 : (sel &&& (4 : Int32)) = (0 : Int32)
        · skip
          refine own_back (fun t_ q_ => XS.ifYes X5.here hx rfl (pc0 := 52) (pc' := 60) rfl (hb hby at_52) rfl ((if0 _ _).trans (teq (hs2 : (sel &&& (4 : Int32)) = (0 : Int32))).1) (by decide) (by decide) q_) ?_
          show own_Gl _ _ _ _ (T5.setTop (mkF m 60 #[.val (.int vals), .val (.int bi), .val (.int sel), .val (.int f1), .val (.int tt1), .val (.int bb), .val (.ref b1), .unset, .unset, .unset] [(.int (2 : Int32)), (.ref b1)]))
          refine own_back (fun t_ q_ => XS.iloadN X5.here hx rfl (hb hby at_60) rfl q_) ?_
          show own_Gl _ _ _ _ (T5.setTop (mkF m 61 #[.val (.int vals), .val (.int bi), .val (.int sel), .val (.int f1), .val (.int tt1), .val (.int bb), .val (.ref b1), .unset, .unset, .unset] [(.int vals), (.int (2 : Int32)), (.ref b1)]))
          refine own_back (fun t_ q_ => XS.bipush X5.here hx rfl (hb hby at_61) q_) ?_
          show own_Gl _ _ _ _ (T5.setTop (mkF m 63 #[.val (.int vals), .val (.int bi), .val (.int sel), .val (.int f1), .val (.int tt1), .val (.int bb), .val (.ref b1), .unset, .unset, .unset] [(.int (16 : Int32)), (.int vals), (.int (2 : Int32)), (.ref b1)]))
          refine own_back (fun t_ q_ => XS.ishr X5.here hx rfl (hb hby at_63) rfl q_) ?_
          show own_Gl _ _ _ _ (T5.setTop (mkF m 64 #[.val (.int vals), .val (.int bi), .val (.int sel), .val (.int f1), .val (.int tt1), .val (.int bb), .val (.ref b1), .unset, .unset, .unset] [(.int (vals >>> ((16 : Int32) &&& 31))), (.int (2 : Int32)), (.ref b1)]))
          refine own_back (fun t_ q_ => XS.i2b X5.here hx rfl (hb hby at_64) rfl q_) ?_
          show own_Gl _ _ _ _ (T5.setTop (mkF m 65 #[.val (.int vals), .val (.int bi), .val (.int sel), .val (.int f1), .val (.int tt1), .val (.int bb), .val (.ref b1), .unset, .unset, .unset] [(.int ((vals >>> ((16 : Int32) &&& 31)).toInt8.toInt32)), (.int (2 : Int32)), (.ref b1)]))
          exact tail6 ((vals >>> ((16 : Int32) &&& 31)).toInt8.toInt32) (trivial)
        · skip
          refine own_back (fun t_ q_ => XS.ifNo X5.here hx rfl (hb hby at_52) rfl ((if0 _ _).trans (feq (hs2 : ¬ ((sel &&& (4 : Int32)) = (0 : Int32)))).1) q_) ?_
          show own_Gl _ _ _ _ (T5.setTop (mkF m 55 #[.val (.int vals), .val (.int bi), .val (.int sel), .val (.int f1), .val (.int tt1), .val (.int bb), .val (.ref b1), .unset, .unset, .unset] [(.int (2 : Int32)), (.ref b1)]))
          refine own_back (fun t_ q_ => XS.iload X5.here hx rfl (hb hby at_55) rfl q_) ?_
          show own_Gl _ _ _ _ (T5.setTop (mkF m 57 #[.val (.int vals), .val (.int bi), .val (.int sel), .val (.int f1), .val (.int tt1), .val (.int bb), .val (.ref b1), .unset, .unset, .unset] [(.int bb), (.int (2 : Int32)), (.ref b1)]))
          refine own_back (fun t_ q_ => XS.goto X5.here hx rfl (pc0 := 57) (pc' := 65) rfl (hb hby at_57) (by decide) (by decide) q_) ?_
          show own_Gl _ _ _ _ (T5.setTop (mkF m 65 #[.val (.int vals), .val (.int bi), .val (.int sel), .val (.int f1), .val (.int tt1), .val (.int bb), .val (.ref b1), .unset, .unset, .unset] [(.int bb), (.int (2 : Int32)), (.ref b1)]))
          exact tail6 bb (trivial)
    · skip
      by_cases hs1 : (sel &&& (2 : Int32)) = (0 : Int32)
      · skip
        refine own_back (fun t_ q_ => XS.ifYes X3.here hx rfl (pc0 := 32) (pc' := 40) rfl (hb hby at_32) rfl ((if0 _ _).trans (teq (hs1 : (sel &&& (2 : Int32)) = (0 : Int32))).1) (by decide) (by decide) q_) ?_
        show own_Gl _ _ _ _ (T3.setTop (mkF m 40 #[.val (.int vals), .val (.int bi), .val (.int sel), .val (.int f1), .val (.int tt1), .val (.int bb), .val (.ref b1), .unset, .unset, .unset] [(.int (1 : Int32)), (.ref b1)]))
        refine own_back (fun t_ q_ => XS.iloadN X3.here hx rfl (hb hby at_40) rfl q_) ?_
        show own_Gl _ _ _ _ (T3.setTop (mkF m 41 #[.val (.int vals), .val (.int bi), .val (.int sel), .val (.int f1), .val (.int tt1), .val (.int bb), .val (.ref b1), .unset, .unset, .unset] [(.int vals), (.int (1 : Int32)), (.ref b1)]))
        refine own_back (fun t_ q_ => XS.bipush X3.here hx rfl (hb hby at_41) q_) ?_
        show own_Gl _ _ _ _ (T3.setTop (mkF m 43 #[.val (.int vals), .val (.int bi), .val (.int sel), .val (.int f1), .val (.int tt1), .val (.int bb), .val (.ref b1), .unset, .unset, .unset] [(.int (8 : Int32)), (.int vals), (.int (1 : Int32)), (.ref b1)]))
        refine own_back (fun t_ q_ => XS.ishr X3.here hx rfl (hb hby at_43) rfl q_) ?_
        show own_Gl _ _ _ _ (T3.setTop (mkF m 44 #[.val (.int vals), .val (.int bi), .val (.int sel), .val (.int f1), .val (.int tt1), .val (.int bb), .val (.ref b1), .unset, .unset, .unset] [(.int (vals >>> ((8 : Int32) &&& 31))), (.int (1 : Int32)), (.ref b1)]))
        refine own_back (fun t_ q_ => XS.i2b X3.here hx rfl (hb hby at_44) rfl q_) ?_
        show own_Gl _ _ _ _ (T3.setTop (mkF m 45 #[.val (.int vals), .val (.int bi), .val (.int sel), .val (.int f1), .val (.int tt1), .val (.int bb), .val (.ref b1), .unset, .unset, .unset] [(.int ((vals >>> ((8 : Int32) &&& 31)).toInt8.toInt32)), (.int (1 : Int32)), (.ref b1)]))
        exact tail4 ((vals >>> ((8 : Int32) &&& 31)).toInt8.toInt32) (trivial)
      · skip
        refine own_back (fun t_ q_ => XS.ifNo X3.here hx rfl (hb hby at_32) rfl ((if0 _ _).trans (feq (hs1 : ¬ ((sel &&& (2 : Int32)) = (0 : Int32)))).1) q_) ?_
        show own_Gl _ _ _ _ (T3.setTop (mkF m 35 #[.val (.int vals), .val (.int bi), .val (.int sel), .val (.int f1), .val (.int tt1), .val (.int bb), .val (.ref b1), .unset, .unset, .unset] [(.int (1 : Int32)), (.ref b1)]))
        refine own_back (fun t_ q_ => XS.iload X3.here hx rfl (hb hby at_35) rfl q_) ?_
        show own_Gl _ _ _ _ (T3.setTop (mkF m 37 #[.val (.int vals), .val (.int bi), .val (.int sel), .val (.int f1), .val (.int tt1), .val (.int bb), .val (.ref b1), .unset, .unset, .unset] [(.int bb), (.int (1 : Int32)), (.ref b1)]))
        refine own_back (fun t_ q_ => XS.goto X3.here hx rfl (pc0 := 37) (pc' := 45) rfl (hb hby at_37) (by decide) (by decide) q_) ?_
        show own_Gl _ _ _ _ (T3.setTop (mkF m 45 #[.val (.int vals), .val (.int bi), .val (.int sel), .val (.int f1), .val (.int tt1), .val (.int bb), .val (.ref b1), .unset, .unset, .unset] [(.int bb), (.int (1 : Int32)), (.ref b1)]))
        exact tail4 bb (trivial)
  · skip
    by_cases hs0 : (sel &&& (1 : Int32)) = (0 : Int32)
    · skip
      refine own_back (fun t_ q_ => XS.ifYes X1.here hx rfl (pc0 := 15) (pc' := 23) rfl (hb hby at_15) rfl ((if0 _ _).trans (teq (hs0 : (sel &&& (1 : Int32)) = (0 : Int32))).1) (by decide) (by decide) q_) ?_
      show own_Gl _ _ _ _ (T1.setTop (mkF m 23 #[.val (.int vals), .val (.int bi), .val (.int sel), .val (.int f1), .val (.int tt1), .val (.int bb), .val (.ref b1), .unset, .unset, .unset] [(.int (0 : Int32)), (.ref b1)]))
      refine own_back (fun t_ q_ => XS.iloadN X1.here hx rfl (hb hby at_23) rfl q_) ?_
      show own_Gl _ _ _ _ (T1.setTop (mkF m 24 #[.val (.int vals), .val (.int bi), .val (.int sel), .val (.int f1), .val (.int tt1), .val (.int bb), .val (.ref b1), .unset, .unset, .unset] [(.int vals), (.int (0 : Int32)), (.ref b1)]))
      refine own_back (fun t_ q_ => XS.i2b X1.here hx rfl (hb hby at_24) rfl q_) ?_
      show own_Gl _ _ _ _ (T1.setTop (mkF m 25 #[.val (.int vals), .val (.int bi), .val (.int sel), .val (.int f1), .val (.int tt1), .val (.int bb), .val (.ref b1), .unset, .unset, .unset] [(.int (vals.toInt8.toInt32)), (.int (0 : Int32)), (.ref b1)]))
      exact tail2 (vals.toInt8.toInt32) (trivial)
    · skip
      refine own_back (fun t_ q_ => XS.ifNo X1.here hx rfl (hb hby at_15) rfl ((if0 _ _).trans (feq (hs0 : ¬ ((sel &&& (1 : Int32)) = (0 : Int32)))).1) q_) ?_
      show own_Gl _ _ _ _ (T1.setTop (mkF m 18 #[.val (.int vals), .val (.int bi), .val (.int sel), .val (.int f1), .val (.int tt1), .val (.int bb), .val (.ref b1), .unset, .unset, .unset] [(.int (0 : Int32)), (.ref b1)]))
      refine own_back (fun t_ q_ => XS.iload X1.here hx rfl (hb hby at_18) rfl q_) ?_
      show own_Gl _ _ _ _ (T1.setTop (mkF m 20 #[.val (.int vals), .val (.int bi), .val (.int sel), .val (.int f1), .val (.int tt1), .val (.int bb), .val (.ref b1), .unset, .unset, .unset] [(.int bb), (.int (0 : Int32)), (.ref b1)]))
      refine own_back (fun t_ q_ => XS.goto X1.here hx rfl (pc0 := 20) (pc' := 25) rfl (hb hby at_20) (by decide) (by decide) q_) ?_
      show own_Gl _ _ _ _ (T1.setTop (mkF m 25 #[.val (.int vals), .val (.int bi), .val (.int sel), .val (.int f1), .val (.int tt1), .val (.int bb), .val (.ref b1), .unset, .unset, .unset] [(.int bb), (.int (0 : Int32)), (.ref b1)]))
      exact tail2 bb (trivial)
set_option maxRecDepth 65536 in
set_option maxHeartbeats 40000000 in
theorem comes_1 {Post : Tables → Env → Array Value → State → Outcome → State → Prop} (hpost : ∀ tb e args s v u, (limb_1_1.after args s (.returned v) u = true ∧ limb_1_2.after args s (.returned v) u = true ∧ True) → FrameEnd s (.returned v) u (Jvm.fieldLocs frame_1_writes args s ++ Jvm.arrayLocs frame_1_arrays args s ++ Jvm.staticLocs frame_1_statics s) 16 128 → Post tb e args s (.returned v) u) :
    ArmFor flags0 classFile x code maxLocals ret World_1 tables_1 room_1 Calls_1 rest_1 Pre_1 Post := by
  intro l hfl _ _ p e ha hc hk s m args below hf hA hF happ hP
  obtain ⟨hcalls, hrest, hpre⟩ := hP
  obtain ⟨-, -, -, hnamed, -, -, -, hat⟩ := (Spec.applies_iff hf).mp happ
  obtain ⟨hg, hn⟩ := and_e (Cond.before_iff.mp (show (Jvm.Cond.and given_1 narrow_1).before args s = true from hpre))
  obtain ⟨h1, hg1⟩ := and_e hg
  obtain ⟨w0, w1, w2, w3, w4, rfl⟩ : ∃ w0 w1 w2 w3 w4 : Value, args = #[w0, w1, w2, w3, w4] := by
    have hs : args.size = 5 := by simpa [Cond.value, given_1] using h1
    obtain ⟨L⟩ := args
    match L, hs with
    | [w0, w1, w2, w3, w4], _ => exact ⟨w0, w1, w2, w3, w4, rfl⟩
  have hw := fun d (hd : d ∈ tables_1) => atoms_spec (ws := Jvm.Cond.code x code maxLocals ret :: tables_1) hat d (List.mem_cons_of_mem _ hd)
  obtain ⟨hk0, hg2⟩ := and_e hg1
  obtain ⟨i0, ei0⟩ := is_v hk0
  obtain rfl : w0 = (.int i0) := Option.some.inj ei0
  obtain ⟨hk1, hg3⟩ := and_e hg2
  obtain ⟨i1, ei1⟩ := is_v hk1
  obtain rfl : w1 = (.int i1) := Option.some.inj ei1
  obtain ⟨hk2, hg4⟩ := and_e hg3
  obtain ⟨i2, ei2⟩ := is_v hk2
  obtain rfl : w2 = (.int i2) := Option.some.inj ei2
  obtain ⟨hk3, hg5⟩ := and_e hg4
  obtain ⟨i3, ei3⟩ := is_v hk3
  obtain rfl : w3 = (.int i3) := Option.some.inj ei3
  obtain ⟨i4, ei4⟩ := is_v hg5
  obtain rfl : w4 = (.int i4) := Option.some.inj ei4
  obtain ⟨n, o, h1, h2, h3, _, L, rfl, ⟨rfl, N⟩, hq⟩ := rm0 l s _ hw tables_1 i0 i1 i2 i3 i4 s.heap s.heap.size (Nat.le_refl _) p e ha hc hk s m _ below hf ((Spec.applies_iff_loose hf).mp happ).1 ⟨rfl, State.Warmed39.refl s, rfl⟩ trivial
  refine ⟨n, _, h1, h2, h3, hpost _ _ _ _ _ _ ⟨Cond.after_iff.mpr rfl, Cond.after_iff.mpr (eq_i res_at (Term.int_eval (1)) rfl), trivial⟩ ⟨hq.1, hq.2.1, (hq.2.2.sift fun y hy => Or.inr (N y hy)).mono (by decide) (by decide)⟩⟩
theorem main_1_1 : Claimed_1_1 := comes_1 fun _ _ _ _ _ _ h hF => ⟨h.1, hF⟩
theorem main_1_2 : Claimed_1_2 := comes_1 fun _ _ _ _ _ _ h hF => ⟨h.2.1, hF⟩
end Jvm.Pilot.@@N@@
namespace Jvm.Pilot.@@N@@
open Jvm Jvm.ClassFile Sem Op Lib Jvm.Free Jvm.Stand Jvm.Pilot.@@N@@.Jvm.D
/-! MADE BY PROGRAM (witnessworld.py) out of the Statement's table words and the real class files: 9 classes; the members and pool entries that the words name. The judged class is class 1, her method 2. -/
namespace start1
open Jvm.ClassFile
def u (s : String) : CpInfo := .utf8 (stringToUtf16 s)
/-- a pool by its gaps: so many unusable entries, then the entry; so many at the end -/
def gap : Nat → List CpInfo → List CpInfo
  | 0, r => r
  | n + 1, r => .unusable :: gap n r
def poolList (es : List (Nat × CpInfo)) (last : Nat) : List CpInfo := es.foldr (fun e r => gap e.1 (e.2 :: r)) (gap last [])
def pool (es : List (Nat × CpInfo)) (last : Nat) : Array CpInfo := ⟨poolList es last⟩
def fileOf (pool : Array CpInfo) (this : Nat) (attrs : Array Attribute := #[]) (ms : Array MethodInfo := #[]) (fl : Nat := 33) (sup : Nat := 0) (ifs : Array Nat := #[]) (fds : Array FieldInfo := #[]) : ClassFile where
  minorVersion := 0
  majorVersion := 65
  constantPool := pool
  accessFlags := fl
  thisClass := this
  superClass := sup
  interfaces := ifs
  fields := fds
  methods := ms
  attributes := attrs
def plain (name : String) (sup : Option ClassId) : Class where
  name := name
  kind := .ordinary
  loader := none
  accessFlags := 33
  super := sup
  interfaces := #[]
  cf := none
  fields := #[]
  methods := #[]
  instanceTypes := #[]
  staticTypes := #[]
  resolved := #[]
  callSites := []
  init := .initialized
  statics := none
  mirror := none

def pool0 : Array CpInfo := pool [(5, u "<init>"), (0, u "()V"), (1, .class_ 10), (1, u "java/lang/Object")] 113

def k0m0 : Method := { name := "<init>", desc := "()V", sig := { parameters := [], returnType := none }, accessFlags := 1, code := none }
/-- java/lang/Object -/
def k0 : Class := { plain "java/lang/Object" none with
  accessFlags := 33
  interfaces := #[]
  cf := some (fileOf pool0 8 #[] #[{ accessFlags := 1, nameIndex := 5, descriptorIndex := 6, attributes := #[] }] 33 0 #[] #[])
  fields := #[]
  methods := #[k0m0]
  instanceTypes := #[]
  staticTypes := #[]
  resolved := Array.replicate 124 none
  statics := none }

def pool1 : Array CpInfo := pool [(2, .class_ 4), (1, u "java/lang/Object"), (0, u "<init>"), (0, u "()V"), (0, .integer 2147483647), (0, .methodref 9 10), (0, .class_ 11), (0, .nameAndType 12 13), (0, u "com/example/stream_sieve/streamsieve/io/BytesIndexOfPinLaw"), (0, u "hit"), (0, u "([BBIII)Z"), (0, .methodref 15 16), (0, .class_ 17), (0, .nameAndType 18 19), (0, u "com/example/stream_sieve/streamsieve/io/Bytes"), (0, u "indexOf"), (0, u "([BBII)I"), (3, u "law"), (0, u "(IIIII)Z")] 4

def k1m0 : Method := { name := "<init>", desc := "()V", sig := { parameters := [], returnType := none }, accessFlags := 1, code := none }
def k1c1 : Code := { maxStack := 2, maxLocals := 5, code := method_2_code, exceptionTable := #[], attributes := #[] }
def k1m1 : Method := { name := "hit", desc := "([BBIII)Z", sig := { parameters := [(.array .byte), .byte, .int, .int, .int], returnType := some .boolean }, accessFlags := 10, code := some k1c1 }
def k1c2 : Code := { maxStack := 5, maxLocals := 10, code := code, exceptionTable := #[], attributes := #[] }
def k1m2 : Method := { name := "law", desc := "(IIIII)Z", sig := { parameters := [.int, .int, .int, .int, .int], returnType := some .boolean }, accessFlags := 9, code := some k1c2 }
/-- com/example/stream_sieve/streamsieve/io/BytesIndexOfPinLaw -/
def k1 : Class := { plain "com/example/stream_sieve/streamsieve/io/BytesIndexOfPinLaw" (some 0) with
  accessFlags := 49
  interfaces := #[]
  cf := some (fileOf pool1 9 #[] #[{ accessFlags := 1, nameIndex := 5, descriptorIndex := 6, attributes := #[] }, { accessFlags := 10, nameIndex := 12, descriptorIndex := 13, attributes := #[] }, { accessFlags := 9, nameIndex := 23, descriptorIndex := 24, attributes := #[] }] 49 2 #[] #[])
  fields := #[]
  methods := #[k1m0, k1m1, k1m2]
  instanceTypes := #[]
  staticTypes := #[]
  resolved := Array.replicate 29 none
  statics := none }

def pool2 : Array CpInfo := pool [(2, .class_ 4), (1, u "java/lang/Object"), (0, u "<init>"), (0, u "()V"), (0, .class_ 8), (0, u "com/example/stream_sieve/streamsieve/io/Bytes"), (2, u "indexOf"), (0, u "([BBII)I")] 3

def k2m0 : Method := { name := "<init>", desc := "()V", sig := { parameters := [], returnType := none }, accessFlags := 2, code := none }
def k2c1 : Code := { maxStack := 2, maxLocals := 5, code := prog_69_method_2_code, exceptionTable := #[], attributes := #[] }
def k2m1 : Method := { name := "indexOf", desc := "([BBII)I", sig := { parameters := [(.array .byte), .byte, .int, .int], returnType := some .int }, accessFlags := 8, code := some k2c1 }
/-- com/example/stream_sieve/streamsieve/io/Bytes -/
def k2 : Class := { plain "com/example/stream_sieve/streamsieve/io/Bytes" (some 0) with
  accessFlags := 48
  interfaces := #[]
  cf := some (fileOf pool2 7 #[] #[{ accessFlags := 2, nameIndex := 5, descriptorIndex := 6, attributes := #[] }, { accessFlags := 8, nameIndex := 11, descriptorIndex := 12, attributes := #[] }] 48 2 #[] #[])
  fields := #[]
  methods := #[k2m0, k2m1]
  instanceTypes := #[]
  staticTypes := #[]
  resolved := Array.replicate 16 none
  statics := none }

def pool3 : Array CpInfo := pool [(1, u "java/lang/Cloneable"), (0, .class_ 1), (0, u "java/lang/Object"), (0, .class_ 3)] 3

/-- java/lang/Cloneable -/
def k3 : Class := { plain "java/lang/Cloneable" (some 0) with
  accessFlags := 1537
  interfaces := #[]
  cf := some (fileOf pool3 2 #[] #[] 1537 4 #[] #[])
  fields := #[]
  methods := #[]
  instanceTypes := #[]
  staticTypes := #[]
  resolved := Array.replicate 8 none
  statics := none }

def pool4 : Array CpInfo := pool [(1, u "java/io/Serializable"), (0, .class_ 1), (0, u "java/lang/Object"), (0, .class_ 3)] 3

/-- java/io/Serializable -/
def k4 : Class := { plain "java/io/Serializable" (some 0) with
  accessFlags := 1537
  interfaces := #[]
  cf := some (fileOf pool4 2 #[] #[] 1537 4 #[] #[])
  fields := #[]
  methods := #[]
  instanceTypes := #[]
  staticTypes := #[]
  resolved := Array.replicate 8 none
  statics := none }

/-- the primitive byte -/
def k5 : Class := { plain "byte" none with kind := .primitive 'B', accessFlags := 0x411 }
/-- [B -/
def k6 : Class := { plain "[B" (some 0) with kind := .array 5 .byte, interfaces := #[3, 4], accessFlags := 1041 }

/-- the primitive int -/
def k7 : Class := { plain "int" none with kind := .primitive 'I', accessFlags := 0x411 }
/-- [I -/
def k8 : Class := { plain "[I" (some 0) with kind := .array 7 .int, interfaces := #[3, 4], accessFlags := 1041 }

def heap : Heap := #[]
def classes : Array Class := #[k0, k1, k2, k3, k4, k5, k6, k7, k8]
def interned : List (Array UInt16 × Addr) := []
def slotsUsed : Nat := 0
def theMethod : MethodId := ⟨1, 2⟩
def args0 : Array Value := #[.int 5, .int 7, .int 9, .int 0, .int 4]
def aboutOver (below : List Frame) : State where
  vm := { classes := classes, interned := interned.toArray }
  heap := heap
  slotsUsed := slotsUsed
  threads := #[{ frames := .invoking theMethod args0 :: below }]
def below0 : List Frame := [.native { method := ⟨0, 0⟩, args := #[] }]
def about1 : State := aboutOver below0
def p0 : Program := .bare "" "" ""
def e0 : Env := launch0.env 0 0 0
theorem w_frames : about1.frames = Frame.invoking theMethod args0 :: below0 := rfl
set_option maxRecDepth 65536 in
theorem w_args : argsFit about1.vm theMethod args0 = true := by decide +kernel
set_option maxRecDepth 65536 in
theorem w_heap : heapFits about1 = true := by decide +kernel
set_option maxRecDepth 65536 in
theorem w_runnable : about1.curStatus? = some .runnable := by decide +kernel
set_option maxRecDepth 65536 in
theorem w_alone : about1.alone = true := by decide +kernel
set_option maxRecDepth 65536 in
theorem w_named : about1.methodNamed? x = some theMethod := by decide +kernel
set_option maxRecDepth 65536 in
theorem w_hears : about1.hears theMethod below0 = true := by decide +kernel
set_option maxRecDepth 65536 in
theorem w_ripe : about1.ripe theMethod args0 below0 = true := by decide +kernel
theorem w_running : about1.status = .running := rfl
set_option maxRecDepth 65536 in
theorem w_room : about1.hasRoom e0.platform room_1 = true :=
  launch0.hasRoom_least _ room_1 (by decide +kernel) (by decide +kernel) (by decide +kernel) (by decide +kernel) (by decide +kernel) (by decide +kernel)
theorem allAtoms_all (ts : List Jvm.Cond) (a : Array Jvm.Value) (st : Jvm.State) : (allAtoms ts).before a st = ts.all (fun c => c.before a st) := by
  induction ts with
  | nil => rfl
  | cons c t ih =>
    show (Jvm.Cond.and c (allAtoms t)).before a st = _
    rw [Jvm.Cond.before_and, ih, List.all_cons]
def words1 : List Jvm.Cond := Jvm.Cond.code x code maxLocals ret :: tables_1
/-- a 'code' word, met by the world's own term for the bytes: nothing is compared byte by byte -/
theorem code_word {y : MethodName} {bytes : ByteArray} {mx : Nat} {rt : Option FieldType} {a : Array Value} {s : State} {m : MethodId} {meth : Method} {c : Code} (h1 : s.methodNamed? y = some m) (h2 : s.vm.method? m = some meth) (h3 : meth.code = some c) (h4 : c.code = bytes)
    (h5 : (c.maxLocals == mx && c.exceptionTable.isEmpty && decide (c.maxStack ≤ mostOperands) && decide (meth.sig.returnType = rt) && !meth.locks && decide (parseMethodDescriptor y.desc = some meth.sig)) = true) : (Jvm.Cond.code y bytes mx rt).before a s = true := by
  simp only [Bool.and_eq_true, beq_iff_eq, Bool.not_eq_true', decide_eq_true_eq] at h5
  obtain ⟨⟨⟨⟨⟨g1, g2⟩, g3⟩, g4⟩, g5⟩, g6⟩ := h5
  simp [Cond.before, Cond.holds, Cond.value, h1, h2, h3, h4, g1, g2, g3, g4, g5, g6]
def isCode : Jvm.Cond → Bool
  | .code _ _ _ _ => true
  | _ => false
theorem all_split {L : List Jvm.Cond} {P : Jvm.Cond → Bool} (h1 : L.all (fun c => isCode c || P c) = true) (h2 : ∀ c ∈ L.filter isCode, P c = true) : L.all P = true := by
  refine List.all_eq_true.mpr fun c hc => ?_
  have h := List.all_eq_true.mp h1 c hc
  rcases Bool.eq_false_or_eq_true (isCode c) with hi | hi
  · exact h2 c (List.mem_filter.mpr ⟨hc, hi⟩)
  · simpa [hi] using h
set_option maxRecDepth 65536 in
theorem w_c0 : (Jvm.Cond.code x code maxLocals ret).before args0 about1 = true := code_word (m := ⟨1, 2⟩) (meth := k1m2) (c := k1c2) (by decide +kernel) rfl rfl rfl (by decide +kernel)
set_option maxRecDepth 65536 in
theorem w_c1 : (Jvm.Cond.code ({ cls := "com/example/stream_sieve/streamsieve/io/BytesIndexOfPinLaw", name := "hit", desc := "([BBIII)Z" } : Jvm.MethodName) method_2_code (5 : Nat) (Option.some Jvm.ClassFile.FieldType.boolean)).before args0 about1 = true := code_word (m := ⟨1, 1⟩) (meth := k1m1) (c := k1c1) (by decide +kernel) rfl rfl rfl (by decide +kernel)
set_option maxRecDepth 65536 in
theorem w_c2 : (Jvm.Cond.code ({ cls := "com/example/stream_sieve/streamsieve/io/Bytes", name := "indexOf", desc := "([BBII)I" } : Jvm.MethodName) prog_69_method_2_code (5 : Nat) (Option.some Jvm.ClassFile.FieldType.int)).before args0 about1 = true := code_word (m := ⟨2, 1⟩) (meth := k2m1) (c := k2c1) (by decide +kernel) rfl rfl rfl (by decide +kernel)
def codes1 : List Jvm.Cond := [Jvm.Cond.code x code maxLocals ret, Jvm.Cond.code ({ cls := "com/example/stream_sieve/streamsieve/io/BytesIndexOfPinLaw", name := "hit", desc := "([BBIII)Z" } : Jvm.MethodName) method_2_code (5 : Nat) (Option.some Jvm.ClassFile.FieldType.boolean), Jvm.Cond.code ({ cls := "com/example/stream_sieve/streamsieve/io/Bytes", name := "indexOf", desc := "([BBII)I" } : Jvm.MethodName) prog_69_method_2_code (5 : Nat) (Option.some Jvm.ClassFile.FieldType.int)]
set_option maxRecDepth 65536 in
theorem codes_eq : words1.filter isCode = codes1 := rfl
theorem w_codes : ∀ c ∈ words1.filter isCode, c.before args0 about1 = true := by
  rw [codes_eq]
  intro c hc
  simp only [codes1, List.mem_cons, List.not_mem_nil, or_false] at hc
  rcases hc with rfl | rfl | rfl
  · exact w_c0
  · exact w_c1
  · exact w_c2
set_option maxRecDepth 65536 in
theorem w_t1 : words1.all (fun c => isCode c || c.before args0 about1) = true := by decide +kernel
theorem w_tables : (allAtoms (Jvm.Cond.code x code maxLocals ret :: tables_1)).before args0 about1 = true := by
  rw [allAtoms_all]
  show words1.all (fun c => c.before args0 about1) = true
  refine all_split ?_ w_codes
  rw [w_t1]
set_option maxRecDepth 65536 in
theorem w_case : (Jvm.Cond.and given_1 narrow_1).before args0 about1 = true := by decide +kernel
theorem w_applies : (headSpec (Jvm.Cond.code x code maxLocals ret :: tables_1) room_1).applies x e0.platform about1 = true :=
  (Spec.applies_iff w_frames).mpr ⟨w_running, w_runnable, w_alone, w_named, w_hears, w_ripe, w_room, w_tables⟩
theorem atStart : AtStart classFile x code maxLocals ret World_1 tables_1 room_1 Calls_1 rest_1 Pre_1 launch0 p0 e0 about1 theMethod args0 below0 :=
  ⟨lists_1, trivial, launch0.admits_env _ _ _, launch0.least_env, fairChoices_fair.cas, fairChoices_fair.clock, w_frames, w_args, w_heap, w_applies, trivial, trivial, w_case⟩
end start1
theorem witness_1 : WitnessClaimed_1 := ⟨start1.p0, start1.e0, start1.about1, start1.theMethod, start1.args0, start1.below0, start1.atStart⟩
end Jvm.Pilot.@@N@@
