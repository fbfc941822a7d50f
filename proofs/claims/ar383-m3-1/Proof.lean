import JvmDerived
import JvmDerived.Pilot.@@N@@Statement
import JvmDerived.Pilot.@@N@@Code
set_option linter.unusedVariables false
set_option linter.unusedSimpArgs false
namespace Jvm.RoadKit
open Sem ClassFile Op Lib Jvm.Stand Jvm.Free Jvm.LawKit
section New
variable {p : Program} {l : Launch} {e : Env} {R : Room} {s : State} {m : MethodId} {args : Array Value} {below : List Frame} {meth : Method} {c : Code} {T : State} {locs : List Loc} {cells slots : Nat}
theorem retI (X : Stand p l e R s m args below meth c T locs cells slots) (hx : p.tables.exec = Jvm.exec) {pc : Nat} {Ls : Array Slot} {z : Int32} {rest : List Value} (hret : meth.sig.returnType = some .int) (hd : decode c.code pc = .ok (.ireturn, 1)) {fs : List Frame}
    (hl : ∀ (f : JFrame) (acts : List Action), f.method = m → f.locked = none → f.entered = [] → (doReturn e (T.setTop f) acts (some (.int z))).1 = T.setFrames fs) : Steps p.tables e below (T.setTop (mkF m pc Ls (.int z :: rest))) (T.setFrames fs) := by
  have hm' : T.vm.method? m = some meth := X.method'
  have hn : narrow .int (.int z) = .int z := rfl
  show Steps p.tables e below (T.setTop { method := m, pc := pc, locals := Ls, stack := _ :: rest, locked := none }) _
  jvm_step X.here [X.here.top, hx, hd, hm', hret, hn]
  first | (intro acts; rw [hl _ acts rfl rfl rfl]) | rw [hl _ _ rfl rfl rfl]
  exact Steps.refl _
end New
end Jvm.RoadKit
namespace Jvm.Pilot.@@N@@
open Jvm Jvm.ClassFile Sem Op Lib Jvm.Free Jvm.Stand Jvm.LawKit Jvm.RoadKit Bundle Jvm.Pilot.@@N@@.Jvm.D
/-! the walk's own form: from the state S the run ends in a return that P speaks of -/
def own_Gl (tb : Tables) (e : Env) (below : List Frame) (P : Outcome → State → Prop) (S : State) : Prop := ∃ s₂ o, Steps tb e below S s₂ ∧ s₂.status = .running ∧ Ended s₂ below o ∧ P o s₂
def own_P (s : State) (Q : Option Value → Heap → List Loc → Prop) (C N : Nat) (o : Outcome) (u : State) : Prop := ∃ v L, o = .returned v ∧ Q v u.heap L ∧ FrameEnd s o u L C N
theorem own_back {tb : Tables} {e : Env} {below : List Frame} {P : Outcome → State → Prop} {S S' : State} (k : ∀ t, Steps tb e below S' t → Steps tb e below S t) (h : own_Gl tb e below P S') : own_Gl tb e below P S := by
  obtain ⟨s₂, o, h1, h2⟩ := h
  exact ⟨s₂, o, k _ h1, h2⟩
theorem own_trans {tb : Tables} {e : Env} {below : List Frame} {P : Outcome → State → Prop} {S S' : State} (k : Steps tb e below S S') (h : own_Gl tb e below P S') : own_Gl tb e below P S := own_back (fun _ q => k.trans q) h
theorem own_join {tb : Tables} {e : Env} {below : List Frame} {P : Outcome → State → Prop} {S : State} {α : Type} (F : α → State) (C : α → Prop) (tail : ∀ i, C i → own_Gl tb e below P (F i)) (main : (∀ i, C i → own_Gl tb e below P (F i)) → own_Gl tb e below P S) : own_Gl tb e below P S := main tail
section OwnRet
variable {p : Program} {l : Launch} {e : Env} {R : Room} {s : State} {m : MethodId} {args : Array Value} {below : List Frame} {meth : Method} {c : Code} {T : State} {locs : List Loc} {cells slots : Nat}
theorem own_start {C N : Nat} {Q : Option Value → Heap → List Loc → Prop} {g g' : JFrame} (q : g = g') (h : own_Gl p.tables e below (own_P s Q C N) (T.setTop g')) :
    ∃ s₂ o, Steps p.tables e below (T.setTop g) s₂ ∧ s₂.status = .running ∧ Ended s₂ below o ∧ ∃ v L, o = .returned v ∧ Q v s₂.heap L ∧ FrameEnd s o s₂ L C N := by
  subst q; exact h
theorem own_ret (X : Stand p l e R s m args below meth c T locs cells slots) (hlk : meth.locks = false) {v : Option Value} {C N : Nat} {Q : Option Value → Heap → List Loc → Prop} {g : JFrame} (hv : meth.sig.returnType = none → v = none) (hq : Q v T.heap locs) (hc : cells ≤ C) (hn : slots ≤ N)
    (st : ∀ fs, (∀ (f : JFrame) (acts : List Action), f.method = m → f.locked = none → f.entered = [] → (doReturn e (T.setTop f) acts v).1 = T.setFrames fs) → Steps p.tables e below (T.setTop g) (T.setFrames fs)) : own_Gl p.tables e below (own_P s Q C N) (T.setTop g) := by
  obtain ⟨fs, hr, hrun, hended, hW, hsame⟩ := X.leave (v := v) hv hlk
  exact ⟨_, _, st fs hr, hrun, hended, _, _, rfl, hq, ⟨_, rfl⟩, hW, hsame.mono hc hn⟩
theorem own_rZ (X : Stand p l e R s m args below meth c T locs cells slots) (hx : p.tables.exec = Jvm.exec) (hlk : meth.locks = false) (hret : meth.sig.returnType = some .boolean) {z z' : Int32} {C N pc : Nat} {Ls : Array Slot} {rest : List Value} {Q : Option Value → Heap → List Loc → Prop} (hd : decode c.code pc = .ok (.ireturn, 1)) (hz : z &&& 1 = z') (hq : Q (some (.int z')) T.heap locs) (hc : cells ≤ C) (hn : slots ≤ N) :
    own_Gl p.tables e below (own_P s Q C N) (T.setTop (mkF m pc Ls (.int z :: rest))) := by
  subst hz
  exact own_ret X hlk (fun h => by rw [hret] at h; cases h) hq hc hn (fun fs hr => retN X hx (t := .boolean) hret (by simp) hd hr)
theorem own_rC (X : Stand p l e R s m args below meth c T locs cells slots) (hx : p.tables.exec = Jvm.exec) (hlk : meth.locks = false) (hret : meth.sig.returnType = some .char) {z z' : Int32} {C N pc : Nat} {Ls : Array Slot} {rest : List Value} {Q : Option Value → Heap → List Loc → Prop} (hd : decode c.code pc = .ok (.ireturn, 1)) (hz : nar .char z = z') (hq : Q (some (.int z')) T.heap locs) (hc : cells ≤ C) (hn : slots ≤ N) :
    own_Gl p.tables e below (own_P s Q C N) (T.setTop (mkF m pc Ls (.int z :: rest))) := by
  subst hz
  exact own_ret X hlk (fun h => by rw [hret] at h; cases h) hq hc hn (fun fs hr => retN X hx (t := .char) hret (by simp) hd hr)
theorem own_rI (X : Stand p l e R s m args below meth c T locs cells slots) (hx : p.tables.exec = Jvm.exec) (hlk : meth.locks = false) (hret : meth.sig.returnType = some .int) {z : Int32} {C N pc : Nat} {Ls : Array Slot} {rest : List Value} {Q : Option Value → Heap → List Loc → Prop} (hd : decode c.code pc = .ok (.ireturn, 1)) (hq : Q (some (.int z)) T.heap locs) (hc : cells ≤ C) (hn : slots ≤ N) :
    own_Gl p.tables e below (own_P s Q C N) (T.setTop (mkF m pc Ls (.int z :: rest))) :=
  own_ret X hlk (fun h => by rw [hret] at h; cases h) hq hc hn (fun fs hr => retI X hx hret hd hr)
theorem own_rJ (X : Stand p l e R s m args below meth c T locs cells slots) (hx : p.tables.exec = Jvm.exec) (hlk : meth.locks = false) (hret : meth.sig.returnType = some .long) {z : Int64} {C N pc : Nat} {Ls : Array Slot} {rest : List Value} {Q : Option Value → Heap → List Loc → Prop} (hd : decode c.code pc = .ok (.lreturn, 1)) (hq : Q (some (.long z)) T.heap locs) (hc : cells ≤ C) (hn : slots ≤ N) :
    own_Gl p.tables e below (own_P s Q C N) (T.setTop (mkF m pc Ls (.long z :: rest))) :=
  own_ret X hlk (fun h => by rw [hret] at h; cases h) hq hc hn (fun fs hr => retOut X hx hret rfl (Or.inr (Or.inl ⟨rfl, rfl, _, rfl⟩)) hd hr)
theorem own_rA (X : Stand p l e R s m args below meth c T locs cells slots) (hx : p.tables.exec = Jvm.exec) (hlk : meth.locks = false) {t : FieldType} (hret : meth.sig.returnType = some t) (ht : t.isReference = true) {z : Value} (hz : z.isRef = true) (hnz : narrow t z = z) {C N pc : Nat} {Ls : Array Slot} {rest : List Value} {Q : Option Value → Heap → List Loc → Prop} (hd : decode c.code pc = .ok (.areturn, 1)) (hq : Q (some z) T.heap locs) (hc : cells ≤ C) (hn : slots ≤ N) :
    own_Gl p.tables e below (own_P s Q C N) (T.setTop (mkF m pc Ls (z :: rest))) :=
  own_ret X hlk (fun h => by rw [hret] at h; cases h) hq hc hn (fun fs hr => retOut X hx hret hnz (Or.inr (Or.inr (Or.inr (Or.inr ⟨rfl, ht, hz⟩)))) hd hr)
theorem own_rV (X : Stand p l e R s m args below meth c T locs cells slots) (hx : p.tables.exec = Jvm.exec) (hlk : meth.locks = false) (hret : meth.sig.returnType = none) {C N pc : Nat} {Ls : Array Slot} {Q : Option Value → Heap → List Loc → Prop} (hd : decode c.code pc = .ok (.return_, 1)) (hq : Q none T.heap locs) (hc : cells ≤ C) (hn : slots ≤ N) :
    own_Gl p.tables e below (own_P s Q C N) (T.setTop (mkF m pc Ls [])) :=
  own_ret X hlk (fun _ => rfl) hq hc hn (fun fs hr => X.returnOut hx hret hd hr)
end OwnRet
/-! a comparison made a number: branch over; iconst_1; goto; iconst_0 -/
theorem own_bi {tb : Tables} [Ours tb] {e : Env} {below : List Frame} {P : Outcome → State → Prop} {T : State} {m : MethodId} {c : Code} (h : At T m c below) (hx : tb.exec = Jvm.exec) {cd : ClassFile.Cond} {x y : Int32} {Ls : Array Slot} {rest : List Value} (pc pc1 pc2 pc3 pc4 : Nat)
    (d0 : decode c.code pc = .ok (.if_icmp cd 7, 3)) (d1 : decode c.code pc1 = .ok (.iconst 1, 1)) (d2 : decode c.code pc2 = .ok (.goto 4, 3)) (d3 : decode c.code pc3 = .ok (.iconst 0, 1)) (q1 : pc1 = pc + 3) (q2 : pc2 = pc + 4) (q3 : pc3 = pc + 7) (q4 : pc4 = pc + 8)
    (k : own_Gl tb e below P (T.setTop (mkF m pc4 Ls (.int (if if_icmp.holds cd x y = true then 0 else 1) :: rest)))) : own_Gl tb e below P (T.setTop (mkF m pc Ls (.int y :: .int x :: rest))) := by
  subst q1 q2 q3 q4
  cases hc : if_icmp.holds cd x y
  · rw [hc] at k
    refine own_back (fun t q => XS.icmpNo h hx rfl d0 rfl hc q) ?_
    refine own_back (fun t q => XS.iconst h hx rfl d1 q) ?_
    refine own_back (fun t q => XS.goto h hx rfl (pc0 := pc + 4) (pc' := pc + 8) rfl d2 (by omega) (by omega) q) ?_
    exact k
  · rw [hc] at k
    refine own_back (fun t q => XS.icmpYes h hx rfl (pc0 := pc) (pc' := pc + 7) rfl d0 rfl hc (by omega) (by omega) q) ?_
    refine own_back (fun t q => XS.iconst h hx rfl d3 q) ?_
    exact k
theorem own_bz {tb : Tables} [Ours tb] {e : Env} {below : List Frame} {P : Outcome → State → Prop} {T : State} {m : MethodId} {c : Code} (h : At T m c below) (hx : tb.exec = Jvm.exec) {cd : ClassFile.Cond} {x : Int32} {Ls : Array Slot} {rest : List Value} (pc pc1 pc2 pc3 pc4 : Nat)
    (d0 : decode c.code pc = .ok (.ifCond cd 7, 3)) (d1 : decode c.code pc1 = .ok (.iconst 1, 1)) (d2 : decode c.code pc2 = .ok (.goto 4, 3)) (d3 : decode c.code pc3 = .ok (.iconst 0, 1)) (q1 : pc1 = pc + 3) (q2 : pc2 = pc + 4) (q3 : pc3 = pc + 7) (q4 : pc4 = pc + 8)
    (k : own_Gl tb e below P (T.setTop (mkF m pc4 Ls (.int (if if_icmp.holds cd x 0 = true then 0 else 1) :: rest)))) : own_Gl tb e below P (T.setTop (mkF m pc Ls (.int x :: rest))) := by
  subst q1 q2 q3 q4
  cases hc : if_icmp.holds cd x 0
  · rw [hc] at k
    refine own_back (fun t q => XS.ifNo h hx rfl d0 rfl ((if0 _ _).trans hc) q) ?_
    refine own_back (fun t q => XS.iconst h hx rfl d1 q) ?_
    refine own_back (fun t q => XS.goto h hx rfl (pc0 := pc + 4) (pc' := pc + 8) rfl d2 (by omega) (by omega) q) ?_
    exact k
  · rw [hc] at k
    refine own_back (fun t q => XS.ifYes h hx rfl (pc0 := pc) (pc' := pc + 7) rfl d0 rfl ((if0 _ _).trans hc) (by omega) (by omega) q) ?_
    refine own_back (fun t q => XS.iconst h hx rfl d3 q) ?_
    exact k
theorem own_one {z : Int32} (h : z = 1) : z &&& 1 = 1 := by subst h; decide
theorem own_zero {z : Int32} (h : z = 0) : z &&& 1 = 0 := by subst h; decide
theorem own_div (n b : Int) (hn : 0 ≤ n) (hb : 1 ≤ b) : (n % b = 0 → (n + b - 1) / b = n / b) ∧ (¬ n % b = 0 → (n + b - 1) / b = n / b + 1) := by
  have e := Int.emod_add_mul_ediv n b
  have r0 := Int.emod_nonneg n (show b ≠ 0 by omega)
  have r1 := Int.emod_lt_of_pos n (show 0 < b by omega)
  generalize n % b = r at *
  generalize n / b = q at *
  constructor
  · intro h
    have e2 : n + b - 1 = (b - 1) + b * q := by omega
    rw [e2, Int.add_mul_ediv_left _ _ (by omega), Int.ediv_eq_zero_of_lt (by omega) (by omega)]; omega
  · intro h
    have e2 : n + b - 1 = (r - 1) + b * (q + 1) := by rw [Int.mul_add]; omega
    rw [e2, Int.add_mul_ediv_left _ _ (by omega), Int.ediv_eq_zero_of_lt (by omega) (by omega)]; omega
theorem own_law (y : Int64) (b : Int32) (h0 : 0 ≤ y.toInt) (h1 : y.toInt < 1152921504606846976) (h2 : 1 ≤ b.toInt) :
    (y - (y / b.toInt64) * b.toInt64 = 0 → (y + b.toInt64 - 1) / b.toInt64 = y / b.toInt64) ∧ (¬ y - (y / b.toInt64) * b.toInt64 = 0 → (y + b.toInt64 - 1) / b.toInt64 = y / b.toInt64 + 1) := by
  have hb := c_i2l b
  have hr := rng32 b
  have hne : b.toInt64 ≠ -1 := fun q => by rw [q] at hb; have : (-1 : Int64).toInt = -1 := by decide
                                           omega
  have e1 := (c_ldiv y b.toInt64 b.toInt hb hne).1 h0
  have e2 := (c_lrem y b.toInt64 b.toInt hb).1 h0
  have e3 := c_ladd y b.toInt64
  have e4 := c_lsub (y + b.toInt64) 1
  have r3 := rng64 (y + b.toInt64)
  have r4 := rng64 (y + b.toInt64 - 1)
  have o1 : (1 : Int64).toInt = 1 := by decide
  have e5 : (y + b.toInt64 - 1).toInt = y.toInt + b.toInt - 1 := by rw [o1] at e4; omega
  have e6 := (c_ldiv (y + b.toInt64 - 1) b.toInt64 b.toInt hb hne).1 (by omega)
  rw [e5] at e6
  have key := own_div y.toInt b.toInt h0 h2
  have z0 : (0 : Int64).toInt = 0 := by decide
  constructor
  · intro q
    rw [← Int64.toInt_inj, e2, z0] at q
    rw [← Int64.toInt_inj, e6, e1]
    exact key.1 q
  · intro q
    have q' : ¬ y.toInt % b.toInt = 0 := fun w => q (by rw [← Int64.toInt_inj, e2, z0]; exact w)
    have e7 := c_ladd (y / b.toInt64) 1
    have r7 := rng64 (y / b.toInt64 + 1)
    rw [← Int64.toInt_inj, e6, key.2 q']
    have b1 : 0 ≤ y.toInt / b.toInt := Int.ediv_nonneg h0 (by omega)
    have b2 : y.toInt / b.toInt ≤ y.toInt := Int.ediv_le_self _ h0
    rw [e1, o1] at e7
    omega
theorem own_nz (b : Int32) (h : 1 ≤ b.toInt) : b.toInt64 ≠ 0 := fun q => by
  have hb := c_i2l b
  rw [q] at hb
  have z0 : (0 : Int64).toInt = 0 := by decide
  omega
theorem own_c1 (a : Int64) (b : Int32) : (0 ≤ (a &&& (65535 : Int64)).toInt ∧ (a &&& (65535 : Int64)).toInt < 1152921504606846976) ∧ 1 ≤ ((b &&& (255 : Int32)) + (1 : Int32)).toInt := by
  have e1 := c_maskL a 65535 16 (by decide) (by decide)
  have e2 := c_mask b 255 8 (by decide) (by decide)
  have e3 := c_iadd (b &&& 255) 1
  have o1 : (1 : Int32).toInt = 1 := by decide
  have r3 := rng32 ((b &&& 255) + 1)
  rw [o1] at e3
  omega
theorem own_c2 (a : Int64) (b : Int32) : (0 ≤ (a &&& (1152921504606846975 : Int64)).toInt ∧ (a &&& (1152921504606846975 : Int64)).toInt < 1152921504606846976) ∧ 1 ≤ (((b &&& (2147483647 : Int32)) % (2147483647 : Int32)) + (1 : Int32)).toInt := by
  have e1 := c_maskL a 1152921504606846975 60 (by decide) (by decide)
  have e2 := c_mask b 2147483647 31 (by decide) (by decide)
  have e4 := (c_irem (b &&& 2147483647) 2147483647 2147483647 (by decide)).1 (by omega)
  have e3 := c_iadd ((b &&& 2147483647) % 2147483647) 1
  have o1 : (1 : Int32).toInt = 1 := by decide
  have r3 := rng32 (((b &&& 2147483647) % 2147483647) + 1)
  rw [o1] at e3
  omega
theorem d1_0 : decode prog_50_method_4_code 0 = .ok (.lload_n 0, 1) := by decide +kernel
theorem d1_1 : decode prog_50_method_4_code 1 = .ok (.iload_n 2, 1) := by decide +kernel
theorem d1_2 : decode prog_50_method_4_code 2 = .ok (.i2l, 1) := by decide +kernel
theorem d1_3 : decode prog_50_method_4_code 3 = .ok (.ladd, 1) := by decide +kernel
theorem d1_4 : decode prog_50_method_4_code 4 = .ok (.lconst 1, 1) := by decide +kernel
theorem d1_5 : decode prog_50_method_4_code 5 = .ok (.lsub, 1) := by decide +kernel
theorem d1_6 : decode prog_50_method_4_code 6 = .ok (.iload_n 2, 1) := by decide +kernel
theorem d1_7 : decode prog_50_method_4_code 7 = .ok (.i2l, 1) := by decide +kernel
theorem d1_8 : decode prog_50_method_4_code 8 = .ok (.ldiv, 1) := by decide +kernel
theorem d1_9 : decode prog_50_method_4_code 9 = .ok (.lstore_n 3, 1) := by decide +kernel
theorem d1_10 : decode prog_50_method_4_code 10 = .ok (.lload_n 0, 1) := by decide +kernel
theorem d1_11 : decode prog_50_method_4_code 11 = .ok (.lload_n 3, 1) := by decide +kernel
theorem d1_12 : decode prog_50_method_4_code 12 = .ok (.ldc2_w 44, 3) := by decide +kernel
theorem d1_15 : decode prog_50_method_4_code 15 = .ok (.lmul, 1) := by decide +kernel
theorem d1_16 : decode prog_50_method_4_code 16 = .ok (.ladd, 1) := by decide +kernel
theorem d1_17 : decode prog_50_method_4_code 17 = .ok (.lreturn, 1) := by decide +kernel
theorem pn_1 : plainFor (⟨"com/example/raiz/raiz/query/Checksums", "blocksSize", "(JI)J"⟩ : MethodName) = true := plainFor_of_name (by first | (simp [plainName, overriddenIn]; done) | decide +kernel)
def Qrm1 (q1 : Int64) (p2 : Int32) (h0 : Heap) (n0 : Nat) (v : Option Value) (h : Heap) (L : List Loc) : Prop := v = some (.long (q1 + ((q1 + p2.toInt64 - 1) / p2.toInt64) * 4)) ∧ Fr n0 L ∧ h = h0
set_option maxRecDepth 65536 in
set_option maxHeartbeats 40000000 in
theorem rm1 (l : Launch) (Z : State) (a0 : Array Value) (hw : ∀ d ∈ tables_1, d.before a0 Z = true) (ws : List Jvm.Cond) (q1 : Int64) (p2 : Int32) (h0 : Heap) (n0 : Nat) (Z0 : n0 ≤ h0.size) (hnz : p2.toInt64 ≠ 0) :
    MetFree l (⟨"com/example/raiz/raiz/query/Checksums", "blocksSize", "(JI)J"⟩ : MethodName) (head1 (Jvm.Cond.code (⟨"com/example/raiz/raiz/query/Checksums", "blocksSize", "(JI)J"⟩ : MethodName) prog_50_method_4_code 5 (some .long) :: ws) ({ frames := 0, cells := 0, slots := 0, locals := 0 } : Room)) (fun a_ U_ => a_ = #[(.long q1), (.int p2)] ∧ Z.Warmed39 U_.vm ∧ U_.heap = h0) (fun _ _ _ _ _ => True) (fun _ U_ o_ U'_ => ∃ v_ L_, o_ = .returned v_ ∧ (Qrm1 q1 p2 h0 n0) v_ U'_.heap L_ ∧ FrameEnd U_ o_ U'_ L_ 0 0) := by
  refine MetFree.of_bodySF pn_1 hisR ?_
  intro p e s m args below meth c s₁ Bd hml0 hP hK
  obtain ⟨rfl, hZ, hh⟩ := hP
  have hx := Bd.exec
  have hby := Bd.bytes
  have hlk : meth.locks = false := Bd.notSynchronized
  have hml : c.maxLocals = 5 := hml0
  have hown : s.vm.findClass "com/example/raiz/raiz/query/Checksums" = some m.cls := findClass_of_methodNamed Bd.named
  have hnm := (name_of_methodNamed Bd.named Bd.method).1
  have X0 : Stand p l e ({ frames := 0, cells := 0, slots := 0, locals := 0 } : Room) s m #[(.long q1), (.int p2)] below meth c s₁ [] 0 0 := Stand.of_body Bd
  have e0 : s₁.heap = h0 := by rw [← hh, Bd.state]; rfl
  have N0 := Fr.nil n0
  refine own_start (Q := Qrm1 q1 p2 h0 n0) (g' := (mkF m 0 #[.val (.long q1), .second, .val (.int p2), .unset, .unset] [])) (by first | (simp [entryFrame, mkF, argsToLocals, Value.category]; done) | rfl) ?_
  show own_Gl _ _ _ _ (s₁.setTop (mkF m 0 #[.val (.long q1), .second, .val (.int p2), .unset, .unset] []))
  refine own_back (fun t_ q_ => XS.lloadN X0.here hx rfl (hb hby d1_0) rfl q_) ?_
  show own_Gl _ _ _ _ (s₁.setTop (mkF m 1 #[.val (.long q1), .second, .val (.int p2), .unset, .unset] [(.long q1)]))
  refine own_back (fun t_ q_ => XS.iloadN X0.here hx rfl (hb hby d1_1) rfl q_) ?_
  show own_Gl _ _ _ _ (s₁.setTop (mkF m 2 #[.val (.long q1), .second, .val (.int p2), .unset, .unset] [(.int p2), (.long q1)]))
  refine own_back (fun t_ q_ => XS.i2l X0.here hx rfl (hb hby d1_2) rfl q_) ?_
  show own_Gl _ _ _ _ (s₁.setTop (mkF m 3 #[.val (.long q1), .second, .val (.int p2), .unset, .unset] [(.long (p2.toInt64)), (.long q1)]))
  refine own_back (fun t_ q_ => XS.ladd X0.here hx rfl (hb hby d1_3) rfl q_) ?_
  show own_Gl _ _ _ _ (s₁.setTop (mkF m 4 #[.val (.long q1), .second, .val (.int p2), .unset, .unset] [(.long (q1 + (p2.toInt64)))]))
  refine own_back (fun t_ q_ => XS.lconst X0.here hx rfl (hb hby d1_4) q_) ?_
  show own_Gl _ _ _ _ (s₁.setTop (mkF m 5 #[.val (.long q1), .second, .val (.int p2), .unset, .unset] [(.long (1 : Int64)), (.long (q1 + (p2.toInt64)))]))
  refine own_back (fun t_ q_ => XS.lsub X0.here hx rfl (hb hby d1_5) rfl q_) ?_
  show own_Gl _ _ _ _ (s₁.setTop (mkF m 6 #[.val (.long q1), .second, .val (.int p2), .unset, .unset] [(.long ((q1 + (p2.toInt64)) - (1 : Int64)))]))
  refine own_back (fun t_ q_ => XS.iloadN X0.here hx rfl (hb hby d1_6) rfl q_) ?_
  show own_Gl _ _ _ _ (s₁.setTop (mkF m 7 #[.val (.long q1), .second, .val (.int p2), .unset, .unset] [(.int p2), (.long ((q1 + (p2.toInt64)) - (1 : Int64)))]))
  refine own_back (fun t_ q_ => XS.i2l X0.here hx rfl (hb hby d1_7) rfl q_) ?_
  show own_Gl _ _ _ _ (s₁.setTop (mkF m 8 #[.val (.long q1), .second, .val (.int p2), .unset, .unset] [(.long (p2.toInt64)), (.long ((q1 + (p2.toInt64)) - (1 : Int64)))]))
  refine own_back (fun t_ q_ => XT.ldiv X0.here hx rfl (hb hby d1_8) rfl hnz q_) ?_
  show own_Gl _ _ _ _ (s₁.setTop (mkF m 9 #[.val (.long q1), .second, .val (.int p2), .unset, .unset] [(.long (((q1 + (p2.toInt64)) - (1 : Int64)) / (p2.toInt64)))]))
  refine own_back (fun t_ q_ => XS.lstoreN X0.here hx rfl (hb hby d1_9) rfl (l' := #[.val (.long q1), .second, .val (.int p2), .val (.long (((q1 + (p2.toInt64)) - (1 : Int64)) / (p2.toInt64))), .second]) rfl q_) ?_
  show own_Gl _ _ _ _ (s₁.setTop (mkF m 10 #[.val (.long q1), .second, .val (.int p2), .val (.long (((q1 + (p2.toInt64)) - (1 : Int64)) / (p2.toInt64))), .second] []))
  refine own_back (fun t_ q_ => XS.lloadN X0.here hx rfl (hb hby d1_10) rfl q_) ?_
  show own_Gl _ _ _ _ (s₁.setTop (mkF m 11 #[.val (.long q1), .second, .val (.int p2), .val (.long (((q1 + (p2.toInt64)) - (1 : Int64)) / (p2.toInt64))), .second] [(.long q1)]))
  refine own_back (fun t_ q_ => XS.lloadN X0.here hx rfl (hb hby d1_11) rfl q_) ?_
  show own_Gl _ _ _ _ (s₁.setTop (mkF m 12 #[.val (.long q1), .second, .val (.int p2), .val (.long (((q1 + (p2.toInt64)) - (1 : Int64)) / (p2.toInt64))), .second] [(.long (((q1 + (p2.toInt64)) - (1 : Int64)) / (p2.toInt64))), (.long q1)]))
  refine own_back (fun t_ q_ => X0.ldc2Long hx hown (mvT hZ (hw _ (List.mem_of_getElem? (i := 5) rfl))) (g := (mkF m 12 #[.val (.long q1), .second, .val (.int p2), .val (.long (((q1 + (p2.toInt64)) - (1 : Int64)) / (p2.toInt64))), .second] [(.long (((q1 + (p2.toInt64)) - (1 : Int64)) / (p2.toInt64))), (.long q1)])) rfl (hb hby d1_12) t_ q_) ?_
  show own_Gl _ _ _ _ (s₁.setTop (mkF m 15 #[.val (.long q1), .second, .val (.int p2), .val (.long (((q1 + (p2.toInt64)) - (1 : Int64)) / (p2.toInt64))), .second] [(.long (4 : Int64)), (.long (((q1 + (p2.toInt64)) - (1 : Int64)) / (p2.toInt64))), (.long q1)]))
  refine own_back (fun t_ q_ => XS.lmul X0.here hx rfl (hb hby d1_15) rfl q_) ?_
  show own_Gl _ _ _ _ (s₁.setTop (mkF m 16 #[.val (.long q1), .second, .val (.int p2), .val (.long (((q1 + (p2.toInt64)) - (1 : Int64)) / (p2.toInt64))), .second] [(.long ((((q1 + (p2.toInt64)) - (1 : Int64)) / (p2.toInt64)) * (4 : Int64))), (.long q1)]))
  refine own_back (fun t_ q_ => XS.ladd X0.here hx rfl (hb hby d1_16) rfl q_) ?_
  show own_Gl _ _ _ _ (s₁.setTop (mkF m 17 #[.val (.long q1), .second, .val (.int p2), .val (.long (((q1 + (p2.toInt64)) - (1 : Int64)) / (p2.toInt64))), .second] [(.long (q1 + ((((q1 + (p2.toInt64)) - (1 : Int64)) / (p2.toInt64)) * (4 : Int64))))]))
  exact own_rJ X0 hx hlk Bd.returns (hb hby d1_17) (by show Qrm1 q1 p2 h0 n0 _ s₁.heap _; rw [e0]; exact ⟨rfl, N0, rfl⟩) (by decide) (by decide)
theorem pd_0 : parseMethodDescriptor "(JI)J" = some ⟨[.long, .int], some .long⟩ := by decide +kernel
theorem pn_0 : plainFor x = true := plainFor_of_name (by first | (simp [plainName, overriddenIn, x]; done) | decide +kernel)
def Qrm0 (h0 : Heap) (n0 : Nat) (v : Option Value) (h : Heap) (L : List Loc) : Prop := v = some (.int 1) ∧ Fr n0 L
set_option maxRecDepth 65536 in
set_option maxHeartbeats 40000000 in
theorem rm0 (l : Launch) (Z : State) (a0 : Array Value) (hw : ∀ d ∈ tables_1, d.before a0 Z = true) (ws : List Jvm.Cond) (a : Int64) (b : Int32) (m2 : Int32) (h0 : Heap) (n0 : Nat) (Z0 : n0 ≤ h0.size)  :
    MetFree l x (head1 (Jvm.Cond.code x code maxLocals ret :: ws) room_1) (fun a_ U_ => a_ = #[(.long a), (.int b), (.int m2)] ∧ Z.Warmed39 U_.vm ∧ U_.heap = h0) (fun _ _ _ _ _ => True) (fun _ U_ o_ U'_ => ∃ v_ L_, o_ = .returned v_ ∧ (Qrm0 h0 n0) v_ U'_.heap L_ ∧ FrameEnd U_ o_ U'_ L_ 0 0) := by
  refine MetFree.of_bodySF pn_0 hisR ?_
  intro p e s m args below meth c s₁ Bd hml0 hP hK
  obtain ⟨rfl, hZ, hh⟩ := hP
  have hx := Bd.exec
  have hby := Bd.bytes
  have hlk : meth.locks = false := Bd.notSynchronized
  have hml : c.maxLocals = 15 := hml0
  have hown : s.vm.findClass "com/example/raiz/raiz/query/ChecksumsBlocksSizePinLaw" = some m.cls := findClass_of_methodNamed Bd.named
  have hnm := (name_of_methodNamed Bd.named Bd.method).1
  have X0 : Stand p l e room_1 s m #[(.long a), (.int b), (.int m2)] below meth c s₁ [] 0 0 := Stand.of_body Bd
  have e0 : s₁.heap = h0 := by rw [← hh, Bd.state]; rfl
  have N0 := Fr.nil n0
  refine own_start (Q := Qrm0 h0 n0) (g' := (mkF m 0 #[.val (.long a), .second, .val (.int b), .val (.int m2), .unset, .unset, .unset, .unset, .unset, .unset, .unset, .unset, .unset, .unset, .unset] [])) (by first | (simp [entryFrame, mkF, argsToLocals, Value.category, maxLocals]; done) | rfl) ?_
  show own_Gl _ _ _ _ (s₁.setTop (mkF m 0 #[.val (.long a), .second, .val (.int b), .val (.int m2), .unset, .unset, .unset, .unset, .unset, .unset, .unset, .unset, .unset, .unset, .unset] []))
  refine own_join (α := Int64 × Int32) (fun z => s₁.setTop (mkF m 43 #[.val (.long a), .second, .val (.int b), .val (.int m2), .val (.long z.1), .second, .val (.int z.2), .unset, .unset, .unset, .unset, .unset, .unset, .unset, .unset] [])) (fun z => (0 ≤ z.1.toInt ∧ z.1.toInt < 1152921504606846976) ∧ 1 ≤ z.2.toInt) (fun z hz => ?_) (fun tail => ?_)
  · obtain ⟨y, bs⟩ := z
    obtain ⟨⟨hy0, hy1⟩, hb1⟩ := hz
    dsimp only at hy0 hy1 hb1
    show own_Gl _ _ _ _ (s₁.setTop (mkF m 43 #[.val (.long a), .second, .val (.int b), .val (.int m2), .val (.long y), .second, .val (.int bs), .unset, .unset, .unset, .unset, .unset, .unset, .unset, .unset] []))
    refine own_back (fun t_ q_ => XS.lload X0.here hx rfl (hb hby at_43) rfl q_) ?_
    show own_Gl _ _ _ _ (s₁.setTop (mkF m 45 #[.val (.long a), .second, .val (.int b), .val (.int m2), .val (.long y), .second, .val (.int bs), .unset, .unset, .unset, .unset, .unset, .unset, .unset, .unset] [(.long y)]))
    refine own_back (fun t_ q_ => XS.iload X0.here hx rfl (hb hby at_45) rfl q_) ?_
    show own_Gl _ _ _ _ (s₁.setTop (mkF m 47 #[.val (.long a), .second, .val (.int b), .val (.int m2), .val (.long y), .second, .val (.int bs), .unset, .unset, .unset, .unset, .unset, .unset, .unset, .unset] [(.int bs), (.long y)]))
    obtain ⟨_, _, ⟨T1, L1, k1, n1⟩, -, X1, ⟨Lc1, hQ1, l1, y1, z1⟩, st1⟩ := Jvm.LawKit.callS X0 hx (y := (⟨"com/example/raiz/raiz/query/Checksums", "blocksSize", "(JI)J"⟩ : MethodName)) hown (mvT hZ (hw _ (List.mem_of_getElem? (i := 1) rfl))) (mvT hZ (hw _ (List.mem_of_getElem? (i := 2) rfl))) (mvT hZ (hw _ (List.mem_of_getElem? (i := 3) rfl))) (mvT hZ (hw _ (List.mem_of_getElem? (i := 4) rfl))) (by decide) (backOf (W := 0) (rm1 l Z a0 hw [] y bs h0 n0 Z0 (own_nz bs hb1)) hZ (hw _ (List.mem_of_getElem? (i := 4) rfl)) (hw _ (List.mem_of_getElem? (i := 3) rfl)) (by decide) (by decide)) (g := (mkF m 47 #[.val (.long a), .second, .val (.int b), .val (.int m2), .val (.long y), .second, .val (.int bs), .unset, .unset, .unset, .unset, .unset, .unset, .unset, .unset] [(.int bs), (.long y)])) rfl (by rw [hml]; rfl) (argsL := [(.long y), (.int bs)]) (rest := []) (lenOf pd_0 rfl) rfl (by show 2 * 0 + _ ≤ _; exact Nat.le_of_eq rfl) (hb hby at_47) (fun _ _ => ⟨rfl, e0, (by decide : 0 + 0 ≤ _), (by decide : 0 + 0 ≤ _)⟩)
    dsimp only [Pt.U, Pt.locs, Pt.cells, Pt.slots] at X1 l1 y1 z1 st1 hQ1
    subst l1 y1 z1
    obtain ⟨rfl, M1, e1⟩ := hQ1
    have N1 := Fr.app N0 M1
    refine own_back st1 ?_
    show own_Gl _ _ _ _ (T1.setTop (mkF m 50 #[.val (.long a), .second, .val (.int b), .val (.int m2), .val (.long y), .second, .val (.int bs), .unset, .unset, .unset, .unset, .unset, .unset, .unset, .unset] [(.long (y + ((y + bs.toInt64 - 1) / bs.toInt64) * 4))]))
    refine own_back (fun t_ q_ => XS.lstore X1.here hx rfl (hb hby at_50) rfl (l' := #[.val (.long a), .second, .val (.int b), .val (.int m2), .val (.long y), .second, .val (.int bs), .val (.long (y + ((y + bs.toInt64 - 1) / bs.toInt64) * 4)), .second, .unset, .unset, .unset, .unset, .unset, .unset]) rfl q_) ?_
    show own_Gl _ _ _ _ (T1.setTop (mkF m 52 #[.val (.long a), .second, .val (.int b), .val (.int m2), .val (.long y), .second, .val (.int bs), .val (.long (y + ((y + bs.toInt64 - 1) / bs.toInt64) * 4)), .second, .unset, .unset, .unset, .unset, .unset, .unset] []))
    refine own_back (fun t_ q_ => XS.lload X1.here hx rfl (hb hby at_52) rfl q_) ?_
    show own_Gl _ _ _ _ (T1.setTop (mkF m 54 #[.val (.long a), .second, .val (.int b), .val (.int m2), .val (.long y), .second, .val (.int bs), .val (.long (y + ((y + bs.toInt64 - 1) / bs.toInt64) * 4)), .second, .unset, .unset, .unset, .unset, .unset, .unset] [(.long y)]))
    refine own_back (fun t_ q_ => XS.iload X1.here hx rfl (hb hby at_54) rfl q_) ?_
    show own_Gl _ _ _ _ (T1.setTop (mkF m 56 #[.val (.long a), .second, .val (.int b), .val (.int m2), .val (.long y), .second, .val (.int bs), .val (.long (y + ((y + bs.toInt64 - 1) / bs.toInt64) * 4)), .second, .unset, .unset, .unset, .unset, .unset, .unset] [(.int bs), (.long y)]))
    refine own_back (fun t_ q_ => XS.i2l X1.here hx rfl (hb hby at_56) rfl q_) ?_
    show own_Gl _ _ _ _ (T1.setTop (mkF m 57 #[.val (.long a), .second, .val (.int b), .val (.int m2), .val (.long y), .second, .val (.int bs), .val (.long (y + ((y + bs.toInt64 - 1) / bs.toInt64) * 4)), .second, .unset, .unset, .unset, .unset, .unset, .unset] [(.long (bs.toInt64)), (.long y)]))
    refine own_back (fun t_ q_ => XT.ldiv X1.here hx rfl (hb hby at_57) rfl (own_nz bs hb1) q_) ?_
    show own_Gl _ _ _ _ (T1.setTop (mkF m 58 #[.val (.long a), .second, .val (.int b), .val (.int m2), .val (.long y), .second, .val (.int bs), .val (.long (y + ((y + bs.toInt64 - 1) / bs.toInt64) * 4)), .second, .unset, .unset, .unset, .unset, .unset, .unset] [(.long (y / (bs.toInt64)))]))
    refine own_back (fun t_ q_ => XS.lstore X1.here hx rfl (hb hby at_58) rfl (l' := #[.val (.long a), .second, .val (.int b), .val (.int m2), .val (.long y), .second, .val (.int bs), .val (.long (y + ((y + bs.toInt64 - 1) / bs.toInt64) * 4)), .second, .val (.long (y / (bs.toInt64))), .second, .unset, .unset, .unset, .unset]) rfl q_) ?_
    show own_Gl _ _ _ _ (T1.setTop (mkF m 60 #[.val (.long a), .second, .val (.int b), .val (.int m2), .val (.long y), .second, .val (.int bs), .val (.long (y + ((y + bs.toInt64 - 1) / bs.toInt64) * 4)), .second, .val (.long (y / (bs.toInt64))), .second, .unset, .unset, .unset, .unset] []))
    refine own_back (fun t_ q_ => XS.lload X1.here hx rfl (hb hby at_60) rfl q_) ?_
    show own_Gl _ _ _ _ (T1.setTop (mkF m 62 #[.val (.long a), .second, .val (.int b), .val (.int m2), .val (.long y), .second, .val (.int bs), .val (.long (y + ((y + bs.toInt64 - 1) / bs.toInt64) * 4)), .second, .val (.long (y / (bs.toInt64))), .second, .unset, .unset, .unset, .unset] [(.long y)]))
    refine own_back (fun t_ q_ => XS.iload X1.here hx rfl (hb hby at_62) rfl q_) ?_
    show own_Gl _ _ _ _ (T1.setTop (mkF m 64 #[.val (.long a), .second, .val (.int b), .val (.int m2), .val (.long y), .second, .val (.int bs), .val (.long (y + ((y + bs.toInt64 - 1) / bs.toInt64) * 4)), .second, .val (.long (y / (bs.toInt64))), .second, .unset, .unset, .unset, .unset] [(.int bs), (.long y)]))
    refine own_back (fun t_ q_ => XS.i2l X1.here hx rfl (hb hby at_64) rfl q_) ?_
    show own_Gl _ _ _ _ (T1.setTop (mkF m 65 #[.val (.long a), .second, .val (.int b), .val (.int m2), .val (.long y), .second, .val (.int bs), .val (.long (y + ((y + bs.toInt64 - 1) / bs.toInt64) * 4)), .second, .val (.long (y / (bs.toInt64))), .second, .unset, .unset, .unset, .unset] [(.long (bs.toInt64)), (.long y)]))
    refine own_back (fun t_ q_ => XT.lrem X1.here hx rfl (hb hby at_65) rfl (own_nz bs hb1) q_) ?_
    show own_Gl _ _ _ _ (T1.setTop (mkF m 66 #[.val (.long a), .second, .val (.int b), .val (.int m2), .val (.long y), .second, .val (.int bs), .val (.long (y + ((y + bs.toInt64 - 1) / bs.toInt64) * 4)), .second, .val (.long (y / (bs.toInt64))), .second, .unset, .unset, .unset, .unset] [(.long (y - (y / (bs.toInt64)) * (bs.toInt64)))]))
    refine own_back (fun t_ q_ => XS.lstore X1.here hx rfl (hb hby at_66) rfl (l' := #[.val (.long a), .second, .val (.int b), .val (.int m2), .val (.long y), .second, .val (.int bs), .val (.long (y + ((y + bs.toInt64 - 1) / bs.toInt64) * 4)), .second, .val (.long (y / (bs.toInt64))), .second, .val (.long (y - (y / (bs.toInt64)) * (bs.toInt64))), .second, .unset, .unset]) rfl q_) ?_
    show own_Gl _ _ _ _ (T1.setTop (mkF m 68 #[.val (.long a), .second, .val (.int b), .val (.int m2), .val (.long y), .second, .val (.int bs), .val (.long (y + ((y + bs.toInt64 - 1) / bs.toInt64) * 4)), .second, .val (.long (y / (bs.toInt64))), .second, .val (.long (y - (y / (bs.toInt64)) * (bs.toInt64))), .second, .unset, .unset] []))
    refine own_back (fun t_ q_ => XS.lload X1.here hx rfl (hb hby at_68) rfl q_) ?_
    show own_Gl _ _ _ _ (T1.setTop (mkF m 70 #[.val (.long a), .second, .val (.int b), .val (.int m2), .val (.long y), .second, .val (.int bs), .val (.long (y + ((y + bs.toInt64 - 1) / bs.toInt64) * 4)), .second, .val (.long (y / (bs.toInt64))), .second, .val (.long (y - (y / (bs.toInt64)) * (bs.toInt64))), .second, .unset, .unset] [(.long (y - (y / (bs.toInt64)) * (bs.toInt64)))]))
    refine own_back (fun t_ q_ => XS.lconst X1.here hx rfl (hb hby at_70) q_) ?_
    show own_Gl _ _ _ _ (T1.setTop (mkF m 71 #[.val (.long a), .second, .val (.int b), .val (.int m2), .val (.long y), .second, .val (.int bs), .val (.long (y + ((y + bs.toInt64 - 1) / bs.toInt64) * 4)), .second, .val (.long (y / (bs.toInt64))), .second, .val (.long (y - (y / (bs.toInt64)) * (bs.toInt64))), .second, .unset, .unset] [(.long (0 : Int64)), (.long (y - (y / (bs.toInt64)) * (bs.toInt64)))]))
    refine own_back (fun t_ q_ => XS.lcmp X1.here hx rfl (hb hby at_71) rfl q_) ?_
    show own_Gl _ _ _ _ (T1.setTop (mkF m 72 #[.val (.long a), .second, .val (.int b), .val (.int m2), .val (.long y), .second, .val (.int bs), .val (.long (y + ((y + bs.toInt64 - 1) / bs.toInt64) * 4)), .second, .val (.long (y / (bs.toInt64))), .second, .val (.long (y - (y / (bs.toInt64)) * (bs.toInt64))), .second, .unset, .unset] [(.int (lcmpW (y - (y / (bs.toInt64)) * (bs.toInt64)) (0 : Int64)))]))
    by_cases hr : (lcmpW (y - (y / (bs.toInt64)) * (bs.toInt64)) (0 : Int64)) = (0 : Int32)
    · skip
      refine own_back (fun t_ q_ => XS.ifNo X1.here hx rfl (hb hby at_72) rfl ((if0 _ _).trans (teq (hr : (lcmpW (y - (y / (bs.toInt64)) * (bs.toInt64)) (0 : Int64)) = (0 : Int32))).2) q_) ?_
      show own_Gl _ _ _ _ (T1.setTop (mkF m 75 #[.val (.long a), .second, .val (.int b), .val (.int m2), .val (.long y), .second, .val (.int bs), .val (.long (y + ((y + bs.toInt64 - 1) / bs.toInt64) * 4)), .second, .val (.long (y / (bs.toInt64))), .second, .val (.long (y - (y / (bs.toInt64)) * (bs.toInt64))), .second, .unset, .unset] []))
      refine own_back (fun t_ q_ => XS.lload X1.here hx rfl (hb hby at_75) rfl q_) ?_
      show own_Gl _ _ _ _ (T1.setTop (mkF m 77 #[.val (.long a), .second, .val (.int b), .val (.int m2), .val (.long y), .second, .val (.int bs), .val (.long (y + ((y + bs.toInt64 - 1) / bs.toInt64) * 4)), .second, .val (.long (y / (bs.toInt64))), .second, .val (.long (y - (y / (bs.toInt64)) * (bs.toInt64))), .second, .unset, .unset] [(.long (y / (bs.toInt64)))]))
      refine own_back (fun t_ q_ => XS.goto X1.here hx rfl (pc0 := 77) (pc' := 84) rfl (hb hby at_77) (by decide) (by decide) q_) ?_
      show own_Gl _ _ _ _ (T1.setTop (mkF m 84 #[.val (.long a), .second, .val (.int b), .val (.int m2), .val (.long y), .second, .val (.int bs), .val (.long (y + ((y + bs.toInt64 - 1) / bs.toInt64) * 4)), .second, .val (.long (y / (bs.toInt64))), .second, .val (.long (y - (y / (bs.toInt64)) * (bs.toInt64))), .second, .unset, .unset] [(.long (y / (bs.toInt64)))]))
      refine own_back (fun t_ q_ => XS.lstore X1.here hx rfl (hb hby at_84) rfl (l' := #[.val (.long a), .second, .val (.int b), .val (.int m2), .val (.long y), .second, .val (.int bs), .val (.long (y + ((y + bs.toInt64 - 1) / bs.toInt64) * 4)), .second, .val (.long (y / (bs.toInt64))), .second, .val (.long (y - (y / (bs.toInt64)) * (bs.toInt64))), .second, .val (.long (y / (bs.toInt64))), .second]) rfl q_) ?_
      show own_Gl _ _ _ _ (T1.setTop (mkF m 86 #[.val (.long a), .second, .val (.int b), .val (.int m2), .val (.long y), .second, .val (.int bs), .val (.long (y + ((y + bs.toInt64 - 1) / bs.toInt64) * 4)), .second, .val (.long (y / (bs.toInt64))), .second, .val (.long (y - (y / (bs.toInt64)) * (bs.toInt64))), .second, .val (.long (y / (bs.toInt64))), .second] []))
      refine own_back (fun t_ q_ => XS.lload X1.here hx rfl (hb hby at_86) rfl q_) ?_
      show own_Gl _ _ _ _ (T1.setTop (mkF m 88 #[.val (.long a), .second, .val (.int b), .val (.int m2), .val (.long y), .second, .val (.int bs), .val (.long (y + ((y + bs.toInt64 - 1) / bs.toInt64) * 4)), .second, .val (.long (y / (bs.toInt64))), .second, .val (.long (y - (y / (bs.toInt64)) * (bs.toInt64))), .second, .val (.long (y / (bs.toInt64))), .second] [(.long (y + ((y + bs.toInt64 - 1) / bs.toInt64) * 4))]))
      refine own_back (fun t_ q_ => XS.lload X1.here hx rfl (hb hby at_88) rfl q_) ?_
      show own_Gl _ _ _ _ (T1.setTop (mkF m 90 #[.val (.long a), .second, .val (.int b), .val (.int m2), .val (.long y), .second, .val (.int bs), .val (.long (y + ((y + bs.toInt64 - 1) / bs.toInt64) * 4)), .second, .val (.long (y / (bs.toInt64))), .second, .val (.long (y - (y / (bs.toInt64)) * (bs.toInt64))), .second, .val (.long (y / (bs.toInt64))), .second] [(.long y), (.long (y + ((y + bs.toInt64 - 1) / bs.toInt64) * 4))]))
      refine own_back (fun t_ q_ => XS.lload X1.here hx rfl (hb hby at_90) rfl q_) ?_
      show own_Gl _ _ _ _ (T1.setTop (mkF m 92 #[.val (.long a), .second, .val (.int b), .val (.int m2), .val (.long y), .second, .val (.int bs), .val (.long (y + ((y + bs.toInt64 - 1) / bs.toInt64) * 4)), .second, .val (.long (y / (bs.toInt64))), .second, .val (.long (y - (y / (bs.toInt64)) * (bs.toInt64))), .second, .val (.long (y / (bs.toInt64))), .second] [(.long (y / (bs.toInt64))), (.long y), (.long (y + ((y + bs.toInt64 - 1) / bs.toInt64) * 4))]))
      refine own_back (fun t_ q_ => X1.ldc2Long hx hown (mvT hZ (hw _ (List.mem_of_getElem? (i := 6) rfl))) (g := (mkF m 92 #[.val (.long a), .second, .val (.int b), .val (.int m2), .val (.long y), .second, .val (.int bs), .val (.long (y + ((y + bs.toInt64 - 1) / bs.toInt64) * 4)), .second, .val (.long (y / (bs.toInt64))), .second, .val (.long (y - (y / (bs.toInt64)) * (bs.toInt64))), .second, .val (.long (y / (bs.toInt64))), .second] [(.long (y / (bs.toInt64))), (.long y), (.long (y + ((y + bs.toInt64 - 1) / bs.toInt64) * 4))])) rfl (hb hby at_92) t_ q_) ?_
      show own_Gl _ _ _ _ (T1.setTop (mkF m 95 #[.val (.long a), .second, .val (.int b), .val (.int m2), .val (.long y), .second, .val (.int bs), .val (.long (y + ((y + bs.toInt64 - 1) / bs.toInt64) * 4)), .second, .val (.long (y / (bs.toInt64))), .second, .val (.long (y - (y / (bs.toInt64)) * (bs.toInt64))), .second, .val (.long (y / (bs.toInt64))), .second] [(.long (4 : Int64)), (.long (y / (bs.toInt64))), (.long y), (.long (y + ((y + bs.toInt64 - 1) / bs.toInt64) * 4))]))
      refine own_back (fun t_ q_ => XS.lmul X1.here hx rfl (hb hby at_95) rfl q_) ?_
      show own_Gl _ _ _ _ (T1.setTop (mkF m 96 #[.val (.long a), .second, .val (.int b), .val (.int m2), .val (.long y), .second, .val (.int bs), .val (.long (y + ((y + bs.toInt64 - 1) / bs.toInt64) * 4)), .second, .val (.long (y / (bs.toInt64))), .second, .val (.long (y - (y / (bs.toInt64)) * (bs.toInt64))), .second, .val (.long (y / (bs.toInt64))), .second] [(.long ((y / (bs.toInt64)) * (4 : Int64))), (.long y), (.long (y + ((y + bs.toInt64 - 1) / bs.toInt64) * 4))]))
      refine own_back (fun t_ q_ => XS.ladd X1.here hx rfl (hb hby at_96) rfl q_) ?_
      show own_Gl _ _ _ _ (T1.setTop (mkF m 97 #[.val (.long a), .second, .val (.int b), .val (.int m2), .val (.long y), .second, .val (.int bs), .val (.long (y + ((y + bs.toInt64 - 1) / bs.toInt64) * 4)), .second, .val (.long (y / (bs.toInt64))), .second, .val (.long (y - (y / (bs.toInt64)) * (bs.toInt64))), .second, .val (.long (y / (bs.toInt64))), .second] [(.long (y + ((y / (bs.toInt64)) * (4 : Int64)))), (.long (y + ((y + bs.toInt64 - 1) / bs.toInt64) * 4))]))
      refine own_back (fun t_ q_ => XS.lcmp X1.here hx rfl (hb hby at_97) rfl q_) ?_
      show own_Gl _ _ _ _ (T1.setTop (mkF m 98 #[.val (.long a), .second, .val (.int b), .val (.int m2), .val (.long y), .second, .val (.int bs), .val (.long (y + ((y + bs.toInt64 - 1) / bs.toInt64) * 4)), .second, .val (.long (y / (bs.toInt64))), .second, .val (.long (y - (y / (bs.toInt64)) * (bs.toInt64))), .second, .val (.long (y / (bs.toInt64))), .second] [(.int (lcmpW (y + ((y + bs.toInt64 - 1) / bs.toInt64) * 4) (y + ((y / (bs.toInt64)) * (4 : Int64)))))]))
      refine own_back (fun t_ q_ => XS.ifNo X1.here hx rfl (hb hby at_98) rfl ((if0 _ _).trans (teq ((lw_eq _ _).mpr (by rw [(own_law y bs hy0 hy1 hb1).1 ((lw_eq _ _).mp hr)]) : (lcmpW (y + ((y + bs.toInt64 - 1) / bs.toInt64) * 4) (y + ((y / (bs.toInt64)) * (4 : Int64)))) = (0 : Int32))).2) q_) ?_
      show own_Gl _ _ _ _ (T1.setTop (mkF m 101 #[.val (.long a), .second, .val (.int b), .val (.int m2), .val (.long y), .second, .val (.int bs), .val (.long (y + ((y + bs.toInt64 - 1) / bs.toInt64) * 4)), .second, .val (.long (y / (bs.toInt64))), .second, .val (.long (y - (y / (bs.toInt64)) * (bs.toInt64))), .second, .val (.long (y / (bs.toInt64))), .second] []))
      refine own_back (fun t_ q_ => XS.iconst X1.here hx rfl (hb hby at_101) q_) ?_
      show own_Gl _ _ _ _ (T1.setTop (mkF m 102 #[.val (.long a), .second, .val (.int b), .val (.int m2), .val (.long y), .second, .val (.int bs), .val (.long (y + ((y + bs.toInt64 - 1) / bs.toInt64) * 4)), .second, .val (.long (y / (bs.toInt64))), .second, .val (.long (y - (y / (bs.toInt64)) * (bs.toInt64))), .second, .val (.long (y / (bs.toInt64))), .second] [(.int (1 : Int32))]))
      refine own_back (fun t_ q_ => XS.goto X1.here hx rfl (pc0 := 102) (pc' := 106) rfl (hb hby at_102) (by decide) (by decide) q_) ?_
      show own_Gl _ _ _ _ (T1.setTop (mkF m 106 #[.val (.long a), .second, .val (.int b), .val (.int m2), .val (.long y), .second, .val (.int bs), .val (.long (y + ((y + bs.toInt64 - 1) / bs.toInt64) * 4)), .second, .val (.long (y / (bs.toInt64))), .second, .val (.long (y - (y / (bs.toInt64)) * (bs.toInt64))), .second, .val (.long (y / (bs.toInt64))), .second] [(.int (1 : Int32))]))
      exact own_rZ X1 hx hlk Bd.returns (hb hby at_106) (own_one rfl) (by show Qrm0 h0 n0 _ T1.heap _; rw [e1]; exact ⟨rfl, N1⟩) (by decide) (by decide)
    · skip
      refine own_back (fun t_ q_ => XS.ifYes X1.here hx rfl (pc0 := 72) (pc' := 80) rfl (hb hby at_72) rfl ((if0 _ _).trans (feq (hr : ¬ ((lcmpW (y - (y / (bs.toInt64)) * (bs.toInt64)) (0 : Int64)) = (0 : Int32)))).2) (by decide) (by decide) q_) ?_
      show own_Gl _ _ _ _ (T1.setTop (mkF m 80 #[.val (.long a), .second, .val (.int b), .val (.int m2), .val (.long y), .second, .val (.int bs), .val (.long (y + ((y + bs.toInt64 - 1) / bs.toInt64) * 4)), .second, .val (.long (y / (bs.toInt64))), .second, .val (.long (y - (y / (bs.toInt64)) * (bs.toInt64))), .second, .unset, .unset] []))
      refine own_back (fun t_ q_ => XS.lload X1.here hx rfl (hb hby at_80) rfl q_) ?_
      show own_Gl _ _ _ _ (T1.setTop (mkF m 82 #[.val (.long a), .second, .val (.int b), .val (.int m2), .val (.long y), .second, .val (.int bs), .val (.long (y + ((y + bs.toInt64 - 1) / bs.toInt64) * 4)), .second, .val (.long (y / (bs.toInt64))), .second, .val (.long (y - (y / (bs.toInt64)) * (bs.toInt64))), .second, .unset, .unset] [(.long (y / (bs.toInt64)))]))
      refine own_back (fun t_ q_ => XS.lconst X1.here hx rfl (hb hby at_82) q_) ?_
      show own_Gl _ _ _ _ (T1.setTop (mkF m 83 #[.val (.long a), .second, .val (.int b), .val (.int m2), .val (.long y), .second, .val (.int bs), .val (.long (y + ((y + bs.toInt64 - 1) / bs.toInt64) * 4)), .second, .val (.long (y / (bs.toInt64))), .second, .val (.long (y - (y / (bs.toInt64)) * (bs.toInt64))), .second, .unset, .unset] [(.long (1 : Int64)), (.long (y / (bs.toInt64)))]))
      refine own_back (fun t_ q_ => XS.ladd X1.here hx rfl (hb hby at_83) rfl q_) ?_
      show own_Gl _ _ _ _ (T1.setTop (mkF m 84 #[.val (.long a), .second, .val (.int b), .val (.int m2), .val (.long y), .second, .val (.int bs), .val (.long (y + ((y + bs.toInt64 - 1) / bs.toInt64) * 4)), .second, .val (.long (y / (bs.toInt64))), .second, .val (.long (y - (y / (bs.toInt64)) * (bs.toInt64))), .second, .unset, .unset] [(.long ((y / (bs.toInt64)) + (1 : Int64)))]))
      refine own_back (fun t_ q_ => XS.lstore X1.here hx rfl (hb hby at_84) rfl (l' := #[.val (.long a), .second, .val (.int b), .val (.int m2), .val (.long y), .second, .val (.int bs), .val (.long (y + ((y + bs.toInt64 - 1) / bs.toInt64) * 4)), .second, .val (.long (y / (bs.toInt64))), .second, .val (.long (y - (y / (bs.toInt64)) * (bs.toInt64))), .second, .val (.long ((y / (bs.toInt64)) + (1 : Int64))), .second]) rfl q_) ?_
      show own_Gl _ _ _ _ (T1.setTop (mkF m 86 #[.val (.long a), .second, .val (.int b), .val (.int m2), .val (.long y), .second, .val (.int bs), .val (.long (y + ((y + bs.toInt64 - 1) / bs.toInt64) * 4)), .second, .val (.long (y / (bs.toInt64))), .second, .val (.long (y - (y / (bs.toInt64)) * (bs.toInt64))), .second, .val (.long ((y / (bs.toInt64)) + (1 : Int64))), .second] []))
      refine own_back (fun t_ q_ => XS.lload X1.here hx rfl (hb hby at_86) rfl q_) ?_
      show own_Gl _ _ _ _ (T1.setTop (mkF m 88 #[.val (.long a), .second, .val (.int b), .val (.int m2), .val (.long y), .second, .val (.int bs), .val (.long (y + ((y + bs.toInt64 - 1) / bs.toInt64) * 4)), .second, .val (.long (y / (bs.toInt64))), .second, .val (.long (y - (y / (bs.toInt64)) * (bs.toInt64))), .second, .val (.long ((y / (bs.toInt64)) + (1 : Int64))), .second] [(.long (y + ((y + bs.toInt64 - 1) / bs.toInt64) * 4))]))
      refine own_back (fun t_ q_ => XS.lload X1.here hx rfl (hb hby at_88) rfl q_) ?_
      show own_Gl _ _ _ _ (T1.setTop (mkF m 90 #[.val (.long a), .second, .val (.int b), .val (.int m2), .val (.long y), .second, .val (.int bs), .val (.long (y + ((y + bs.toInt64 - 1) / bs.toInt64) * 4)), .second, .val (.long (y / (bs.toInt64))), .second, .val (.long (y - (y / (bs.toInt64)) * (bs.toInt64))), .second, .val (.long ((y / (bs.toInt64)) + (1 : Int64))), .second] [(.long y), (.long (y + ((y + bs.toInt64 - 1) / bs.toInt64) * 4))]))
      refine own_back (fun t_ q_ => XS.lload X1.here hx rfl (hb hby at_90) rfl q_) ?_
      show own_Gl _ _ _ _ (T1.setTop (mkF m 92 #[.val (.long a), .second, .val (.int b), .val (.int m2), .val (.long y), .second, .val (.int bs), .val (.long (y + ((y + bs.toInt64 - 1) / bs.toInt64) * 4)), .second, .val (.long (y / (bs.toInt64))), .second, .val (.long (y - (y / (bs.toInt64)) * (bs.toInt64))), .second, .val (.long ((y / (bs.toInt64)) + (1 : Int64))), .second] [(.long ((y / (bs.toInt64)) + (1 : Int64))), (.long y), (.long (y + ((y + bs.toInt64 - 1) / bs.toInt64) * 4))]))
      refine own_back (fun t_ q_ => X1.ldc2Long hx hown (mvT hZ (hw _ (List.mem_of_getElem? (i := 6) rfl))) (g := (mkF m 92 #[.val (.long a), .second, .val (.int b), .val (.int m2), .val (.long y), .second, .val (.int bs), .val (.long (y + ((y + bs.toInt64 - 1) / bs.toInt64) * 4)), .second, .val (.long (y / (bs.toInt64))), .second, .val (.long (y - (y / (bs.toInt64)) * (bs.toInt64))), .second, .val (.long ((y / (bs.toInt64)) + (1 : Int64))), .second] [(.long ((y / (bs.toInt64)) + (1 : Int64))), (.long y), (.long (y + ((y + bs.toInt64 - 1) / bs.toInt64) * 4))])) rfl (hb hby at_92) t_ q_) ?_
      show own_Gl _ _ _ _ (T1.setTop (mkF m 95 #[.val (.long a), .second, .val (.int b), .val (.int m2), .val (.long y), .second, .val (.int bs), .val (.long (y + ((y + bs.toInt64 - 1) / bs.toInt64) * 4)), .second, .val (.long (y / (bs.toInt64))), .second, .val (.long (y - (y / (bs.toInt64)) * (bs.toInt64))), .second, .val (.long ((y / (bs.toInt64)) + (1 : Int64))), .second] [(.long (4 : Int64)), (.long ((y / (bs.toInt64)) + (1 : Int64))), (.long y), (.long (y + ((y + bs.toInt64 - 1) / bs.toInt64) * 4))]))
      refine own_back (fun t_ q_ => XS.lmul X1.here hx rfl (hb hby at_95) rfl q_) ?_
      show own_Gl _ _ _ _ (T1.setTop (mkF m 96 #[.val (.long a), .second, .val (.int b), .val (.int m2), .val (.long y), .second, .val (.int bs), .val (.long (y + ((y + bs.toInt64 - 1) / bs.toInt64) * 4)), .second, .val (.long (y / (bs.toInt64))), .second, .val (.long (y - (y / (bs.toInt64)) * (bs.toInt64))), .second, .val (.long ((y / (bs.toInt64)) + (1 : Int64))), .second] [(.long (((y / (bs.toInt64)) + (1 : Int64)) * (4 : Int64))), (.long y), (.long (y + ((y + bs.toInt64 - 1) / bs.toInt64) * 4))]))
      refine own_back (fun t_ q_ => XS.ladd X1.here hx rfl (hb hby at_96) rfl q_) ?_
      show own_Gl _ _ _ _ (T1.setTop (mkF m 97 #[.val (.long a), .second, .val (.int b), .val (.int m2), .val (.long y), .second, .val (.int bs), .val (.long (y + ((y + bs.toInt64 - 1) / bs.toInt64) * 4)), .second, .val (.long (y / (bs.toInt64))), .second, .val (.long (y - (y / (bs.toInt64)) * (bs.toInt64))), .second, .val (.long ((y / (bs.toInt64)) + (1 : Int64))), .second] [(.long (y + (((y / (bs.toInt64)) + (1 : Int64)) * (4 : Int64)))), (.long (y + ((y + bs.toInt64 - 1) / bs.toInt64) * 4))]))
      refine own_back (fun t_ q_ => XS.lcmp X1.here hx rfl (hb hby at_97) rfl q_) ?_
      show own_Gl _ _ _ _ (T1.setTop (mkF m 98 #[.val (.long a), .second, .val (.int b), .val (.int m2), .val (.long y), .second, .val (.int bs), .val (.long (y + ((y + bs.toInt64 - 1) / bs.toInt64) * 4)), .second, .val (.long (y / (bs.toInt64))), .second, .val (.long (y - (y / (bs.toInt64)) * (bs.toInt64))), .second, .val (.long ((y / (bs.toInt64)) + (1 : Int64))), .second] [(.int (lcmpW (y + ((y + bs.toInt64 - 1) / bs.toInt64) * 4) (y + (((y / (bs.toInt64)) + (1 : Int64)) * (4 : Int64)))))]))
      refine own_back (fun t_ q_ => XS.ifNo X1.here hx rfl (hb hby at_98) rfl ((if0 _ _).trans (teq ((lw_eq _ _).mpr (by rw [(own_law y bs hy0 hy1 hb1).2 (fun q => hr ((lw_eq _ _).mpr q))]) : (lcmpW (y + ((y + bs.toInt64 - 1) / bs.toInt64) * 4) (y + (((y / (bs.toInt64)) + (1 : Int64)) * (4 : Int64)))) = (0 : Int32))).2) q_) ?_
      show own_Gl _ _ _ _ (T1.setTop (mkF m 101 #[.val (.long a), .second, .val (.int b), .val (.int m2), .val (.long y), .second, .val (.int bs), .val (.long (y + ((y + bs.toInt64 - 1) / bs.toInt64) * 4)), .second, .val (.long (y / (bs.toInt64))), .second, .val (.long (y - (y / (bs.toInt64)) * (bs.toInt64))), .second, .val (.long ((y / (bs.toInt64)) + (1 : Int64))), .second] []))
      refine own_back (fun t_ q_ => XS.iconst X1.here hx rfl (hb hby at_101) q_) ?_
      show own_Gl _ _ _ _ (T1.setTop (mkF m 102 #[.val (.long a), .second, .val (.int b), .val (.int m2), .val (.long y), .second, .val (.int bs), .val (.long (y + ((y + bs.toInt64 - 1) / bs.toInt64) * 4)), .second, .val (.long (y / (bs.toInt64))), .second, .val (.long (y - (y / (bs.toInt64)) * (bs.toInt64))), .second, .val (.long ((y / (bs.toInt64)) + (1 : Int64))), .second] [(.int (1 : Int32))]))
      refine own_back (fun t_ q_ => XS.goto X1.here hx rfl (pc0 := 102) (pc' := 106) rfl (hb hby at_102) (by decide) (by decide) q_) ?_
      show own_Gl _ _ _ _ (T1.setTop (mkF m 106 #[.val (.long a), .second, .val (.int b), .val (.int m2), .val (.long y), .second, .val (.int bs), .val (.long (y + ((y + bs.toInt64 - 1) / bs.toInt64) * 4)), .second, .val (.long (y / (bs.toInt64))), .second, .val (.long (y - (y / (bs.toInt64)) * (bs.toInt64))), .second, .val (.long ((y / (bs.toInt64)) + (1 : Int64))), .second] [(.int (1 : Int32))]))
      exact own_rZ X1 hx hlk Bd.returns (hb hby at_106) (own_one rfl) (by show Qrm0 h0 n0 _ T1.heap _; rw [e1]; exact ⟨rfl, N1⟩) (by decide) (by decide)
  · skip
    refine own_back (fun t_ q_ => XS.iloadN X0.here hx rfl (hb hby at_0) rfl q_) ?_
    show own_Gl _ _ _ _ (s₁.setTop (mkF m 1 #[.val (.long a), .second, .val (.int b), .val (.int m2), .unset, .unset, .unset, .unset, .unset, .unset, .unset, .unset, .unset, .unset, .unset] [(.int m2)]))
    refine own_back (fun t_ q_ => XS.iconst X0.here hx rfl (hb hby at_1) q_) ?_
    show own_Gl _ _ _ _ (s₁.setTop (mkF m 2 #[.val (.long a), .second, .val (.int b), .val (.int m2), .unset, .unset, .unset, .unset, .unset, .unset, .unset, .unset, .unset, .unset, .unset] [(.int (1 : Int32)), (.int m2)]))
    refine own_back (fun t_ q_ => XS.iand X0.here hx rfl (hb hby at_2) rfl q_) ?_
    show own_Gl _ _ _ _ (s₁.setTop (mkF m 3 #[.val (.long a), .second, .val (.int b), .val (.int m2), .unset, .unset, .unset, .unset, .unset, .unset, .unset, .unset, .unset, .unset, .unset] [(.int (m2 &&& (1 : Int32)))]))
    by_cases hm : (m2 &&& (1 : Int32)) = (0 : Int32)
    · skip
      refine own_back (fun t_ q_ => XS.ifYes X0.here hx rfl (pc0 := 3) (pc' := 25) rfl (hb hby at_3) rfl ((if0 _ _).trans (teq (hm : (m2 &&& (1 : Int32)) = (0 : Int32))).1) (by decide) (by decide) q_) ?_
      show own_Gl _ _ _ _ (s₁.setTop (mkF m 25 #[.val (.long a), .second, .val (.int b), .val (.int m2), .unset, .unset, .unset, .unset, .unset, .unset, .unset, .unset, .unset, .unset, .unset] []))
      refine own_back (fun t_ q_ => XS.lloadN X0.here hx rfl (hb hby at_25) rfl q_) ?_
      show own_Gl _ _ _ _ (s₁.setTop (mkF m 26 #[.val (.long a), .second, .val (.int b), .val (.int m2), .unset, .unset, .unset, .unset, .unset, .unset, .unset, .unset, .unset, .unset, .unset] [(.long a)]))
      refine own_back (fun t_ q_ => X0.ldc2Long hx hown (mvT hZ (hw _ (List.mem_of_getElem? (i := 7) rfl))) (g := (mkF m 26 #[.val (.long a), .second, .val (.int b), .val (.int m2), .unset, .unset, .unset, .unset, .unset, .unset, .unset, .unset, .unset, .unset, .unset] [(.long a)])) rfl (hb hby at_26) t_ q_) ?_
      show own_Gl _ _ _ _ (s₁.setTop (mkF m 29 #[.val (.long a), .second, .val (.int b), .val (.int m2), .unset, .unset, .unset, .unset, .unset, .unset, .unset, .unset, .unset, .unset, .unset] [(.long (1152921504606846975 : Int64)), (.long a)]))
      refine own_back (fun t_ q_ => XS.land X0.here hx rfl (hb hby at_29) rfl q_) ?_
      show own_Gl _ _ _ _ (s₁.setTop (mkF m 30 #[.val (.long a), .second, .val (.int b), .val (.int m2), .unset, .unset, .unset, .unset, .unset, .unset, .unset, .unset, .unset, .unset, .unset] [(.long (a &&& (1152921504606846975 : Int64)))]))
      refine own_back (fun t_ q_ => XS.lstore X0.here hx rfl (hb hby at_30) rfl (l' := #[.val (.long a), .second, .val (.int b), .val (.int m2), .val (.long (a &&& (1152921504606846975 : Int64))), .second, .unset, .unset, .unset, .unset, .unset, .unset, .unset, .unset, .unset]) rfl q_) ?_
      show own_Gl _ _ _ _ (s₁.setTop (mkF m 32 #[.val (.long a), .second, .val (.int b), .val (.int m2), .val (.long (a &&& (1152921504606846975 : Int64))), .second, .unset, .unset, .unset, .unset, .unset, .unset, .unset, .unset, .unset] []))
      refine own_back (fun t_ q_ => XS.iloadN X0.here hx rfl (hb hby at_32) rfl q_) ?_
      show own_Gl _ _ _ _ (s₁.setTop (mkF m 33 #[.val (.long a), .second, .val (.int b), .val (.int m2), .val (.long (a &&& (1152921504606846975 : Int64))), .second, .unset, .unset, .unset, .unset, .unset, .unset, .unset, .unset, .unset] [(.int b)]))
      refine own_back (fun t_ q_ => X0.ldcInt hx hown (mvT hZ (hw _ (List.mem_of_getElem? (i := 8) rfl))) (g := (mkF m 33 #[.val (.long a), .second, .val (.int b), .val (.int m2), .val (.long (a &&& (1152921504606846975 : Int64))), .second, .unset, .unset, .unset, .unset, .unset, .unset, .unset, .unset, .unset] [(.int b)])) rfl (hb hby at_33) t_ q_) ?_
      show own_Gl _ _ _ _ (s₁.setTop (mkF m 35 #[.val (.long a), .second, .val (.int b), .val (.int m2), .val (.long (a &&& (1152921504606846975 : Int64))), .second, .unset, .unset, .unset, .unset, .unset, .unset, .unset, .unset, .unset] [(.int (2147483647 : Int32)), (.int b)]))
      refine own_back (fun t_ q_ => XS.iand X0.here hx rfl (hb hby at_35) rfl q_) ?_
      show own_Gl _ _ _ _ (s₁.setTop (mkF m 36 #[.val (.long a), .second, .val (.int b), .val (.int m2), .val (.long (a &&& (1152921504606846975 : Int64))), .second, .unset, .unset, .unset, .unset, .unset, .unset, .unset, .unset, .unset] [(.int (b &&& (2147483647 : Int32)))]))
      refine own_back (fun t_ q_ => X0.ldcInt hx hown (mvT hZ (hw _ (List.mem_of_getElem? (i := 8) rfl))) (g := (mkF m 36 #[.val (.long a), .second, .val (.int b), .val (.int m2), .val (.long (a &&& (1152921504606846975 : Int64))), .second, .unset, .unset, .unset, .unset, .unset, .unset, .unset, .unset, .unset] [(.int (b &&& (2147483647 : Int32)))])) rfl (hb hby at_36) t_ q_) ?_
      show own_Gl _ _ _ _ (s₁.setTop (mkF m 38 #[.val (.long a), .second, .val (.int b), .val (.int m2), .val (.long (a &&& (1152921504606846975 : Int64))), .second, .unset, .unset, .unset, .unset, .unset, .unset, .unset, .unset, .unset] [(.int (2147483647 : Int32)), (.int (b &&& (2147483647 : Int32)))]))
      refine own_back (fun t_ q_ => Jvm.RoadKit.iremM (g := (mkF m 38 #[.val (.long a), .second, .val (.int b), .val (.int m2), .val (.long (a &&& (1152921504606846975 : Int64))), .second, .unset, .unset, .unset, .unset, .unset, .unset, .unset, .unset, .unset] [(.int (2147483647 : Int32)), (.int (b &&& (2147483647 : Int32)))])) X0 hx rfl (hb hby at_38) rfl (by decide) q_) ?_
      show own_Gl _ _ _ _ (s₁.setTop (mkF m 39 #[.val (.long a), .second, .val (.int b), .val (.int m2), .val (.long (a &&& (1152921504606846975 : Int64))), .second, .unset, .unset, .unset, .unset, .unset, .unset, .unset, .unset, .unset] [(.int ((b &&& (2147483647 : Int32)) % (2147483647 : Int32)))]))
      refine own_back (fun t_ q_ => XS.iconst X0.here hx rfl (hb hby at_39) q_) ?_
      show own_Gl _ _ _ _ (s₁.setTop (mkF m 40 #[.val (.long a), .second, .val (.int b), .val (.int m2), .val (.long (a &&& (1152921504606846975 : Int64))), .second, .unset, .unset, .unset, .unset, .unset, .unset, .unset, .unset, .unset] [(.int (1 : Int32)), (.int ((b &&& (2147483647 : Int32)) % (2147483647 : Int32)))]))
      refine own_back (fun t_ q_ => XS.iadd X0.here hx rfl (hb hby at_40) rfl q_) ?_
      show own_Gl _ _ _ _ (s₁.setTop (mkF m 41 #[.val (.long a), .second, .val (.int b), .val (.int m2), .val (.long (a &&& (1152921504606846975 : Int64))), .second, .unset, .unset, .unset, .unset, .unset, .unset, .unset, .unset, .unset] [(.int (((b &&& (2147483647 : Int32)) % (2147483647 : Int32)) + (1 : Int32)))]))
      refine own_back (fun t_ q_ => XS.istore X0.here hx rfl (hb hby at_41) rfl (l' := #[.val (.long a), .second, .val (.int b), .val (.int m2), .val (.long (a &&& (1152921504606846975 : Int64))), .second, .val (.int (((b &&& (2147483647 : Int32)) % (2147483647 : Int32)) + (1 : Int32))), .unset, .unset, .unset, .unset, .unset, .unset, .unset, .unset]) rfl q_) ?_
      show own_Gl _ _ _ _ (s₁.setTop (mkF m 43 #[.val (.long a), .second, .val (.int b), .val (.int m2), .val (.long (a &&& (1152921504606846975 : Int64))), .second, .val (.int (((b &&& (2147483647 : Int32)) % (2147483647 : Int32)) + (1 : Int32))), .unset, .unset, .unset, .unset, .unset, .unset, .unset, .unset] []))
      exact tail (_, _) (own_c2 a b)
    · skip
      refine own_back (fun t_ q_ => XS.ifNo X0.here hx rfl (hb hby at_3) rfl ((if0 _ _).trans (feq (hm : ¬ ((m2 &&& (1 : Int32)) = (0 : Int32)))).1) q_) ?_
      show own_Gl _ _ _ _ (s₁.setTop (mkF m 6 #[.val (.long a), .second, .val (.int b), .val (.int m2), .unset, .unset, .unset, .unset, .unset, .unset, .unset, .unset, .unset, .unset, .unset] []))
      refine own_back (fun t_ q_ => XS.lloadN X0.here hx rfl (hb hby at_6) rfl q_) ?_
      show own_Gl _ _ _ _ (s₁.setTop (mkF m 7 #[.val (.long a), .second, .val (.int b), .val (.int m2), .unset, .unset, .unset, .unset, .unset, .unset, .unset, .unset, .unset, .unset, .unset] [(.long a)]))
      refine own_back (fun t_ q_ => X0.ldc2Long hx hown (mvT hZ (hw _ (List.mem_of_getElem? (i := 0) rfl))) (g := (mkF m 7 #[.val (.long a), .second, .val (.int b), .val (.int m2), .unset, .unset, .unset, .unset, .unset, .unset, .unset, .unset, .unset, .unset, .unset] [(.long a)])) rfl (hb hby at_7) t_ q_) ?_
      show own_Gl _ _ _ _ (s₁.setTop (mkF m 10 #[.val (.long a), .second, .val (.int b), .val (.int m2), .unset, .unset, .unset, .unset, .unset, .unset, .unset, .unset, .unset, .unset, .unset] [(.long (65535 : Int64)), (.long a)]))
      refine own_back (fun t_ q_ => XS.land X0.here hx rfl (hb hby at_10) rfl q_) ?_
      show own_Gl _ _ _ _ (s₁.setTop (mkF m 11 #[.val (.long a), .second, .val (.int b), .val (.int m2), .unset, .unset, .unset, .unset, .unset, .unset, .unset, .unset, .unset, .unset, .unset] [(.long (a &&& (65535 : Int64)))]))
      refine own_back (fun t_ q_ => XS.lstore X0.here hx rfl (hb hby at_11) rfl (l' := #[.val (.long a), .second, .val (.int b), .val (.int m2), .val (.long (a &&& (65535 : Int64))), .second, .unset, .unset, .unset, .unset, .unset, .unset, .unset, .unset, .unset]) rfl q_) ?_
      show own_Gl _ _ _ _ (s₁.setTop (mkF m 13 #[.val (.long a), .second, .val (.int b), .val (.int m2), .val (.long (a &&& (65535 : Int64))), .second, .unset, .unset, .unset, .unset, .unset, .unset, .unset, .unset, .unset] []))
      refine own_back (fun t_ q_ => XS.iloadN X0.here hx rfl (hb hby at_13) rfl q_) ?_
      show own_Gl _ _ _ _ (s₁.setTop (mkF m 14 #[.val (.long a), .second, .val (.int b), .val (.int m2), .val (.long (a &&& (65535 : Int64))), .second, .unset, .unset, .unset, .unset, .unset, .unset, .unset, .unset, .unset] [(.int b)]))
      refine own_back (fun t_ q_ => XS.sipush X0.here hx rfl (hb hby at_14) q_) ?_
      show own_Gl _ _ _ _ (s₁.setTop (mkF m 17 #[.val (.long a), .second, .val (.int b), .val (.int m2), .val (.long (a &&& (65535 : Int64))), .second, .unset, .unset, .unset, .unset, .unset, .unset, .unset, .unset, .unset] [(.int (255 : Int32)), (.int b)]))
      refine own_back (fun t_ q_ => XS.iand X0.here hx rfl (hb hby at_17) rfl q_) ?_
      show own_Gl _ _ _ _ (s₁.setTop (mkF m 18 #[.val (.long a), .second, .val (.int b), .val (.int m2), .val (.long (a &&& (65535 : Int64))), .second, .unset, .unset, .unset, .unset, .unset, .unset, .unset, .unset, .unset] [(.int (b &&& (255 : Int32)))]))
      refine own_back (fun t_ q_ => XS.iconst X0.here hx rfl (hb hby at_18) q_) ?_
      show own_Gl _ _ _ _ (s₁.setTop (mkF m 19 #[.val (.long a), .second, .val (.int b), .val (.int m2), .val (.long (a &&& (65535 : Int64))), .second, .unset, .unset, .unset, .unset, .unset, .unset, .unset, .unset, .unset] [(.int (1 : Int32)), (.int (b &&& (255 : Int32)))]))
      refine own_back (fun t_ q_ => XS.iadd X0.here hx rfl (hb hby at_19) rfl q_) ?_
      show own_Gl _ _ _ _ (s₁.setTop (mkF m 20 #[.val (.long a), .second, .val (.int b), .val (.int m2), .val (.long (a &&& (65535 : Int64))), .second, .unset, .unset, .unset, .unset, .unset, .unset, .unset, .unset, .unset] [(.int ((b &&& (255 : Int32)) + (1 : Int32)))]))
      refine own_back (fun t_ q_ => XS.istore X0.here hx rfl (hb hby at_20) rfl (l' := #[.val (.long a), .second, .val (.int b), .val (.int m2), .val (.long (a &&& (65535 : Int64))), .second, .val (.int ((b &&& (255 : Int32)) + (1 : Int32))), .unset, .unset, .unset, .unset, .unset, .unset, .unset, .unset]) rfl q_) ?_
      show own_Gl _ _ _ _ (s₁.setTop (mkF m 22 #[.val (.long a), .second, .val (.int b), .val (.int m2), .val (.long (a &&& (65535 : Int64))), .second, .val (.int ((b &&& (255 : Int32)) + (1 : Int32))), .unset, .unset, .unset, .unset, .unset, .unset, .unset, .unset] []))
      refine own_back (fun t_ q_ => XS.goto X0.here hx rfl (pc0 := 22) (pc' := 43) rfl (hb hby at_22) (by decide) (by decide) q_) ?_
      show own_Gl _ _ _ _ (s₁.setTop (mkF m 43 #[.val (.long a), .second, .val (.int b), .val (.int m2), .val (.long (a &&& (65535 : Int64))), .second, .val (.int ((b &&& (255 : Int32)) + (1 : Int32))), .unset, .unset, .unset, .unset, .unset, .unset, .unset, .unset] []))
      exact tail (_, _) (own_c1 a b)
set_option maxRecDepth 65536 in
set_option maxHeartbeats 40000000 in
theorem comes_1 {Post : Tables → Env → Array Value → State → Outcome → State → Prop} (hpost : ∀ tb e args s v u, (limb_1_1.after args s (.returned v) u = true ∧ limb_1_2.after args s (.returned v) u = true ∧ True) → FrameEnd s (.returned v) u (Jvm.fieldLocs frame_1_writes args s ++ Jvm.arrayLocs frame_1_arrays args s ++ Jvm.staticLocs frame_1_statics s) 0 0 → Post tb e args s (.returned v) u) :
    ArmFor flags0 classFile x code maxLocals ret World_1 tables_1 room_1 Calls_1 rest_1 Pre_1 Post := by
  intro l hfl _ _ p e ha hc hk s m args below hf hA hF happ hP
  obtain ⟨hcalls, hrest, hpre⟩ := hP
  obtain ⟨-, -, -, hnamed, -, -, -, hat⟩ := (Spec.applies_iff hf).mp happ
  obtain ⟨hg, hn⟩ := and_e (Cond.before_iff.mp (show (Jvm.Cond.and given_1 narrow_1).before args s = true from hpre))
  obtain ⟨h1, hg1⟩ := and_e hg
  obtain ⟨w0, w1, w2, rfl⟩ : ∃ w0 w1 w2 : Value, args = #[w0, w1, w2] := by
    have hs : args.size = 3 := by simpa [Cond.value, given_1] using h1
    obtain ⟨L⟩ := args
    match L, hs with
    | [w0, w1, w2], _ => exact ⟨w0, w1, w2, rfl⟩
  have hw := fun d (hd : d ∈ tables_1) => atoms_spec (ws := Jvm.Cond.code x code maxLocals ret :: tables_1) hat d (List.mem_cons_of_mem _ hd)
  obtain ⟨hk0, hg2⟩ := and_e hg1
  obtain ⟨i0, ei0⟩ := isL_v hk0
  obtain rfl : w0 = (.long i0) := Option.some.inj ei0
  obtain ⟨hk1, hg3⟩ := and_e hg2
  obtain ⟨i1, ei1⟩ := is_v hk1
  obtain rfl : w1 = (.int i1) := Option.some.inj ei1
  obtain ⟨i2, ei2⟩ := is_v hg3
  obtain rfl : w2 = (.int i2) := Option.some.inj ei2
  obtain ⟨n, o, h1, h2, h3, _, L, rfl, ⟨rfl, N⟩, hq⟩ := rm0 l s _ hw tables_1 i0 i1 i2 s.heap s.heap.size (Nat.le_refl _) p e ha hc hk s m _ below hf ((Spec.applies_iff_loose hf).mp happ).1 ⟨rfl, State.Warmed39.refl s, rfl⟩ trivial
  refine ⟨n, _, h1, h2, h3, hpost _ _ _ _ _ _ ⟨Cond.after_iff.mpr rfl, Cond.after_iff.mpr (eq_i res_at (Term.int_eval (1)) rfl), trivial⟩ ⟨hq.1, hq.2.1, (hq.2.2.sift fun y hy => Or.inr (N y hy)).mono (by decide) (by decide)⟩⟩
theorem main_1_1 : Claimed_1_1 := comes_1 fun _ _ _ _ _ _ h hF => ⟨h.1, hF⟩
theorem main_1_2 : Claimed_1_2 := comes_1 fun _ _ _ _ _ _ h hF => ⟨h.2.1, hF⟩
end Jvm.Pilot.@@N@@
namespace Jvm.Pilot.@@N@@
open Jvm Jvm.ClassFile Sem Op Lib Jvm.Free Jvm.Stand Jvm.Pilot.@@N@@.Jvm.D
/-! MADE BY PROGRAM (witnessworld.py) out of the Statement's table words and the real class files: 9 classes; the members and pool entries that the words name. The judged class is class 1, her method 1. -/
namespace start1
open Jvm.ClassFile
def u (s : String) : CpInfo := .utf8 (stringToUtf16 s)
/-- a pool by its gaps: so many unusable entries, then the entry; so many at the end -/
def gap : Nat → List CpInfo → List CpInfo
  | 0, r => r
  | n + 1, r => .unusable :: gap n r
def poolList (es : List (Nat × CpInfo)) (last : Nat) : List CpInfo := es.foldr (fun e r => gap e.1 (e.2 :: r)) (gap last [])
def pool (es : List (Nat × CpInfo)) (last : Nat) : Array CpInfo := ⟨poolList es last⟩
def fileOf (pool : Array CpInfo) (this : Nat) (attrs : Array Attribute := #[]) (ms : Array MethodInfo := #[]) (fl : Nat := 33) (sup : Nat := 0) (ifs : Array Nat := #[]) (fds : Array FieldInfo := #[]) : ClassFile where
  minorVersion := 0
  majorVersion := 65
  constantPool := pool
  accessFlags := fl
  thisClass := this
  superClass := sup
  interfaces := ifs
  fields := fds
  methods := ms
  attributes := attrs
def plain (name : String) (sup : Option ClassId) : Class where
  name := name
  kind := .ordinary
  loader := none
  accessFlags := 33
  super := sup
  interfaces := #[]
  cf := none
  fields := #[]
  methods := #[]
  instanceTypes := #[]
  staticTypes := #[]
  resolved := #[]
  callSites := []
  init := .initialized
  statics := none
  mirror := none

def pool0 : Array CpInfo := pool [(5, u "<init>"), (0, u "()V"), (1, .class_ 10), (1, u "java/lang/Object")] 113

def k0m0 : Method := { name := "<init>", desc := "()V", sig := { parameters := [], returnType := none }, accessFlags := 1, code := none }
/-- java/lang/Object -/
def k0 : Class := { plain "java/lang/Object" none with
  accessFlags := 33
  interfaces := #[]
  cf := some (fileOf pool0 8 #[] #[{ accessFlags := 1, nameIndex := 5, descriptorIndex := 6, attributes := #[] }] 33 0 #[] #[])
  fields := #[]
  methods := #[k0m0]
  instanceTypes := #[]
  staticTypes := #[]
  resolved := Array.replicate 124 none
  statics := none }

def pool1 : Array CpInfo := pool [(2, .class_ 4), (1, u "java/lang/Object"), (0, u "<init>"), (0, u "()V"), (0, .long 65535), (1, .long 1152921504606846975), (1, .integer 2147483647), (0, .methodref 13 14), (0, .class_ 15), (0, .nameAndType 16 17), (0, u "com/example/raiz/raiz/query/Checksums"), (0, u "blocksSize"), (0, u "(JI)J"), (0, .long 4), (1, .class_ 21), (0, u "com/example/raiz/raiz/query/ChecksumsBlocksSizePinLaw"), (2, u "law"), (0, u "(JII)Z")] 3

def k1m0 : Method := { name := "<init>", desc := "()V", sig := { parameters := [], returnType := none }, accessFlags := 1, code := none }
def k1c1 : Code := { maxStack := 8, maxLocals := 15, code := code, exceptionTable := #[], attributes := #[] }
def k1m1 : Method := { name := "law", desc := "(JII)Z", sig := { parameters := [.long, .int, .int], returnType := some .boolean }, accessFlags := 9, code := some k1c1 }
/-- com/example/raiz/raiz/query/ChecksumsBlocksSizePinLaw -/
def k1 : Class := { plain "com/example/raiz/raiz/query/ChecksumsBlocksSizePinLaw" (some 0) with
  accessFlags := 49
  interfaces := #[]
  cf := some (fileOf pool1 20 #[] #[{ accessFlags := 1, nameIndex := 5, descriptorIndex := 6, attributes := #[] }, { accessFlags := 9, nameIndex := 24, descriptorIndex := 25, attributes := #[] }] 49 2 #[] #[])
  fields := #[]
  methods := #[k1m0, k1m1]
  instanceTypes := #[]
  staticTypes := #[]
  resolved := Array.replicate 29 none
  statics := none }

def pool2 : Array CpInfo := pool [(2, .class_ 4), (1, u "java/lang/Object"), (0, u "<init>"), (0, u "()V"), (21, .class_ 29), (0, u "com/example/raiz/raiz/query/Checksums"), (14, .long 4), (1, u "SIZE"), (0, u "I"), (7, u "blocksSize"), (0, u "(JI)J"), (3, .class_ 61), (0, u "com/example/raiz/raiz/query/Checksums$Blocks"), (0, .class_ 63), (0, u "com/example/raiz/raiz/query/Checksums$Blocks$Cutting")] 3

def k2m0 : Method := { name := "<init>", desc := "()V", sig := { parameters := [], returnType := none }, accessFlags := 2, code := none }
def k2c1 : Code := { maxStack := 6, maxLocals := 5, code := prog_50_method_4_code, exceptionTable := #[], attributes := #[] }
def k2m1 : Method := { name := "blocksSize", desc := "(JI)J", sig := { parameters := [.long, .int], returnType := some .long }, accessFlags := 8, code := some k2c1 }
/-- com/example/raiz/raiz/query/Checksums -/
def k2 : Class := { plain "com/example/raiz/raiz/query/Checksums" (some 0) with
  accessFlags := 48
  interfaces := #[]
  cf := some (fileOf pool2 28 #[.nestMembers #[60, 62]] #[{ accessFlags := 2, nameIndex := 5, descriptorIndex := 6, attributes := #[] }, { accessFlags := 8, nameIndex := 55, descriptorIndex := 56, attributes := #[] }] 48 2 #[] #[{ accessFlags := 24, nameIndex := 46, descriptorIndex := 47, attributes := #[] }])
  fields := #[{ name := "SIZE", type := .int, accessFlags := 24, slot := 0, constantValue := 0 }]
  methods := #[k2m0, k2m1]
  instanceTypes := #[]
  staticTypes := #[.int]
  resolved := Array.replicate 67 none
  statics := none }

def pool3 : Array CpInfo := pool [(1, u "java/lang/Cloneable"), (0, .class_ 1), (0, u "java/lang/Object"), (0, .class_ 3)] 3

/-- java/lang/Cloneable -/
def k3 : Class := { plain "java/lang/Cloneable" (some 0) with
  accessFlags := 1537
  interfaces := #[]
  cf := some (fileOf pool3 2 #[] #[] 1537 4 #[] #[])
  fields := #[]
  methods := #[]
  instanceTypes := #[]
  staticTypes := #[]
  resolved := Array.replicate 8 none
  statics := none }

def pool4 : Array CpInfo := pool [(1, u "java/io/Serializable"), (0, .class_ 1), (0, u "java/lang/Object"), (0, .class_ 3)] 3

/-- java/io/Serializable -/
def k4 : Class := { plain "java/io/Serializable" (some 0) with
  accessFlags := 1537
  interfaces := #[]
  cf := some (fileOf pool4 2 #[] #[] 1537 4 #[] #[])
  fields := #[]
  methods := #[]
  instanceTypes := #[]
  staticTypes := #[]
  resolved := Array.replicate 8 none
  statics := none }

/-- the primitive byte -/
def k5 : Class := { plain "byte" none with kind := .primitive 'B', accessFlags := 0x411 }
/-- [B -/
def k6 : Class := { plain "[B" (some 0) with kind := .array 5 .byte, interfaces := #[3, 4], accessFlags := 1041 }

/-- the primitive int -/
def k7 : Class := { plain "int" none with kind := .primitive 'I', accessFlags := 0x411 }
/-- [I -/
def k8 : Class := { plain "[I" (some 0) with kind := .array 7 .int, interfaces := #[3, 4], accessFlags := 1041 }

def heap : Heap := #[]
def classes : Array Class := #[k0, k1, k2, k3, k4, k5, k6, k7, k8]
def interned : List (Array UInt16 × Addr) := []
def slotsUsed : Nat := 0
def theMethod : MethodId := ⟨1, 1⟩
def args0 : Array Value := #[.long 1000, .int 7, .int 1]
def aboutOver (below : List Frame) : State where
  vm := { classes := classes, interned := interned.toArray }
  heap := heap
  slotsUsed := slotsUsed
  threads := #[{ frames := .invoking theMethod args0 :: below }]
def below0 : List Frame := [.native { method := ⟨0, 0⟩, args := #[] }]
def about1 : State := aboutOver below0
def p0 : Program := .bare "" "" ""
def e0 : Env := launch0.env 0 0 0
theorem w_frames : about1.frames = Frame.invoking theMethod args0 :: below0 := rfl
set_option maxRecDepth 65536 in
theorem w_args : argsFit about1.vm theMethod args0 = true := by decide +kernel
set_option maxRecDepth 65536 in
theorem w_heap : heapFits about1 = true := by decide +kernel
set_option maxRecDepth 65536 in
theorem w_runnable : about1.curStatus? = some .runnable := by decide +kernel
set_option maxRecDepth 65536 in
theorem w_alone : about1.alone = true := by decide +kernel
set_option maxRecDepth 65536 in
theorem w_named : about1.methodNamed? x = some theMethod := by decide +kernel
set_option maxRecDepth 65536 in
theorem w_hears : about1.hears theMethod below0 = true := by decide +kernel
set_option maxRecDepth 65536 in
theorem w_ripe : about1.ripe theMethod args0 below0 = true := by decide +kernel
theorem w_running : about1.status = .running := rfl
set_option maxRecDepth 65536 in
theorem w_room : about1.hasRoom e0.platform room_1 = true :=
  launch0.hasRoom_least _ room_1 (by decide +kernel) (by decide +kernel) (by decide +kernel) (by decide +kernel) (by decide +kernel) (by decide +kernel)
theorem allAtoms_all (ts : List Jvm.Cond) (a : Array Jvm.Value) (st : Jvm.State) : (allAtoms ts).before a st = ts.all (fun c => c.before a st) := by
  induction ts with
  | nil => rfl
  | cons c t ih =>
    show (Jvm.Cond.and c (allAtoms t)).before a st = _
    rw [Jvm.Cond.before_and, ih, List.all_cons]
def words1 : List Jvm.Cond := Jvm.Cond.code x code maxLocals ret :: tables_1
/-- a 'code' word, met by the world's own term for the bytes: nothing is compared byte by byte -/
theorem code_word {y : MethodName} {bytes : ByteArray} {mx : Nat} {rt : Option FieldType} {a : Array Value} {s : State} {m : MethodId} {meth : Method} {c : Code} (h1 : s.methodNamed? y = some m) (h2 : s.vm.method? m = some meth) (h3 : meth.code = some c) (h4 : c.code = bytes)
    (h5 : (c.maxLocals == mx && c.exceptionTable.isEmpty && decide (c.maxStack ≤ mostOperands) && decide (meth.sig.returnType = rt) && !meth.locks && decide (parseMethodDescriptor y.desc = some meth.sig)) = true) : (Jvm.Cond.code y bytes mx rt).before a s = true := by
  simp only [Bool.and_eq_true, beq_iff_eq, Bool.not_eq_true', decide_eq_true_eq] at h5
  obtain ⟨⟨⟨⟨⟨g1, g2⟩, g3⟩, g4⟩, g5⟩, g6⟩ := h5
  simp [Cond.before, Cond.holds, Cond.value, h1, h2, h3, h4, g1, g2, g3, g4, g5, g6]
def isCode : Jvm.Cond → Bool
  | .code _ _ _ _ => true
  | _ => false
theorem all_split {L : List Jvm.Cond} {P : Jvm.Cond → Bool} (h1 : L.all (fun c => isCode c || P c) = true) (h2 : ∀ c ∈ L.filter isCode, P c = true) : L.all P = true := by
  refine List.all_eq_true.mpr fun c hc => ?_
  have h := List.all_eq_true.mp h1 c hc
  rcases Bool.eq_false_or_eq_true (isCode c) with hi | hi
  · exact h2 c (List.mem_filter.mpr ⟨hc, hi⟩)
  · simpa [hi] using h
set_option maxRecDepth 65536 in
theorem w_c0 : (Jvm.Cond.code x code maxLocals ret).before args0 about1 = true := code_word (m := ⟨1, 1⟩) (meth := k1m1) (c := k1c1) (by decide +kernel) rfl rfl rfl (by decide +kernel)
set_option maxRecDepth 65536 in
theorem w_c1 : (Jvm.Cond.code ({ cls := "com/example/raiz/raiz/query/Checksums", name := "blocksSize", desc := "(JI)J" } : Jvm.MethodName) prog_50_method_4_code (5 : Nat) (Option.some Jvm.ClassFile.FieldType.long)).before args0 about1 = true := code_word (m := ⟨2, 1⟩) (meth := k2m1) (c := k2c1) (by decide +kernel) rfl rfl rfl (by decide +kernel)
def codes1 : List Jvm.Cond := [Jvm.Cond.code x code maxLocals ret, Jvm.Cond.code ({ cls := "com/example/raiz/raiz/query/Checksums", name := "blocksSize", desc := "(JI)J" } : Jvm.MethodName) prog_50_method_4_code (5 : Nat) (Option.some Jvm.ClassFile.FieldType.long)]
set_option maxRecDepth 65536 in
theorem codes_eq : words1.filter isCode = codes1 := rfl
theorem w_codes : ∀ c ∈ words1.filter isCode, c.before args0 about1 = true := by
  rw [codes_eq]
  intro c hc
  simp only [codes1, List.mem_cons, List.not_mem_nil, or_false] at hc
  rcases hc with rfl | rfl
  · exact w_c0
  · exact w_c1
set_option maxRecDepth 65536 in
theorem w_t1 : words1.all (fun c => isCode c || c.before args0 about1) = true := by decide +kernel
theorem w_tables : (allAtoms (Jvm.Cond.code x code maxLocals ret :: tables_1)).before args0 about1 = true := by
  rw [allAtoms_all]
  show words1.all (fun c => c.before args0 about1) = true
  refine all_split ?_ w_codes
  rw [w_t1]
set_option maxRecDepth 65536 in
theorem w_case : (Jvm.Cond.and given_1 narrow_1).before args0 about1 = true := by decide +kernel
theorem w_applies : (headSpec (Jvm.Cond.code x code maxLocals ret :: tables_1) room_1).applies x e0.platform about1 = true :=
  (Spec.applies_iff w_frames).mpr ⟨w_running, w_runnable, w_alone, w_named, w_hears, w_ripe, w_room, w_tables⟩
theorem atStart : AtStart classFile x code maxLocals ret World_1 tables_1 room_1 Calls_1 rest_1 Pre_1 launch0 p0 e0 about1 theMethod args0 below0 :=
  ⟨lists_1, trivial, launch0.admits_env _ _ _, launch0.least_env, fairChoices_fair.cas, fairChoices_fair.clock, w_frames, w_args, w_heap, w_applies, trivial, trivial, w_case⟩
end start1
theorem witness_1 : WitnessClaimed_1 := ⟨start1.p0, start1.e0, start1.about1, start1.theMethod, start1.args0, start1.below0, start1.atStart⟩
end Jvm.Pilot.@@N@@
