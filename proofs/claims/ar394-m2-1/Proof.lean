import JvmDerived
import JvmDerived.Pilot.@@N@@Statement
import JvmDerived.Pilot.@@N@@Code
set_option linter.unusedVariables false
set_option linter.unusedSimpArgs false
namespace Jvm.RoadKit
open Sem ClassFile Op Lib Jvm.Stand Jvm.Free Jvm.LawKit
section New
variable {p : Program} {l : Launch} {e : Env} {R : Room} {s : State} {m : MethodId} {args : Array Value} {below : List Frame} {meth : Method} {c : Code} {T : State} {locs : List Loc} {cells slots : Nat}
theorem retI (X : Stand p l e R s m args below meth c T locs cells slots) (hx : p.tables.exec = Jvm.exec) {pc : Nat} {Ls : Array Slot} {z : Int32} {rest : List Value} (hret : meth.sig.returnType = some .int) (hd : decode c.code pc = .ok (.ireturn, 1)) {fs : List Frame}
    (hl : ∀ (f : JFrame) (acts : List Action), f.method = m → f.locked = none → f.entered = [] → (doReturn e (T.setTop f) acts (some (.int z))).1 = T.setFrames fs) : Steps p.tables e below (T.setTop (mkF m pc Ls (.int z :: rest))) (T.setFrames fs) := by
  have hm' : T.vm.method? m = some meth := X.method'
  have hn : narrow .int (.int z) = .int z := rfl
  show Steps p.tables e below (T.setTop { method := m, pc := pc, locals := Ls, stack := _ :: rest, locked := none }) _
  jvm_step X.here [X.here.top, hx, hd, hm', hret, hn]
  first | (intro acts; rw [hl _ acts rfl rfl rfl]) | rw [hl _ _ rfl rfl rfl]
  exact Steps.refl _
end New
end Jvm.RoadKit
namespace Jvm.Pilot.@@N@@
open Jvm Jvm.ClassFile Sem Op Lib Jvm.Free Jvm.Stand Jvm.LawKit Jvm.RoadKit Bundle Jvm.Pilot.@@N@@.Jvm.D
/-! the walk's own form: from the state S the run ends in a return that P speaks of -/
def own_Gl (tb : Tables) (e : Env) (below : List Frame) (P : Outcome → State → Prop) (S : State) : Prop := ∃ s₂ o, Steps tb e below S s₂ ∧ s₂.status = .running ∧ Ended s₂ below o ∧ P o s₂
def own_P (s : State) (Q : Option Value → Heap → List Loc → Prop) (C N : Nat) (o : Outcome) (u : State) : Prop := ∃ v L, o = .returned v ∧ Q v u.heap L ∧ FrameEnd s o u L C N
theorem own_back {tb : Tables} {e : Env} {below : List Frame} {P : Outcome → State → Prop} {S S' : State} (k : ∀ t, Steps tb e below S' t → Steps tb e below S t) (h : own_Gl tb e below P S') : own_Gl tb e below P S := by
  obtain ⟨s₂, o, h1, h2⟩ := h
  exact ⟨s₂, o, k _ h1, h2⟩
theorem own_trans {tb : Tables} {e : Env} {below : List Frame} {P : Outcome → State → Prop} {S S' : State} (k : Steps tb e below S S') (h : own_Gl tb e below P S') : own_Gl tb e below P S := own_back (fun _ q => k.trans q) h
theorem own_join {tb : Tables} {e : Env} {below : List Frame} {P : Outcome → State → Prop} {S : State} {α : Type} (F : α → State) (C : α → Prop) (tail : ∀ i, C i → own_Gl tb e below P (F i)) (main : (∀ i, C i → own_Gl tb e below P (F i)) → own_Gl tb e below P S) : own_Gl tb e below P S := main tail
section OwnRet
variable {p : Program} {l : Launch} {e : Env} {R : Room} {s : State} {m : MethodId} {args : Array Value} {below : List Frame} {meth : Method} {c : Code} {T : State} {locs : List Loc} {cells slots : Nat}
theorem own_start {C N : Nat} {Q : Option Value → Heap → List Loc → Prop} {g g' : JFrame} (q : g = g') (h : own_Gl p.tables e below (own_P s Q C N) (T.setTop g')) :
    ∃ s₂ o, Steps p.tables e below (T.setTop g) s₂ ∧ s₂.status = .running ∧ Ended s₂ below o ∧ ∃ v L, o = .returned v ∧ Q v s₂.heap L ∧ FrameEnd s o s₂ L C N := by
  subst q; exact h
theorem own_ret (X : Stand p l e R s m args below meth c T locs cells slots) (hlk : meth.locks = false) {v : Option Value} {C N : Nat} {Q : Option Value → Heap → List Loc → Prop} {g : JFrame} (hv : meth.sig.returnType = none → v = none) (hq : Q v T.heap locs) (hc : cells ≤ C) (hn : slots ≤ N)
    (st : ∀ fs, (∀ (f : JFrame) (acts : List Action), f.method = m → f.locked = none → f.entered = [] → (doReturn e (T.setTop f) acts v).1 = T.setFrames fs) → Steps p.tables e below (T.setTop g) (T.setFrames fs)) : own_Gl p.tables e below (own_P s Q C N) (T.setTop g) := by
  obtain ⟨fs, hr, hrun, hended, hW, hsame⟩ := X.leave (v := v) hv hlk
  exact ⟨_, _, st fs hr, hrun, hended, _, _, rfl, hq, ⟨_, rfl⟩, hW, hsame.mono hc hn⟩
theorem own_rZ (X : Stand p l e R s m args below meth c T locs cells slots) (hx : p.tables.exec = Jvm.exec) (hlk : meth.locks = false) (hret : meth.sig.returnType = some .boolean) {z z' : Int32} {C N pc : Nat} {Ls : Array Slot} {rest : List Value} {Q : Option Value → Heap → List Loc → Prop} (hd : decode c.code pc = .ok (.ireturn, 1)) (hz : z &&& 1 = z') (hq : Q (some (.int z')) T.heap locs) (hc : cells ≤ C) (hn : slots ≤ N) :
    own_Gl p.tables e below (own_P s Q C N) (T.setTop (mkF m pc Ls (.int z :: rest))) := by
  subst hz
  exact own_ret X hlk (fun h => by rw [hret] at h; cases h) hq hc hn (fun fs hr => retN X hx (t := .boolean) hret (by simp) hd hr)
theorem own_rC (X : Stand p l e R s m args below meth c T locs cells slots) (hx : p.tables.exec = Jvm.exec) (hlk : meth.locks = false) (hret : meth.sig.returnType = some .char) {z z' : Int32} {C N pc : Nat} {Ls : Array Slot} {rest : List Value} {Q : Option Value → Heap → List Loc → Prop} (hd : decode c.code pc = .ok (.ireturn, 1)) (hz : nar .char z = z') (hq : Q (some (.int z')) T.heap locs) (hc : cells ≤ C) (hn : slots ≤ N) :
    own_Gl p.tables e below (own_P s Q C N) (T.setTop (mkF m pc Ls (.int z :: rest))) := by
  subst hz
  exact own_ret X hlk (fun h => by rw [hret] at h; cases h) hq hc hn (fun fs hr => retN X hx (t := .char) hret (by simp) hd hr)
theorem own_rI (X : Stand p l e R s m args below meth c T locs cells slots) (hx : p.tables.exec = Jvm.exec) (hlk : meth.locks = false) (hret : meth.sig.returnType = some .int) {z : Int32} {C N pc : Nat} {Ls : Array Slot} {rest : List Value} {Q : Option Value → Heap → List Loc → Prop} (hd : decode c.code pc = .ok (.ireturn, 1)) (hq : Q (some (.int z)) T.heap locs) (hc : cells ≤ C) (hn : slots ≤ N) :
    own_Gl p.tables e below (own_P s Q C N) (T.setTop (mkF m pc Ls (.int z :: rest))) :=
  own_ret X hlk (fun h => by rw [hret] at h; cases h) hq hc hn (fun fs hr => retI X hx hret hd hr)
theorem own_rJ (X : Stand p l e R s m args below meth c T locs cells slots) (hx : p.tables.exec = Jvm.exec) (hlk : meth.locks = false) (hret : meth.sig.returnType = some .long) {z : Int64} {C N pc : Nat} {Ls : Array Slot} {rest : List Value} {Q : Option Value → Heap → List Loc → Prop} (hd : decode c.code pc = .ok (.lreturn, 1)) (hq : Q (some (.long z)) T.heap locs) (hc : cells ≤ C) (hn : slots ≤ N) :
    own_Gl p.tables e below (own_P s Q C N) (T.setTop (mkF m pc Ls (.long z :: rest))) :=
  own_ret X hlk (fun h => by rw [hret] at h; cases h) hq hc hn (fun fs hr => retOut X hx hret rfl (Or.inr (Or.inl ⟨rfl, rfl, _, rfl⟩)) hd hr)
theorem own_rA (X : Stand p l e R s m args below meth c T locs cells slots) (hx : p.tables.exec = Jvm.exec) (hlk : meth.locks = false) {t : FieldType} (hret : meth.sig.returnType = some t) (ht : t.isReference = true) {z : Value} (hz : z.isRef = true) (hnz : narrow t z = z) {C N pc : Nat} {Ls : Array Slot} {rest : List Value} {Q : Option Value → Heap → List Loc → Prop} (hd : decode c.code pc = .ok (.areturn, 1)) (hq : Q (some z) T.heap locs) (hc : cells ≤ C) (hn : slots ≤ N) :
    own_Gl p.tables e below (own_P s Q C N) (T.setTop (mkF m pc Ls (z :: rest))) :=
  own_ret X hlk (fun h => by rw [hret] at h; cases h) hq hc hn (fun fs hr => retOut X hx hret hnz (Or.inr (Or.inr (Or.inr (Or.inr ⟨rfl, ht, hz⟩)))) hd hr)
theorem own_rV (X : Stand p l e R s m args below meth c T locs cells slots) (hx : p.tables.exec = Jvm.exec) (hlk : meth.locks = false) (hret : meth.sig.returnType = none) {C N pc : Nat} {Ls : Array Slot} {Q : Option Value → Heap → List Loc → Prop} (hd : decode c.code pc = .ok (.return_, 1)) (hq : Q none T.heap locs) (hc : cells ≤ C) (hn : slots ≤ N) :
    own_Gl p.tables e below (own_P s Q C N) (T.setTop (mkF m pc Ls [])) :=
  own_ret X hlk (fun _ => rfl) hq hc hn (fun fs hr => X.returnOut hx hret hd hr)
end OwnRet
/-! a comparison made a number: branch over; iconst_1; goto; iconst_0 -/
theorem own_bi {tb : Tables} [Ours tb] {e : Env} {below : List Frame} {P : Outcome → State → Prop} {T : State} {m : MethodId} {c : Code} (h : At T m c below) (hx : tb.exec = Jvm.exec) {cd : ClassFile.Cond} {x y : Int32} {Ls : Array Slot} {rest : List Value} (pc pc1 pc2 pc3 pc4 : Nat)
    (d0 : decode c.code pc = .ok (.if_icmp cd 7, 3)) (d1 : decode c.code pc1 = .ok (.iconst 1, 1)) (d2 : decode c.code pc2 = .ok (.goto 4, 3)) (d3 : decode c.code pc3 = .ok (.iconst 0, 1)) (q1 : pc1 = pc + 3) (q2 : pc2 = pc + 4) (q3 : pc3 = pc + 7) (q4 : pc4 = pc + 8)
    (k : own_Gl tb e below P (T.setTop (mkF m pc4 Ls (.int (if if_icmp.holds cd x y = true then 0 else 1) :: rest)))) : own_Gl tb e below P (T.setTop (mkF m pc Ls (.int y :: .int x :: rest))) := by
  subst q1 q2 q3 q4
  cases hc : if_icmp.holds cd x y
  · rw [hc] at k
    refine own_back (fun t q => XS.icmpNo h hx rfl d0 rfl hc q) ?_
    refine own_back (fun t q => XS.iconst h hx rfl d1 q) ?_
    refine own_back (fun t q => XS.goto h hx rfl (pc0 := pc + 4) (pc' := pc + 8) rfl d2 (by omega) (by omega) q) ?_
    exact k
  · rw [hc] at k
    refine own_back (fun t q => XS.icmpYes h hx rfl (pc0 := pc) (pc' := pc + 7) rfl d0 rfl hc (by omega) (by omega) q) ?_
    refine own_back (fun t q => XS.iconst h hx rfl d3 q) ?_
    exact k
theorem own_bz {tb : Tables} [Ours tb] {e : Env} {below : List Frame} {P : Outcome → State → Prop} {T : State} {m : MethodId} {c : Code} (h : At T m c below) (hx : tb.exec = Jvm.exec) {cd : ClassFile.Cond} {x : Int32} {Ls : Array Slot} {rest : List Value} (pc pc1 pc2 pc3 pc4 : Nat)
    (d0 : decode c.code pc = .ok (.ifCond cd 7, 3)) (d1 : decode c.code pc1 = .ok (.iconst 1, 1)) (d2 : decode c.code pc2 = .ok (.goto 4, 3)) (d3 : decode c.code pc3 = .ok (.iconst 0, 1)) (q1 : pc1 = pc + 3) (q2 : pc2 = pc + 4) (q3 : pc3 = pc + 7) (q4 : pc4 = pc + 8)
    (k : own_Gl tb e below P (T.setTop (mkF m pc4 Ls (.int (if if_icmp.holds cd x 0 = true then 0 else 1) :: rest)))) : own_Gl tb e below P (T.setTop (mkF m pc Ls (.int x :: rest))) := by
  subst q1 q2 q3 q4
  cases hc : if_icmp.holds cd x 0
  · rw [hc] at k
    refine own_back (fun t q => XS.ifNo h hx rfl d0 rfl ((if0 _ _).trans hc) q) ?_
    refine own_back (fun t q => XS.iconst h hx rfl d1 q) ?_
    refine own_back (fun t q => XS.goto h hx rfl (pc0 := pc + 4) (pc' := pc + 8) rfl d2 (by omega) (by omega) q) ?_
    exact k
  · rw [hc] at k
    refine own_back (fun t q => XS.ifYes h hx rfl (pc0 := pc) (pc' := pc + 7) rfl d0 rfl ((if0 _ _).trans hc) (by omega) (by omega) q) ?_
    refine own_back (fun t q => XS.iconst h hx rfl d3 q) ?_
    exact k
theorem own_one {z : Int32} (h : z = 1) : z &&& 1 = 1 := by subst h; decide
theorem own_zero {z : Int32} (h : z = 0) : z &&& 1 = 0 := by subst h; decide
def own_step (s : Int32) : Int32 := ((s.toUInt32 >>> ((1 : Int32) &&& 31).toUInt32).toInt32) ^^^ ((s &&& (1 : Int32)) * (-2097792136 : Int32))
def own_mul : Nat → Int32 → Int32 → Int32 → Int32
  | 0, r, _, _ => r
  | n + 1, r, s, x => own_mul n (if x < 0 then r ^^^ s else r) (own_step s) (x <<< ((1 : Int32) &&& 31))
def own_mult (a b : Int32) : Int32 := own_mul 32 0 b a
def own_sh : Nat → Int32 → Int32 → Int64 → Int32
  | 0, p, _, _ => p
  | n + 1, p, q, x => if x = 0 then p else own_sh n (if x &&& 1 = 0 then p else own_mult p q) (own_mult q q) ((x.toUInt64 >>> ((1 : Int32) &&& 0x3f).toInt64.toUInt64).toInt64)
def own_shift (x : Int64) : Int32 := own_sh 64 (-2147483648) 8388608 x
def own_e (j : Int32) : Int32 := (j &&& (255 : Int32)) <<< (((8 : Int32) * ((j.toUInt32 >>> ((8 : Int32) &&& 31).toUInt32).toInt32)) &&& 31)
def own_T (Z : State) (h : Heap) (r : Addr) (z : Int32) : Prop := ∃ cl : Cell, Arr Z h r cl .int ∧ cl.slots.size = 1024 ∧ ∀ j, j < 1024 → cl.slots[j]? = some (.int (own_mult (own_e (Int32.ofNat j)) z))
theorem own_shl (x : Int32) : (x <<< ((1 : Int32) &&& 31)).toBitVec = x.toBitVec <<< 1 := by
  rw [Int32.toBitVec_shiftLeft, show ((1 : Int32) &&& 31).toBitVec.smod 32 = 1#32 by decide, BitVec.shiftLeft_eq']; rfl
def own_Z (n : Nat) (x : Int32) : Prop := x.toBitVec <<< n = 0#32
theorem own_Z32 (x : Int32) : own_Z 32 x := BitVec.shiftLeft_eq_zero (by decide)
theorem own_Zn {n : Nat} {x : Int32} (h : own_Z (n + 1) x) : own_Z n (x <<< ((1 : Int32) &&& 31)) := by
  show (x <<< ((1 : Int32) &&& 31)).toBitVec <<< n = 0#32
  rw [own_shl, ← BitVec.shiftLeft_add, Nat.add_comm]; exact h
theorem own_Z0 {x : Int32} (h : own_Z 0 x) : x = 0 := by
  have h' : x.toBitVec <<< 0 = 0#32 := h
  rw [BitVec.shiftLeft_zero] at h'
  exact Int32.toBitVec_inj.mp h'
theorem own_mul0 : ∀ (n : Nat) (r s : Int32), own_mul n r s 0 = r
  | 0, _, _ => rfl
  | n + 1, r, s => by
    show own_mul n (if (0 : Int32) < 0 then r ^^^ s else r) (own_step s) ((0 : Int32) <<< ((1 : Int32) &&& 31)) = r
    rw [if_neg (by decide), show (0 : Int32) <<< ((1 : Int32) &&& 31) = 0 by decide]
    exact own_mul0 n r _
theorem own_x1 (a b s : Int32) : (a ^^^ s) ^^^ (b ^^^ s) = a ^^^ b := by rw [Int32.xor_assoc, Int32.xor_comm b s, ← Int32.xor_assoc s s b, Int32.xor_self, Int32.zero_xor]
theorem own_x2 (a b s : Int32) : (a ^^^ s) ^^^ b = (a ^^^ b) ^^^ s := by rw [Int32.xor_assoc, Int32.xor_comm s b, ← Int32.xor_assoc]
theorem own_lin : ∀ (n : Nat) (r1 r2 s x1 x2 : Int32), own_mul n (r1 ^^^ r2) s (x1 ^^^ x2) = own_mul n r1 s x1 ^^^ own_mul n r2 s x2
  | 0, _, _, _, _, _ => rfl
  | n + 1, r1, r2, s, x1, x2 => by
    have hs : (x1 ^^^ x2) <<< ((1 : Int32) &&& 31) = (x1 <<< ((1 : Int32) &&& 31)) ^^^ (x2 <<< ((1 : Int32) &&& 31)) := by
      apply Int32.toBitVec_inj.mp
      rw [Int32.toBitVec_xor, own_shl, own_shl, own_shl, Int32.toBitVec_xor, BitVec.shiftLeft_xor_distrib]
    have hr : (if x1 ^^^ x2 < 0 then (r1 ^^^ r2) ^^^ s else r1 ^^^ r2) = (if x1 < 0 then r1 ^^^ s else r1) ^^^ (if x2 < 0 then r2 ^^^ s else r2) := by
      have k := Jvm.Free.XT.xor_neg32 x1 x2
      by_cases h1 : x1 < 0 <;> by_cases h2 : x2 < 0
      · rw [if_neg (fun q => (k.mp q) ⟨fun _ => h2, fun _ => h1⟩), if_pos h1, if_pos h2, own_x1]
      · rw [if_pos (k.mpr fun q => h2 (q.mp h1)), if_pos h1, if_neg h2, own_x2]
      · rw [if_pos (k.mpr fun q => h1 (q.mpr h2)), if_neg h1, if_pos h2, Int32.xor_assoc]
      · rw [if_neg (fun q => (k.mp q) ⟨fun w => absurd w h1, fun w => absurd w h2⟩), if_neg h1, if_neg h2]
    show own_mul n (if x1 ^^^ x2 < 0 then (r1 ^^^ r2) ^^^ s else r1 ^^^ r2) (own_step s) ((x1 ^^^ x2) <<< ((1 : Int32) &&& 31)) = own_mul n (if x1 < 0 then r1 ^^^ s else r1) (own_step s) (x1 <<< ((1 : Int32) &&& 31)) ^^^ own_mul n (if x2 < 0 then r2 ^^^ s else r2) (own_step s) (x2 <<< ((1 : Int32) &&& 31))
    rw [hs, hr]
    exact own_lin n _ _ _ _ _
theorem own_add (a b z : Int32) : own_mult (a ^^^ b) z = own_mult a z ^^^ own_mult b z := by
  have k := own_lin 32 0 0 z a b
  rw [Int32.xor_self] at k
  exact k
def own_W (n : Nat) (x : Int64) : Prop := x.toBitVec >>> n = 0#64
theorem own_W64 (x : Int64) : own_W 64 x := BitVec.ushiftRight_eq_zero (by decide)
theorem own_lush (x : Int64) : ((x.toUInt64 >>> ((1 : Int32) &&& 0x3f).toInt64.toUInt64).toInt64).toBitVec = x.toBitVec >>> 1 := by
  show (x.toUInt64 >>> ((1 : Int32) &&& 0x3f).toInt64.toUInt64).toBitVec = _
  rw [UInt64.toBitVec_shiftRight, show ((1 : Int32) &&& 0x3f).toInt64.toUInt64.toBitVec % 64 = 1#64 by decide, BitVec.ushiftRight_eq']; rfl
theorem own_Wn {n : Nat} {x : Int64} (h : own_W (n + 1) x) : own_W n ((x.toUInt64 >>> ((1 : Int32) &&& 0x3f).toInt64.toUInt64).toInt64) := by
  show ((x.toUInt64 >>> ((1 : Int32) &&& 0x3f).toInt64.toUInt64).toInt64).toBitVec >>> n = 0#64
  rw [own_lush, ← BitVec.shiftRight_add, Nat.add_comm]; exact h
theorem own_W0 {x : Int64} (h : own_W 0 x) : x = 0 := by
  have h' : x.toBitVec >>> 0 = 0#64 := h
  rw [BitVec.ushiftRight_zero] at h'
  exact Int64.toBitVec_inj.mp h'
theorem own_nat {i : Nat} (h : i < 2147483648) : ¬ (Int32.ofNat i) < 0 ∧ (Int32.ofNat i).toNatClampNeg = i ∧ (Int32.ofNat i).toInt = i := by
  have e : (Int32.ofNat i).toInt = i := Int32.toInt_ofNat_small h
  refine ⟨?_, ?_, e⟩
  · rw [Int32.lt_iff_toInt_lt, e]; have : (0 : Int32).toInt = 0 := by decide
    omega
  · show (Int32.ofNat i).toInt.toNat = i
    omega
theorem own_set {cl : Cell} {j i : Nat} {v : Value} (hi : i < cl.slots.size) : (cl.setSlot i v).slots[j]? = if j = i then some v else cl.slots[j]? := by
  show (cl.slots.setIfInBounds i v)[j]? = _
  rw [Array.getElem?_setIfInBounds]
  by_cases q : i = j
  · subst q; simp [hi]
  · rw [if_neg q, if_neg (fun w => q w.symm)]
/-! the table's four places for an int -/
def own_i0 (v : Int32) : Int32 := v &&& (255 : Int32)
def own_i1 (v : Int32) : Int32 := (256 : Int32) ||| (((v.toUInt32 >>> ((8 : Int32) &&& 31).toUInt32).toInt32) &&& (255 : Int32))
def own_i2 (v : Int32) : Int32 := (512 : Int32) ||| (((v.toUInt32 >>> ((16 : Int32) &&& 31).toUInt32).toInt32) &&& (255 : Int32))
def own_i3 (v : Int32) : Int32 := (768 : Int32) ||| ((v.toUInt32 >>> ((24 : Int32) &&& 31).toUInt32).toInt32)
theorem own_ush8 (x : Int32) : ((x.toUInt32 >>> ((8 : Int32) &&& 31).toUInt32).toInt32).toBitVec = x.toBitVec >>> 8 := by
  show (x.toUInt32 >>> ((8 : Int32) &&& 31).toUInt32).toBitVec = _
  rw [UInt32.toBitVec_shiftRight, show ((8 : Int32) &&& 31).toUInt32.toBitVec % 32 = 8#32 by decide, BitVec.ushiftRight_eq']; rfl
theorem own_ush16 (x : Int32) : ((x.toUInt32 >>> ((16 : Int32) &&& 31).toUInt32).toInt32).toBitVec = x.toBitVec >>> 16 := by
  show (x.toUInt32 >>> ((16 : Int32) &&& 31).toUInt32).toBitVec = _
  rw [UInt32.toBitVec_shiftRight, show ((16 : Int32) &&& 31).toUInt32.toBitVec % 32 = 16#32 by decide, BitVec.ushiftRight_eq']; rfl
theorem own_ush24 (x : Int32) : ((x.toUInt32 >>> ((24 : Int32) &&& 31).toUInt32).toInt32).toBitVec = x.toBitVec >>> 24 := by
  show (x.toUInt32 >>> ((24 : Int32) &&& 31).toUInt32).toBitVec = _
  rw [UInt32.toBitVec_shiftRight, show ((24 : Int32) &&& 31).toUInt32.toBitVec % 32 = 24#32 by decide, BitVec.ushiftRight_eq']; rfl
theorem own_q0 (y : BitVec 32) : (y &&& 255#32) >>> 8 = 0#32 := by
  apply BitVec.eq_of_getLsbD_eq
  intro i hi
  have hi' : i = 0 ∨ i = 1 ∨ i = 2 ∨ i = 3 ∨ i = 4 ∨ i = 5 ∨ i = 6 ∨ i = 7 ∨ i = 8 ∨ i = 9 ∨ i = 10 ∨ i = 11 ∨ i = 12 ∨ i = 13 ∨ i = 14 ∨ i = 15 ∨ i = 16 ∨ i = 17 ∨ i = 18 ∨ i = 19 ∨ i = 20 ∨ i = 21 ∨ i = 22 ∨ i = 23 ∨ i = 24 ∨ i = 25 ∨ i = 26 ∨ i = 27 ∨ i = 28 ∨ i = 29 ∨ i = 30 ∨ i = 31 := by omega
  rcases hi' with rfl | rfl | rfl | rfl | rfl | rfl | rfl | rfl | rfl | rfl | rfl | rfl | rfl | rfl | rfl | rfl | rfl | rfl | rfl | rfl | rfl | rfl | rfl | rfl | rfl | rfl | rfl | rfl | rfl | rfl | rfl | rfl <;> simp
theorem own_b0 (v : Int32) : (own_i0 v).toBitVec = (v.toBitVec &&& 255#32) := by
  unfold own_i0
  simp only [Int32.toBitVec_or, Int32.toBitVec_and]
  rfl
theorem own_s0 (v : Int32) : (own_e (own_i0 v)).toBitVec = ((v.toBitVec &&& 255#32) &&& 255#32) <<< 0 := by
  have e : ((own_i0 v).toUInt32 >>> ((8 : Int32) &&& 31).toUInt32).toInt32 = (0 : Int32) := by
    apply Int32.toBitVec_inj.mp
    rw [own_ush8, own_b0, own_q0]; rfl
  unfold own_e
  rw [e, Int32.toBitVec_shiftLeft, show ((8 : Int32) * (0 : Int32) &&& 31).toBitVec.smod 32 = 0#32 by decide, Int32.toBitVec_and, own_b0, BitVec.shiftLeft_eq']; rfl
theorem own_r0 (v : Int32) : ¬ own_i0 v < 0 ∧ (own_i0 v).toNatClampNeg < 1024 := by
  have e : (own_i0 v).toBitVec >>> 10 = 0#32 := by
    rw [own_b0]
    generalize v.toBitVec = y
    apply BitVec.eq_of_getLsbD_eq
    intro i hi
    have hi' : i = 0 ∨ i = 1 ∨ i = 2 ∨ i = 3 ∨ i = 4 ∨ i = 5 ∨ i = 6 ∨ i = 7 ∨ i = 8 ∨ i = 9 ∨ i = 10 ∨ i = 11 ∨ i = 12 ∨ i = 13 ∨ i = 14 ∨ i = 15 ∨ i = 16 ∨ i = 17 ∨ i = 18 ∨ i = 19 ∨ i = 20 ∨ i = 21 ∨ i = 22 ∨ i = 23 ∨ i = 24 ∨ i = 25 ∨ i = 26 ∨ i = 27 ∨ i = 28 ∨ i = 29 ∨ i = 30 ∨ i = 31 := by omega
    rcases hi' with rfl | rfl | rfl | rfl | rfl | rfl | rfl | rfl | rfl | rfl | rfl | rfl | rfl | rfl | rfl | rfl | rfl | rfl | rfl | rfl | rfl | rfl | rfl | rfl | rfl | rfl | rfl | rfl | rfl | rfl | rfl | rfl <;> simp
  have n : (own_i0 v).toBitVec.toNat < 1024 := by
    have q := congrArg BitVec.toNat e
    rw [BitVec.toNat_ushiftRight, Nat.shiftRight_eq_div_pow] at q
    have : (0#32 : BitVec 32).toNat = 0 := rfl
    omega
  have t : (own_i0 v).toInt = (own_i0 v).toBitVec.toNat := by
    show (own_i0 v).toBitVec.toInt = _
    rw [BitVec.toInt_eq_toNat_of_lt (by omega)]
  refine ⟨fun q => ?_, ?_⟩
  · rw [Int32.lt_iff_toInt_lt, t] at q
    have : (0 : Int32).toInt = 0 := by decide
    omega
  · show (own_i0 v).toInt.toNat < 1024
    omega
theorem own_q1 (y : BitVec 32) : (256#32 ||| ((y >>> 8) &&& 255#32)) >>> 8 = 1#32 := by
  apply BitVec.eq_of_getLsbD_eq
  intro i hi
  have hi' : i = 0 ∨ i = 1 ∨ i = 2 ∨ i = 3 ∨ i = 4 ∨ i = 5 ∨ i = 6 ∨ i = 7 ∨ i = 8 ∨ i = 9 ∨ i = 10 ∨ i = 11 ∨ i = 12 ∨ i = 13 ∨ i = 14 ∨ i = 15 ∨ i = 16 ∨ i = 17 ∨ i = 18 ∨ i = 19 ∨ i = 20 ∨ i = 21 ∨ i = 22 ∨ i = 23 ∨ i = 24 ∨ i = 25 ∨ i = 26 ∨ i = 27 ∨ i = 28 ∨ i = 29 ∨ i = 30 ∨ i = 31 := by omega
  rcases hi' with rfl | rfl | rfl | rfl | rfl | rfl | rfl | rfl | rfl | rfl | rfl | rfl | rfl | rfl | rfl | rfl | rfl | rfl | rfl | rfl | rfl | rfl | rfl | rfl | rfl | rfl | rfl | rfl | rfl | rfl | rfl | rfl <;> simp
theorem own_b1 (v : Int32) : (own_i1 v).toBitVec = (256#32 ||| ((v.toBitVec >>> 8) &&& 255#32)) := by
  unfold own_i1
  simp only [Int32.toBitVec_or, Int32.toBitVec_and, own_ush8]
  rfl
theorem own_s1 (v : Int32) : (own_e (own_i1 v)).toBitVec = ((256#32 ||| ((v.toBitVec >>> 8) &&& 255#32)) &&& 255#32) <<< 8 := by
  have e : ((own_i1 v).toUInt32 >>> ((8 : Int32) &&& 31).toUInt32).toInt32 = (1 : Int32) := by
    apply Int32.toBitVec_inj.mp
    rw [own_ush8, own_b1, own_q1]; rfl
  unfold own_e
  rw [e, Int32.toBitVec_shiftLeft, show ((8 : Int32) * (1 : Int32) &&& 31).toBitVec.smod 32 = 8#32 by decide, Int32.toBitVec_and, own_b1, BitVec.shiftLeft_eq']; rfl
theorem own_r1 (v : Int32) : ¬ own_i1 v < 0 ∧ (own_i1 v).toNatClampNeg < 1024 := by
  have e : (own_i1 v).toBitVec >>> 10 = 0#32 := by
    rw [own_b1]
    generalize v.toBitVec = y
    apply BitVec.eq_of_getLsbD_eq
    intro i hi
    have hi' : i = 0 ∨ i = 1 ∨ i = 2 ∨ i = 3 ∨ i = 4 ∨ i = 5 ∨ i = 6 ∨ i = 7 ∨ i = 8 ∨ i = 9 ∨ i = 10 ∨ i = 11 ∨ i = 12 ∨ i = 13 ∨ i = 14 ∨ i = 15 ∨ i = 16 ∨ i = 17 ∨ i = 18 ∨ i = 19 ∨ i = 20 ∨ i = 21 ∨ i = 22 ∨ i = 23 ∨ i = 24 ∨ i = 25 ∨ i = 26 ∨ i = 27 ∨ i = 28 ∨ i = 29 ∨ i = 30 ∨ i = 31 := by omega
    rcases hi' with rfl | rfl | rfl | rfl | rfl | rfl | rfl | rfl | rfl | rfl | rfl | rfl | rfl | rfl | rfl | rfl | rfl | rfl | rfl | rfl | rfl | rfl | rfl | rfl | rfl | rfl | rfl | rfl | rfl | rfl | rfl | rfl <;> simp
  have n : (own_i1 v).toBitVec.toNat < 1024 := by
    have q := congrArg BitVec.toNat e
    rw [BitVec.toNat_ushiftRight, Nat.shiftRight_eq_div_pow] at q
    have : (0#32 : BitVec 32).toNat = 0 := rfl
    omega
  have t : (own_i1 v).toInt = (own_i1 v).toBitVec.toNat := by
    show (own_i1 v).toBitVec.toInt = _
    rw [BitVec.toInt_eq_toNat_of_lt (by omega)]
  refine ⟨fun q => ?_, ?_⟩
  · rw [Int32.lt_iff_toInt_lt, t] at q
    have : (0 : Int32).toInt = 0 := by decide
    omega
  · show (own_i1 v).toInt.toNat < 1024
    omega
theorem own_q2 (y : BitVec 32) : (512#32 ||| ((y >>> 16) &&& 255#32)) >>> 8 = 2#32 := by
  apply BitVec.eq_of_getLsbD_eq
  intro i hi
  have hi' : i = 0 ∨ i = 1 ∨ i = 2 ∨ i = 3 ∨ i = 4 ∨ i = 5 ∨ i = 6 ∨ i = 7 ∨ i = 8 ∨ i = 9 ∨ i = 10 ∨ i = 11 ∨ i = 12 ∨ i = 13 ∨ i = 14 ∨ i = 15 ∨ i = 16 ∨ i = 17 ∨ i = 18 ∨ i = 19 ∨ i = 20 ∨ i = 21 ∨ i = 22 ∨ i = 23 ∨ i = 24 ∨ i = 25 ∨ i = 26 ∨ i = 27 ∨ i = 28 ∨ i = 29 ∨ i = 30 ∨ i = 31 := by omega
  rcases hi' with rfl | rfl | rfl | rfl | rfl | rfl | rfl | rfl | rfl | rfl | rfl | rfl | rfl | rfl | rfl | rfl | rfl | rfl | rfl | rfl | rfl | rfl | rfl | rfl | rfl | rfl | rfl | rfl | rfl | rfl | rfl | rfl <;> simp
theorem own_b2 (v : Int32) : (own_i2 v).toBitVec = (512#32 ||| ((v.toBitVec >>> 16) &&& 255#32)) := by
  unfold own_i2
  simp only [Int32.toBitVec_or, Int32.toBitVec_and, own_ush16]
  rfl
theorem own_s2 (v : Int32) : (own_e (own_i2 v)).toBitVec = ((512#32 ||| ((v.toBitVec >>> 16) &&& 255#32)) &&& 255#32) <<< 16 := by
  have e : ((own_i2 v).toUInt32 >>> ((8 : Int32) &&& 31).toUInt32).toInt32 = (2 : Int32) := by
    apply Int32.toBitVec_inj.mp
    rw [own_ush8, own_b2, own_q2]; rfl
  unfold own_e
  rw [e, Int32.toBitVec_shiftLeft, show ((8 : Int32) * (2 : Int32) &&& 31).toBitVec.smod 32 = 16#32 by decide, Int32.toBitVec_and, own_b2, BitVec.shiftLeft_eq']; rfl
theorem own_r2 (v : Int32) : ¬ own_i2 v < 0 ∧ (own_i2 v).toNatClampNeg < 1024 := by
  have e : (own_i2 v).toBitVec >>> 10 = 0#32 := by
    rw [own_b2]
    generalize v.toBitVec = y
    apply BitVec.eq_of_getLsbD_eq
    intro i hi
    have hi' : i = 0 ∨ i = 1 ∨ i = 2 ∨ i = 3 ∨ i = 4 ∨ i = 5 ∨ i = 6 ∨ i = 7 ∨ i = 8 ∨ i = 9 ∨ i = 10 ∨ i = 11 ∨ i = 12 ∨ i = 13 ∨ i = 14 ∨ i = 15 ∨ i = 16 ∨ i = 17 ∨ i = 18 ∨ i = 19 ∨ i = 20 ∨ i = 21 ∨ i = 22 ∨ i = 23 ∨ i = 24 ∨ i = 25 ∨ i = 26 ∨ i = 27 ∨ i = 28 ∨ i = 29 ∨ i = 30 ∨ i = 31 := by omega
    rcases hi' with rfl | rfl | rfl | rfl | rfl | rfl | rfl | rfl | rfl | rfl | rfl | rfl | rfl | rfl | rfl | rfl | rfl | rfl | rfl | rfl | rfl | rfl | rfl | rfl | rfl | rfl | rfl | rfl | rfl | rfl | rfl | rfl <;> simp
  have n : (own_i2 v).toBitVec.toNat < 1024 := by
    have q := congrArg BitVec.toNat e
    rw [BitVec.toNat_ushiftRight, Nat.shiftRight_eq_div_pow] at q
    have : (0#32 : BitVec 32).toNat = 0 := rfl
    omega
  have t : (own_i2 v).toInt = (own_i2 v).toBitVec.toNat := by
    show (own_i2 v).toBitVec.toInt = _
    rw [BitVec.toInt_eq_toNat_of_lt (by omega)]
  refine ⟨fun q => ?_, ?_⟩
  · rw [Int32.lt_iff_toInt_lt, t] at q
    have : (0 : Int32).toInt = 0 := by decide
    omega
  · show (own_i2 v).toInt.toNat < 1024
    omega
theorem own_q3 (y : BitVec 32) : (768#32 ||| (y >>> 24)) >>> 8 = 3#32 := by
  apply BitVec.eq_of_getLsbD_eq
  intro i hi
  have hi' : i = 0 ∨ i = 1 ∨ i = 2 ∨ i = 3 ∨ i = 4 ∨ i = 5 ∨ i = 6 ∨ i = 7 ∨ i = 8 ∨ i = 9 ∨ i = 10 ∨ i = 11 ∨ i = 12 ∨ i = 13 ∨ i = 14 ∨ i = 15 ∨ i = 16 ∨ i = 17 ∨ i = 18 ∨ i = 19 ∨ i = 20 ∨ i = 21 ∨ i = 22 ∨ i = 23 ∨ i = 24 ∨ i = 25 ∨ i = 26 ∨ i = 27 ∨ i = 28 ∨ i = 29 ∨ i = 30 ∨ i = 31 := by omega
  rcases hi' with rfl | rfl | rfl | rfl | rfl | rfl | rfl | rfl | rfl | rfl | rfl | rfl | rfl | rfl | rfl | rfl | rfl | rfl | rfl | rfl | rfl | rfl | rfl | rfl | rfl | rfl | rfl | rfl | rfl | rfl | rfl | rfl <;> simp
theorem own_b3 (v : Int32) : (own_i3 v).toBitVec = (768#32 ||| (v.toBitVec >>> 24)) := by
  unfold own_i3
  simp only [Int32.toBitVec_or, Int32.toBitVec_and, own_ush24]
  rfl
theorem own_s3 (v : Int32) : (own_e (own_i3 v)).toBitVec = ((768#32 ||| (v.toBitVec >>> 24)) &&& 255#32) <<< 24 := by
  have e : ((own_i3 v).toUInt32 >>> ((8 : Int32) &&& 31).toUInt32).toInt32 = (3 : Int32) := by
    apply Int32.toBitVec_inj.mp
    rw [own_ush8, own_b3, own_q3]; rfl
  unfold own_e
  rw [e, Int32.toBitVec_shiftLeft, show ((8 : Int32) * (3 : Int32) &&& 31).toBitVec.smod 32 = 24#32 by decide, Int32.toBitVec_and, own_b3, BitVec.shiftLeft_eq']; rfl
theorem own_r3 (v : Int32) : ¬ own_i3 v < 0 ∧ (own_i3 v).toNatClampNeg < 1024 := by
  have e : (own_i3 v).toBitVec >>> 10 = 0#32 := by
    rw [own_b3]
    generalize v.toBitVec = y
    apply BitVec.eq_of_getLsbD_eq
    intro i hi
    have hi' : i = 0 ∨ i = 1 ∨ i = 2 ∨ i = 3 ∨ i = 4 ∨ i = 5 ∨ i = 6 ∨ i = 7 ∨ i = 8 ∨ i = 9 ∨ i = 10 ∨ i = 11 ∨ i = 12 ∨ i = 13 ∨ i = 14 ∨ i = 15 ∨ i = 16 ∨ i = 17 ∨ i = 18 ∨ i = 19 ∨ i = 20 ∨ i = 21 ∨ i = 22 ∨ i = 23 ∨ i = 24 ∨ i = 25 ∨ i = 26 ∨ i = 27 ∨ i = 28 ∨ i = 29 ∨ i = 30 ∨ i = 31 := by omega
    rcases hi' with rfl | rfl | rfl | rfl | rfl | rfl | rfl | rfl | rfl | rfl | rfl | rfl | rfl | rfl | rfl | rfl | rfl | rfl | rfl | rfl | rfl | rfl | rfl | rfl | rfl | rfl | rfl | rfl | rfl | rfl | rfl | rfl <;> simp
  have n : (own_i3 v).toBitVec.toNat < 1024 := by
    have q := congrArg BitVec.toNat e
    rw [BitVec.toNat_ushiftRight, Nat.shiftRight_eq_div_pow] at q
    have : (0#32 : BitVec 32).toNat = 0 := rfl
    omega
  have t : (own_i3 v).toInt = (own_i3 v).toBitVec.toNat := by
    show (own_i3 v).toBitVec.toInt = _
    rw [BitVec.toInt_eq_toNat_of_lt (by omega)]
  refine ⟨fun q => ?_, ?_⟩
  · rw [Int32.lt_iff_toInt_lt, t] at q
    have : (0 : Int32).toInt = 0 := by decide
    omega
  · show (own_i3 v).toInt.toNat < 1024
    omega
theorem own_whole (y : BitVec 32) : ((((y &&& 255#32) &&& 255#32) <<< 0 ^^^ ((256#32 ||| ((y >>> 8) &&& 255#32)) &&& 255#32) <<< 8) ^^^ ((512#32 ||| ((y >>> 16) &&& 255#32)) &&& 255#32) <<< 16) ^^^ ((768#32 ||| (y >>> 24)) &&& 255#32) <<< 24 = y := by
  apply BitVec.eq_of_getLsbD_eq
  intro i hi
  have hi' : i = 0 ∨ i = 1 ∨ i = 2 ∨ i = 3 ∨ i = 4 ∨ i = 5 ∨ i = 6 ∨ i = 7 ∨ i = 8 ∨ i = 9 ∨ i = 10 ∨ i = 11 ∨ i = 12 ∨ i = 13 ∨ i = 14 ∨ i = 15 ∨ i = 16 ∨ i = 17 ∨ i = 18 ∨ i = 19 ∨ i = 20 ∨ i = 21 ∨ i = 22 ∨ i = 23 ∨ i = 24 ∨ i = 25 ∨ i = 26 ∨ i = 27 ∨ i = 28 ∨ i = 29 ∨ i = 30 ∨ i = 31 := by omega
  rcases hi' with rfl | rfl | rfl | rfl | rfl | rfl | rfl | rfl | rfl | rfl | rfl | rfl | rfl | rfl | rfl | rfl | rfl | rfl | rfl | rfl | rfl | rfl | rfl | rfl | rfl | rfl | rfl | rfl | rfl | rfl | rfl | rfl <;> simp
theorem own_sum (v : Int32) : ((own_e (own_i0 v) ^^^ own_e (own_i1 v)) ^^^ own_e (own_i2 v)) ^^^ own_e (own_i3 v) = v := by
  apply Int32.toBitVec_inj.mp
  rw [Int32.toBitVec_xor, Int32.toBitVec_xor, Int32.toBitVec_xor, own_s0, own_s1, own_s2, own_s3]
  exact own_whole _
theorem own_times (v z : Int32) : ((own_mult (own_e (own_i0 v)) z ^^^ own_mult (own_e (own_i1 v)) z) ^^^ own_mult (own_e (own_i2 v)) z) ^^^ own_mult (own_e (own_i3 v)) z = own_mult v z := by
  rw [← own_add, ← own_add, ← own_add, own_sum]
theorem own_at {cl : Cell} {z i : Int32} (S : cl.slots.size = 1024) (H : ∀ j, j < 1024 → cl.slots[j]? = some (.int (own_mult (own_e (Int32.ofNat j)) z))) (r : ¬ i < 0 ∧ i.toNatClampNeg < 1024) : ¬ (i < 0 ∨ cl.slots.size ≤ i.toNatClampNeg) ∧ cl.slots[i.toNatClampNeg]? = some (.int (own_mult (own_e i) z)) := by
  refine ⟨fun q => q.elim r.1 (by rw [S]; omega), ?_⟩
  rw [H _ r.2]
  have e : Int32.ofNat i.toNatClampNeg = i := (back32 r.1).1
  rw [e]
theorem d4_0 : decode prog_135_method_6_code 0 = .ok (.iconst 0, 1) := by decide +kernel
theorem d4_1 : decode prog_135_method_6_code 1 = .ok (.istore_n 2, 1) := by decide +kernel
theorem d4_2 : decode prog_135_method_6_code 2 = .ok (.iload_n 1, 1) := by decide +kernel
theorem d4_3 : decode prog_135_method_6_code 3 = .ok (.istore_n 3, 1) := by decide +kernel
theorem d4_4 : decode prog_135_method_6_code 4 = .ok (.iload_n 0, 1) := by decide +kernel
theorem d4_5 : decode prog_135_method_6_code 5 = .ok (.istore 4, 2) := by decide +kernel
theorem d4_7 : decode prog_135_method_6_code 7 = .ok (.iload 4, 2) := by decide +kernel
theorem d4_9 : decode prog_135_method_6_code 9 = .ok (.ifCond .eq 32, 3) := by decide +kernel
theorem d4_12 : decode prog_135_method_6_code 12 = .ok (.iload 4, 2) := by decide +kernel
theorem d4_14 : decode prog_135_method_6_code 14 = .ok (.ifCond .ge 7, 3) := by decide +kernel
theorem d4_17 : decode prog_135_method_6_code 17 = .ok (.iload_n 2, 1) := by decide +kernel
theorem d4_18 : decode prog_135_method_6_code 18 = .ok (.iload_n 3, 1) := by decide +kernel
theorem d4_19 : decode prog_135_method_6_code 19 = .ok (.ixor, 1) := by decide +kernel
theorem d4_20 : decode prog_135_method_6_code 20 = .ok (.istore_n 2, 1) := by decide +kernel
theorem d4_21 : decode prog_135_method_6_code 21 = .ok (.iload_n 3, 1) := by decide +kernel
theorem d4_22 : decode prog_135_method_6_code 22 = .ok (.iconst 1, 1) := by decide +kernel
theorem d4_23 : decode prog_135_method_6_code 23 = .ok (.iushr, 1) := by decide +kernel
theorem d4_24 : decode prog_135_method_6_code 24 = .ok (.iload_n 3, 1) := by decide +kernel
theorem d4_25 : decode prog_135_method_6_code 25 = .ok (.iconst 1, 1) := by decide +kernel
theorem d4_26 : decode prog_135_method_6_code 26 = .ok (.iand, 1) := by decide +kernel
theorem d4_27 : decode prog_135_method_6_code 27 = .ok (.ldc 70, 2) := by decide +kernel
theorem d4_29 : decode prog_135_method_6_code 29 = .ok (.imul, 1) := by decide +kernel
theorem d4_30 : decode prog_135_method_6_code 30 = .ok (.ixor, 1) := by decide +kernel
theorem d4_31 : decode prog_135_method_6_code 31 = .ok (.istore_n 3, 1) := by decide +kernel
theorem d4_32 : decode prog_135_method_6_code 32 = .ok (.iload 4, 2) := by decide +kernel
theorem d4_34 : decode prog_135_method_6_code 34 = .ok (.iconst 1, 1) := by decide +kernel
theorem d4_35 : decode prog_135_method_6_code 35 = .ok (.ishl, 1) := by decide +kernel
theorem d4_36 : decode prog_135_method_6_code 36 = .ok (.istore 4, 2) := by decide +kernel
theorem d4_38 : decode prog_135_method_6_code 38 = .ok (.goto (-31), 3) := by decide +kernel
theorem d4_41 : decode prog_135_method_6_code 41 = .ok (.iload_n 2, 1) := by decide +kernel
theorem d4_42 : decode prog_135_method_6_code 42 = .ok (.ireturn, 1) := by decide +kernel
theorem pn_4 : plainFor (⟨"com/example/termwright/termwright/store/Crc32c", "multiply", "(II)I"⟩ : MethodName) = true := plainFor_of_name (by first | (simp [plainName, overriddenIn]; done) | decide +kernel)
def Qrm4 (p1 p2 : Int32) (h0 : Heap) (n0 : Nat) (v : Option Value) (h : Heap) (L : List Loc) : Prop := v = some (.int (own_mult p1 p2)) ∧ Fr n0 L ∧ h = h0
set_option maxRecDepth 65536 in
set_option maxHeartbeats 40000000 in
theorem rm4 (l : Launch) (Z : State) (a0 : Array Value) (hw : ∀ d ∈ tables_1, d.before a0 Z = true) (ws : List Jvm.Cond) (p1 : Int32) (p2 : Int32) (h0 : Heap) (n0 : Nat) (Z0 : n0 ≤ h0.size)  :
    MetFree l (⟨"com/example/termwright/termwright/store/Crc32c", "multiply", "(II)I"⟩ : MethodName) (head1 (Jvm.Cond.code (⟨"com/example/termwright/termwright/store/Crc32c", "multiply", "(II)I"⟩ : MethodName) prog_135_method_6_code 5 (some .int) :: ws) ({ frames := 0, cells := 0, slots := 0, locals := 0 } : Room)) (fun a_ U_ => a_ = #[(.int p1), (.int p2)] ∧ Z.Warmed39 U_.vm ∧ U_.heap = h0) (fun _ _ _ _ _ => True) (fun _ U_ o_ U'_ => ∃ v_ L_, o_ = .returned v_ ∧ (Qrm4 p1 p2 h0 n0) v_ U'_.heap L_ ∧ FrameEnd U_ o_ U'_ L_ 0 0) := by
  refine MetFree.of_bodySF pn_4 hisR ?_
  intro p e s m args below meth c s₁ Bd hml0 hP hK
  obtain ⟨rfl, hZ, hh⟩ := hP
  have hx := Bd.exec
  have hby := Bd.bytes
  have hlk : meth.locks = false := Bd.notSynchronized
  have hml : c.maxLocals = 5 := hml0
  have hown : s.vm.findClass "com/example/termwright/termwright/store/Crc32c" = some m.cls := findClass_of_methodNamed Bd.named
  have hnm := (name_of_methodNamed Bd.named Bd.method).1
  have X0 : Stand p l e ({ frames := 0, cells := 0, slots := 0, locals := 0 } : Room) s m #[(.int p1), (.int p2)] below meth c s₁ [] 0 0 := Stand.of_body Bd
  have e0 : s₁.heap = h0 := by rw [← hh, Bd.state]; rfl
  have N0 := Fr.nil n0
  refine own_start (Q := Qrm4 p1 p2 h0 n0) (g' := (mkF m 0 #[.val (.int p1), .val (.int p2), .unset, .unset, .unset] [])) (by first | (simp [entryFrame, mkF, argsToLocals, Value.category]; done) | rfl) ?_
  show own_Gl _ _ _ _ (s₁.setTop (mkF m 0 #[.val (.int p1), .val (.int p2), .unset, .unset, .unset] []))
  have loop : ∀ (n : Nat) (r y z : Int32), own_Z n z → own_mult p1 p2 = own_mul n r y z → own_Gl p.tables e below (own_P s (Qrm4 p1 p2 h0 n0) 0 0) (s₁.setTop (mkF m 7 #[.val (.int p1), .val (.int p2), .val (.int r), .val (.int y), .val (.int z)] [])) := by
    intro n
    induction n with
    | zero =>
      intro r y z hzz hv
      show own_Gl _ _ _ _ (s₁.setTop (mkF m 7 #[.val (.int p1), .val (.int p2), .val (.int r), .val (.int y), .val (.int z)] []))
      refine own_back (fun t_ q_ => XS.iload X0.here hx rfl (hb hby d4_7) rfl q_) ?_
      show own_Gl _ _ _ _ (s₁.setTop (mkF m 9 #[.val (.int p1), .val (.int p2), .val (.int r), .val (.int y), .val (.int z)] [(.int z)]))
      refine own_back (fun t_ q_ => XS.ifYes X0.here hx rfl (pc0 := 9) (pc' := 41) rfl (hb hby d4_9) rfl ((if0 _ _).trans (teq (own_Z0 hzz : z = (0 : Int32))).1) (by decide) (by decide) q_) ?_
      show own_Gl _ _ _ _ (s₁.setTop (mkF m 41 #[.val (.int p1), .val (.int p2), .val (.int r), .val (.int y), .val (.int z)] []))
      refine own_back (fun t_ q_ => XS.iloadN X0.here hx rfl (hb hby d4_41) rfl q_) ?_
      show own_Gl _ _ _ _ (s₁.setTop (mkF m 42 #[.val (.int p1), .val (.int p2), .val (.int r), .val (.int y), .val (.int z)] [(.int r)]))
      exact own_rI X0 hx hlk Bd.returns (hb hby d4_42) (by show Qrm4 p1 p2 h0 n0 _ s₁.heap _; rw [e0]; exact ⟨by rw [hv]; rfl, N0, rfl⟩) (by decide) (by decide)
    | succ n ih =>
      intro r y z hzz hv
      show own_Gl _ _ _ _ (s₁.setTop (mkF m 7 #[.val (.int p1), .val (.int p2), .val (.int r), .val (.int y), .val (.int z)] []))
      refine own_back (fun t_ q_ => XS.iload X0.here hx rfl (hb hby d4_7) rfl q_) ?_
      show own_Gl _ _ _ _ (s₁.setTop (mkF m 9 #[.val (.int p1), .val (.int p2), .val (.int r), .val (.int y), .val (.int z)] [(.int z)]))
      by_cases k0 : z = (0 : Int32)
      · skip
        refine own_back (fun t_ q_ => XS.ifYes X0.here hx rfl (pc0 := 9) (pc' := 41) rfl (hb hby d4_9) rfl ((if0 _ _).trans (teq (k0 : z = (0 : Int32))).1) (by decide) (by decide) q_) ?_
        show own_Gl _ _ _ _ (s₁.setTop (mkF m 41 #[.val (.int p1), .val (.int p2), .val (.int r), .val (.int y), .val (.int z)] []))
        refine own_back (fun t_ q_ => XS.iloadN X0.here hx rfl (hb hby d4_41) rfl q_) ?_
        show own_Gl _ _ _ _ (s₁.setTop (mkF m 42 #[.val (.int p1), .val (.int p2), .val (.int r), .val (.int y), .val (.int z)] [(.int r)]))
        exact own_rI X0 hx hlk Bd.returns (hb hby d4_42) (by show Qrm4 p1 p2 h0 n0 _ s₁.heap _; rw [e0]; exact ⟨by rw [hv, k0, own_mul0], N0, rfl⟩) (by decide) (by decide)
      · skip
        refine own_back (fun t_ q_ => XS.ifNo X0.here hx rfl (hb hby d4_9) rfl ((if0 _ _).trans (feq (k0 : ¬ (z = (0 : Int32)))).1) q_) ?_
        show own_Gl _ _ _ _ (s₁.setTop (mkF m 12 #[.val (.int p1), .val (.int p2), .val (.int r), .val (.int y), .val (.int z)] []))
        refine own_back (fun t_ q_ => XS.iload X0.here hx rfl (hb hby d4_12) rfl q_) ?_
        show own_Gl _ _ _ _ (s₁.setTop (mkF m 14 #[.val (.int p1), .val (.int p2), .val (.int r), .val (.int y), .val (.int z)] [(.int z)]))
        refine own_join (α := Int32) (fun z_ => s₁.setTop (mkF m 21 #[.val (.int p1), .val (.int p2), .val (.int z_), .val (.int y), .val (.int z)] [])) (fun z_ => z_ = if z < 0 then r ^^^ y else r) (fun r21 hz => ?_) (fun tail1 => ?_)
        · skip
          have hc1 := hz
          have hc1 : r21 = if z < 0 then r ^^^ y else r := hc1
          show own_Gl _ _ _ _ (s₁.setTop (mkF m 21 #[.val (.int p1), .val (.int p2), .val (.int r21), .val (.int y), .val (.int z)] []))
          refine own_back (fun t_ q_ => XS.iloadN X0.here hx rfl (hb hby d4_21) rfl q_) ?_
          show own_Gl _ _ _ _ (s₁.setTop (mkF m 22 #[.val (.int p1), .val (.int p2), .val (.int r21), .val (.int y), .val (.int z)] [(.int y)]))
          refine own_back (fun t_ q_ => XS.iconst X0.here hx rfl (hb hby d4_22) q_) ?_
          show own_Gl _ _ _ _ (s₁.setTop (mkF m 23 #[.val (.int p1), .val (.int p2), .val (.int r21), .val (.int y), .val (.int z)] [(.int (1 : Int32)), (.int y)]))
          refine own_back (fun t_ q_ => XS.iushr X0.here hx rfl (hb hby d4_23) rfl q_) ?_
          show own_Gl _ _ _ _ (s₁.setTop (mkF m 24 #[.val (.int p1), .val (.int p2), .val (.int r21), .val (.int y), .val (.int z)] [(.int ((y.toUInt32 >>> ((1 : Int32) &&& 31).toUInt32).toInt32))]))
          refine own_back (fun t_ q_ => XS.iloadN X0.here hx rfl (hb hby d4_24) rfl q_) ?_
          show own_Gl _ _ _ _ (s₁.setTop (mkF m 25 #[.val (.int p1), .val (.int p2), .val (.int r21), .val (.int y), .val (.int z)] [(.int y), (.int ((y.toUInt32 >>> ((1 : Int32) &&& 31).toUInt32).toInt32))]))
          refine own_back (fun t_ q_ => XS.iconst X0.here hx rfl (hb hby d4_25) q_) ?_
          show own_Gl _ _ _ _ (s₁.setTop (mkF m 26 #[.val (.int p1), .val (.int p2), .val (.int r21), .val (.int y), .val (.int z)] [(.int (1 : Int32)), (.int y), (.int ((y.toUInt32 >>> ((1 : Int32) &&& 31).toUInt32).toInt32))]))
          refine own_back (fun t_ q_ => XS.iand X0.here hx rfl (hb hby d4_26) rfl q_) ?_
          show own_Gl _ _ _ _ (s₁.setTop (mkF m 27 #[.val (.int p1), .val (.int p2), .val (.int r21), .val (.int y), .val (.int z)] [(.int (y &&& (1 : Int32))), (.int ((y.toUInt32 >>> ((1 : Int32) &&& 31).toUInt32).toInt32))]))
          refine own_back (fun t_ q_ => X0.ldcInt hx hown (mvT hZ (hw _ (List.mem_of_getElem? (i := 21) rfl))) (g := (mkF m 27 #[.val (.int p1), .val (.int p2), .val (.int r21), .val (.int y), .val (.int z)] [(.int (y &&& (1 : Int32))), (.int ((y.toUInt32 >>> ((1 : Int32) &&& 31).toUInt32).toInt32))])) rfl (hb hby d4_27) t_ q_) ?_
          show own_Gl _ _ _ _ (s₁.setTop (mkF m 29 #[.val (.int p1), .val (.int p2), .val (.int r21), .val (.int y), .val (.int z)] [(.int (-2097792136 : Int32)), (.int (y &&& (1 : Int32))), (.int ((y.toUInt32 >>> ((1 : Int32) &&& 31).toUInt32).toInt32))]))
          refine own_back (fun t_ q_ => XS.imul X0.here hx rfl (hb hby d4_29) rfl q_) ?_
          show own_Gl _ _ _ _ (s₁.setTop (mkF m 30 #[.val (.int p1), .val (.int p2), .val (.int r21), .val (.int y), .val (.int z)] [(.int ((y &&& (1 : Int32)) * (-2097792136 : Int32))), (.int ((y.toUInt32 >>> ((1 : Int32) &&& 31).toUInt32).toInt32))]))
          refine own_back (fun t_ q_ => XS.ixor X0.here hx rfl (hb hby d4_30) rfl q_) ?_
          show own_Gl _ _ _ _ (s₁.setTop (mkF m 31 #[.val (.int p1), .val (.int p2), .val (.int r21), .val (.int y), .val (.int z)] [(.int (((y.toUInt32 >>> ((1 : Int32) &&& 31).toUInt32).toInt32) ^^^ ((y &&& (1 : Int32)) * (-2097792136 : Int32))))]))
          refine own_back (fun t_ q_ => XS.istoreN X0.here hx rfl (hb hby d4_31) rfl (l' := #[.val (.int p1), .val (.int p2), .val (.int r21), .val (.int (((y.toUInt32 >>> ((1 : Int32) &&& 31).toUInt32).toInt32) ^^^ ((y &&& (1 : Int32)) * (-2097792136 : Int32)))), .val (.int z)]) rfl q_) ?_
          show own_Gl _ _ _ _ (s₁.setTop (mkF m 32 #[.val (.int p1), .val (.int p2), .val (.int r21), .val (.int (((y.toUInt32 >>> ((1 : Int32) &&& 31).toUInt32).toInt32) ^^^ ((y &&& (1 : Int32)) * (-2097792136 : Int32)))), .val (.int z)] []))
          refine own_back (fun t_ q_ => XS.iload X0.here hx rfl (hb hby d4_32) rfl q_) ?_
          show own_Gl _ _ _ _ (s₁.setTop (mkF m 34 #[.val (.int p1), .val (.int p2), .val (.int r21), .val (.int (((y.toUInt32 >>> ((1 : Int32) &&& 31).toUInt32).toInt32) ^^^ ((y &&& (1 : Int32)) * (-2097792136 : Int32)))), .val (.int z)] [(.int z)]))
          refine own_back (fun t_ q_ => XS.iconst X0.here hx rfl (hb hby d4_34) q_) ?_
          show own_Gl _ _ _ _ (s₁.setTop (mkF m 35 #[.val (.int p1), .val (.int p2), .val (.int r21), .val (.int (((y.toUInt32 >>> ((1 : Int32) &&& 31).toUInt32).toInt32) ^^^ ((y &&& (1 : Int32)) * (-2097792136 : Int32)))), .val (.int z)] [(.int (1 : Int32)), (.int z)]))
          refine own_back (fun t_ q_ => XS.ishl X0.here hx rfl (hb hby d4_35) rfl q_) ?_
          show own_Gl _ _ _ _ (s₁.setTop (mkF m 36 #[.val (.int p1), .val (.int p2), .val (.int r21), .val (.int (((y.toUInt32 >>> ((1 : Int32) &&& 31).toUInt32).toInt32) ^^^ ((y &&& (1 : Int32)) * (-2097792136 : Int32)))), .val (.int z)] [(.int (z <<< ((1 : Int32) &&& 31)))]))
          refine own_back (fun t_ q_ => XS.istore X0.here hx rfl (hb hby d4_36) rfl (l' := #[.val (.int p1), .val (.int p2), .val (.int r21), .val (.int (((y.toUInt32 >>> ((1 : Int32) &&& 31).toUInt32).toInt32) ^^^ ((y &&& (1 : Int32)) * (-2097792136 : Int32)))), .val (.int (z <<< ((1 : Int32) &&& 31)))]) rfl q_) ?_
          show own_Gl _ _ _ _ (s₁.setTop (mkF m 38 #[.val (.int p1), .val (.int p2), .val (.int r21), .val (.int (((y.toUInt32 >>> ((1 : Int32) &&& 31).toUInt32).toInt32) ^^^ ((y &&& (1 : Int32)) * (-2097792136 : Int32)))), .val (.int (z <<< ((1 : Int32) &&& 31)))] []))
          refine own_back (fun t_ q_ => XS.goto X0.here hx rfl (pc0 := 38) (pc' := 7) rfl (hb hby d4_38) (by decide) (by decide) q_) ?_
          show own_Gl _ _ _ _ (s₁.setTop (mkF m 7 #[.val (.int p1), .val (.int p2), .val (.int r21), .val (.int (((y.toUInt32 >>> ((1 : Int32) &&& 31).toUInt32).toInt32) ^^^ ((y &&& (1 : Int32)) * (-2097792136 : Int32)))), .val (.int (z <<< ((1 : Int32) &&& 31)))] []))
          exact ih _ _ _ (own_Zn hzz) (by rw [hv, hc1]; rfl)
        · skip
          by_cases k1 : z < (0 : Int32)
          · skip
            refine own_back (fun t_ q_ => XS.ifNo X0.here hx rfl (hb hby d4_14) rfl ((if0 _ _).trans (tlt (k1 : z < (0 : Int32))).2.1) q_) ?_
            show own_Gl _ _ _ _ (s₁.setTop (mkF m 17 #[.val (.int p1), .val (.int p2), .val (.int r), .val (.int y), .val (.int z)] []))
            refine own_back (fun t_ q_ => XS.iloadN X0.here hx rfl (hb hby d4_17) rfl q_) ?_
            show own_Gl _ _ _ _ (s₁.setTop (mkF m 18 #[.val (.int p1), .val (.int p2), .val (.int r), .val (.int y), .val (.int z)] [(.int r)]))
            refine own_back (fun t_ q_ => XS.iloadN X0.here hx rfl (hb hby d4_18) rfl q_) ?_
            show own_Gl _ _ _ _ (s₁.setTop (mkF m 19 #[.val (.int p1), .val (.int p2), .val (.int r), .val (.int y), .val (.int z)] [(.int y), (.int r)]))
            refine own_back (fun t_ q_ => XS.ixor X0.here hx rfl (hb hby d4_19) rfl q_) ?_
            show own_Gl _ _ _ _ (s₁.setTop (mkF m 20 #[.val (.int p1), .val (.int p2), .val (.int r), .val (.int y), .val (.int z)] [(.int (r ^^^ y))]))
            refine own_back (fun t_ q_ => XS.istoreN X0.here hx rfl (hb hby d4_20) rfl (l' := #[.val (.int p1), .val (.int p2), .val (.int (r ^^^ y)), .val (.int y), .val (.int z)]) rfl q_) ?_
            show own_Gl _ _ _ _ (s₁.setTop (mkF m 21 #[.val (.int p1), .val (.int p2), .val (.int (r ^^^ y)), .val (.int y), .val (.int z)] []))
            exact tail1 (r ^^^ y) (by rw [if_pos k1])
          · skip
            refine own_back (fun t_ q_ => XS.ifYes X0.here hx rfl (pc0 := 14) (pc' := 21) rfl (hb hby d4_14) rfl ((if0 _ _).trans (flt (k1 : ¬ (z < (0 : Int32)))).2.1) (by decide) (by decide) q_) ?_
            show own_Gl _ _ _ _ (s₁.setTop (mkF m 21 #[.val (.int p1), .val (.int p2), .val (.int r), .val (.int y), .val (.int z)] []))
            exact tail1 r (by rw [if_neg k1])
  refine own_back (fun t_ q_ => XS.iconst X0.here hx rfl (hb hby d4_0) q_) ?_
  show own_Gl _ _ _ _ (s₁.setTop (mkF m 1 #[.val (.int p1), .val (.int p2), .unset, .unset, .unset] [(.int (0 : Int32))]))
  refine own_back (fun t_ q_ => XS.istoreN X0.here hx rfl (hb hby d4_1) rfl (l' := #[.val (.int p1), .val (.int p2), .val (.int (0 : Int32)), .unset, .unset]) rfl q_) ?_
  show own_Gl _ _ _ _ (s₁.setTop (mkF m 2 #[.val (.int p1), .val (.int p2), .val (.int (0 : Int32)), .unset, .unset] []))
  refine own_back (fun t_ q_ => XS.iloadN X0.here hx rfl (hb hby d4_2) rfl q_) ?_
  show own_Gl _ _ _ _ (s₁.setTop (mkF m 3 #[.val (.int p1), .val (.int p2), .val (.int (0 : Int32)), .unset, .unset] [(.int p2)]))
  refine own_back (fun t_ q_ => XS.istoreN X0.here hx rfl (hb hby d4_3) rfl (l' := #[.val (.int p1), .val (.int p2), .val (.int (0 : Int32)), .val (.int p2), .unset]) rfl q_) ?_
  show own_Gl _ _ _ _ (s₁.setTop (mkF m 4 #[.val (.int p1), .val (.int p2), .val (.int (0 : Int32)), .val (.int p2), .unset] []))
  refine own_back (fun t_ q_ => XS.iloadN X0.here hx rfl (hb hby d4_4) rfl q_) ?_
  show own_Gl _ _ _ _ (s₁.setTop (mkF m 5 #[.val (.int p1), .val (.int p2), .val (.int (0 : Int32)), .val (.int p2), .unset] [(.int p1)]))
  refine own_back (fun t_ q_ => XS.istore X0.here hx rfl (hb hby d4_5) rfl (l' := #[.val (.int p1), .val (.int p2), .val (.int (0 : Int32)), .val (.int p2), .val (.int p1)]) rfl q_) ?_
  show own_Gl _ _ _ _ (s₁.setTop (mkF m 7 #[.val (.int p1), .val (.int p2), .val (.int (0 : Int32)), .val (.int p2), .val (.int p1)] []))
  exact loop 32 _ _ _ (own_Z32 _) rfl
theorem d3_0 : decode prog_135_method_5_code 0 = .ok (.ldc 66, 2) := by decide +kernel
theorem d3_2 : decode prog_135_method_5_code 2 = .ok (.istore_n 2, 1) := by decide +kernel
theorem d3_3 : decode prog_135_method_5_code 3 = .ok (.ldc 69, 2) := by decide +kernel
theorem d3_5 : decode prog_135_method_5_code 5 = .ok (.istore_n 3, 1) := by decide +kernel
theorem d3_6 : decode prog_135_method_5_code 6 = .ok (.lload_n 0, 1) := by decide +kernel
theorem d3_7 : decode prog_135_method_5_code 7 = .ok (.lstore 4, 2) := by decide +kernel
theorem d3_9 : decode prog_135_method_5_code 9 = .ok (.lload 4, 2) := by decide +kernel
theorem d3_11 : decode prog_135_method_5_code 11 = .ok (.lconst 0, 1) := by decide +kernel
theorem d3_12 : decode prog_135_method_5_code 12 = .ok (.lcmp, 1) := by decide +kernel
theorem d3_13 : decode prog_135_method_5_code 13 = .ok (.ifCond .eq 33, 3) := by decide +kernel
theorem d3_16 : decode prog_135_method_5_code 16 = .ok (.lload 4, 2) := by decide +kernel
theorem d3_18 : decode prog_135_method_5_code 18 = .ok (.lconst 1, 1) := by decide +kernel
theorem d3_19 : decode prog_135_method_5_code 19 = .ok (.land, 1) := by decide +kernel
theorem d3_20 : decode prog_135_method_5_code 20 = .ok (.lconst 0, 1) := by decide +kernel
theorem d3_21 : decode prog_135_method_5_code 21 = .ok (.lcmp, 1) := by decide +kernel
theorem d3_22 : decode prog_135_method_5_code 22 = .ok (.ifCond .eq 9, 3) := by decide +kernel
theorem d3_25 : decode prog_135_method_5_code 25 = .ok (.iload_n 2, 1) := by decide +kernel
theorem d3_26 : decode prog_135_method_5_code 26 = .ok (.iload_n 3, 1) := by decide +kernel
theorem d3_27 : decode prog_135_method_5_code 27 = .ok (.invokestatic 52, 3) := by decide +kernel
theorem pd_0 : parseMethodDescriptor "(II)I" = some ⟨[.int, .int], some .int⟩ := by decide +kernel
theorem d3_30 : decode prog_135_method_5_code 30 = .ok (.istore_n 2, 1) := by decide +kernel
theorem d3_31 : decode prog_135_method_5_code 31 = .ok (.iload_n 3, 1) := by decide +kernel
theorem d3_32 : decode prog_135_method_5_code 32 = .ok (.iload_n 3, 1) := by decide +kernel
theorem d3_33 : decode prog_135_method_5_code 33 = .ok (.invokestatic 52, 3) := by decide +kernel
theorem d3_36 : decode prog_135_method_5_code 36 = .ok (.istore_n 3, 1) := by decide +kernel
theorem d3_37 : decode prog_135_method_5_code 37 = .ok (.lload 4, 2) := by decide +kernel
theorem d3_39 : decode prog_135_method_5_code 39 = .ok (.iconst 1, 1) := by decide +kernel
theorem d3_40 : decode prog_135_method_5_code 40 = .ok (.lushr, 1) := by decide +kernel
theorem d3_41 : decode prog_135_method_5_code 41 = .ok (.lstore 4, 2) := by decide +kernel
theorem d3_43 : decode prog_135_method_5_code 43 = .ok (.goto (-34), 3) := by decide +kernel
theorem d3_46 : decode prog_135_method_5_code 46 = .ok (.iload_n 2, 1) := by decide +kernel
theorem d3_47 : decode prog_135_method_5_code 47 = .ok (.ireturn, 1) := by decide +kernel
theorem pn_3 : plainFor (⟨"com/example/termwright/termwright/store/Crc32c", "shift", "(J)I"⟩ : MethodName) = true := plainFor_of_name (by first | (simp [plainName, overriddenIn]; done) | decide +kernel)
def Qrm3 (q1 : Int64) (h0 : Heap) (n0 : Nat) (v : Option Value) (h : Heap) (L : List Loc) : Prop := v = some (.int (own_shift q1)) ∧ Fr n0 L ∧ h = h0
set_option maxRecDepth 65536 in
set_option maxHeartbeats 40000000 in
theorem rm3 (l : Launch) (Z : State) (a0 : Array Value) (hw : ∀ d ∈ tables_1, d.before a0 Z = true) (ws : List Jvm.Cond) (q1 : Int64) (h0 : Heap) (n0 : Nat) (Z0 : n0 ≤ h0.size)  :
    MetFree l (⟨"com/example/termwright/termwright/store/Crc32c", "shift", "(J)I"⟩ : MethodName) (head1 (Jvm.Cond.code (⟨"com/example/termwright/termwright/store/Crc32c", "shift", "(J)I"⟩ : MethodName) prog_135_method_5_code 6 (some .int) :: ws) ({ frames := 1, cells := 0, slots := 0, locals := 16 } : Room)) (fun a_ U_ => a_ = #[(.long q1)] ∧ Z.Warmed39 U_.vm ∧ U_.heap = h0) (fun _ _ _ _ _ => True) (fun _ U_ o_ U'_ => ∃ v_ L_, o_ = .returned v_ ∧ (Qrm3 q1 h0 n0) v_ U'_.heap L_ ∧ FrameEnd U_ o_ U'_ L_ 0 0) := by
  refine MetFree.of_bodySF pn_3 hisR ?_
  intro p e s m args below meth c s₁ Bd hml0 hP hK
  obtain ⟨rfl, hZ, hh⟩ := hP
  have hx := Bd.exec
  have hby := Bd.bytes
  have hlk : meth.locks = false := Bd.notSynchronized
  have hml : c.maxLocals = 6 := hml0
  have hown : s.vm.findClass "com/example/termwright/termwright/store/Crc32c" = some m.cls := findClass_of_methodNamed Bd.named
  have hnm := (name_of_methodNamed Bd.named Bd.method).1
  have X0 : Stand p l e ({ frames := 1, cells := 0, slots := 0, locals := 16 } : Room) s m #[(.long q1)] below meth c s₁ [] 0 0 := Stand.of_body Bd
  have e0 : s₁.heap = h0 := by rw [← hh, Bd.state]; rfl
  have N0 := Fr.nil n0
  refine own_start (Q := Qrm3 q1 h0 n0) (g' := (mkF m 0 #[.val (.long q1), .second, .unset, .unset, .unset, .unset] [])) (by first | (simp [entryFrame, mkF, argsToLocals, Value.category]; done) | rfl) ?_
  show own_Gl _ _ _ _ (s₁.setTop (mkF m 0 #[.val (.long q1), .second, .unset, .unset, .unset, .unset] []))
  have loop : ∀ (n : Nat) (pp qq : Int32) (z : Int64) (T : State) (L : List Loc), Stand p l e ({ frames := 1, cells := 0, slots := 0, locals := 16 } : Room) s m #[(.long q1)] below meth c T L 0 0 → Fr n0 L → T.heap = h0 → own_W n z → own_shift q1 = own_sh n pp qq z → own_Gl p.tables e below (own_P s (Qrm3 q1 h0 n0) 0 0) (T.setTop (mkF m 9 #[.val (.long q1), .second, .val (.int pp), .val (.int qq), .val (.long z), .second] [])) := by
    intro n
    induction n with
    | zero =>
      intro pp qq z T L X NL eT hzz hv
      show own_Gl _ _ _ _ (T.setTop (mkF m 9 #[.val (.long q1), .second, .val (.int pp), .val (.int qq), .val (.long z), .second] []))
      refine own_back (fun t_ q_ => XS.lload X.here hx rfl (hb hby d3_9) rfl q_) ?_
      show own_Gl _ _ _ _ (T.setTop (mkF m 11 #[.val (.long q1), .second, .val (.int pp), .val (.int qq), .val (.long z), .second] [(.long z)]))
      refine own_back (fun t_ q_ => XS.lconst X.here hx rfl (hb hby d3_11) q_) ?_
      show own_Gl _ _ _ _ (T.setTop (mkF m 12 #[.val (.long q1), .second, .val (.int pp), .val (.int qq), .val (.long z), .second] [(.long (0 : Int64)), (.long z)]))
      refine own_back (fun t_ q_ => XS.lcmp X.here hx rfl (hb hby d3_12) rfl q_) ?_
      show own_Gl _ _ _ _ (T.setTop (mkF m 13 #[.val (.long q1), .second, .val (.int pp), .val (.int qq), .val (.long z), .second] [(.int (lcmpW z (0 : Int64)))]))
      refine own_back (fun t_ q_ => XS.ifYes X.here hx rfl (pc0 := 13) (pc' := 46) rfl (hb hby d3_13) rfl ((if0 _ _).trans (teq ((lw_eq _ _).mpr (own_W0 hzz) : (lcmpW z (0 : Int64)) = (0 : Int32))).1) (by decide) (by decide) q_) ?_
      show own_Gl _ _ _ _ (T.setTop (mkF m 46 #[.val (.long q1), .second, .val (.int pp), .val (.int qq), .val (.long z), .second] []))
      refine own_back (fun t_ q_ => XS.iloadN X.here hx rfl (hb hby d3_46) rfl q_) ?_
      show own_Gl _ _ _ _ (T.setTop (mkF m 47 #[.val (.long q1), .second, .val (.int pp), .val (.int qq), .val (.long z), .second] [(.int pp)]))
      exact own_rI X hx hlk Bd.returns (hb hby d3_47) (by show Qrm3 q1 h0 n0 _ T.heap _; rw [eT]; exact ⟨by rw [hv]; rfl, NL, rfl⟩) (by decide) (by decide)
    | succ n ih =>
      intro pp qq z T L X NL eT hzz hv
      show own_Gl _ _ _ _ (T.setTop (mkF m 9 #[.val (.long q1), .second, .val (.int pp), .val (.int qq), .val (.long z), .second] []))
      refine own_back (fun t_ q_ => XS.lload X.here hx rfl (hb hby d3_9) rfl q_) ?_
      show own_Gl _ _ _ _ (T.setTop (mkF m 11 #[.val (.long q1), .second, .val (.int pp), .val (.int qq), .val (.long z), .second] [(.long z)]))
      refine own_back (fun t_ q_ => XS.lconst X.here hx rfl (hb hby d3_11) q_) ?_
      show own_Gl _ _ _ _ (T.setTop (mkF m 12 #[.val (.long q1), .second, .val (.int pp), .val (.int qq), .val (.long z), .second] [(.long (0 : Int64)), (.long z)]))
      refine own_back (fun t_ q_ => XS.lcmp X.here hx rfl (hb hby d3_12) rfl q_) ?_
      show own_Gl _ _ _ _ (T.setTop (mkF m 13 #[.val (.long q1), .second, .val (.int pp), .val (.int qq), .val (.long z), .second] [(.int (lcmpW z (0 : Int64)))]))
      by_cases k0 : (lcmpW z (0 : Int64)) = (0 : Int32)
      · skip
        refine own_back (fun t_ q_ => XS.ifYes X.here hx rfl (pc0 := 13) (pc' := 46) rfl (hb hby d3_13) rfl ((if0 _ _).trans (teq (k0 : (lcmpW z (0 : Int64)) = (0 : Int32))).1) (by decide) (by decide) q_) ?_
        show own_Gl _ _ _ _ (T.setTop (mkF m 46 #[.val (.long q1), .second, .val (.int pp), .val (.int qq), .val (.long z), .second] []))
        refine own_back (fun t_ q_ => XS.iloadN X.here hx rfl (hb hby d3_46) rfl q_) ?_
        show own_Gl _ _ _ _ (T.setTop (mkF m 47 #[.val (.long q1), .second, .val (.int pp), .val (.int qq), .val (.long z), .second] [(.int pp)]))
        exact own_rI X hx hlk Bd.returns (hb hby d3_47) (by show Qrm3 q1 h0 n0 _ T.heap _; rw [eT]; exact ⟨by rw [hv, own_sh, if_pos ((lw_eq _ _).mp k0)], NL, rfl⟩) (by decide) (by decide)
      · skip
        refine own_back (fun t_ q_ => XS.ifNo X.here hx rfl (hb hby d3_13) rfl ((if0 _ _).trans (feq (k0 : ¬ ((lcmpW z (0 : Int64)) = (0 : Int32)))).1) q_) ?_
        show own_Gl _ _ _ _ (T.setTop (mkF m 16 #[.val (.long q1), .second, .val (.int pp), .val (.int qq), .val (.long z), .second] []))
        have k0' : ¬ z = 0 := fun q => k0 ((lw_eq _ _).mpr q)
        refine own_back (fun t_ q_ => XS.lload X.here hx rfl (hb hby d3_16) rfl q_) ?_
        show own_Gl _ _ _ _ (T.setTop (mkF m 18 #[.val (.long q1), .second, .val (.int pp), .val (.int qq), .val (.long z), .second] [(.long z)]))
        refine own_back (fun t_ q_ => XS.lconst X.here hx rfl (hb hby d3_18) q_) ?_
        show own_Gl _ _ _ _ (T.setTop (mkF m 19 #[.val (.long q1), .second, .val (.int pp), .val (.int qq), .val (.long z), .second] [(.long (1 : Int64)), (.long z)]))
        refine own_back (fun t_ q_ => XS.land X.here hx rfl (hb hby d3_19) rfl q_) ?_
        show own_Gl _ _ _ _ (T.setTop (mkF m 20 #[.val (.long q1), .second, .val (.int pp), .val (.int qq), .val (.long z), .second] [(.long (z &&& (1 : Int64)))]))
        refine own_back (fun t_ q_ => XS.lconst X.here hx rfl (hb hby d3_20) q_) ?_
        show own_Gl _ _ _ _ (T.setTop (mkF m 21 #[.val (.long q1), .second, .val (.int pp), .val (.int qq), .val (.long z), .second] [(.long (0 : Int64)), (.long (z &&& (1 : Int64)))]))
        refine own_back (fun t_ q_ => XS.lcmp X.here hx rfl (hb hby d3_21) rfl q_) ?_
        show own_Gl _ _ _ _ (T.setTop (mkF m 22 #[.val (.long q1), .second, .val (.int pp), .val (.int qq), .val (.long z), .second] [(.int (lcmpW (z &&& (1 : Int64)) (0 : Int64)))]))
        refine own_join (α := State × Int32) (fun z_ => z_.1.setTop (mkF m 31 #[.val (.long q1), .second, .val (.int z_.2), .val (.int qq), .val (.long z), .second] [])) (fun z_ => (∃ L, Stand p l e ({ frames := 1, cells := 0, slots := 0, locals := 16 } : Room) s m #[(.long q1)] below meth c z_.1 L 0 0 ∧ Fr n0 L) ∧ z_.1.heap = h0 ∧ z_.2 = if z &&& 1 = 0 then pp else own_mult pp qq) (fun z_ hz => ?_) (fun tail2 => ?_)
        · skip
          obtain ⟨T2, p22⟩ := z_
          obtain ⟨⟨L2, X2, N2⟩, e2, hc2⟩ := hz
          have X2 : Stand p l e ({ frames := 1, cells := 0, slots := 0, locals := 16 } : Room) s m #[(.long q1)] below meth c T2 L2 0 0 := X2
          have e2 : T2.heap = h0 := e2
          have hc2 : p22 = if z &&& 1 = 0 then pp else own_mult pp qq := hc2
          show own_Gl _ _ _ _ (T2.setTop (mkF m 31 #[.val (.long q1), .second, .val (.int p22), .val (.int qq), .val (.long z), .second] []))
          refine own_back (fun t_ q_ => XS.iloadN X2.here hx rfl (hb hby d3_31) rfl q_) ?_
          show own_Gl _ _ _ _ (T2.setTop (mkF m 32 #[.val (.long q1), .second, .val (.int p22), .val (.int qq), .val (.long z), .second] [(.int qq)]))
          refine own_back (fun t_ q_ => XS.iloadN X2.here hx rfl (hb hby d3_32) rfl q_) ?_
          show own_Gl _ _ _ _ (T2.setTop (mkF m 33 #[.val (.long q1), .second, .val (.int p22), .val (.int qq), .val (.long z), .second] [(.int qq), (.int qq)]))
          obtain ⟨_, _, ⟨T3, L3, k3, n3⟩, -, X3, ⟨Lc3, hQ3, l3, y3, z3⟩, st3⟩ := Jvm.LawKit.callS X2 hx (y := (⟨"com/example/termwright/termwright/store/Crc32c", "multiply", "(II)I"⟩ : MethodName)) hown (mvT hZ (hw _ (List.mem_of_getElem? (i := 18) rfl))) (mvT hZ (hw _ (List.mem_of_getElem? (i := 19) rfl))) (mvT hZ (hw _ (List.mem_of_getElem? (i := 14) rfl))) (mvT hZ (hw _ (List.mem_of_getElem? (i := 20) rfl))) (by decide) (backOf (W := 0) (rm4 l Z a0 hw [] qq qq h0 n0 Z0) hZ (hw _ (List.mem_of_getElem? (i := 20) rfl)) (hw _ (List.mem_of_getElem? (i := 14) rfl)) (by decide) (by decide)) (g := (mkF m 33 #[.val (.long q1), .second, .val (.int p22), .val (.int qq), .val (.long z), .second] [(.int qq), (.int qq)])) rfl (by rw [hml]; rfl) (argsL := [(.int qq), (.int qq)]) (rest := []) (lenOf pd_0 rfl) rfl (by show 2 * 0 + _ ≤ _; exact Nat.le_of_eq rfl) (hb hby d3_33) (fun _ _ => ⟨rfl, e2, (by decide : 0 + 0 ≤ _), (by decide : 0 + 0 ≤ _)⟩)
          dsimp only [Pt.U, Pt.locs, Pt.cells, Pt.slots] at X3 l3 y3 z3 st3 hQ3
          subst l3 y3 z3
          obtain ⟨rfl, M3, e3⟩ := hQ3
          have N3 := Fr.app N2 M3
          refine own_back st3 ?_
          show own_Gl _ _ _ _ (T3.setTop (mkF m 36 #[.val (.long q1), .second, .val (.int p22), .val (.int qq), .val (.long z), .second] [(.int (own_mult qq qq))]))
          obtain ⟨mq, hmq⟩ : ∃ z, z = (own_mult qq qq) := ⟨_, rfl⟩
          rw [← hmq]
          show own_Gl _ _ _ _ (T3.setTop (mkF m 36 #[.val (.long q1), .second, .val (.int p22), .val (.int qq), .val (.long z), .second] [(.int mq)]))
          refine own_back (fun t_ q_ => XS.istoreN X3.here hx rfl (hb hby d3_36) rfl (l' := #[.val (.long q1), .second, .val (.int p22), .val (.int mq), .val (.long z), .second]) rfl q_) ?_
          show own_Gl _ _ _ _ (T3.setTop (mkF m 37 #[.val (.long q1), .second, .val (.int p22), .val (.int mq), .val (.long z), .second] []))
          refine own_back (fun t_ q_ => XS.lload X3.here hx rfl (hb hby d3_37) rfl q_) ?_
          show own_Gl _ _ _ _ (T3.setTop (mkF m 39 #[.val (.long q1), .second, .val (.int p22), .val (.int mq), .val (.long z), .second] [(.long z)]))
          refine own_back (fun t_ q_ => XS.iconst X3.here hx rfl (hb hby d3_39) q_) ?_
          show own_Gl _ _ _ _ (T3.setTop (mkF m 40 #[.val (.long q1), .second, .val (.int p22), .val (.int mq), .val (.long z), .second] [(.int (1 : Int32)), (.long z)]))
          refine own_back (fun t_ q_ => XS.lushr X3.here hx rfl (hb hby d3_40) rfl q_) ?_
          show own_Gl _ _ _ _ (T3.setTop (mkF m 41 #[.val (.long q1), .second, .val (.int p22), .val (.int mq), .val (.long z), .second] [(.long ((z.toUInt64 >>> ((1 : Int32) &&& 0x3f).toInt64.toUInt64).toInt64))]))
          refine own_back (fun t_ q_ => XS.lstore X3.here hx rfl (hb hby d3_41) rfl (l' := #[.val (.long q1), .second, .val (.int p22), .val (.int mq), .val (.long ((z.toUInt64 >>> ((1 : Int32) &&& 0x3f).toInt64.toUInt64).toInt64)), .second]) rfl q_) ?_
          show own_Gl _ _ _ _ (T3.setTop (mkF m 43 #[.val (.long q1), .second, .val (.int p22), .val (.int mq), .val (.long ((z.toUInt64 >>> ((1 : Int32) &&& 0x3f).toInt64.toUInt64).toInt64)), .second] []))
          refine own_back (fun t_ q_ => XS.goto X3.here hx rfl (pc0 := 43) (pc' := 9) rfl (hb hby d3_43) (by decide) (by decide) q_) ?_
          show own_Gl _ _ _ _ (T3.setTop (mkF m 9 #[.val (.long q1), .second, .val (.int p22), .val (.int mq), .val (.long ((z.toUInt64 >>> ((1 : Int32) &&& 0x3f).toInt64.toUInt64).toInt64)), .second] []))
          exact ih _ _ _ _ _ X3 N3 e3 (own_Wn hzz) (by rw [hv, own_sh, if_neg k0', hc2, hmq])
        · skip
          by_cases k1 : (lcmpW (z &&& (1 : Int64)) (0 : Int64)) = (0 : Int32)
          · skip
            refine own_back (fun t_ q_ => XS.ifYes X.here hx rfl (pc0 := 22) (pc' := 31) rfl (hb hby d3_22) rfl ((if0 _ _).trans (teq (k1 : (lcmpW (z &&& (1 : Int64)) (0 : Int64)) = (0 : Int32))).1) (by decide) (by decide) q_) ?_
            show own_Gl _ _ _ _ (T.setTop (mkF m 31 #[.val (.long q1), .second, .val (.int pp), .val (.int qq), .val (.long z), .second] []))
            have hmp2 : pp = if z &&& 1 = 0 then pp else own_mult pp qq := by rw [if_pos ((lw_eq _ _).mp k1)]
            exact tail2 (T, pp) ⟨⟨_, X, NL⟩, eT, hmp2⟩
          · skip
            refine own_back (fun t_ q_ => XS.ifNo X.here hx rfl (hb hby d3_22) rfl ((if0 _ _).trans (feq (k1 : ¬ ((lcmpW (z &&& (1 : Int64)) (0 : Int64)) = (0 : Int32)))).1) q_) ?_
            show own_Gl _ _ _ _ (T.setTop (mkF m 25 #[.val (.long q1), .second, .val (.int pp), .val (.int qq), .val (.long z), .second] []))
            refine own_back (fun t_ q_ => XS.iloadN X.here hx rfl (hb hby d3_25) rfl q_) ?_
            show own_Gl _ _ _ _ (T.setTop (mkF m 26 #[.val (.long q1), .second, .val (.int pp), .val (.int qq), .val (.long z), .second] [(.int pp)]))
            refine own_back (fun t_ q_ => XS.iloadN X.here hx rfl (hb hby d3_26) rfl q_) ?_
            show own_Gl _ _ _ _ (T.setTop (mkF m 27 #[.val (.long q1), .second, .val (.int pp), .val (.int qq), .val (.long z), .second] [(.int qq), (.int pp)]))
            obtain ⟨_, _, ⟨T4, L4, k4, n4⟩, -, X4, ⟨Lc4, hQ4, l4, y4, z4⟩, st4⟩ := Jvm.LawKit.callS X hx (y := (⟨"com/example/termwright/termwright/store/Crc32c", "multiply", "(II)I"⟩ : MethodName)) hown (mvT hZ (hw _ (List.mem_of_getElem? (i := 18) rfl))) (mvT hZ (hw _ (List.mem_of_getElem? (i := 19) rfl))) (mvT hZ (hw _ (List.mem_of_getElem? (i := 14) rfl))) (mvT hZ (hw _ (List.mem_of_getElem? (i := 20) rfl))) (by decide) (backOf (W := 0) (rm4 l Z a0 hw [] pp qq h0 n0 Z0) hZ (hw _ (List.mem_of_getElem? (i := 20) rfl)) (hw _ (List.mem_of_getElem? (i := 14) rfl)) (by decide) (by decide)) (g := (mkF m 27 #[.val (.long q1), .second, .val (.int pp), .val (.int qq), .val (.long z), .second] [(.int qq), (.int pp)])) rfl (by rw [hml]; rfl) (argsL := [(.int pp), (.int qq)]) (rest := []) (lenOf pd_0 rfl) rfl (by show 2 * 0 + _ ≤ _; exact Nat.le_of_eq rfl) (hb hby d3_27) (fun _ _ => ⟨rfl, eT, (by decide : 0 + 0 ≤ _), (by decide : 0 + 0 ≤ _)⟩)
            dsimp only [Pt.U, Pt.locs, Pt.cells, Pt.slots] at X4 l4 y4 z4 st4 hQ4
            subst l4 y4 z4
            obtain ⟨rfl, M4, e4⟩ := hQ4
            have N4 := Fr.app NL M4
            refine own_back st4 ?_
            show own_Gl _ _ _ _ (T4.setTop (mkF m 30 #[.val (.long q1), .second, .val (.int pp), .val (.int qq), .val (.long z), .second] [(.int (own_mult pp qq))]))
            obtain ⟨mp, hmp⟩ : ∃ z, z = (own_mult pp qq) := ⟨_, rfl⟩
            rw [← hmp]
            show own_Gl _ _ _ _ (T4.setTop (mkF m 30 #[.val (.long q1), .second, .val (.int pp), .val (.int qq), .val (.long z), .second] [(.int mp)]))
            have hmp2 : mp = if z &&& 1 = 0 then pp else own_mult pp qq := by rw [if_neg (fun q => k1 ((lw_eq _ _).mpr q))]; exact hmp
            refine own_back (fun t_ q_ => XS.istoreN X4.here hx rfl (hb hby d3_30) rfl (l' := #[.val (.long q1), .second, .val (.int mp), .val (.int qq), .val (.long z), .second]) rfl q_) ?_
            show own_Gl _ _ _ _ (T4.setTop (mkF m 31 #[.val (.long q1), .second, .val (.int mp), .val (.int qq), .val (.long z), .second] []))
            exact tail2 (T4, mp) ⟨⟨_, X4, N4⟩, e4, hmp2⟩
  refine own_back (fun t_ q_ => X0.ldcInt hx hown (mvT hZ (hw _ (List.mem_of_getElem? (i := 16) rfl))) (g := (mkF m 0 #[.val (.long q1), .second, .unset, .unset, .unset, .unset] [])) rfl (hb hby d3_0) t_ q_) ?_
  show own_Gl _ _ _ _ (s₁.setTop (mkF m 2 #[.val (.long q1), .second, .unset, .unset, .unset, .unset] [(.int (-2147483648 : Int32))]))
  refine own_back (fun t_ q_ => XS.istoreN X0.here hx rfl (hb hby d3_2) rfl (l' := #[.val (.long q1), .second, .val (.int (-2147483648 : Int32)), .unset, .unset, .unset]) rfl q_) ?_
  show own_Gl _ _ _ _ (s₁.setTop (mkF m 3 #[.val (.long q1), .second, .val (.int (-2147483648 : Int32)), .unset, .unset, .unset] []))
  refine own_back (fun t_ q_ => X0.ldcInt hx hown (mvT hZ (hw _ (List.mem_of_getElem? (i := 17) rfl))) (g := (mkF m 3 #[.val (.long q1), .second, .val (.int (-2147483648 : Int32)), .unset, .unset, .unset] [])) rfl (hb hby d3_3) t_ q_) ?_
  show own_Gl _ _ _ _ (s₁.setTop (mkF m 5 #[.val (.long q1), .second, .val (.int (-2147483648 : Int32)), .unset, .unset, .unset] [(.int (8388608 : Int32))]))
  refine own_back (fun t_ q_ => XS.istoreN X0.here hx rfl (hb hby d3_5) rfl (l' := #[.val (.long q1), .second, .val (.int (-2147483648 : Int32)), .val (.int (8388608 : Int32)), .unset, .unset]) rfl q_) ?_
  show own_Gl _ _ _ _ (s₁.setTop (mkF m 6 #[.val (.long q1), .second, .val (.int (-2147483648 : Int32)), .val (.int (8388608 : Int32)), .unset, .unset] []))
  refine own_back (fun t_ q_ => XS.lloadN X0.here hx rfl (hb hby d3_6) rfl q_) ?_
  show own_Gl _ _ _ _ (s₁.setTop (mkF m 7 #[.val (.long q1), .second, .val (.int (-2147483648 : Int32)), .val (.int (8388608 : Int32)), .unset, .unset] [(.long q1)]))
  refine own_back (fun t_ q_ => XS.lstore X0.here hx rfl (hb hby d3_7) rfl (l' := #[.val (.long q1), .second, .val (.int (-2147483648 : Int32)), .val (.int (8388608 : Int32)), .val (.long q1), .second]) rfl q_) ?_
  show own_Gl _ _ _ _ (s₁.setTop (mkF m 9 #[.val (.long q1), .second, .val (.int (-2147483648 : Int32)), .val (.int (8388608 : Int32)), .val (.long q1), .second] []))
  exact loop 64 _ _ _ _ _ X0 N0 e0 (own_W64 _) rfl
theorem d6_0 : decode prog_135_method_3_code 0 = .ok (.iload_n 0, 1) := by decide +kernel
theorem d6_1 : decode prog_135_method_3_code 1 = .ok (.lload_n 2, 1) := by decide +kernel
theorem d6_2 : decode prog_135_method_3_code 2 = .ok (.invokestatic 48, 3) := by decide +kernel
theorem pd_1 : parseMethodDescriptor "(J)I" = some ⟨[.long], some .int⟩ := by decide +kernel
theorem d6_5 : decode prog_135_method_3_code 5 = .ok (.invokestatic 52, 3) := by decide +kernel
theorem d6_8 : decode prog_135_method_3_code 8 = .ok (.iload_n 1, 1) := by decide +kernel
theorem d6_9 : decode prog_135_method_3_code 9 = .ok (.ixor, 1) := by decide +kernel
theorem d6_10 : decode prog_135_method_3_code 10 = .ok (.ireturn, 1) := by decide +kernel
theorem pn_6 : plainFor (⟨"com/example/termwright/termwright/store/Crc32c", "combine", "(IIJ)I"⟩ : MethodName) = true := plainFor_of_name (by first | (simp [plainName, overriddenIn]; done) | decide +kernel)
def Qrm6 (p1 p2 : Int32) (q3 : Int64) (h0 : Heap) (n0 : Nat) (v : Option Value) (h : Heap) (L : List Loc) : Prop := v = some (.int (own_mult p1 (own_shift q3) ^^^ p2)) ∧ Fr n0 L ∧ h = h0
set_option maxRecDepth 65536 in
set_option maxHeartbeats 40000000 in
theorem rm6 (l : Launch) (Z : State) (a0 : Array Value) (hw : ∀ d ∈ tables_1, d.before a0 Z = true) (ws : List Jvm.Cond) (p1 : Int32) (p2 : Int32) (q3 : Int64) (h0 : Heap) (n0 : Nat) (Z0 : n0 ≤ h0.size)  :
    MetFree l (⟨"com/example/termwright/termwright/store/Crc32c", "combine", "(IIJ)I"⟩ : MethodName) (head1 (Jvm.Cond.code (⟨"com/example/termwright/termwright/store/Crc32c", "combine", "(IIJ)I"⟩ : MethodName) prog_135_method_3_code 4 (some .int) :: ws) ({ frames := 2, cells := 0, slots := 0, locals := 34 } : Room)) (fun a_ U_ => a_ = #[(.int p1), (.int p2), (.long q3)] ∧ Z.Warmed39 U_.vm ∧ U_.heap = h0) (fun _ _ _ _ _ => True) (fun _ U_ o_ U'_ => ∃ v_ L_, o_ = .returned v_ ∧ (Qrm6 p1 p2 q3 h0 n0) v_ U'_.heap L_ ∧ FrameEnd U_ o_ U'_ L_ 0 0) := by
  refine MetFree.of_bodySF pn_6 hisR ?_
  intro p e s m args below meth c s₁ Bd hml0 hP hK
  obtain ⟨rfl, hZ, hh⟩ := hP
  have hx := Bd.exec
  have hby := Bd.bytes
  have hlk : meth.locks = false := Bd.notSynchronized
  have hml : c.maxLocals = 4 := hml0
  have hown : s.vm.findClass "com/example/termwright/termwright/store/Crc32c" = some m.cls := findClass_of_methodNamed Bd.named
  have hnm := (name_of_methodNamed Bd.named Bd.method).1
  have X0 : Stand p l e ({ frames := 2, cells := 0, slots := 0, locals := 34 } : Room) s m #[(.int p1), (.int p2), (.long q3)] below meth c s₁ [] 0 0 := Stand.of_body Bd
  have e0 : s₁.heap = h0 := by rw [← hh, Bd.state]; rfl
  have N0 := Fr.nil n0
  refine own_start (Q := Qrm6 p1 p2 q3 h0 n0) (g' := (mkF m 0 #[.val (.int p1), .val (.int p2), .val (.long q3), .second] [])) (by first | (simp [entryFrame, mkF, argsToLocals, Value.category]; done) | rfl) ?_
  show own_Gl _ _ _ _ (s₁.setTop (mkF m 0 #[.val (.int p1), .val (.int p2), .val (.long q3), .second] []))
  refine own_back (fun t_ q_ => XS.iloadN X0.here hx rfl (hb hby d6_0) rfl q_) ?_
  show own_Gl _ _ _ _ (s₁.setTop (mkF m 1 #[.val (.int p1), .val (.int p2), .val (.long q3), .second] [(.int p1)]))
  refine own_back (fun t_ q_ => XS.lloadN X0.here hx rfl (hb hby d6_1) rfl q_) ?_
  show own_Gl _ _ _ _ (s₁.setTop (mkF m 2 #[.val (.int p1), .val (.int p2), .val (.long q3), .second] [(.long q3), (.int p1)]))
  obtain ⟨_, _, ⟨T5, L5, k5, n5⟩, -, X5, ⟨Lc5, hQ5, l5, y5, z5⟩, st5⟩ := Jvm.LawKit.callS X0 hx (y := (⟨"com/example/termwright/termwright/store/Crc32c", "shift", "(J)I"⟩ : MethodName)) hown (mvT hZ (hw _ (List.mem_of_getElem? (i := 31) rfl))) (mvT hZ (hw _ (List.mem_of_getElem? (i := 13) rfl))) (mvT hZ (hw _ (List.mem_of_getElem? (i := 14) rfl))) (mvT hZ (hw _ (List.mem_of_getElem? (i := 15) rfl))) (by decide) (backOf (W := 1) (rm3 l Z a0 hw [] q3 h0 n0 Z0) hZ (hw _ (List.mem_of_getElem? (i := 15) rfl)) (hw _ (List.mem_of_getElem? (i := 14) rfl)) (by decide) (by decide)) (g := (mkF m 2 #[.val (.int p1), .val (.int p2), .val (.long q3), .second] [(.long q3), (.int p1)])) rfl (by rw [hml]; rfl) (argsL := [(.long q3)]) (rest := [(.int p1)]) (lenOf pd_1 rfl) rfl (by show 2 * 0 + _ ≤ _; exact Nat.le_of_eq rfl) (hb hby d6_2) (fun _ _ => ⟨rfl, e0, (by decide : 0 + 0 ≤ _), (by decide : 0 + 0 ≤ _)⟩)
  dsimp only [Pt.U, Pt.locs, Pt.cells, Pt.slots] at X5 l5 y5 z5 st5 hQ5
  subst l5 y5 z5
  obtain ⟨rfl, M5, e5⟩ := hQ5
  have N5 := Fr.app N0 M5
  refine own_back st5 ?_
  show own_Gl _ _ _ _ (T5.setTop (mkF m 5 #[.val (.int p1), .val (.int p2), .val (.long q3), .second] [(.int (own_shift q3)), (.int p1)]))
  obtain ⟨_, _, ⟨T6, L6, k6, n6⟩, -, X6, ⟨Lc6, hQ6, l6, y6, z6⟩, st6⟩ := Jvm.LawKit.callS X5 hx (y := (⟨"com/example/termwright/termwright/store/Crc32c", "multiply", "(II)I"⟩ : MethodName)) hown (mvT hZ (hw _ (List.mem_of_getElem? (i := 18) rfl))) (mvT hZ (hw _ (List.mem_of_getElem? (i := 19) rfl))) (mvT hZ (hw _ (List.mem_of_getElem? (i := 14) rfl))) (mvT hZ (hw _ (List.mem_of_getElem? (i := 20) rfl))) (by decide) (backOf (W := 0) (rm4 l Z a0 hw [] p1 (own_shift q3) h0 n0 Z0) hZ (hw _ (List.mem_of_getElem? (i := 20) rfl)) (hw _ (List.mem_of_getElem? (i := 14) rfl)) (by decide) (by decide)) (g := (mkF m 5 #[.val (.int p1), .val (.int p2), .val (.long q3), .second] [(.int (own_shift q3)), (.int p1)])) rfl (by rw [hml]; rfl) (argsL := [(.int p1), (.int (own_shift q3))]) (rest := []) (lenOf pd_0 rfl) rfl (by show 2 * 0 + _ ≤ _; exact Nat.le_of_eq rfl) (hb hby d6_5) (fun _ _ => ⟨rfl, e5, (by decide : 0 + 0 ≤ _), (by decide : 0 + 0 ≤ _)⟩)
  dsimp only [Pt.U, Pt.locs, Pt.cells, Pt.slots] at X6 l6 y6 z6 st6 hQ6
  subst l6 y6 z6
  obtain ⟨rfl, M6, e6⟩ := hQ6
  have N6 := Fr.app N5 M6
  refine own_back st6 ?_
  show own_Gl _ _ _ _ (T6.setTop (mkF m 8 #[.val (.int p1), .val (.int p2), .val (.long q3), .second] [(.int (own_mult p1 (own_shift q3)))]))
  refine own_back (fun t_ q_ => XS.iloadN X6.here hx rfl (hb hby d6_8) rfl q_) ?_
  show own_Gl _ _ _ _ (T6.setTop (mkF m 9 #[.val (.int p1), .val (.int p2), .val (.long q3), .second] [(.int p2), (.int (own_mult p1 (own_shift q3)))]))
  refine own_back (fun t_ q_ => XS.ixor X6.here hx rfl (hb hby d6_9) rfl q_) ?_
  show own_Gl _ _ _ _ (T6.setTop (mkF m 10 #[.val (.int p1), .val (.int p2), .val (.long q3), .second] [(.int ((own_mult p1 (own_shift q3)) ^^^ p2))]))
  exact own_rI X6 hx hlk Bd.returns (hb hby d6_10) (by show Qrm6 p1 p2 q3 h0 n0 _ T6.heap _; rw [e6]; exact ⟨rfl, N6, rfl⟩) (by decide) (by decide)
theorem d5_0 : decode prog_137_method_2_code 0 = .ok (.aload_n 0, 1) := by decide +kernel
theorem d5_1 : decode prog_137_method_2_code 1 = .ok (.getfield 9, 3) := by decide +kernel
theorem d5_4 : decode prog_137_method_2_code 4 = .ok (.iload_n 1, 1) := by decide +kernel
theorem d5_5 : decode prog_137_method_2_code 5 = .ok (.sipush 255, 3) := by decide +kernel
theorem d5_8 : decode prog_137_method_2_code 8 = .ok (.iand, 1) := by decide +kernel
theorem d5_9 : decode prog_137_method_2_code 9 = .ok (.iaload, 1) := by decide +kernel
theorem d5_10 : decode prog_137_method_2_code 10 = .ok (.aload_n 0, 1) := by decide +kernel
theorem d5_11 : decode prog_137_method_2_code 11 = .ok (.getfield 9, 3) := by decide +kernel
theorem d5_14 : decode prog_137_method_2_code 14 = .ok (.sipush 256, 3) := by decide +kernel
theorem d5_17 : decode prog_137_method_2_code 17 = .ok (.iload_n 1, 1) := by decide +kernel
theorem d5_18 : decode prog_137_method_2_code 18 = .ok (.bipush 8, 2) := by decide +kernel
theorem d5_20 : decode prog_137_method_2_code 20 = .ok (.iushr, 1) := by decide +kernel
theorem d5_21 : decode prog_137_method_2_code 21 = .ok (.sipush 255, 3) := by decide +kernel
theorem d5_24 : decode prog_137_method_2_code 24 = .ok (.iand, 1) := by decide +kernel
theorem d5_25 : decode prog_137_method_2_code 25 = .ok (.ior, 1) := by decide +kernel
theorem d5_26 : decode prog_137_method_2_code 26 = .ok (.iaload, 1) := by decide +kernel
theorem d5_27 : decode prog_137_method_2_code 27 = .ok (.ixor, 1) := by decide +kernel
theorem d5_28 : decode prog_137_method_2_code 28 = .ok (.aload_n 0, 1) := by decide +kernel
theorem d5_29 : decode prog_137_method_2_code 29 = .ok (.getfield 9, 3) := by decide +kernel
theorem d5_32 : decode prog_137_method_2_code 32 = .ok (.sipush 512, 3) := by decide +kernel
theorem d5_35 : decode prog_137_method_2_code 35 = .ok (.iload_n 1, 1) := by decide +kernel
theorem d5_36 : decode prog_137_method_2_code 36 = .ok (.bipush 16, 2) := by decide +kernel
theorem d5_38 : decode prog_137_method_2_code 38 = .ok (.iushr, 1) := by decide +kernel
theorem d5_39 : decode prog_137_method_2_code 39 = .ok (.sipush 255, 3) := by decide +kernel
theorem d5_42 : decode prog_137_method_2_code 42 = .ok (.iand, 1) := by decide +kernel
theorem d5_43 : decode prog_137_method_2_code 43 = .ok (.ior, 1) := by decide +kernel
theorem d5_44 : decode prog_137_method_2_code 44 = .ok (.iaload, 1) := by decide +kernel
theorem d5_45 : decode prog_137_method_2_code 45 = .ok (.ixor, 1) := by decide +kernel
theorem d5_46 : decode prog_137_method_2_code 46 = .ok (.aload_n 0, 1) := by decide +kernel
theorem d5_47 : decode prog_137_method_2_code 47 = .ok (.getfield 9, 3) := by decide +kernel
theorem d5_50 : decode prog_137_method_2_code 50 = .ok (.sipush 768, 3) := by decide +kernel
theorem d5_53 : decode prog_137_method_2_code 53 = .ok (.iload_n 1, 1) := by decide +kernel
theorem d5_54 : decode prog_137_method_2_code 54 = .ok (.bipush 24, 2) := by decide +kernel
theorem d5_56 : decode prog_137_method_2_code 56 = .ok (.iushr, 1) := by decide +kernel
theorem d5_57 : decode prog_137_method_2_code 57 = .ok (.ior, 1) := by decide +kernel
theorem d5_58 : decode prog_137_method_2_code 58 = .ok (.iaload, 1) := by decide +kernel
theorem d5_59 : decode prog_137_method_2_code 59 = .ok (.ixor, 1) := by decide +kernel
theorem d5_60 : decode prog_137_method_2_code 60 = .ok (.ireturn, 1) := by decide +kernel
theorem pn_5 : plainFor (⟨"com/example/termwright/termwright/store/Crc32c$Shift", "times", "(I)I"⟩ : MethodName) = true := plainFor_of_name (by first | (simp [plainName, overriddenIn]; done) | decide +kernel)
def Qrm5 (p2 z : Int32) (h0 : Heap) (n0 : Nat) (v : Option Value) (h : Heap) (L : List Loc) : Prop := v = some (.int (own_mult p2 z)) ∧ Fr n0 L ∧ h = h0
set_option maxRecDepth 65536 in
set_option maxHeartbeats 40000000 in
theorem rm5 (l : Launch) (Z : State) (a0 : Array Value) (hw : ∀ d ∈ tables_1, d.before a0 Z = true) (ws : List Jvm.Cond) (a1 : Addr) (p2 : Int32) (h0 : Heap) (n0 : Nat) (Z0 : n0 ≤ h0.size) (r : Addr) (z : Int32) (F1 : Fld Z h0 a1 "com/example/termwright/termwright/store/Crc32c$Shift" "products" "[I" (.ref r)) (B : own_T Z h0 r z) :
    MetFree l (⟨"com/example/termwright/termwright/store/Crc32c$Shift", "times", "(I)I"⟩ : MethodName) (head1 (Jvm.Cond.code (⟨"com/example/termwright/termwright/store/Crc32c$Shift", "times", "(I)I"⟩ : MethodName) prog_137_method_2_code 2 (some .int) :: ws) ({ frames := 0, cells := 0, slots := 0, locals := 0 } : Room)) (fun a_ U_ => a_ = #[(.ref a1), (.int p2)] ∧ Z.Warmed39 U_.vm ∧ U_.heap = h0) (fun _ _ _ _ _ => True) (fun _ U_ o_ U'_ => ∃ v_ L_, o_ = .returned v_ ∧ (Qrm5 p2 z h0 n0) v_ U'_.heap L_ ∧ FrameEnd U_ o_ U'_ L_ 0 0) := by
  refine MetFree.of_bodySF pn_5 hisR ?_
  intro p e s m args below meth c s₁ Bd hml0 hP hK
  obtain ⟨rfl, hZ, hh⟩ := hP
  have hx := Bd.exec
  have hby := Bd.bytes
  have hlk : meth.locks = false := Bd.notSynchronized
  have hml : c.maxLocals = 2 := hml0
  have hown : s.vm.findClass "com/example/termwright/termwright/store/Crc32c$Shift" = some m.cls := findClass_of_methodNamed Bd.named
  have hnm := (name_of_methodNamed Bd.named Bd.method).1
  have X0 : Stand p l e ({ frames := 0, cells := 0, slots := 0, locals := 0 } : Room) s m #[(.ref a1), (.int p2)] below meth c s₁ [] 0 0 := Stand.of_body Bd
  have e0 : s₁.heap = h0 := by rw [← hh, Bd.state]; rfl
  have N0 := Fr.nil n0
  refine own_start (Q := Qrm5 p2 z h0 n0) (g' := (mkF m 0 #[.val (.ref a1), .val (.int p2)] [])) (by first | (simp [entryFrame, mkF, argsToLocals, Value.category]; done) | rfl) ?_
  show own_Gl _ _ _ _ (s₁.setTop (mkF m 0 #[.val (.ref a1), .val (.int p2)] []))
  obtain ⟨cl, A, S, H⟩ := B
  obtain ⟨jn0, jv0⟩ := own_at S H (own_r0 p2)
  obtain ⟨jn1, jv1⟩ := own_at S H (own_r1 p2)
  obtain ⟨jn2, jv2⟩ := own_at S H (own_r2 p2)
  obtain ⟨jn3, jv3⟩ := own_at S H (own_r3 p2)
  refine own_back (fun t_ q_ => XS.aloadN X0.here hx rfl (hb hby d5_0) rfl rfl q_) ?_
  show own_Gl _ _ _ _ (s₁.setTop (mkF m 1 #[.val (.ref a1), .val (.int p2)] [(.ref a1)]))
  obtain ⟨T7, X7, e7, st7⟩ := getF X0 hx hZ hown (host := "") (Or.inl (hw _ (List.mem_of_getElem? (i := 10) rfl))) Via.refl e0 F1 (g := (mkF m 1 #[.val (.ref a1), .val (.int p2)] [(.ref a1)])) rfl rfl (hb hby d5_1)
  refine own_back st7 ?_
  show own_Gl _ _ _ _ (T7.setTop (mkF m 4 #[.val (.ref a1), .val (.int p2)] [(.ref r)]))
  refine own_back (fun t_ q_ => XS.iloadN X7.here hx rfl (hb hby d5_4) rfl q_) ?_
  show own_Gl _ _ _ _ (T7.setTop (mkF m 5 #[.val (.ref a1), .val (.int p2)] [(.int p2), (.ref r)]))
  refine own_back (fun t_ q_ => XS.sipush X7.here hx rfl (hb hby d5_5) q_) ?_
  show own_Gl _ _ _ _ (T7.setTop (mkF m 8 #[.val (.ref a1), .val (.int p2)] [(.int (255 : Int32)), (.int p2), (.ref r)]))
  refine own_back (fun t_ q_ => XS.iand X7.here hx rfl (hb hby d5_8) rfl q_) ?_
  show own_Gl _ _ _ _ (T7.setTop (mkF m 9 #[.val (.ref a1), .val (.int p2)] [(.int (p2 &&& (255 : Int32))), (.ref r)]))
  show own_Gl _ _ _ _ (T7.setTop (mkF m 9 #[.val (.ref a1), .val (.int p2)] [(.int (own_i0 p2)), (.ref r)]))
  refine own_back (fun t_ q_ => X7.iaload hx (j := (own_i0 p2)) (v := (.int (own_mult (own_e (own_i0 p2)) z))) (by rw [e7]; exact A.1) (State.isArrayOf_alike hZ.alike A.2.1) A.2.2 jn0 jv0 (g := (mkF m 9 #[.val (.ref a1), .val (.int p2)] [(.int (own_i0 p2)), (.ref r)])) rfl rfl (hb hby d5_9) t_ q_) ?_
  show own_Gl _ _ _ _ (T7.setTop (mkF m 10 #[.val (.ref a1), .val (.int p2)] [(.int (own_mult (own_e (own_i0 p2)) z))]))
  refine own_back (fun t_ q_ => XS.aloadN X7.here hx rfl (hb hby d5_10) rfl rfl q_) ?_
  show own_Gl _ _ _ _ (T7.setTop (mkF m 11 #[.val (.ref a1), .val (.int p2)] [(.ref a1), (.int (own_mult (own_e (own_i0 p2)) z))]))
  obtain ⟨T8, X8, e8, st8⟩ := getF X7 hx hZ hown (host := "") (Or.inl (hw _ (List.mem_of_getElem? (i := 10) rfl))) Via.refl e7 F1 (g := (mkF m 11 #[.val (.ref a1), .val (.int p2)] [(.ref a1), (.int (own_mult (own_e (own_i0 p2)) z))])) rfl rfl (hb hby d5_11)
  refine own_back st8 ?_
  show own_Gl _ _ _ _ (T8.setTop (mkF m 14 #[.val (.ref a1), .val (.int p2)] [(.ref r), (.int (own_mult (own_e (own_i0 p2)) z))]))
  refine own_back (fun t_ q_ => XS.sipush X8.here hx rfl (hb hby d5_14) q_) ?_
  show own_Gl _ _ _ _ (T8.setTop (mkF m 17 #[.val (.ref a1), .val (.int p2)] [(.int (256 : Int32)), (.ref r), (.int (own_mult (own_e (own_i0 p2)) z))]))
  refine own_back (fun t_ q_ => XS.iloadN X8.here hx rfl (hb hby d5_17) rfl q_) ?_
  show own_Gl _ _ _ _ (T8.setTop (mkF m 18 #[.val (.ref a1), .val (.int p2)] [(.int p2), (.int (256 : Int32)), (.ref r), (.int (own_mult (own_e (own_i0 p2)) z))]))
  refine own_back (fun t_ q_ => XS.bipush X8.here hx rfl (hb hby d5_18) q_) ?_
  show own_Gl _ _ _ _ (T8.setTop (mkF m 20 #[.val (.ref a1), .val (.int p2)] [(.int (8 : Int32)), (.int p2), (.int (256 : Int32)), (.ref r), (.int (own_mult (own_e (own_i0 p2)) z))]))
  refine own_back (fun t_ q_ => XS.iushr X8.here hx rfl (hb hby d5_20) rfl q_) ?_
  show own_Gl _ _ _ _ (T8.setTop (mkF m 21 #[.val (.ref a1), .val (.int p2)] [(.int ((p2.toUInt32 >>> ((8 : Int32) &&& 31).toUInt32).toInt32)), (.int (256 : Int32)), (.ref r), (.int (own_mult (own_e (own_i0 p2)) z))]))
  refine own_back (fun t_ q_ => XS.sipush X8.here hx rfl (hb hby d5_21) q_) ?_
  show own_Gl _ _ _ _ (T8.setTop (mkF m 24 #[.val (.ref a1), .val (.int p2)] [(.int (255 : Int32)), (.int ((p2.toUInt32 >>> ((8 : Int32) &&& 31).toUInt32).toInt32)), (.int (256 : Int32)), (.ref r), (.int (own_mult (own_e (own_i0 p2)) z))]))
  refine own_back (fun t_ q_ => XS.iand X8.here hx rfl (hb hby d5_24) rfl q_) ?_
  show own_Gl _ _ _ _ (T8.setTop (mkF m 25 #[.val (.ref a1), .val (.int p2)] [(.int (((p2.toUInt32 >>> ((8 : Int32) &&& 31).toUInt32).toInt32) &&& (255 : Int32))), (.int (256 : Int32)), (.ref r), (.int (own_mult (own_e (own_i0 p2)) z))]))
  refine own_back (fun t_ q_ => XS.ior X8.here hx rfl (hb hby d5_25) rfl q_) ?_
  show own_Gl _ _ _ _ (T8.setTop (mkF m 26 #[.val (.ref a1), .val (.int p2)] [(.int ((256 : Int32) ||| (((p2.toUInt32 >>> ((8 : Int32) &&& 31).toUInt32).toInt32) &&& (255 : Int32)))), (.ref r), (.int (own_mult (own_e (own_i0 p2)) z))]))
  show own_Gl _ _ _ _ (T8.setTop (mkF m 26 #[.val (.ref a1), .val (.int p2)] [(.int (own_i1 p2)), (.ref r), (.int (own_mult (own_e (own_i0 p2)) z))]))
  refine own_back (fun t_ q_ => X8.iaload hx (j := (own_i1 p2)) (v := (.int (own_mult (own_e (own_i1 p2)) z))) (by rw [e8]; exact A.1) (State.isArrayOf_alike hZ.alike A.2.1) A.2.2 jn1 jv1 (g := (mkF m 26 #[.val (.ref a1), .val (.int p2)] [(.int (own_i1 p2)), (.ref r), (.int (own_mult (own_e (own_i0 p2)) z))])) rfl rfl (hb hby d5_26) t_ q_) ?_
  show own_Gl _ _ _ _ (T8.setTop (mkF m 27 #[.val (.ref a1), .val (.int p2)] [(.int (own_mult (own_e (own_i1 p2)) z)), (.int (own_mult (own_e (own_i0 p2)) z))]))
  refine own_back (fun t_ q_ => XS.ixor X8.here hx rfl (hb hby d5_27) rfl q_) ?_
  show own_Gl _ _ _ _ (T8.setTop (mkF m 28 #[.val (.ref a1), .val (.int p2)] [(.int ((own_mult (own_e (own_i0 p2)) z) ^^^ (own_mult (own_e (own_i1 p2)) z)))]))
  refine own_back (fun t_ q_ => XS.aloadN X8.here hx rfl (hb hby d5_28) rfl rfl q_) ?_
  show own_Gl _ _ _ _ (T8.setTop (mkF m 29 #[.val (.ref a1), .val (.int p2)] [(.ref a1), (.int ((own_mult (own_e (own_i0 p2)) z) ^^^ (own_mult (own_e (own_i1 p2)) z)))]))
  obtain ⟨T9, X9, e9, st9⟩ := getF X8 hx hZ hown (host := "") (Or.inl (hw _ (List.mem_of_getElem? (i := 10) rfl))) Via.refl e8 F1 (g := (mkF m 29 #[.val (.ref a1), .val (.int p2)] [(.ref a1), (.int ((own_mult (own_e (own_i0 p2)) z) ^^^ (own_mult (own_e (own_i1 p2)) z)))])) rfl rfl (hb hby d5_29)
  refine own_back st9 ?_
  show own_Gl _ _ _ _ (T9.setTop (mkF m 32 #[.val (.ref a1), .val (.int p2)] [(.ref r), (.int ((own_mult (own_e (own_i0 p2)) z) ^^^ (own_mult (own_e (own_i1 p2)) z)))]))
  refine own_back (fun t_ q_ => XS.sipush X9.here hx rfl (hb hby d5_32) q_) ?_
  show own_Gl _ _ _ _ (T9.setTop (mkF m 35 #[.val (.ref a1), .val (.int p2)] [(.int (512 : Int32)), (.ref r), (.int ((own_mult (own_e (own_i0 p2)) z) ^^^ (own_mult (own_e (own_i1 p2)) z)))]))
  refine own_back (fun t_ q_ => XS.iloadN X9.here hx rfl (hb hby d5_35) rfl q_) ?_
  show own_Gl _ _ _ _ (T9.setTop (mkF m 36 #[.val (.ref a1), .val (.int p2)] [(.int p2), (.int (512 : Int32)), (.ref r), (.int ((own_mult (own_e (own_i0 p2)) z) ^^^ (own_mult (own_e (own_i1 p2)) z)))]))
  refine own_back (fun t_ q_ => XS.bipush X9.here hx rfl (hb hby d5_36) q_) ?_
  show own_Gl _ _ _ _ (T9.setTop (mkF m 38 #[.val (.ref a1), .val (.int p2)] [(.int (16 : Int32)), (.int p2), (.int (512 : Int32)), (.ref r), (.int ((own_mult (own_e (own_i0 p2)) z) ^^^ (own_mult (own_e (own_i1 p2)) z)))]))
  refine own_back (fun t_ q_ => XS.iushr X9.here hx rfl (hb hby d5_38) rfl q_) ?_
  show own_Gl _ _ _ _ (T9.setTop (mkF m 39 #[.val (.ref a1), .val (.int p2)] [(.int ((p2.toUInt32 >>> ((16 : Int32) &&& 31).toUInt32).toInt32)), (.int (512 : Int32)), (.ref r), (.int ((own_mult (own_e (own_i0 p2)) z) ^^^ (own_mult (own_e (own_i1 p2)) z)))]))
  refine own_back (fun t_ q_ => XS.sipush X9.here hx rfl (hb hby d5_39) q_) ?_
  show own_Gl _ _ _ _ (T9.setTop (mkF m 42 #[.val (.ref a1), .val (.int p2)] [(.int (255 : Int32)), (.int ((p2.toUInt32 >>> ((16 : Int32) &&& 31).toUInt32).toInt32)), (.int (512 : Int32)), (.ref r), (.int ((own_mult (own_e (own_i0 p2)) z) ^^^ (own_mult (own_e (own_i1 p2)) z)))]))
  refine own_back (fun t_ q_ => XS.iand X9.here hx rfl (hb hby d5_42) rfl q_) ?_
  show own_Gl _ _ _ _ (T9.setTop (mkF m 43 #[.val (.ref a1), .val (.int p2)] [(.int (((p2.toUInt32 >>> ((16 : Int32) &&& 31).toUInt32).toInt32) &&& (255 : Int32))), (.int (512 : Int32)), (.ref r), (.int ((own_mult (own_e (own_i0 p2)) z) ^^^ (own_mult (own_e (own_i1 p2)) z)))]))
  refine own_back (fun t_ q_ => XS.ior X9.here hx rfl (hb hby d5_43) rfl q_) ?_
  show own_Gl _ _ _ _ (T9.setTop (mkF m 44 #[.val (.ref a1), .val (.int p2)] [(.int ((512 : Int32) ||| (((p2.toUInt32 >>> ((16 : Int32) &&& 31).toUInt32).toInt32) &&& (255 : Int32)))), (.ref r), (.int ((own_mult (own_e (own_i0 p2)) z) ^^^ (own_mult (own_e (own_i1 p2)) z)))]))
  show own_Gl _ _ _ _ (T9.setTop (mkF m 44 #[.val (.ref a1), .val (.int p2)] [(.int (own_i2 p2)), (.ref r), (.int ((own_mult (own_e (own_i0 p2)) z) ^^^ (own_mult (own_e (own_i1 p2)) z)))]))
  refine own_back (fun t_ q_ => X9.iaload hx (j := (own_i2 p2)) (v := (.int (own_mult (own_e (own_i2 p2)) z))) (by rw [e9]; exact A.1) (State.isArrayOf_alike hZ.alike A.2.1) A.2.2 jn2 jv2 (g := (mkF m 44 #[.val (.ref a1), .val (.int p2)] [(.int (own_i2 p2)), (.ref r), (.int ((own_mult (own_e (own_i0 p2)) z) ^^^ (own_mult (own_e (own_i1 p2)) z)))])) rfl rfl (hb hby d5_44) t_ q_) ?_
  show own_Gl _ _ _ _ (T9.setTop (mkF m 45 #[.val (.ref a1), .val (.int p2)] [(.int (own_mult (own_e (own_i2 p2)) z)), (.int ((own_mult (own_e (own_i0 p2)) z) ^^^ (own_mult (own_e (own_i1 p2)) z)))]))
  refine own_back (fun t_ q_ => XS.ixor X9.here hx rfl (hb hby d5_45) rfl q_) ?_
  show own_Gl _ _ _ _ (T9.setTop (mkF m 46 #[.val (.ref a1), .val (.int p2)] [(.int (((own_mult (own_e (own_i0 p2)) z) ^^^ (own_mult (own_e (own_i1 p2)) z)) ^^^ (own_mult (own_e (own_i2 p2)) z)))]))
  refine own_back (fun t_ q_ => XS.aloadN X9.here hx rfl (hb hby d5_46) rfl rfl q_) ?_
  show own_Gl _ _ _ _ (T9.setTop (mkF m 47 #[.val (.ref a1), .val (.int p2)] [(.ref a1), (.int (((own_mult (own_e (own_i0 p2)) z) ^^^ (own_mult (own_e (own_i1 p2)) z)) ^^^ (own_mult (own_e (own_i2 p2)) z)))]))
  obtain ⟨T10, X10, e10, st10⟩ := getF X9 hx hZ hown (host := "") (Or.inl (hw _ (List.mem_of_getElem? (i := 10) rfl))) Via.refl e9 F1 (g := (mkF m 47 #[.val (.ref a1), .val (.int p2)] [(.ref a1), (.int (((own_mult (own_e (own_i0 p2)) z) ^^^ (own_mult (own_e (own_i1 p2)) z)) ^^^ (own_mult (own_e (own_i2 p2)) z)))])) rfl rfl (hb hby d5_47)
  refine own_back st10 ?_
  show own_Gl _ _ _ _ (T10.setTop (mkF m 50 #[.val (.ref a1), .val (.int p2)] [(.ref r), (.int (((own_mult (own_e (own_i0 p2)) z) ^^^ (own_mult (own_e (own_i1 p2)) z)) ^^^ (own_mult (own_e (own_i2 p2)) z)))]))
  refine own_back (fun t_ q_ => XS.sipush X10.here hx rfl (hb hby d5_50) q_) ?_
  show own_Gl _ _ _ _ (T10.setTop (mkF m 53 #[.val (.ref a1), .val (.int p2)] [(.int (768 : Int32)), (.ref r), (.int (((own_mult (own_e (own_i0 p2)) z) ^^^ (own_mult (own_e (own_i1 p2)) z)) ^^^ (own_mult (own_e (own_i2 p2)) z)))]))
  refine own_back (fun t_ q_ => XS.iloadN X10.here hx rfl (hb hby d5_53) rfl q_) ?_
  show own_Gl _ _ _ _ (T10.setTop (mkF m 54 #[.val (.ref a1), .val (.int p2)] [(.int p2), (.int (768 : Int32)), (.ref r), (.int (((own_mult (own_e (own_i0 p2)) z) ^^^ (own_mult (own_e (own_i1 p2)) z)) ^^^ (own_mult (own_e (own_i2 p2)) z)))]))
  refine own_back (fun t_ q_ => XS.bipush X10.here hx rfl (hb hby d5_54) q_) ?_
  show own_Gl _ _ _ _ (T10.setTop (mkF m 56 #[.val (.ref a1), .val (.int p2)] [(.int (24 : Int32)), (.int p2), (.int (768 : Int32)), (.ref r), (.int (((own_mult (own_e (own_i0 p2)) z) ^^^ (own_mult (own_e (own_i1 p2)) z)) ^^^ (own_mult (own_e (own_i2 p2)) z)))]))
  refine own_back (fun t_ q_ => XS.iushr X10.here hx rfl (hb hby d5_56) rfl q_) ?_
  show own_Gl _ _ _ _ (T10.setTop (mkF m 57 #[.val (.ref a1), .val (.int p2)] [(.int ((p2.toUInt32 >>> ((24 : Int32) &&& 31).toUInt32).toInt32)), (.int (768 : Int32)), (.ref r), (.int (((own_mult (own_e (own_i0 p2)) z) ^^^ (own_mult (own_e (own_i1 p2)) z)) ^^^ (own_mult (own_e (own_i2 p2)) z)))]))
  refine own_back (fun t_ q_ => XS.ior X10.here hx rfl (hb hby d5_57) rfl q_) ?_
  show own_Gl _ _ _ _ (T10.setTop (mkF m 58 #[.val (.ref a1), .val (.int p2)] [(.int ((768 : Int32) ||| ((p2.toUInt32 >>> ((24 : Int32) &&& 31).toUInt32).toInt32))), (.ref r), (.int (((own_mult (own_e (own_i0 p2)) z) ^^^ (own_mult (own_e (own_i1 p2)) z)) ^^^ (own_mult (own_e (own_i2 p2)) z)))]))
  show own_Gl _ _ _ _ (T10.setTop (mkF m 58 #[.val (.ref a1), .val (.int p2)] [(.int (own_i3 p2)), (.ref r), (.int (((own_mult (own_e (own_i0 p2)) z) ^^^ (own_mult (own_e (own_i1 p2)) z)) ^^^ (own_mult (own_e (own_i2 p2)) z)))]))
  refine own_back (fun t_ q_ => X10.iaload hx (j := (own_i3 p2)) (v := (.int (own_mult (own_e (own_i3 p2)) z))) (by rw [e10]; exact A.1) (State.isArrayOf_alike hZ.alike A.2.1) A.2.2 jn3 jv3 (g := (mkF m 58 #[.val (.ref a1), .val (.int p2)] [(.int (own_i3 p2)), (.ref r), (.int (((own_mult (own_e (own_i0 p2)) z) ^^^ (own_mult (own_e (own_i1 p2)) z)) ^^^ (own_mult (own_e (own_i2 p2)) z)))])) rfl rfl (hb hby d5_58) t_ q_) ?_
  show own_Gl _ _ _ _ (T10.setTop (mkF m 59 #[.val (.ref a1), .val (.int p2)] [(.int (own_mult (own_e (own_i3 p2)) z)), (.int (((own_mult (own_e (own_i0 p2)) z) ^^^ (own_mult (own_e (own_i1 p2)) z)) ^^^ (own_mult (own_e (own_i2 p2)) z)))]))
  refine own_back (fun t_ q_ => XS.ixor X10.here hx rfl (hb hby d5_59) rfl q_) ?_
  show own_Gl _ _ _ _ (T10.setTop (mkF m 60 #[.val (.ref a1), .val (.int p2)] [(.int ((((own_mult (own_e (own_i0 p2)) z) ^^^ (own_mult (own_e (own_i1 p2)) z)) ^^^ (own_mult (own_e (own_i2 p2)) z)) ^^^ (own_mult (own_e (own_i3 p2)) z)))]))
  exact own_rI X10 hx hlk Bd.returns (hb hby d5_60) (by show Qrm5 p2 z h0 n0 _ T10.heap _; rw [e10]; exact ⟨by rw [own_times], N0, rfl⟩) (by decide) (by decide)
theorem d1_0 : decode prog_137_method_1_code 0 = .ok (.aload_n 0, 1) := by decide +kernel
theorem d1_1 : decode prog_137_method_1_code 1 = .ok (.invokespecial 1, 3) := by decide +kernel
theorem pd_2 : parseMethodDescriptor "()V" = some ⟨[], none⟩ := by decide +kernel
theorem d1_4 : decode prog_137_method_1_code 4 = .ok (.aload_n 0, 1) := by decide +kernel
theorem d1_5 : decode prog_137_method_1_code 5 = .ok (.sipush 1024, 3) := by decide +kernel
theorem d1_8 : decode prog_137_method_1_code 8 = .ok (.newarray .int, 2) := by decide +kernel
theorem d1_10 : decode prog_137_method_1_code 10 = .ok (.putfield 9, 3) := by decide +kernel
theorem d1_13 : decode prog_137_method_1_code 13 = .ok (.lload_n 1, 1) := by decide +kernel
theorem d1_14 : decode prog_137_method_1_code 14 = .ok (.invokestatic 15, 3) := by decide +kernel
theorem d1_17 : decode prog_137_method_1_code 17 = .ok (.istore_n 3, 1) := by decide +kernel
theorem d1_18 : decode prog_137_method_1_code 18 = .ok (.iconst 0, 1) := by decide +kernel
theorem d1_19 : decode prog_137_method_1_code 19 = .ok (.istore 4, 2) := by decide +kernel
theorem d1_21 : decode prog_137_method_1_code 21 = .ok (.iload 4, 2) := by decide +kernel
theorem d1_23 : decode prog_137_method_1_code 23 = .ok (.aload_n 0, 1) := by decide +kernel
theorem d1_24 : decode prog_137_method_1_code 24 = .ok (.getfield 9, 3) := by decide +kernel
theorem d1_27 : decode prog_137_method_1_code 27 = .ok (.arraylength, 1) := by decide +kernel
theorem d1_28 : decode prog_137_method_1_code 28 = .ok (.if_icmp .ge 39, 3) := by decide +kernel
theorem d1_31 : decode prog_137_method_1_code 31 = .ok (.iload 4, 2) := by decide +kernel
theorem d1_33 : decode prog_137_method_1_code 33 = .ok (.bipush 8, 2) := by decide +kernel
theorem d1_35 : decode prog_137_method_1_code 35 = .ok (.iushr, 1) := by decide +kernel
theorem d1_36 : decode prog_137_method_1_code 36 = .ok (.istore 5, 2) := by decide +kernel
theorem d1_38 : decode prog_137_method_1_code 38 = .ok (.aload_n 0, 1) := by decide +kernel
theorem d1_39 : decode prog_137_method_1_code 39 = .ok (.getfield 9, 3) := by decide +kernel
theorem d1_42 : decode prog_137_method_1_code 42 = .ok (.iload 4, 2) := by decide +kernel
theorem d1_44 : decode prog_137_method_1_code 44 = .ok (.iload 4, 2) := by decide +kernel
theorem d1_46 : decode prog_137_method_1_code 46 = .ok (.sipush 255, 3) := by decide +kernel
theorem d1_49 : decode prog_137_method_1_code 49 = .ok (.iand, 1) := by decide +kernel
theorem d1_50 : decode prog_137_method_1_code 50 = .ok (.bipush 8, 2) := by decide +kernel
theorem d1_52 : decode prog_137_method_1_code 52 = .ok (.iload 5, 2) := by decide +kernel
theorem d1_54 : decode prog_137_method_1_code 54 = .ok (.imul, 1) := by decide +kernel
theorem d1_55 : decode prog_137_method_1_code 55 = .ok (.ishl, 1) := by decide +kernel
theorem d1_56 : decode prog_137_method_1_code 56 = .ok (.iload_n 3, 1) := by decide +kernel
theorem d1_57 : decode prog_137_method_1_code 57 = .ok (.invokestatic 21, 3) := by decide +kernel
theorem d1_60 : decode prog_137_method_1_code 60 = .ok (.iastore, 1) := by decide +kernel
theorem d1_61 : decode prog_137_method_1_code 61 = .ok (.iinc 4 1, 3) := by decide +kernel
theorem d1_64 : decode prog_137_method_1_code 64 = .ok (.goto (-43), 3) := by decide +kernel
theorem d1_67 : decode prog_137_method_1_code 67 = .ok (.return_, 1) := by decide +kernel
theorem pn_1 : plainFor (⟨"com/example/termwright/termwright/store/Crc32c$Shift", "<init>", "(J)V"⟩ : MethodName) = true := plainFor_of_name (by first | (simp [plainName, overriddenIn]; done) | decide +kernel)
def Qrm1 (Z : State) (a1 : Addr) (q2 : Int64) (h0 : Heap) (n0 : Nat) (v : Option Value) (h : Heap) (L : List Loc) : Prop := v = none ∧ Fr n0 L ∧ Keep h0 h [a1] ∧ Exa Z h a1 "com/example/termwright/termwright/store/Crc32c$Shift" ∧ ∃ r, Fld Z h a1 "com/example/termwright/termwright/store/Crc32c$Shift" "products" "[I" (.ref r) ∧ own_T Z h r (own_shift q2)
set_option maxRecDepth 65536 in
set_option maxHeartbeats 40000000 in
theorem rm1 (l : Launch) (Z : State) (a0 : Array Value) (hw : ∀ d ∈ tables_1, d.before a0 Z = true) (ws : List Jvm.Cond) (a1 : Addr) (q2 : Int64) (h0 : Heap) (n0 : Nat) (Z0 : n0 ≤ h0.size) (E1 : Exa Z h0 a1 "com/example/termwright/termwright/store/Crc32c$Shift") (F1 : Fld Z h0 a1 "com/example/termwright/termwright/store/Crc32c$Shift" "products" "[I" .null) (g1 : n0 ≤ a1) :
    MetFree l (⟨"com/example/termwright/termwright/store/Crc32c$Shift", "<init>", "(J)V"⟩ : MethodName) (head1 (Jvm.Cond.code (⟨"com/example/termwright/termwright/store/Crc32c$Shift", "<init>", "(J)V"⟩ : MethodName) prog_137_method_1_code 6 none :: ws) ({ frames := 2, cells := 1, slots := 1024, locals := 33 } : Room)) (fun a_ U_ => a_ = #[(.ref a1), (.long q2)] ∧ Z.Warmed39 U_.vm ∧ U_.heap = h0) (fun _ _ _ _ _ => True) (fun _ U_ o_ U'_ => ∃ v_ L_, o_ = .returned v_ ∧ (Qrm1 Z a1 q2 h0 n0) v_ U'_.heap L_ ∧ FrameEnd U_ o_ U'_ L_ 1 1024) := by
  refine MetFree.of_bodySF pn_1 hisR ?_
  intro p e s m args below meth c s₁ Bd hml0 hP hK
  obtain ⟨rfl, hZ, hh⟩ := hP
  have hx := Bd.exec
  have hby := Bd.bytes
  have hlk : meth.locks = false := Bd.notSynchronized
  have hml : c.maxLocals = 6 := hml0
  have hown : s.vm.findClass "com/example/termwright/termwright/store/Crc32c$Shift" = some m.cls := findClass_of_methodNamed Bd.named
  have hnm := (name_of_methodNamed Bd.named Bd.method).1
  have X0 : Stand p l e ({ frames := 2, cells := 1, slots := 1024, locals := 33 } : Room) s m #[(.ref a1), (.long q2)] below meth c s₁ [] 0 0 := Stand.of_body Bd
  have e0 : s₁.heap = h0 := by rw [← hh, Bd.state]; rfl
  have N0 := Fr.nil n0
  refine own_start (Q := Qrm1 Z a1 q2 h0 n0) (g' := (mkF m 0 #[.val (.ref a1), .val (.long q2), .second, .unset, .unset, .unset] [])) (by first | (simp [entryFrame, mkF, argsToLocals, Value.category]; done) | rfl) ?_
  show own_Gl _ _ _ _ (s₁.setTop (mkF m 0 #[.val (.ref a1), .val (.long q2), .second, .unset, .unset, .unset] []))
  refine own_back (fun t_ q_ => XS.aloadN X0.here hx rfl (hb hby d1_0) rfl rfl q_) ?_
  show own_Gl _ _ _ _ (s₁.setTop (mkF m 1 #[.val (.ref a1), .val (.long q2), .second, .unset, .unset, .unset] [(.ref a1)]))
  obtain ⟨T11, X11, e11, st11⟩ := initO X0 hx hZ hown (hw _ (List.mem_of_getElem? (i := 6) rfl)) (hw _ (List.mem_of_getElem? (i := 7) rfl)) (hw _ (List.mem_of_getElem? (i := 8) rfl)) e0 (g := (mkF m 1 #[.val (.ref a1), .val (.long q2), .second, .unset, .unset, .unset] [(.ref a1)])) rfl (by rw [hml]; rfl) rfl (hb hby d1_1) (by decide) (W := 0) (by show 2 * 0 + _ ≤ _; exact Nat.le_of_eq rfl) (by decide)
  refine own_back st11 ?_
  show own_Gl _ _ _ _ (T11.setTop (mkF m 4 #[.val (.ref a1), .val (.long q2), .second, .unset, .unset, .unset] []))
  refine own_back (fun t_ q_ => XS.aloadN X11.here hx rfl (hb hby d1_4) rfl rfl q_) ?_
  show own_Gl _ _ _ _ (T11.setTop (mkF m 5 #[.val (.ref a1), .val (.long q2), .second, .unset, .unset, .unset] [(.ref a1)]))
  refine own_back (fun t_ q_ => XS.sipush X11.here hx rfl (hb hby d1_5) q_) ?_
  show own_Gl _ _ _ _ (T11.setTop (mkF m 8 #[.val (.ref a1), .val (.long q2), .second, .unset, .unset, .unset] [(.int (1024 : Int32)), (.ref a1)]))
  obtain ⟨T12, h12, k12, X12, e12, E12, A12, st12⟩ := newP X11 hx hZ (hw _ (List.mem_of_getElem? (i := 9) rfl)) e11 (g := (mkF m 8 #[.val (.ref a1), .val (.long q2), .second, .unset, .unset, .unset] [(.int (1024 : Int32)), (.ref a1)])) rfl (hb hby d1_8) rfl (by decide) (cap := 1024) (by decide) (by decide) (by decide) (by decide)
  obtain ⟨b12, g12⟩ : ∃ z, z = h0.size := ⟨_, rfl⟩
  rw [← g12] at A12 st12
  refine own_back st12 ?_
  show own_Gl _ _ _ _ (T12.setTop (mkF m 10 #[.val (.ref a1), .val (.long q2), .second, .unset, .unset, .unset] [(.ref b12), (.ref a1)]))
  have gb : n0 ≤ b12 := Nat.le_trans Z0 (Nat.le_of_eq g12.symm)
  have sb : h0.size ≤ b12 := Nat.le_of_eq g12.symm
  have E2 := E1.ext E12
  have F2 := F1.ext E12
  have ne1 : a1 ≠ b12 := Nat.ne_of_lt (Nat.lt_of_lt_of_le F1.lt sb)
  obtain ⟨T13, h13, X13, e13, W13, st13⟩ := putF X12 hx hZ hown (host := "") (Or.inl (hw _ (List.mem_of_getElem? (i := 10) rfl))) Via.refl e12 F2 E2 (Or.inr ⟨(hw _ (List.mem_of_getElem? (i := 11) rfl)), rfl, hnm⟩) (hw _ (List.mem_of_getElem? (i := 1) rfl)) (ty := (.array .int)) (by decide) rfl rfl (g := (mkF m 10 #[.val (.ref a1), .val (.long q2), .second, .unset, .unset, .unset] [(.ref b12), (.ref a1)])) rfl rfl (hb hby d1_10)
  refine own_back st13 ?_
  have N13 := Fr.snoc X13 N0 g1
  show own_Gl _ _ _ _ (T13.setTop (mkF m 13 #[.val (.ref a1), .val (.long q2), .second, .unset, .unset, .unset] []))
  have E3 := E2.wr W13
  have F3 := F2.same W13
  have A3 := A12.other W13 (Ne.symm ne1)
  have K3 := ((Keep.refl h0 [a1]).ext E12).wr W13 (Or.inl (List.mem_singleton.mpr rfl))
  have Z3 : n0 ≤ h13.size := Nat.le_trans Z0 K3.1
  obtain ⟨c3, hc3⟩ : ∃ c3, c3 = newA k12 .int (1024 : Int32) := ⟨_, rfl⟩
  have A3 : Arr Z h13 b12 c3 .int := hc3 ▸ A3
  have S3 : c3.slots.size = 1024 := by rw [hc3, sz_new]; decide
  refine own_back (fun t_ q_ => XS.lloadN X13.here hx rfl (hb hby d1_13) rfl q_) ?_
  show own_Gl _ _ _ _ (T13.setTop (mkF m 14 #[.val (.ref a1), .val (.long q2), .second, .unset, .unset, .unset] [(.long q2)]))
  obtain ⟨_, _, ⟨T14, L14, k14, n14⟩, -, X14, ⟨Lc14, hQ14, l14, y14, z14⟩, st14⟩ := Jvm.RoadKit.callSN X13 hx (y := (⟨"com/example/termwright/termwright/store/Crc32c", "shift", "(J)I"⟩ : MethodName)) hown (Cond.methodLinkNest_wide hZ (hw _ (List.mem_of_getElem? (i := 12) rfl)) :) (mvT hZ (hw _ (List.mem_of_getElem? (i := 13) rfl))) (mvT hZ (hw _ (List.mem_of_getElem? (i := 14) rfl))) (mvT hZ (hw _ (List.mem_of_getElem? (i := 15) rfl))) (by decide) (backOf (W := 0) (rm3 l Z a0 hw [] q2 h13 n0 Z3) hZ (hw _ (List.mem_of_getElem? (i := 15) rfl)) (hw _ (List.mem_of_getElem? (i := 14) rfl)) (by decide) (by decide)) (g := (mkF m 14 #[.val (.ref a1), .val (.long q2), .second, .unset, .unset, .unset] [(.long q2)])) rfl (by rw [hml]; rfl) (argsL := [(.long q2)]) (rest := []) (lenOf pd_1 rfl) rfl (by show 2 * 0 + _ ≤ _; exact Nat.le_of_eq rfl) (hb hby d1_14) (fun _ _ => ⟨rfl, e13, (by decide : 1 + 0 ≤ _), (by decide : 1024 + 0 ≤ _)⟩)
  dsimp only [Pt.U, Pt.locs, Pt.cells, Pt.slots] at X14 l14 y14 z14 st14 hQ14
  subst l14 y14 z14
  obtain ⟨rfl, M14, e14⟩ := hQ14
  have N14 := Fr.app N13 M14
  refine own_trans st14 ?_
  show own_Gl _ _ _ _ (T14.setTop (mkF m 17 #[.val (.ref a1), .val (.long q2), .second, .unset, .unset, .unset] [(.int (own_shift q2))]))
  refine own_back (fun t_ q_ => XS.istoreN X14.here hx rfl (hb hby d1_17) rfl (l' := #[.val (.ref a1), .val (.long q2), .second, .val (.int (own_shift q2)), .unset, .unset]) rfl q_) ?_
  show own_Gl _ _ _ _ (T14.setTop (mkF m 18 #[.val (.ref a1), .val (.long q2), .second, .val (.int (own_shift q2)), .unset, .unset] []))
  refine own_back (fun t_ q_ => XS.iconst X14.here hx rfl (hb hby d1_18) q_) ?_
  show own_Gl _ _ _ _ (T14.setTop (mkF m 19 #[.val (.ref a1), .val (.long q2), .second, .val (.int (own_shift q2)), .unset, .unset] [(.int (0 : Int32))]))
  refine own_back (fun t_ q_ => XS.istore X14.here hx rfl (hb hby d1_19) rfl (l' := #[.val (.ref a1), .val (.long q2), .second, .val (.int (own_shift q2)), .val (.int (0 : Int32)), .unset]) rfl q_) ?_
  show own_Gl _ _ _ _ (T14.setTop (mkF m 21 #[.val (.ref a1), .val (.long q2), .second, .val (.int (own_shift q2)), .val (.int (0 : Int32)), .unset] []))
  have loop : ∀ (k i : Nat) (T : State) (h : Heap) (L : List Loc) (cl : Cell) (o5 : Slot), i ≤ 1024 → 1024 ≤ i + k → One o5 → Stand p l e ({ frames := 2, cells := 1, slots := 1024, locals := 33 } : Room) s m #[(.ref a1), (.long q2)] below meth c T L 1 1024 → Fr n0 L → T.heap = h → Keep h0 h [a1] → Exa Z h a1 "com/example/termwright/termwright/store/Crc32c$Shift" → Fld Z h a1 "com/example/termwright/termwright/store/Crc32c$Shift" "products" "[I" (.ref b12) → Arr Z h b12 cl .int → cl.slots.size = 1024 → (∀ j, j < i → cl.slots[j]? = some (.int (own_mult (own_e (Int32.ofNat j)) (own_shift q2)))) → own_Gl p.tables e below (own_P s (Qrm1 Z a1 q2 h0 n0) 1 1024) (T.setTop (mkF m 21 #[.val (.ref a1), .val (.long q2), .second, .val (.int (own_shift q2)), .val (.int (Int32.ofNat i)), o5] [])) := by
    intro k
    induction k with
    | zero =>
      intro i T h L cl o5 hi hk h5 X NL eT K Ex F A S H
      obtain ⟨n1, n2, n3⟩ := own_nat (i := i) (by omega)
      show own_Gl _ _ _ _ (T.setTop (mkF m 21 #[.val (.ref a1), .val (.long q2), .second, .val (.int (own_shift q2)), .val (.int (Int32.ofNat i)), o5] []))
      refine own_back (fun t_ q_ => XS.iload X.here hx rfl (hb hby d1_21) rfl q_) ?_
      show own_Gl _ _ _ _ (T.setTop (mkF m 23 #[.val (.ref a1), .val (.long q2), .second, .val (.int (own_shift q2)), .val (.int (Int32.ofNat i)), o5] [(.int (Int32.ofNat i))]))
      refine own_back (fun t_ q_ => XS.aloadN X.here hx rfl (hb hby d1_23) rfl rfl q_) ?_
      show own_Gl _ _ _ _ (T.setTop (mkF m 24 #[.val (.ref a1), .val (.long q2), .second, .val (.int (own_shift q2)), .val (.int (Int32.ofNat i)), o5] [(.ref a1), (.int (Int32.ofNat i))]))
      obtain ⟨T15, X15, e15, st15⟩ := getF X hx hZ hown (host := "") (Or.inl (hw _ (List.mem_of_getElem? (i := 10) rfl))) Via.refl eT F (g := (mkF m 24 #[.val (.ref a1), .val (.long q2), .second, .val (.int (own_shift q2)), .val (.int (Int32.ofNat i)), o5] [(.ref a1), (.int (Int32.ofNat i))])) rfl rfl (hb hby d1_24)
      refine own_back st15 ?_
      show own_Gl _ _ _ _ (T15.setTop (mkF m 27 #[.val (.ref a1), .val (.long q2), .second, .val (.int (own_shift q2)), .val (.int (Int32.ofNat i)), o5] [(.ref b12), (.int (Int32.ofNat i))]))
      refine own_back (fun t_ q_ => X15.arraylength hx (by rw [e15]; exact A.1) (State.isArrayOf_alike hZ.alike A.2.1) (g := (mkF m 27 #[.val (.ref a1), .val (.long q2), .second, .val (.int (own_shift q2)), .val (.int (Int32.ofNat i)), o5] [(.ref b12), (.int (Int32.ofNat i))])) rfl rfl (hb hby d1_27) t_ q_) ?_
      rw [(show cl.slots.size.toInt32 = (1024 : Int32) by rw [S] <;> rfl)]
      show own_Gl _ _ _ _ (T15.setTop (mkF m 28 #[.val (.ref a1), .val (.long q2), .second, .val (.int (own_shift q2)), .val (.int (Int32.ofNat i)), o5] [(.int (1024 : Int32)), (.int (Int32.ofNat i))]))
      have hge : ¬ ((Int32.ofNat i) < (1024 : Int32)) := by
        have w : (1024 : Int32).toInt = 1024 := by decide
        rw [Int32.lt_iff_toInt_lt, n3, w]
        omega
      refine own_back (fun t_ q_ => XS.icmpYes X15.here hx rfl (pc0 := 28) (pc' := 67) rfl (hb hby d1_28) rfl (flt (hge : ¬ ((Int32.ofNat i) < (1024 : Int32)))).2.1 (by decide) (by decide) q_) ?_
      show own_Gl _ _ _ _ (T15.setTop (mkF m 67 #[.val (.ref a1), .val (.long q2), .second, .val (.int (own_shift q2)), .val (.int (Int32.ofNat i)), o5] []))
      exact own_rV X15 hx hlk Bd.returns (hb hby d1_67) (by show Qrm1 Z a1 q2 h0 n0 _ T15.heap _; rw [e15]; exact ⟨rfl, NL, K, Ex, b12, F, cl, A, S, fun j hj => H j (by omega)⟩) (by decide) (by decide)
    | succ k ih =>
      intro i T h L cl o5 hi hk h5 X NL eT K Ex F A S H
      obtain ⟨n1, n2, n3⟩ := own_nat (i := i) (by omega)
      show own_Gl _ _ _ _ (T.setTop (mkF m 21 #[.val (.ref a1), .val (.long q2), .second, .val (.int (own_shift q2)), .val (.int (Int32.ofNat i)), o5] []))
      refine own_back (fun t_ q_ => XS.iload X.here hx rfl (hb hby d1_21) rfl q_) ?_
      show own_Gl _ _ _ _ (T.setTop (mkF m 23 #[.val (.ref a1), .val (.long q2), .second, .val (.int (own_shift q2)), .val (.int (Int32.ofNat i)), o5] [(.int (Int32.ofNat i))]))
      refine own_back (fun t_ q_ => XS.aloadN X.here hx rfl (hb hby d1_23) rfl rfl q_) ?_
      show own_Gl _ _ _ _ (T.setTop (mkF m 24 #[.val (.ref a1), .val (.long q2), .second, .val (.int (own_shift q2)), .val (.int (Int32.ofNat i)), o5] [(.ref a1), (.int (Int32.ofNat i))]))
      obtain ⟨T16, X16, e16, st16⟩ := getF X hx hZ hown (host := "") (Or.inl (hw _ (List.mem_of_getElem? (i := 10) rfl))) Via.refl eT F (g := (mkF m 24 #[.val (.ref a1), .val (.long q2), .second, .val (.int (own_shift q2)), .val (.int (Int32.ofNat i)), o5] [(.ref a1), (.int (Int32.ofNat i))])) rfl rfl (hb hby d1_24)
      refine own_back st16 ?_
      show own_Gl _ _ _ _ (T16.setTop (mkF m 27 #[.val (.ref a1), .val (.long q2), .second, .val (.int (own_shift q2)), .val (.int (Int32.ofNat i)), o5] [(.ref b12), (.int (Int32.ofNat i))]))
      refine own_back (fun t_ q_ => X16.arraylength hx (by rw [e16]; exact A.1) (State.isArrayOf_alike hZ.alike A.2.1) (g := (mkF m 27 #[.val (.ref a1), .val (.long q2), .second, .val (.int (own_shift q2)), .val (.int (Int32.ofNat i)), o5] [(.ref b12), (.int (Int32.ofNat i))])) rfl rfl (hb hby d1_27) t_ q_) ?_
      rw [(show cl.slots.size.toInt32 = (1024 : Int32) by rw [S] <;> rfl)]
      show own_Gl _ _ _ _ (T16.setTop (mkF m 28 #[.val (.ref a1), .val (.long q2), .second, .val (.int (own_shift q2)), .val (.int (Int32.ofNat i)), o5] [(.int (1024 : Int32)), (.int (Int32.ofNat i))]))
      by_cases hc : (Int32.ofNat i) < (1024 : Int32)
      · skip
        refine own_back (fun t_ q_ => XS.icmpNo X16.here hx rfl (hb hby d1_28) rfl (tlt (hc : (Int32.ofNat i) < (1024 : Int32))).2.1 q_) ?_
        show own_Gl _ _ _ _ (T16.setTop (mkF m 31 #[.val (.ref a1), .val (.long q2), .second, .val (.int (own_shift q2)), .val (.int (Int32.ofNat i)), o5] []))
        have hiN : i < 1024 := by
          rw [Int32.lt_iff_toInt_lt, n3] at hc
          have w : (1024 : Int32).toInt = 1024 := by decide
          omega
        have hin : ¬ ((Int32.ofNat i) < 0 ∨ cl.slots.size ≤ (Int32.ofNat i).toNatClampNeg) := by rw [n2, S]; exact fun q => q.elim n1 (by omega)
        refine own_back (fun t_ q_ => XS.iload X16.here hx rfl (hb hby d1_31) rfl q_) ?_
        show own_Gl _ _ _ _ (T16.setTop (mkF m 33 #[.val (.ref a1), .val (.long q2), .second, .val (.int (own_shift q2)), .val (.int (Int32.ofNat i)), o5] [(.int (Int32.ofNat i))]))
        refine own_back (fun t_ q_ => XS.bipush X16.here hx rfl (hb hby d1_33) q_) ?_
        show own_Gl _ _ _ _ (T16.setTop (mkF m 35 #[.val (.ref a1), .val (.long q2), .second, .val (.int (own_shift q2)), .val (.int (Int32.ofNat i)), o5] [(.int (8 : Int32)), (.int (Int32.ofNat i))]))
        refine own_back (fun t_ q_ => XS.iushr X16.here hx rfl (hb hby d1_35) rfl q_) ?_
        show own_Gl _ _ _ _ (T16.setTop (mkF m 36 #[.val (.ref a1), .val (.long q2), .second, .val (.int (own_shift q2)), .val (.int (Int32.ofNat i)), o5] [(.int (((Int32.ofNat i).toUInt32 >>> ((8 : Int32) &&& 31).toUInt32).toInt32))]))
        refine own_back (fun t_ q_ => XS.istore X16.here hx rfl (hb hby d1_36) rfl (l' := #[.val (.ref a1), .val (.long q2), .second, .val (.int (own_shift q2)), .val (.int (Int32.ofNat i)), .val (.int (((Int32.ofNat i).toUInt32 >>> ((8 : Int32) &&& 31).toUInt32).toInt32))]) (by rcases h5 with r | ⟨w, r, hw⟩ <;> subst r <;> first | rfl | (cases w <;> first | rfl | (simp [Value.category] at hw))) q_) ?_
        show own_Gl _ _ _ _ (T16.setTop (mkF m 38 #[.val (.ref a1), .val (.long q2), .second, .val (.int (own_shift q2)), .val (.int (Int32.ofNat i)), .val (.int (((Int32.ofNat i).toUInt32 >>> ((8 : Int32) &&& 31).toUInt32).toInt32))] []))
        refine own_back (fun t_ q_ => XS.aloadN X16.here hx rfl (hb hby d1_38) rfl rfl q_) ?_
        show own_Gl _ _ _ _ (T16.setTop (mkF m 39 #[.val (.ref a1), .val (.long q2), .second, .val (.int (own_shift q2)), .val (.int (Int32.ofNat i)), .val (.int (((Int32.ofNat i).toUInt32 >>> ((8 : Int32) &&& 31).toUInt32).toInt32))] [(.ref a1)]))
        obtain ⟨T17, X17, e17, st17⟩ := getF X16 hx hZ hown (host := "") (Or.inl (hw _ (List.mem_of_getElem? (i := 10) rfl))) Via.refl e16 F (g := (mkF m 39 #[.val (.ref a1), .val (.long q2), .second, .val (.int (own_shift q2)), .val (.int (Int32.ofNat i)), .val (.int (((Int32.ofNat i).toUInt32 >>> ((8 : Int32) &&& 31).toUInt32).toInt32))] [(.ref a1)])) rfl rfl (hb hby d1_39)
        refine own_back st17 ?_
        show own_Gl _ _ _ _ (T17.setTop (mkF m 42 #[.val (.ref a1), .val (.long q2), .second, .val (.int (own_shift q2)), .val (.int (Int32.ofNat i)), .val (.int (((Int32.ofNat i).toUInt32 >>> ((8 : Int32) &&& 31).toUInt32).toInt32))] [(.ref b12)]))
        refine own_back (fun t_ q_ => XS.iload X17.here hx rfl (hb hby d1_42) rfl q_) ?_
        show own_Gl _ _ _ _ (T17.setTop (mkF m 44 #[.val (.ref a1), .val (.long q2), .second, .val (.int (own_shift q2)), .val (.int (Int32.ofNat i)), .val (.int (((Int32.ofNat i).toUInt32 >>> ((8 : Int32) &&& 31).toUInt32).toInt32))] [(.int (Int32.ofNat i)), (.ref b12)]))
        refine own_back (fun t_ q_ => XS.iload X17.here hx rfl (hb hby d1_44) rfl q_) ?_
        show own_Gl _ _ _ _ (T17.setTop (mkF m 46 #[.val (.ref a1), .val (.long q2), .second, .val (.int (own_shift q2)), .val (.int (Int32.ofNat i)), .val (.int (((Int32.ofNat i).toUInt32 >>> ((8 : Int32) &&& 31).toUInt32).toInt32))] [(.int (Int32.ofNat i)), (.int (Int32.ofNat i)), (.ref b12)]))
        refine own_back (fun t_ q_ => XS.sipush X17.here hx rfl (hb hby d1_46) q_) ?_
        show own_Gl _ _ _ _ (T17.setTop (mkF m 49 #[.val (.ref a1), .val (.long q2), .second, .val (.int (own_shift q2)), .val (.int (Int32.ofNat i)), .val (.int (((Int32.ofNat i).toUInt32 >>> ((8 : Int32) &&& 31).toUInt32).toInt32))] [(.int (255 : Int32)), (.int (Int32.ofNat i)), (.int (Int32.ofNat i)), (.ref b12)]))
        refine own_back (fun t_ q_ => XS.iand X17.here hx rfl (hb hby d1_49) rfl q_) ?_
        show own_Gl _ _ _ _ (T17.setTop (mkF m 50 #[.val (.ref a1), .val (.long q2), .second, .val (.int (own_shift q2)), .val (.int (Int32.ofNat i)), .val (.int (((Int32.ofNat i).toUInt32 >>> ((8 : Int32) &&& 31).toUInt32).toInt32))] [(.int ((Int32.ofNat i) &&& (255 : Int32))), (.int (Int32.ofNat i)), (.ref b12)]))
        refine own_back (fun t_ q_ => XS.bipush X17.here hx rfl (hb hby d1_50) q_) ?_
        show own_Gl _ _ _ _ (T17.setTop (mkF m 52 #[.val (.ref a1), .val (.long q2), .second, .val (.int (own_shift q2)), .val (.int (Int32.ofNat i)), .val (.int (((Int32.ofNat i).toUInt32 >>> ((8 : Int32) &&& 31).toUInt32).toInt32))] [(.int (8 : Int32)), (.int ((Int32.ofNat i) &&& (255 : Int32))), (.int (Int32.ofNat i)), (.ref b12)]))
        refine own_back (fun t_ q_ => XS.iload X17.here hx rfl (hb hby d1_52) rfl q_) ?_
        show own_Gl _ _ _ _ (T17.setTop (mkF m 54 #[.val (.ref a1), .val (.long q2), .second, .val (.int (own_shift q2)), .val (.int (Int32.ofNat i)), .val (.int (((Int32.ofNat i).toUInt32 >>> ((8 : Int32) &&& 31).toUInt32).toInt32))] [(.int (((Int32.ofNat i).toUInt32 >>> ((8 : Int32) &&& 31).toUInt32).toInt32)), (.int (8 : Int32)), (.int ((Int32.ofNat i) &&& (255 : Int32))), (.int (Int32.ofNat i)), (.ref b12)]))
        refine own_back (fun t_ q_ => XS.imul X17.here hx rfl (hb hby d1_54) rfl q_) ?_
        show own_Gl _ _ _ _ (T17.setTop (mkF m 55 #[.val (.ref a1), .val (.long q2), .second, .val (.int (own_shift q2)), .val (.int (Int32.ofNat i)), .val (.int (((Int32.ofNat i).toUInt32 >>> ((8 : Int32) &&& 31).toUInt32).toInt32))] [(.int ((8 : Int32) * (((Int32.ofNat i).toUInt32 >>> ((8 : Int32) &&& 31).toUInt32).toInt32))), (.int ((Int32.ofNat i) &&& (255 : Int32))), (.int (Int32.ofNat i)), (.ref b12)]))
        refine own_back (fun t_ q_ => XS.ishl X17.here hx rfl (hb hby d1_55) rfl q_) ?_
        show own_Gl _ _ _ _ (T17.setTop (mkF m 56 #[.val (.ref a1), .val (.long q2), .second, .val (.int (own_shift q2)), .val (.int (Int32.ofNat i)), .val (.int (((Int32.ofNat i).toUInt32 >>> ((8 : Int32) &&& 31).toUInt32).toInt32))] [(.int (((Int32.ofNat i) &&& (255 : Int32)) <<< (((8 : Int32) * (((Int32.ofNat i).toUInt32 >>> ((8 : Int32) &&& 31).toUInt32).toInt32)) &&& 31))), (.int (Int32.ofNat i)), (.ref b12)]))
        refine own_back (fun t_ q_ => XS.iloadN X17.here hx rfl (hb hby d1_56) rfl q_) ?_
        show own_Gl _ _ _ _ (T17.setTop (mkF m 57 #[.val (.ref a1), .val (.long q2), .second, .val (.int (own_shift q2)), .val (.int (Int32.ofNat i)), .val (.int (((Int32.ofNat i).toUInt32 >>> ((8 : Int32) &&& 31).toUInt32).toInt32))] [(.int (own_shift q2)), (.int (((Int32.ofNat i) &&& (255 : Int32)) <<< (((8 : Int32) * (((Int32.ofNat i).toUInt32 >>> ((8 : Int32) &&& 31).toUInt32).toInt32)) &&& 31))), (.int (Int32.ofNat i)), (.ref b12)]))
        show own_Gl _ _ _ _ (T17.setTop (mkF m 57 #[.val (.ref a1), .val (.long q2), .second, .val (.int (own_shift q2)), .val (.int (Int32.ofNat i)), .val (.int (((Int32.ofNat i).toUInt32 >>> ((8 : Int32) &&& 31).toUInt32).toInt32))] [(.int (own_shift q2)), (.int (own_e (Int32.ofNat i))), (.int (Int32.ofNat i)), (.ref b12)]))
        have Zh : n0 ≤ h.size := Nat.le_trans Z0 K.1
        obtain ⟨_, _, ⟨T18, L18, k18, n18⟩, -, X18, ⟨Lc18, hQ18, l18, y18, z18⟩, st18⟩ := Jvm.RoadKit.callSN X17 hx (y := (⟨"com/example/termwright/termwright/store/Crc32c", "multiply", "(II)I"⟩ : MethodName)) hown (Cond.methodLinkNest_wide hZ (hw _ (List.mem_of_getElem? (i := 22) rfl)) :) (mvT hZ (hw _ (List.mem_of_getElem? (i := 19) rfl))) (mvT hZ (hw _ (List.mem_of_getElem? (i := 14) rfl))) (mvT hZ (hw _ (List.mem_of_getElem? (i := 20) rfl))) (by decide) (backOf (W := 2) (rm4 l Z a0 hw [] (own_e (Int32.ofNat i)) (own_shift q2) h n0 Zh) hZ (hw _ (List.mem_of_getElem? (i := 20) rfl)) (hw _ (List.mem_of_getElem? (i := 14) rfl)) (by decide) (by decide)) (g := (mkF m 57 #[.val (.ref a1), .val (.long q2), .second, .val (.int (own_shift q2)), .val (.int (Int32.ofNat i)), .val (.int (((Int32.ofNat i).toUInt32 >>> ((8 : Int32) &&& 31).toUInt32).toInt32))] [(.int (own_shift q2)), (.int (own_e (Int32.ofNat i))), (.int (Int32.ofNat i)), (.ref b12)])) rfl (by rw [hml]; rfl) (argsL := [(.int (own_e (Int32.ofNat i))), (.int (own_shift q2))]) (rest := [(.int (Int32.ofNat i)), (.ref b12)]) (lenOf pd_0 rfl) rfl (by show 2 * 0 + _ ≤ _; exact Nat.le_of_eq rfl) (hb hby d1_57) (fun _ _ => ⟨rfl, e17, (by decide : 1 + 0 ≤ _), (by decide : 1024 + 0 ≤ _)⟩)
        dsimp only [Pt.U, Pt.locs, Pt.cells, Pt.slots] at X18 l18 y18 z18 st18 hQ18
        subst l18 y18 z18
        obtain ⟨rfl, M18, e18⟩ := hQ18
        have N18 := Fr.app NL M18
        refine own_trans st18 ?_
        show own_Gl _ _ _ _ (T18.setTop (mkF m 60 #[.val (.ref a1), .val (.long q2), .second, .val (.int (own_shift q2)), .val (.int (Int32.ofNat i)), .val (.int (((Int32.ofNat i).toUInt32 >>> ((8 : Int32) &&& 31).toUInt32).toInt32))] [(.int (own_mult (own_e (Int32.ofNat i)) (own_shift q2))), (.int (Int32.ofNat i)), (.ref b12)]))
        obtain ⟨T19, h19, X19, e19, W19, st19⟩ := stI X18 hx hZ e18 A (j := (Int32.ofNat i)) hin (g := (mkF m 60 #[.val (.ref a1), .val (.long q2), .second, .val (.int (own_shift q2)), .val (.int (Int32.ofNat i)), .val (.int (((Int32.ofNat i).toUInt32 >>> ((8 : Int32) &&& 31).toUInt32).toInt32))] [(.int (own_mult (own_e (Int32.ofNat i)) (own_shift q2))), (.int (Int32.ofNat i)), (.ref b12)])) rfl rfl (hb hby d1_60)
        refine own_back st19 ?_
        have N19 := Fr.snoc X19 N18 gb
        show own_Gl _ _ _ _ (T19.setTop (mkF m 61 #[.val (.ref a1), .val (.long q2), .second, .val (.int (own_shift q2)), .val (.int (Int32.ofNat i)), .val (.int (((Int32.ofNat i).toUInt32 >>> ((8 : Int32) &&& 31).toUInt32).toInt32))] []))
        refine own_back (fun t_ q_ => XS.iinc X19.here hx rfl (hb hby d1_61) rfl (l' := #[.val (.ref a1), .val (.long q2), .second, .val (.int (own_shift q2)), .val (.int ((Int32.ofNat i) + (1 : Int32))), .val (.int (((Int32.ofNat i).toUInt32 >>> ((8 : Int32) &&& 31).toUInt32).toInt32))]) rfl q_) ?_
        show own_Gl _ _ _ _ (T19.setTop (mkF m 64 #[.val (.ref a1), .val (.long q2), .second, .val (.int (own_shift q2)), .val (.int ((Int32.ofNat i) + (1 : Int32))), .val (.int (((Int32.ofNat i).toUInt32 >>> ((8 : Int32) &&& 31).toUInt32).toInt32))] []))
        refine own_back (fun t_ q_ => XS.goto X19.here hx rfl (pc0 := 64) (pc' := 21) rfl (hb hby d1_64) (by decide) (by decide) q_) ?_
        show own_Gl _ _ _ _ (T19.setTop (mkF m 21 #[.val (.ref a1), .val (.long q2), .second, .val (.int (own_shift q2)), .val (.int ((Int32.ofNat i) + (1 : Int32))), .val (.int (((Int32.ofNat i).toUInt32 >>> ((8 : Int32) &&& 31).toUInt32).toInt32))] []))
        have ei : (Int32.ofNat i) + (1 : Int32) = Int32.ofNat (i + 1) := by
          have e := c_iadd (Int32.ofNat i) 1
          have r := rng32 ((Int32.ofNat i) + 1)
          have z1 : (1 : Int32).toInt = 1 := by decide
          have q := (own_nat (i := i + 1) (by omega)).2.2
          rw [n3, z1] at e
          exact Int32.toInt_inj.mp (by rw [q]; omega)
        rw [ei]
        refine ih (i + 1) _ _ _ _ _ (by omega) (by omega) (One.val rfl) X19 N19 e19 (K.wr W19 (Or.inr sb)) (Ex.wr W19) (F.other W19 (Or.inl ne1)) (A.same W19) (by simp [Cell.setSlot, S]) (fun j hj => ?_)
        rw [n2, own_set (by omega)]
        by_cases q : j = i
        · rw [if_pos q, q]
        · rw [if_neg q]; exact H j (by omega)
      · skip
        refine own_back (fun t_ q_ => XS.icmpYes X16.here hx rfl (pc0 := 28) (pc' := 67) rfl (hb hby d1_28) rfl (flt (hc : ¬ ((Int32.ofNat i) < (1024 : Int32)))).2.1 (by decide) (by decide) q_) ?_
        show own_Gl _ _ _ _ (T16.setTop (mkF m 67 #[.val (.ref a1), .val (.long q2), .second, .val (.int (own_shift q2)), .val (.int (Int32.ofNat i)), o5] []))
        have hNi : 1024 ≤ i := by
          rw [Int32.lt_iff_toInt_lt, n3] at hc
          have w : (1024 : Int32).toInt = 1024 := by decide
          omega
        exact own_rV X16 hx hlk Bd.returns (hb hby d1_67) (by show Qrm1 Z a1 q2 h0 n0 _ T16.heap _; rw [e16]; exact ⟨rfl, NL, K, Ex, b12, F, cl, A, S, fun j hj => H j (by omega)⟩) (by decide) (by decide)
  exact loop 1024 0 _ _ _ c3 _ (by omega) (by omega) One.u X14 N14 e14 K3 E3 F3 A3 S3 (fun j hj => absurd hj (by omega))
theorem pd_3 : parseMethodDescriptor "(J)V" = some ⟨[.long], none⟩ := by decide +kernel
theorem pd_4 : parseMethodDescriptor "(I)I" = some ⟨[.int], some .int⟩ := by decide +kernel
theorem pd_5 : parseMethodDescriptor "(IIJ)I" = some ⟨[.int, .int, .long], some .int⟩ := by decide +kernel
theorem pn_0 : plainFor x = true := plainFor_of_name (by first | (simp [plainName, overriddenIn, x]; done) | decide +kernel)
def Qrm0 (h0 : Heap) (n0 : Nat) (v : Option Value) (h : Heap) (L : List Loc) : Prop := v = some (.int 1) ∧ Fr n0 L
set_option maxRecDepth 65536 in
set_option maxHeartbeats 40000000 in
theorem rm0 (l : Launch) (Z : State) (a0 : Array Value) (hw : ∀ d ∈ tables_1, d.before a0 Z = true) (ws : List Jvm.Cond) (q1 : Int64) (v2 : Int32) (w3 : Int32) (h0 : Heap) (n0 : Nat) (Z0 : n0 ≤ h0.size)  :
    MetFree l x (head1 (Jvm.Cond.code x code maxLocals ret :: ws) room_1) (fun a_ U_ => a_ = #[(.long q1), (.int v2), (.int w3)] ∧ Z.Warmed39 U_.vm ∧ U_.heap = h0) (fun _ _ _ _ _ => True) (fun _ U_ o_ U'_ => ∃ v_ L_, o_ = .returned v_ ∧ (Qrm0 h0 n0) v_ U'_.heap L_ ∧ FrameEnd U_ o_ U'_ L_ 16 2176) := by
  refine MetFree.of_bodySF pn_0 hisR ?_
  intro p e s m args below meth c s₁ Bd hml0 hP hK
  obtain ⟨rfl, hZ, hh⟩ := hP
  have hx := Bd.exec
  have hby := Bd.bytes
  have hlk : meth.locks = false := Bd.notSynchronized
  have hml : c.maxLocals = 11 := hml0
  have hown : s.vm.findClass "com/example/termwright/termwright/store/ShiftTimesPinLaw" = some m.cls := findClass_of_methodNamed Bd.named
  have hnm := (name_of_methodNamed Bd.named Bd.method).1
  have X0 : Stand p l e room_1 s m #[(.long q1), (.int v2), (.int w3)] below meth c s₁ [] 0 0 := Stand.of_body Bd
  have e0 : s₁.heap = h0 := by rw [← hh, Bd.state]; rfl
  have N0 := Fr.nil n0
  refine own_start (Q := Qrm0 h0 n0) (g' := (mkF m 0 #[.val (.long q1), .second, .val (.int v2), .val (.int w3), .unset, .unset, .unset, .unset, .unset, .unset, .unset] [])) (by first | (simp [entryFrame, mkF, argsToLocals, Value.category, maxLocals]; done) | rfl) ?_
  show own_Gl _ _ _ _ (s₁.setTop (mkF m 0 #[.val (.long q1), .second, .val (.int v2), .val (.int w3), .unset, .unset, .unset, .unset, .unset, .unset, .unset] []))
  obtain ⟨T20, h20, X20, e20, E20, A20, D20, -, st20⟩ := newO X0 hx hZ hown (hw _ (List.mem_of_getElem? (i := 0) rfl)) (hw _ (List.mem_of_getElem? (i := 1) rfl)) (hw _ (List.mem_of_getElem? (i := 2) rfl)) e0 (g := (mkF m 0 #[.val (.long q1), .second, .val (.int v2), .val (.int w3), .unset, .unset, .unset, .unset, .unset, .unset, .unset] [])) rfl (hb hby at_0) (by decide) (by decide)
  obtain ⟨b20, g20⟩ : ∃ z, z = h0.size := ⟨_, rfl⟩
  rw [← g20] at A20 D20 st20
  refine own_back st20 ?_
  show own_Gl _ _ _ _ (T20.setTop (mkF m 3 #[.val (.long q1), .second, .val (.int v2), .val (.int w3), .unset, .unset, .unset, .unset, .unset, .unset, .unset] [(.ref b20)]))
  refine own_back (fun t_ q_ => XS.dup X20.here hx rfl (hb hby at_3) rfl rfl q_) ?_
  show own_Gl _ _ _ _ (T20.setTop (mkF m 4 #[.val (.long q1), .second, .val (.int v2), .val (.int w3), .unset, .unset, .unset, .unset, .unset, .unset, .unset] [(.ref b20), (.ref b20)]))
  refine own_back (fun t_ q_ => XS.lloadN X20.here hx rfl (hb hby at_4) rfl q_) ?_
  show own_Gl _ _ _ _ (T20.setTop (mkF m 5 #[.val (.long q1), .second, .val (.int v2), .val (.int w3), .unset, .unset, .unset, .unset, .unset, .unset, .unset] [(.long q1), (.ref b20), (.ref b20)]))
  have G1 : n0 ≤ b20 := Nat.le_trans Z0 (Nat.le_of_eq g20.symm)
  have Z1 : n0 ≤ h20.size := Nat.le_trans Z0 E20.1
  obtain ⟨_, _, ⟨T21, L21, k21, n21⟩, -, X21, ⟨Lc21, hQ21, l21, y21, z21⟩, st21⟩ := X20.specialBack hx (y := (⟨"com/example/termwright/termwright/store/Crc32c$Shift", "<init>", "(J)V"⟩ : MethodName)) rfl hown (mvT hZ (hw _ (List.mem_of_getElem? (i := 3) rfl))) (mvT hZ (hw _ (List.mem_of_getElem? (i := 4) rfl))) (mvT hZ (hw _ (List.mem_of_getElem? (i := 5) rfl))) (by decide) (backOf (W := 1) (rm1 l Z a0 hw [] b20 q1 h20 n0 Z1 A20 (D20 (Or.inr (hw _ (List.mem_of_getElem? (i := 11) rfl))) (ty := .array .int) (by decide)) G1) hZ (hw _ (List.mem_of_getElem? (i := 5) rfl)) (hw _ (List.mem_of_getElem? (i := 2) rfl)) (by decide) (by decide)) (g := (mkF m 5 #[.val (.long q1), .second, .val (.int v2), .val (.int w3), .unset, .unset, .unset, .unset, .unset, .unset, .unset] [(.long q1), (.ref b20), (.ref b20)])) rfl (by rw [hml]; rfl) (Steps.refl _) (a := b20) (argsL := [(.long q1)]) (rest := [(.ref b20)]) (lenOf pd_3 rfl) rfl (by show 2 * 0 + _ ≤ _; exact Nat.le_of_eq rfl) (hb hby at_5) (fun _ _ => ⟨rfl, e20, (by decide : 1 + 1 ≤ _), (by decide : 1 + 1024 ≤ _)⟩)
  dsimp only [Pt.U, Pt.locs, Pt.cells, Pt.slots] at X21 l21 y21 z21 st21 hQ21
  subst l21 y21 z21
  obtain ⟨rfl, M21, K21, Ex21, r21, F21, B21⟩ := hQ21
  have N21 := Fr.app N0 M21
  refine own_trans st21 ?_
  show own_Gl _ _ _ _ (T21.setTop (mkF m 8 #[.val (.long q1), .second, .val (.int v2), .val (.int w3), .unset, .unset, .unset, .unset, .unset, .unset, .unset] [(.ref b20)]))
  have Z2 : n0 ≤ T21.heap.size := Nat.le_trans Z1 K21.1
  refine own_back (fun t_ q_ => XS.astore X21.here hx rfl (hb hby at_8) rfl rfl (l' := #[.val (.long q1), .second, .val (.int v2), .val (.int w3), .val (.ref b20), .unset, .unset, .unset, .unset, .unset, .unset]) rfl q_) ?_
  show own_Gl _ _ _ _ (T21.setTop (mkF m 10 #[.val (.long q1), .second, .val (.int v2), .val (.int w3), .val (.ref b20), .unset, .unset, .unset, .unset, .unset, .unset] []))
  refine own_back (fun t_ q_ => XS.aload X21.here hx rfl (hb hby at_10) rfl rfl q_) ?_
  show own_Gl _ _ _ _ (T21.setTop (mkF m 12 #[.val (.long q1), .second, .val (.int v2), .val (.int w3), .val (.ref b20), .unset, .unset, .unset, .unset, .unset, .unset] [(.ref b20)]))
  refine own_back (fun t_ q_ => XS.iloadN X21.here hx rfl (hb hby at_12) rfl q_) ?_
  show own_Gl _ _ _ _ (T21.setTop (mkF m 13 #[.val (.long q1), .second, .val (.int v2), .val (.int w3), .val (.ref b20), .unset, .unset, .unset, .unset, .unset, .unset] [(.int v2), (.ref b20)]))
  obtain ⟨cq22, kq22, q22a, q22b, q22c⟩ := isOf hZ rfl Ex21
  obtain ⟨_, _, ⟨T22, L22, k22, n22⟩, -, X22, ⟨Lc22, hQ22, l22, y22, z22⟩, st22⟩ := X21.virtualBack hx (y := (⟨"com/example/termwright/termwright/store/Crc32c$Shift", "times", "(I)I"⟩ : MethodName)) (z := (⟨"com/example/termwright/termwright/store/Crc32c$Shift", "times", "(I)I"⟩ : MethodName)) hown (mvT hZ (hw _ (List.mem_of_getElem? (i := 23) rfl))) (mvT hZ (hw _ (List.mem_of_getElem? (i := 24) rfl))) (notFace_of_selects (args := #[]) (mvT hZ (hw _ (List.mem_of_getElem? (i := 26) rfl)))) (mvT hZ (hw _ (List.mem_of_getElem? (i := 26) rfl))) (mvT hZ (hw _ (List.mem_of_getElem? (i := 25) rfl))) (by decide) (backOf (W := 0) (rm5 l Z a0 hw [] b20 v2 T21.heap n0 Z2 r21 (own_shift q1) F21 B21) hZ (hw _ (List.mem_of_getElem? (i := 27) rfl)) (hw _ (List.mem_of_getElem? (i := 2) rfl)) (by decide) (by decide)) q22a q22c (g := (mkF m 13 #[.val (.long q1), .second, .val (.int v2), .val (.int w3), .val (.ref b20), .unset, .unset, .unset, .unset, .unset, .unset] [(.int v2), (.ref b20)])) rfl (by rw [hml]; rfl) (Steps.refl _) (argsL := [(.int v2)]) (rest := []) (lenOf pd_4 rfl) rfl (by show 2 * 0 + _ ≤ _; exact Nat.le_of_eq rfl) (hb hby at_13) (fun _ _ => ⟨rfl, rfl, (by decide : 2 + 0 ≤ _), (by decide : 1025 + 0 ≤ _)⟩)
  dsimp only [Pt.U, Pt.locs, Pt.cells, Pt.slots] at X22 l22 y22 z22 st22 hQ22
  subst l22 y22 z22
  obtain ⟨rfl, M22, e22⟩ := hQ22
  have N22 := Fr.app N21 M22
  refine own_trans st22 ?_
  show own_Gl _ _ _ _ (T22.setTop (mkF m 16 #[.val (.long q1), .second, .val (.int v2), .val (.int w3), .val (.ref b20), .unset, .unset, .unset, .unset, .unset, .unset] [(.int (own_mult v2 (own_shift q1)))]))
  refine own_back (fun t_ q_ => XS.istore X22.here hx rfl (hb hby at_16) rfl (l' := #[.val (.long q1), .second, .val (.int v2), .val (.int w3), .val (.ref b20), .val (.int (own_mult v2 (own_shift q1))), .unset, .unset, .unset, .unset, .unset]) rfl q_) ?_
  show own_Gl _ _ _ _ (T22.setTop (mkF m 18 #[.val (.long q1), .second, .val (.int v2), .val (.int w3), .val (.ref b20), .val (.int (own_mult v2 (own_shift q1))), .unset, .unset, .unset, .unset, .unset] []))
  refine own_back (fun t_ q_ => XS.aload X22.here hx rfl (hb hby at_18) rfl rfl q_) ?_
  show own_Gl _ _ _ _ (T22.setTop (mkF m 20 #[.val (.long q1), .second, .val (.int v2), .val (.int w3), .val (.ref b20), .val (.int (own_mult v2 (own_shift q1))), .unset, .unset, .unset, .unset, .unset] [(.ref b20)]))
  refine own_back (fun t_ q_ => XS.iloadN X22.here hx rfl (hb hby at_20) rfl q_) ?_
  show own_Gl _ _ _ _ (T22.setTop (mkF m 21 #[.val (.long q1), .second, .val (.int v2), .val (.int w3), .val (.ref b20), .val (.int (own_mult v2 (own_shift q1))), .unset, .unset, .unset, .unset, .unset] [(.int w3), (.ref b20)]))
  obtain ⟨cq23, kq23, q23a, q23b, q23c⟩ := isOf hZ e22 Ex21
  obtain ⟨_, _, ⟨T23, L23, k23, n23⟩, -, X23, ⟨Lc23, hQ23, l23, y23, z23⟩, st23⟩ := X22.virtualBack hx (y := (⟨"com/example/termwright/termwright/store/Crc32c$Shift", "times", "(I)I"⟩ : MethodName)) (z := (⟨"com/example/termwright/termwright/store/Crc32c$Shift", "times", "(I)I"⟩ : MethodName)) hown (mvT hZ (hw _ (List.mem_of_getElem? (i := 23) rfl))) (mvT hZ (hw _ (List.mem_of_getElem? (i := 24) rfl))) (notFace_of_selects (args := #[]) (mvT hZ (hw _ (List.mem_of_getElem? (i := 26) rfl)))) (mvT hZ (hw _ (List.mem_of_getElem? (i := 26) rfl))) (mvT hZ (hw _ (List.mem_of_getElem? (i := 25) rfl))) (by decide) (backOf (W := 0) (rm5 l Z a0 hw [] b20 w3 T21.heap n0 Z2 r21 (own_shift q1) F21 B21) hZ (hw _ (List.mem_of_getElem? (i := 27) rfl)) (hw _ (List.mem_of_getElem? (i := 2) rfl)) (by decide) (by decide)) q23a q23c (g := (mkF m 21 #[.val (.long q1), .second, .val (.int v2), .val (.int w3), .val (.ref b20), .val (.int (own_mult v2 (own_shift q1))), .unset, .unset, .unset, .unset, .unset] [(.int w3), (.ref b20)])) rfl (by rw [hml]; rfl) (Steps.refl _) (argsL := [(.int w3)]) (rest := []) (lenOf pd_4 rfl) rfl (by show 2 * 0 + _ ≤ _; exact Nat.le_of_eq rfl) (hb hby at_21) (fun _ _ => ⟨rfl, e22, (by decide : 2 + 0 ≤ _), (by decide : 1025 + 0 ≤ _)⟩)
  dsimp only [Pt.U, Pt.locs, Pt.cells, Pt.slots] at X23 l23 y23 z23 st23 hQ23
  subst l23 y23 z23
  obtain ⟨rfl, M23, e23⟩ := hQ23
  have N23 := Fr.app N22 M23
  refine own_trans st23 ?_
  show own_Gl _ _ _ _ (T23.setTop (mkF m 24 #[.val (.long q1), .second, .val (.int v2), .val (.int w3), .val (.ref b20), .val (.int (own_mult v2 (own_shift q1))), .unset, .unset, .unset, .unset, .unset] [(.int (own_mult w3 (own_shift q1)))]))
  refine own_back (fun t_ q_ => XS.istore X23.here hx rfl (hb hby at_24) rfl (l' := #[.val (.long q1), .second, .val (.int v2), .val (.int w3), .val (.ref b20), .val (.int (own_mult v2 (own_shift q1))), .val (.int (own_mult w3 (own_shift q1))), .unset, .unset, .unset, .unset]) rfl q_) ?_
  show own_Gl _ _ _ _ (T23.setTop (mkF m 26 #[.val (.long q1), .second, .val (.int v2), .val (.int w3), .val (.ref b20), .val (.int (own_mult v2 (own_shift q1))), .val (.int (own_mult w3 (own_shift q1))), .unset, .unset, .unset, .unset] []))
  refine own_back (fun t_ q_ => XS.aload X23.here hx rfl (hb hby at_26) rfl rfl q_) ?_
  show own_Gl _ _ _ _ (T23.setTop (mkF m 28 #[.val (.long q1), .second, .val (.int v2), .val (.int w3), .val (.ref b20), .val (.int (own_mult v2 (own_shift q1))), .val (.int (own_mult w3 (own_shift q1))), .unset, .unset, .unset, .unset] [(.ref b20)]))
  refine own_back (fun t_ q_ => XS.iloadN X23.here hx rfl (hb hby at_28) rfl q_) ?_
  show own_Gl _ _ _ _ (T23.setTop (mkF m 29 #[.val (.long q1), .second, .val (.int v2), .val (.int w3), .val (.ref b20), .val (.int (own_mult v2 (own_shift q1))), .val (.int (own_mult w3 (own_shift q1))), .unset, .unset, .unset, .unset] [(.int v2), (.ref b20)]))
  refine own_back (fun t_ q_ => XS.iloadN X23.here hx rfl (hb hby at_29) rfl q_) ?_
  show own_Gl _ _ _ _ (T23.setTop (mkF m 30 #[.val (.long q1), .second, .val (.int v2), .val (.int w3), .val (.ref b20), .val (.int (own_mult v2 (own_shift q1))), .val (.int (own_mult w3 (own_shift q1))), .unset, .unset, .unset, .unset] [(.int w3), (.int v2), (.ref b20)]))
  refine own_back (fun t_ q_ => XS.ixor X23.here hx rfl (hb hby at_30) rfl q_) ?_
  show own_Gl _ _ _ _ (T23.setTop (mkF m 31 #[.val (.long q1), .second, .val (.int v2), .val (.int w3), .val (.ref b20), .val (.int (own_mult v2 (own_shift q1))), .val (.int (own_mult w3 (own_shift q1))), .unset, .unset, .unset, .unset] [(.int (v2 ^^^ w3)), (.ref b20)]))
  obtain ⟨cq24, kq24, q24a, q24b, q24c⟩ := isOf hZ e23 Ex21
  obtain ⟨_, _, ⟨T24, L24, k24, n24⟩, -, X24, ⟨Lc24, hQ24, l24, y24, z24⟩, st24⟩ := X23.virtualBack hx (y := (⟨"com/example/termwright/termwright/store/Crc32c$Shift", "times", "(I)I"⟩ : MethodName)) (z := (⟨"com/example/termwright/termwright/store/Crc32c$Shift", "times", "(I)I"⟩ : MethodName)) hown (mvT hZ (hw _ (List.mem_of_getElem? (i := 23) rfl))) (mvT hZ (hw _ (List.mem_of_getElem? (i := 24) rfl))) (notFace_of_selects (args := #[]) (mvT hZ (hw _ (List.mem_of_getElem? (i := 26) rfl)))) (mvT hZ (hw _ (List.mem_of_getElem? (i := 26) rfl))) (mvT hZ (hw _ (List.mem_of_getElem? (i := 25) rfl))) (by decide) (backOf (W := 0) (rm5 l Z a0 hw [] b20 (v2 ^^^ w3) T21.heap n0 Z2 r21 (own_shift q1) F21 B21) hZ (hw _ (List.mem_of_getElem? (i := 27) rfl)) (hw _ (List.mem_of_getElem? (i := 2) rfl)) (by decide) (by decide)) q24a q24c (g := (mkF m 31 #[.val (.long q1), .second, .val (.int v2), .val (.int w3), .val (.ref b20), .val (.int (own_mult v2 (own_shift q1))), .val (.int (own_mult w3 (own_shift q1))), .unset, .unset, .unset, .unset] [(.int (v2 ^^^ w3)), (.ref b20)])) rfl (by rw [hml]; rfl) (Steps.refl _) (argsL := [(.int (v2 ^^^ w3))]) (rest := []) (lenOf pd_4 rfl) rfl (by show 2 * 0 + _ ≤ _; exact Nat.le_of_eq rfl) (hb hby at_31) (fun _ _ => ⟨rfl, e23, (by decide : 2 + 0 ≤ _), (by decide : 1025 + 0 ≤ _)⟩)
  dsimp only [Pt.U, Pt.locs, Pt.cells, Pt.slots] at X24 l24 y24 z24 st24 hQ24
  subst l24 y24 z24
  obtain ⟨rfl, M24, e24⟩ := hQ24
  have N24 := Fr.app N23 M24
  refine own_trans st24 ?_
  show own_Gl _ _ _ _ (T24.setTop (mkF m 34 #[.val (.long q1), .second, .val (.int v2), .val (.int w3), .val (.ref b20), .val (.int (own_mult v2 (own_shift q1))), .val (.int (own_mult w3 (own_shift q1))), .unset, .unset, .unset, .unset] [(.int (own_mult (v2 ^^^ w3) (own_shift q1)))]))
  refine own_back (fun t_ q_ => XS.istore X24.here hx rfl (hb hby at_34) rfl (l' := #[.val (.long q1), .second, .val (.int v2), .val (.int w3), .val (.ref b20), .val (.int (own_mult v2 (own_shift q1))), .val (.int (own_mult w3 (own_shift q1))), .val (.int (own_mult (v2 ^^^ w3) (own_shift q1))), .unset, .unset, .unset]) rfl q_) ?_
  show own_Gl _ _ _ _ (T24.setTop (mkF m 36 #[.val (.long q1), .second, .val (.int v2), .val (.int w3), .val (.ref b20), .val (.int (own_mult v2 (own_shift q1))), .val (.int (own_mult w3 (own_shift q1))), .val (.int (own_mult (v2 ^^^ w3) (own_shift q1))), .unset, .unset, .unset] []))
  refine own_back (fun t_ q_ => XS.iloadN X24.here hx rfl (hb hby at_36) rfl q_) ?_
  show own_Gl _ _ _ _ (T24.setTop (mkF m 37 #[.val (.long q1), .second, .val (.int v2), .val (.int w3), .val (.ref b20), .val (.int (own_mult v2 (own_shift q1))), .val (.int (own_mult w3 (own_shift q1))), .val (.int (own_mult (v2 ^^^ w3) (own_shift q1))), .unset, .unset, .unset] [(.int v2)]))
  refine own_back (fun t_ q_ => XS.iconst X24.here hx rfl (hb hby at_37) q_) ?_
  show own_Gl _ _ _ _ (T24.setTop (mkF m 38 #[.val (.long q1), .second, .val (.int v2), .val (.int w3), .val (.ref b20), .val (.int (own_mult v2 (own_shift q1))), .val (.int (own_mult w3 (own_shift q1))), .val (.int (own_mult (v2 ^^^ w3) (own_shift q1))), .unset, .unset, .unset] [(.int (0 : Int32)), (.int v2)]))
  refine own_back (fun t_ q_ => XS.lloadN X24.here hx rfl (hb hby at_38) rfl q_) ?_
  show own_Gl _ _ _ _ (T24.setTop (mkF m 39 #[.val (.long q1), .second, .val (.int v2), .val (.int w3), .val (.ref b20), .val (.int (own_mult v2 (own_shift q1))), .val (.int (own_mult w3 (own_shift q1))), .val (.int (own_mult (v2 ^^^ w3) (own_shift q1))), .unset, .unset, .unset] [(.long q1), (.int (0 : Int32)), (.int v2)]))
  obtain ⟨_, _, ⟨T25, L25, k25, n25⟩, -, X25, ⟨Lc25, hQ25, l25, y25, z25⟩, st25⟩ := Jvm.LawKit.callS X24 hx (y := (⟨"com/example/termwright/termwright/store/Crc32c", "combine", "(IIJ)I"⟩ : MethodName)) hown (mvT hZ (hw _ (List.mem_of_getElem? (i := 28) rfl))) (mvT hZ (hw _ (List.mem_of_getElem? (i := 29) rfl))) (mvT hZ (hw _ (List.mem_of_getElem? (i := 14) rfl))) (mvT hZ (hw _ (List.mem_of_getElem? (i := 30) rfl))) (by decide) (backOf (W := 0) (rm6 l Z a0 hw [] v2 0 q1 T21.heap n0 Z2) hZ (hw _ (List.mem_of_getElem? (i := 30) rfl)) (hw _ (List.mem_of_getElem? (i := 14) rfl)) (by decide) (by decide)) (g := (mkF m 39 #[.val (.long q1), .second, .val (.int v2), .val (.int w3), .val (.ref b20), .val (.int (own_mult v2 (own_shift q1))), .val (.int (own_mult w3 (own_shift q1))), .val (.int (own_mult (v2 ^^^ w3) (own_shift q1))), .unset, .unset, .unset] [(.long q1), (.int (0 : Int32)), (.int v2)])) rfl (by rw [hml]; rfl) (argsL := [(.int v2), (.int (0 : Int32)), (.long q1)]) (rest := []) (lenOf pd_5 rfl) rfl (by show 2 * 0 + _ ≤ _; exact Nat.le_of_eq rfl) (hb hby at_39) (fun _ _ => ⟨rfl, e24, (by decide : 2 + 0 ≤ _), (by decide : 1025 + 0 ≤ _)⟩)
  dsimp only [Pt.U, Pt.locs, Pt.cells, Pt.slots] at X25 l25 y25 z25 st25 hQ25
  subst l25 y25 z25
  obtain ⟨rfl, M25, e25⟩ := hQ25
  have N25 := Fr.app N24 M25
  refine own_back st25 ?_
  show own_Gl _ _ _ _ (T25.setTop (mkF m 42 #[.val (.long q1), .second, .val (.int v2), .val (.int w3), .val (.ref b20), .val (.int (own_mult v2 (own_shift q1))), .val (.int (own_mult w3 (own_shift q1))), .val (.int (own_mult (v2 ^^^ w3) (own_shift q1))), .unset, .unset, .unset] [(.int (own_mult v2 (own_shift q1) ^^^ 0))]))
  refine own_back (fun t_ q_ => XS.istore X25.here hx rfl (hb hby at_42) rfl (l' := #[.val (.long q1), .second, .val (.int v2), .val (.int w3), .val (.ref b20), .val (.int (own_mult v2 (own_shift q1))), .val (.int (own_mult w3 (own_shift q1))), .val (.int (own_mult (v2 ^^^ w3) (own_shift q1))), .val (.int (own_mult v2 (own_shift q1) ^^^ 0)), .unset, .unset]) rfl q_) ?_
  show own_Gl _ _ _ _ (T25.setTop (mkF m 44 #[.val (.long q1), .second, .val (.int v2), .val (.int w3), .val (.ref b20), .val (.int (own_mult v2 (own_shift q1))), .val (.int (own_mult w3 (own_shift q1))), .val (.int (own_mult (v2 ^^^ w3) (own_shift q1))), .val (.int (own_mult v2 (own_shift q1) ^^^ 0)), .unset, .unset] []))
  refine own_back (fun t_ q_ => XS.iload X25.here hx rfl (hb hby at_44) rfl q_) ?_
  show own_Gl _ _ _ _ (T25.setTop (mkF m 46 #[.val (.long q1), .second, .val (.int v2), .val (.int w3), .val (.ref b20), .val (.int (own_mult v2 (own_shift q1))), .val (.int (own_mult w3 (own_shift q1))), .val (.int (own_mult (v2 ^^^ w3) (own_shift q1))), .val (.int (own_mult v2 (own_shift q1) ^^^ 0)), .unset, .unset] [(.int (own_mult v2 (own_shift q1)))]))
  refine own_back (fun t_ q_ => XS.iload X25.here hx rfl (hb hby at_46) rfl q_) ?_
  show own_Gl _ _ _ _ (T25.setTop (mkF m 48 #[.val (.long q1), .second, .val (.int v2), .val (.int w3), .val (.ref b20), .val (.int (own_mult v2 (own_shift q1))), .val (.int (own_mult w3 (own_shift q1))), .val (.int (own_mult (v2 ^^^ w3) (own_shift q1))), .val (.int (own_mult v2 (own_shift q1) ^^^ 0)), .unset, .unset] [(.int (own_mult v2 (own_shift q1) ^^^ 0)), (.int (own_mult v2 (own_shift q1)))]))
  refine own_back (fun t_ q_ => XS.icmpNo X25.here hx rfl (hb hby at_48) rfl (teq (by rw [Int32.xor_zero] : (own_mult v2 (own_shift q1)) = (own_mult v2 (own_shift q1) ^^^ 0))).2 q_) ?_
  show own_Gl _ _ _ _ (T25.setTop (mkF m 51 #[.val (.long q1), .second, .val (.int v2), .val (.int w3), .val (.ref b20), .val (.int (own_mult v2 (own_shift q1))), .val (.int (own_mult w3 (own_shift q1))), .val (.int (own_mult (v2 ^^^ w3) (own_shift q1))), .val (.int (own_mult v2 (own_shift q1) ^^^ 0)), .unset, .unset] []))
  refine own_back (fun t_ q_ => XS.iconst X25.here hx rfl (hb hby at_51) q_) ?_
  show own_Gl _ _ _ _ (T25.setTop (mkF m 52 #[.val (.long q1), .second, .val (.int v2), .val (.int w3), .val (.ref b20), .val (.int (own_mult v2 (own_shift q1))), .val (.int (own_mult w3 (own_shift q1))), .val (.int (own_mult (v2 ^^^ w3) (own_shift q1))), .val (.int (own_mult v2 (own_shift q1) ^^^ 0)), .unset, .unset] [(.int (1 : Int32))]))
  refine own_back (fun t_ q_ => XS.goto X25.here hx rfl (pc0 := 52) (pc' := 56) rfl (hb hby at_52) (by decide) (by decide) q_) ?_
  show own_Gl _ _ _ _ (T25.setTop (mkF m 56 #[.val (.long q1), .second, .val (.int v2), .val (.int w3), .val (.ref b20), .val (.int (own_mult v2 (own_shift q1))), .val (.int (own_mult w3 (own_shift q1))), .val (.int (own_mult (v2 ^^^ w3) (own_shift q1))), .val (.int (own_mult v2 (own_shift q1) ^^^ 0)), .unset, .unset] [(.int (1 : Int32))]))
  refine own_back (fun t_ q_ => XS.istore X25.here hx rfl (hb hby at_56) rfl (l' := #[.val (.long q1), .second, .val (.int v2), .val (.int w3), .val (.ref b20), .val (.int (own_mult v2 (own_shift q1))), .val (.int (own_mult w3 (own_shift q1))), .val (.int (own_mult (v2 ^^^ w3) (own_shift q1))), .val (.int (own_mult v2 (own_shift q1) ^^^ 0)), .val (.int (1 : Int32)), .unset]) rfl q_) ?_
  show own_Gl _ _ _ _ (T25.setTop (mkF m 58 #[.val (.long q1), .second, .val (.int v2), .val (.int w3), .val (.ref b20), .val (.int (own_mult v2 (own_shift q1))), .val (.int (own_mult w3 (own_shift q1))), .val (.int (own_mult (v2 ^^^ w3) (own_shift q1))), .val (.int (own_mult v2 (own_shift q1) ^^^ 0)), .val (.int (1 : Int32)), .unset] []))
  refine own_back (fun t_ q_ => XS.iload X25.here hx rfl (hb hby at_58) rfl q_) ?_
  show own_Gl _ _ _ _ (T25.setTop (mkF m 60 #[.val (.long q1), .second, .val (.int v2), .val (.int w3), .val (.ref b20), .val (.int (own_mult v2 (own_shift q1))), .val (.int (own_mult w3 (own_shift q1))), .val (.int (own_mult (v2 ^^^ w3) (own_shift q1))), .val (.int (own_mult v2 (own_shift q1) ^^^ 0)), .val (.int (1 : Int32)), .unset] [(.int (own_mult (v2 ^^^ w3) (own_shift q1)))]))
  refine own_back (fun t_ q_ => XS.iload X25.here hx rfl (hb hby at_60) rfl q_) ?_
  show own_Gl _ _ _ _ (T25.setTop (mkF m 62 #[.val (.long q1), .second, .val (.int v2), .val (.int w3), .val (.ref b20), .val (.int (own_mult v2 (own_shift q1))), .val (.int (own_mult w3 (own_shift q1))), .val (.int (own_mult (v2 ^^^ w3) (own_shift q1))), .val (.int (own_mult v2 (own_shift q1) ^^^ 0)), .val (.int (1 : Int32)), .unset] [(.int (own_mult v2 (own_shift q1))), (.int (own_mult (v2 ^^^ w3) (own_shift q1)))]))
  refine own_back (fun t_ q_ => XS.iload X25.here hx rfl (hb hby at_62) rfl q_) ?_
  show own_Gl _ _ _ _ (T25.setTop (mkF m 64 #[.val (.long q1), .second, .val (.int v2), .val (.int w3), .val (.ref b20), .val (.int (own_mult v2 (own_shift q1))), .val (.int (own_mult w3 (own_shift q1))), .val (.int (own_mult (v2 ^^^ w3) (own_shift q1))), .val (.int (own_mult v2 (own_shift q1) ^^^ 0)), .val (.int (1 : Int32)), .unset] [(.int (own_mult w3 (own_shift q1))), (.int (own_mult v2 (own_shift q1))), (.int (own_mult (v2 ^^^ w3) (own_shift q1)))]))
  refine own_back (fun t_ q_ => XS.ixor X25.here hx rfl (hb hby at_64) rfl q_) ?_
  show own_Gl _ _ _ _ (T25.setTop (mkF m 65 #[.val (.long q1), .second, .val (.int v2), .val (.int w3), .val (.ref b20), .val (.int (own_mult v2 (own_shift q1))), .val (.int (own_mult w3 (own_shift q1))), .val (.int (own_mult (v2 ^^^ w3) (own_shift q1))), .val (.int (own_mult v2 (own_shift q1) ^^^ 0)), .val (.int (1 : Int32)), .unset] [(.int ((own_mult v2 (own_shift q1)) ^^^ (own_mult w3 (own_shift q1)))), (.int (own_mult (v2 ^^^ w3) (own_shift q1)))]))
  refine own_back (fun t_ q_ => XS.icmpNo X25.here hx rfl (hb hby at_65) rfl (teq (own_add v2 w3 _ : (own_mult (v2 ^^^ w3) (own_shift q1)) = ((own_mult v2 (own_shift q1)) ^^^ (own_mult w3 (own_shift q1))))).2 q_) ?_
  show own_Gl _ _ _ _ (T25.setTop (mkF m 68 #[.val (.long q1), .second, .val (.int v2), .val (.int w3), .val (.ref b20), .val (.int (own_mult v2 (own_shift q1))), .val (.int (own_mult w3 (own_shift q1))), .val (.int (own_mult (v2 ^^^ w3) (own_shift q1))), .val (.int (own_mult v2 (own_shift q1) ^^^ 0)), .val (.int (1 : Int32)), .unset] []))
  refine own_back (fun t_ q_ => XS.iconst X25.here hx rfl (hb hby at_68) q_) ?_
  show own_Gl _ _ _ _ (T25.setTop (mkF m 69 #[.val (.long q1), .second, .val (.int v2), .val (.int w3), .val (.ref b20), .val (.int (own_mult v2 (own_shift q1))), .val (.int (own_mult w3 (own_shift q1))), .val (.int (own_mult (v2 ^^^ w3) (own_shift q1))), .val (.int (own_mult v2 (own_shift q1) ^^^ 0)), .val (.int (1 : Int32)), .unset] [(.int (1 : Int32))]))
  refine own_back (fun t_ q_ => XS.goto X25.here hx rfl (pc0 := 69) (pc' := 73) rfl (hb hby at_69) (by decide) (by decide) q_) ?_
  show own_Gl _ _ _ _ (T25.setTop (mkF m 73 #[.val (.long q1), .second, .val (.int v2), .val (.int w3), .val (.ref b20), .val (.int (own_mult v2 (own_shift q1))), .val (.int (own_mult w3 (own_shift q1))), .val (.int (own_mult (v2 ^^^ w3) (own_shift q1))), .val (.int (own_mult v2 (own_shift q1) ^^^ 0)), .val (.int (1 : Int32)), .unset] [(.int (1 : Int32))]))
  refine own_back (fun t_ q_ => XS.istore X25.here hx rfl (hb hby at_73) rfl (l' := #[.val (.long q1), .second, .val (.int v2), .val (.int w3), .val (.ref b20), .val (.int (own_mult v2 (own_shift q1))), .val (.int (own_mult w3 (own_shift q1))), .val (.int (own_mult (v2 ^^^ w3) (own_shift q1))), .val (.int (own_mult v2 (own_shift q1) ^^^ 0)), .val (.int (1 : Int32)), .val (.int (1 : Int32))]) rfl q_) ?_
  show own_Gl _ _ _ _ (T25.setTop (mkF m 75 #[.val (.long q1), .second, .val (.int v2), .val (.int w3), .val (.ref b20), .val (.int (own_mult v2 (own_shift q1))), .val (.int (own_mult w3 (own_shift q1))), .val (.int (own_mult (v2 ^^^ w3) (own_shift q1))), .val (.int (own_mult v2 (own_shift q1) ^^^ 0)), .val (.int (1 : Int32)), .val (.int (1 : Int32))] []))
  refine own_back (fun t_ q_ => XS.iload X25.here hx rfl (hb hby at_75) rfl q_) ?_
  show own_Gl _ _ _ _ (T25.setTop (mkF m 77 #[.val (.long q1), .second, .val (.int v2), .val (.int w3), .val (.ref b20), .val (.int (own_mult v2 (own_shift q1))), .val (.int (own_mult w3 (own_shift q1))), .val (.int (own_mult (v2 ^^^ w3) (own_shift q1))), .val (.int (own_mult v2 (own_shift q1) ^^^ 0)), .val (.int (1 : Int32)), .val (.int (1 : Int32))] [(.int (1 : Int32))]))
  refine own_back (fun t_ q_ => XS.ifNo X25.here hx rfl (hb hby at_77) rfl ((if0 _ _).trans (feq (by decide : ¬ ((1 : Int32) = (0 : Int32)))).1) q_) ?_
  show own_Gl _ _ _ _ (T25.setTop (mkF m 80 #[.val (.long q1), .second, .val (.int v2), .val (.int w3), .val (.ref b20), .val (.int (own_mult v2 (own_shift q1))), .val (.int (own_mult w3 (own_shift q1))), .val (.int (own_mult (v2 ^^^ w3) (own_shift q1))), .val (.int (own_mult v2 (own_shift q1) ^^^ 0)), .val (.int (1 : Int32)), .val (.int (1 : Int32))] []))
  refine own_back (fun t_ q_ => XS.iload X25.here hx rfl (hb hby at_80) rfl q_) ?_
  show own_Gl _ _ _ _ (T25.setTop (mkF m 82 #[.val (.long q1), .second, .val (.int v2), .val (.int w3), .val (.ref b20), .val (.int (own_mult v2 (own_shift q1))), .val (.int (own_mult w3 (own_shift q1))), .val (.int (own_mult (v2 ^^^ w3) (own_shift q1))), .val (.int (own_mult v2 (own_shift q1) ^^^ 0)), .val (.int (1 : Int32)), .val (.int (1 : Int32))] [(.int (1 : Int32))]))
  refine own_back (fun t_ q_ => XS.ifNo X25.here hx rfl (hb hby at_82) rfl ((if0 _ _).trans (feq (by decide : ¬ ((1 : Int32) = (0 : Int32)))).1) q_) ?_
  show own_Gl _ _ _ _ (T25.setTop (mkF m 85 #[.val (.long q1), .second, .val (.int v2), .val (.int w3), .val (.ref b20), .val (.int (own_mult v2 (own_shift q1))), .val (.int (own_mult w3 (own_shift q1))), .val (.int (own_mult (v2 ^^^ w3) (own_shift q1))), .val (.int (own_mult v2 (own_shift q1) ^^^ 0)), .val (.int (1 : Int32)), .val (.int (1 : Int32))] []))
  refine own_back (fun t_ q_ => XS.iconst X25.here hx rfl (hb hby at_85) q_) ?_
  show own_Gl _ _ _ _ (T25.setTop (mkF m 86 #[.val (.long q1), .second, .val (.int v2), .val (.int w3), .val (.ref b20), .val (.int (own_mult v2 (own_shift q1))), .val (.int (own_mult w3 (own_shift q1))), .val (.int (own_mult (v2 ^^^ w3) (own_shift q1))), .val (.int (own_mult v2 (own_shift q1) ^^^ 0)), .val (.int (1 : Int32)), .val (.int (1 : Int32))] [(.int (1 : Int32))]))
  refine own_back (fun t_ q_ => XS.goto X25.here hx rfl (pc0 := 86) (pc' := 90) rfl (hb hby at_86) (by decide) (by decide) q_) ?_
  show own_Gl _ _ _ _ (T25.setTop (mkF m 90 #[.val (.long q1), .second, .val (.int v2), .val (.int w3), .val (.ref b20), .val (.int (own_mult v2 (own_shift q1))), .val (.int (own_mult w3 (own_shift q1))), .val (.int (own_mult (v2 ^^^ w3) (own_shift q1))), .val (.int (own_mult v2 (own_shift q1) ^^^ 0)), .val (.int (1 : Int32)), .val (.int (1 : Int32))] [(.int (1 : Int32))]))
  exact own_rZ X25 hx hlk Bd.returns (hb hby at_90) (own_one rfl) (by show Qrm0 h0 n0 _ T25.heap _; rw [e25]; exact ⟨rfl, N25⟩) (by decide) (by decide)
set_option maxRecDepth 65536 in
set_option maxHeartbeats 40000000 in
theorem comes_1 {Post : Tables → Env → Array Value → State → Outcome → State → Prop} (hpost : ∀ tb e args s v u, (limb_1_1.after args s (.returned v) u = true ∧ limb_1_2.after args s (.returned v) u = true ∧ True) → FrameEnd s (.returned v) u (Jvm.fieldLocs frame_1_writes args s ++ Jvm.arrayLocs frame_1_arrays args s ++ Jvm.staticLocs frame_1_statics s) 16 2176 → Post tb e args s (.returned v) u) :
    ArmFor flags0 classFile x code maxLocals ret World_1 tables_1 room_1 Calls_1 rest_1 Pre_1 Post := by
  intro l hfl _ _ p e ha hc hk s m args below hf hA hF happ hP
  obtain ⟨hcalls, hrest, hpre⟩ := hP
  obtain ⟨-, -, -, hnamed, -, -, -, hat⟩ := (Spec.applies_iff hf).mp happ
  obtain ⟨hg, hn⟩ := and_e (Cond.before_iff.mp (show (Jvm.Cond.and given_1 narrow_1).before args s = true from hpre))
  obtain ⟨h1, hg1⟩ := and_e hg
  obtain ⟨w0, w1, w2, rfl⟩ : ∃ w0 w1 w2 : Value, args = #[w0, w1, w2] := by
    have hs : args.size = 3 := by simpa [Cond.value, given_1] using h1
    obtain ⟨L⟩ := args
    match L, hs with
    | [w0, w1, w2], _ => exact ⟨w0, w1, w2, rfl⟩
  have hw := fun d (hd : d ∈ tables_1) => atoms_spec (ws := Jvm.Cond.code x code maxLocals ret :: tables_1) hat d (List.mem_cons_of_mem _ hd)
  obtain ⟨hk0, hg2⟩ := and_e hg1
  obtain ⟨i0, ei0⟩ := isL_v hk0
  obtain rfl : w0 = (.long i0) := Option.some.inj ei0
  obtain ⟨hk1, hg3⟩ := and_e hg2
  obtain ⟨i1, ei1⟩ := is_v hk1
  obtain rfl : w1 = (.int i1) := Option.some.inj ei1
  obtain ⟨i2, ei2⟩ := is_v hg3
  obtain rfl : w2 = (.int i2) := Option.some.inj ei2
  obtain ⟨n, o, h1, h2, h3, _, L, rfl, ⟨rfl, N⟩, hq⟩ := rm0 l s _ hw tables_1 i0 i1 i2 s.heap s.heap.size (Nat.le_refl _) p e ha hc hk s m _ below hf ((Spec.applies_iff_loose hf).mp happ).1 ⟨rfl, State.Warmed39.refl s, rfl⟩ trivial
  refine ⟨n, _, h1, h2, h3, hpost _ _ _ _ _ _ ⟨Cond.after_iff.mpr rfl, Cond.after_iff.mpr (eq_i res_at (Term.int_eval (1)) rfl), trivial⟩ ⟨hq.1, hq.2.1, (hq.2.2.sift fun y hy => Or.inr (N y hy)).mono (by decide) (by decide)⟩⟩
theorem main_1_1 : Claimed_1_1 := comes_1 fun _ _ _ _ _ _ h hF => ⟨h.1, hF⟩
theorem main_1_2 : Claimed_1_2 := comes_1 fun _ _ _ _ _ _ h hF => ⟨h.2.1, hF⟩
end Jvm.Pilot.@@N@@
namespace Jvm.Pilot.@@N@@
open Jvm Jvm.ClassFile Sem Op Lib Jvm.Free Jvm.Stand Jvm.Pilot.@@N@@.Jvm.D
/-! MADE BY PROGRAM (witnessworld.py) out of the Statement's table words and the real class files: 10 classes; the members and pool entries that the words name. The judged class is class 1, her method 1. -/
namespace start1
open Jvm.ClassFile
def u (s : String) : CpInfo := .utf8 (stringToUtf16 s)
/-- a pool by its gaps: so many unusable entries, then the entry; so many at the end -/
def gap : Nat → List CpInfo → List CpInfo
  | 0, r => r
  | n + 1, r => .unusable :: gap n r
def poolList (es : List (Nat × CpInfo)) (last : Nat) : List CpInfo := es.foldr (fun e r => gap e.1 (e.2 :: r)) (gap last [])
def pool (es : List (Nat × CpInfo)) (last : Nat) : Array CpInfo := ⟨poolList es last⟩
def fileOf (pool : Array CpInfo) (this : Nat) (attrs : Array Attribute := #[]) (ms : Array MethodInfo := #[]) (fl : Nat := 33) (sup : Nat := 0) (ifs : Array Nat := #[]) (fds : Array FieldInfo := #[]) : ClassFile where
  minorVersion := 0
  majorVersion := 65
  constantPool := pool
  accessFlags := fl
  thisClass := this
  superClass := sup
  interfaces := ifs
  fields := fds
  methods := ms
  attributes := attrs
def plain (name : String) (sup : Option ClassId) : Class where
  name := name
  kind := .ordinary
  loader := none
  accessFlags := 33
  super := sup
  interfaces := #[]
  cf := none
  fields := #[]
  methods := #[]
  instanceTypes := #[]
  staticTypes := #[]
  resolved := #[]
  callSites := []
  init := .initialized
  statics := none
  mirror := none

def pool0 : Array CpInfo := pool [(5, u "<init>"), (0, u "()V"), (1, .class_ 10), (1, u "java/lang/Object")] 113

def k0c0 : Code := { maxStack := 0, maxLocals := 1, code := object_method_1_code, exceptionTable := #[], attributes := #[] }
def k0m0 : Method := { name := "<init>", desc := "()V", sig := { parameters := [], returnType := none }, accessFlags := 1, code := some k0c0 }
/-- java/lang/Object -/
def k0 : Class := { plain "java/lang/Object" none with
  accessFlags := 33
  interfaces := #[]
  cf := some (fileOf pool0 8 #[] #[{ accessFlags := 1, nameIndex := 5, descriptorIndex := 6, attributes := #[] }] 33 0 #[] #[])
  fields := #[]
  methods := #[k0m0]
  instanceTypes := #[]
  staticTypes := #[]
  resolved := Array.replicate 124 none
  statics := none }

def pool1 : Array CpInfo := pool [(2, .class_ 4), (1, u "java/lang/Object"), (0, u "<init>"), (0, u "()V"), (0, .class_ 8), (0, u "com/example/termwright/termwright/store/Crc32c$Shift"), (0, .methodref 7 10), (0, .nameAndType 5 11), (0, u "(J)V"), (0, .methodref 7 13), (0, .nameAndType 14 15), (0, u "times"), (0, u "(I)I"), (0, .methodref 17 18), (0, .class_ 19), (0, .nameAndType 20 21), (0, u "com/example/termwright/termwright/store/Crc32c"), (0, u "combine"), (0, u "(IIJ)I"), (0, .class_ 23), (0, u "com/example/termwright/termwright/store/ShiftTimesPinLaw"), (2, u "law"), (0, u "(JII)Z")] 5

def k1m0 : Method := { name := "<init>", desc := "()V", sig := { parameters := [], returnType := none }, accessFlags := 2, code := none }
def k1c1 : Code := { maxStack := 4, maxLocals := 11, code := code, exceptionTable := #[], attributes := #[] }
def k1m1 : Method := { name := "law", desc := "(JII)Z", sig := { parameters := [.long, .int, .int], returnType := some .boolean }, accessFlags := 9, code := some k1c1 }
/-- com/example/termwright/termwright/store/ShiftTimesPinLaw -/
def k1 : Class := { plain "com/example/termwright/termwright/store/ShiftTimesPinLaw" (some 0) with
  accessFlags := 49
  interfaces := #[]
  cf := some (fileOf pool1 22 #[] #[{ accessFlags := 2, nameIndex := 5, descriptorIndex := 6, attributes := #[] }, { accessFlags := 9, nameIndex := 26, descriptorIndex := 27, attributes := #[] }] 49 2 #[] #[])
  fields := #[]
  methods := #[k1m0, k1m1]
  instanceTypes := #[]
  staticTypes := #[]
  resolved := Array.replicate 33 none
  statics := none }

def pool2 : Array CpInfo := pool [(1, .methodref 2 3), (0, .class_ 4), (0, .nameAndType 5 6), (0, u "java/lang/Object"), (0, u "<init>"), (0, u "()V"), (2, .fieldref 10 11), (0, .class_ 12), (0, .nameAndType 13 14), (0, u "com/example/termwright/termwright/store/Crc32c$Shift"), (0, u "products"), (0, u "[I"), (0, .methodref 16 17), (0, .class_ 18), (0, .nameAndType 19 20), (0, u "com/example/termwright/termwright/store/Crc32c"), (0, u "shift"), (0, u "(J)I"), (0, .methodref 16 22), (0, .nameAndType 23 24), (0, u "multiply"), (0, u "(II)I"), (0, u "(J)V"), (3, u "times"), (0, u "(I)I")] 5

def k2c0 : Code := { maxStack := 5, maxLocals := 6, code := prog_137_method_1_code, exceptionTable := #[], attributes := #[] }
def k2m0 : Method := { name := "<init>", desc := "(J)V", sig := { parameters := [.long], returnType := none }, accessFlags := 0, code := some k2c0 }
def k2c1 : Code := { maxStack := 5, maxLocals := 2, code := prog_137_method_2_code, exceptionTable := #[], attributes := #[] }
def k2m1 : Method := { name := "times", desc := "(I)I", sig := { parameters := [.int], returnType := some .int }, accessFlags := 0, code := some k2c1 }
/-- com/example/termwright/termwright/store/Crc32c$Shift -/
def k2 : Class := { plain "com/example/termwright/termwright/store/Crc32c$Shift" (some 0) with
  accessFlags := 48
  interfaces := #[]
  cf := some (fileOf pool2 10 #[.nestHost 16] #[{ accessFlags := 0, nameIndex := 5, descriptorIndex := 25, attributes := #[] }, { accessFlags := 0, nameIndex := 29, descriptorIndex := 30, attributes := #[] }] 48 2 #[] #[{ accessFlags := 18, nameIndex := 13, descriptorIndex := 14, attributes := #[] }])
  fields := #[{ name := "products", type := (.array .int), accessFlags := 18, slot := 0, constantValue := 0 }]
  methods := #[k2m0, k2m1]
  instanceTypes := #[(.array .int)]
  staticTypes := #[]
  resolved := Array.replicate 36 none
  statics := none }

def pool3 : Array CpInfo := pool [(2, .class_ 4), (1, u "java/lang/Object"), (0, u "<init>"), (0, u "()V"), (6, .class_ 14), (0, u "com/example/termwright/termwright/store/Crc32c"), (21, .class_ 37), (0, u "com/example/termwright/termwright/store/Crc32c$Parts"), (10, .methodref 13 49), (0, .nameAndType 50 51), (0, u "shift"), (0, u "(J)I"), (0, .methodref 13 53), (0, .nameAndType 54 55), (0, u "multiply"), (0, u "(II)I"), (1, .class_ 59), (1, u "com/example/termwright/termwright/store/Crc32c$Shift"), (4, u "combine"), (0, u "(IIJ)I"), (0, .integer 2147483648), (2, .integer 8388608), (0, .integer 2197175160), (7, u "PART_SHIFT"), (0, u "Lcom/example/termwright/termwright/store/Crc32c$Shift;"), (0, u "PART_BYTES"), (0, u "I"), (1, u "MIN_PARTS"), (1, u "POLYNOMIAL"), (0, u "ONE")] 13

def k3m0 : Method := { name := "<init>", desc := "()V", sig := { parameters := [], returnType := none }, accessFlags := 2, code := none }
def k3c1 : Code := { maxStack := 3, maxLocals := 4, code := prog_135_method_3_code, exceptionTable := #[], attributes := #[] }
def k3m1 : Method := { name := "combine", desc := "(IIJ)I", sig := { parameters := [.int, .int, .long], returnType := some .int }, accessFlags := 8, code := some k3c1 }
def k3c2 : Code := { maxStack := 4, maxLocals := 6, code := prog_135_method_5_code, exceptionTable := #[], attributes := #[] }
def k3m2 : Method := { name := "shift", desc := "(J)I", sig := { parameters := [.long], returnType := some .int }, accessFlags := 10, code := some k3c2 }
def k3c3 : Code := { maxStack := 3, maxLocals := 5, code := prog_135_method_6_code, exceptionTable := #[], attributes := #[] }
def k3m3 : Method := { name := "multiply", desc := "(II)I", sig := { parameters := [.int, .int], returnType := some .int }, accessFlags := 10, code := some k3c3 }
/-- com/example/termwright/termwright/store/Crc32c -/
def k3 : Class := { plain "com/example/termwright/termwright/store/Crc32c" (some 0) with
  accessFlags := 48
  interfaces := #[]
  cf := some (fileOf pool3 13 #[.nestMembers #[36, 57]] #[{ accessFlags := 2, nameIndex := 5, descriptorIndex := 6, attributes := #[] }, { accessFlags := 8, nameIndex := 64, descriptorIndex := 65, attributes := #[] }, { accessFlags := 10, nameIndex := 50, descriptorIndex := 51, attributes := #[] }, { accessFlags := 10, nameIndex := 54, descriptorIndex := 55, attributes := #[] }] 48 2 #[] #[{ accessFlags := 24, nameIndex := 80, descriptorIndex := 81, attributes := #[] }, { accessFlags := 24, nameIndex := 83, descriptorIndex := 81, attributes := #[] }, { accessFlags := 26, nameIndex := 85, descriptorIndex := 81, attributes := #[] }, { accessFlags := 26, nameIndex := 86, descriptorIndex := 81, attributes := #[] }, { accessFlags := 26, nameIndex := 78, descriptorIndex := 79, attributes := #[] }])
  fields := #[{ name := "PART_BYTES", type := .int, accessFlags := 24, slot := 0, constantValue := 0 }, { name := "MIN_PARTS", type := .int, accessFlags := 24, slot := 1, constantValue := 0 }, { name := "POLYNOMIAL", type := .int, accessFlags := 26, slot := 2, constantValue := 0 }, { name := "ONE", type := .int, accessFlags := 26, slot := 3, constantValue := 0 }, { name := "PART_SHIFT", type := (.object "com/example/termwright/termwright/store/Crc32c$Shift"), accessFlags := 26, slot := 4, constantValue := 0 }]
  methods := #[k3m0, k3m1, k3m2, k3m3]
  instanceTypes := #[]
  staticTypes := #[.int, .int, .int, .int, (.object "com/example/termwright/termwright/store/Crc32c$Shift")]
  resolved := Array.replicate 100 none
  statics := none }

def pool4 : Array CpInfo := pool [(1, u "java/lang/Cloneable"), (0, .class_ 1), (0, u "java/lang/Object"), (0, .class_ 3)] 3

/-- java/lang/Cloneable -/
def k4 : Class := { plain "java/lang/Cloneable" (some 0) with
  accessFlags := 1537
  interfaces := #[]
  cf := some (fileOf pool4 2 #[] #[] 1537 4 #[] #[])
  fields := #[]
  methods := #[]
  instanceTypes := #[]
  staticTypes := #[]
  resolved := Array.replicate 8 none
  statics := none }

def pool5 : Array CpInfo := pool [(1, u "java/io/Serializable"), (0, .class_ 1), (0, u "java/lang/Object"), (0, .class_ 3)] 3

/-- java/io/Serializable -/
def k5 : Class := { plain "java/io/Serializable" (some 0) with
  accessFlags := 1537
  interfaces := #[]
  cf := some (fileOf pool5 2 #[] #[] 1537 4 #[] #[])
  fields := #[]
  methods := #[]
  instanceTypes := #[]
  staticTypes := #[]
  resolved := Array.replicate 8 none
  statics := none }

/-- the primitive byte -/
def k6 : Class := { plain "byte" none with kind := .primitive 'B', accessFlags := 0x411 }
/-- [B -/
def k7 : Class := { plain "[B" (some 0) with kind := .array 6 .byte, interfaces := #[4, 5], accessFlags := 1041 }

/-- the primitive int -/
def k8 : Class := { plain "int" none with kind := .primitive 'I', accessFlags := 0x411 }
/-- [I -/
def k9 : Class := { plain "[I" (some 0) with kind := .array 8 .int, interfaces := #[4, 5], accessFlags := 1041 }

def heap : Heap := #[]
def classes : Array Class := #[k0, k1, k2, k3, k4, k5, k6, k7, k8, k9]
def interned : List (Array UInt16 × Addr) := []
def slotsUsed : Nat := 0
def theMethod : MethodId := ⟨1, 1⟩
def args0 : Array Value := #[.long 5, .int 7, .int 9]
def aboutOver (below : List Frame) : State where
  vm := { classes := classes, interned := interned.toArray }
  heap := heap
  slotsUsed := slotsUsed
  threads := #[{ frames := .invoking theMethod args0 :: below }]
def below0 : List Frame := [.native { method := ⟨0, 0⟩, args := #[] }]
def about1 : State := aboutOver below0
def p0 : Program := .bare "" "" ""
def e0 : Env := launch0.env 0 0 0
theorem w_frames : about1.frames = Frame.invoking theMethod args0 :: below0 := rfl
set_option maxRecDepth 65536 in
theorem w_args : argsFit about1.vm theMethod args0 = true := by decide +kernel
set_option maxRecDepth 65536 in
theorem w_heap : heapFits about1 = true := by decide +kernel
set_option maxRecDepth 65536 in
theorem w_runnable : about1.curStatus? = some .runnable := by decide +kernel
set_option maxRecDepth 65536 in
theorem w_alone : about1.alone = true := by decide +kernel
set_option maxRecDepth 65536 in
theorem w_named : about1.methodNamed? x = some theMethod := by decide +kernel
set_option maxRecDepth 65536 in
theorem w_hears : about1.hears theMethod below0 = true := by decide +kernel
set_option maxRecDepth 65536 in
theorem w_ripe : about1.ripe theMethod args0 below0 = true := by decide +kernel
theorem w_running : about1.status = .running := rfl
set_option maxRecDepth 65536 in
theorem w_room : about1.hasRoom e0.platform room_1 = true :=
  launch0.hasRoom_least _ room_1 (by decide +kernel) (by decide +kernel) (by decide +kernel) (by decide +kernel) (by decide +kernel) (by decide +kernel)
theorem allAtoms_all (ts : List Jvm.Cond) (a : Array Jvm.Value) (st : Jvm.State) : (allAtoms ts).before a st = ts.all (fun c => c.before a st) := by
  induction ts with
  | nil => rfl
  | cons c t ih =>
    show (Jvm.Cond.and c (allAtoms t)).before a st = _
    rw [Jvm.Cond.before_and, ih, List.all_cons]
def words1 : List Jvm.Cond := Jvm.Cond.code x code maxLocals ret :: tables_1
/-- a 'code' word, met by the world's own term for the bytes: nothing is compared byte by byte -/
theorem code_word {y : MethodName} {bytes : ByteArray} {mx : Nat} {rt : Option FieldType} {a : Array Value} {s : State} {m : MethodId} {meth : Method} {c : Code} (h1 : s.methodNamed? y = some m) (h2 : s.vm.method? m = some meth) (h3 : meth.code = some c) (h4 : c.code = bytes)
    (h5 : (c.maxLocals == mx && c.exceptionTable.isEmpty && decide (c.maxStack ≤ mostOperands) && decide (meth.sig.returnType = rt) && !meth.locks && decide (parseMethodDescriptor y.desc = some meth.sig)) = true) : (Jvm.Cond.code y bytes mx rt).before a s = true := by
  simp only [Bool.and_eq_true, beq_iff_eq, Bool.not_eq_true', decide_eq_true_eq] at h5
  obtain ⟨⟨⟨⟨⟨g1, g2⟩, g3⟩, g4⟩, g5⟩, g6⟩ := h5
  simp [Cond.before, Cond.holds, Cond.value, h1, h2, h3, h4, g1, g2, g3, g4, g5, g6]
def isCode : Jvm.Cond → Bool
  | .code _ _ _ _ => true
  | _ => false
theorem all_split {L : List Jvm.Cond} {P : Jvm.Cond → Bool} (h1 : L.all (fun c => isCode c || P c) = true) (h2 : ∀ c ∈ L.filter isCode, P c = true) : L.all P = true := by
  refine List.all_eq_true.mpr fun c hc => ?_
  have h := List.all_eq_true.mp h1 c hc
  rcases Bool.eq_false_or_eq_true (isCode c) with hi | hi
  · exact h2 c (List.mem_filter.mpr ⟨hc, hi⟩)
  · simpa [hi] using h
set_option maxRecDepth 65536 in
theorem w_c0 : (Jvm.Cond.code x code maxLocals ret).before args0 about1 = true := code_word (m := ⟨1, 1⟩) (meth := k1m1) (c := k1c1) (by decide +kernel) rfl rfl rfl (by decide +kernel)
set_option maxRecDepth 65536 in
theorem w_c1 : (Jvm.Cond.code ({ cls := "com/example/termwright/termwright/store/Crc32c$Shift", name := "<init>", desc := "(J)V" } : Jvm.MethodName) prog_137_method_1_code (6 : Nat) (Option.none : Option Jvm.ClassFile.FieldType)).before args0 about1 = true := code_word (m := ⟨2, 0⟩) (meth := k2m0) (c := k2c0) (by decide +kernel) rfl rfl rfl (by decide +kernel)
set_option maxRecDepth 65536 in
theorem w_c2 : (Jvm.Cond.code ({ cls := "java/lang/Object", name := "<init>", desc := "()V" } : Jvm.MethodName) object_method_1_code (1 : Nat) (Option.none : Option Jvm.ClassFile.FieldType)).before args0 about1 = true := code_word (m := ⟨0, 0⟩) (meth := k0m0) (c := k0c0) (by decide +kernel) rfl rfl rfl (by decide +kernel)
set_option maxRecDepth 65536 in
theorem w_c3 : (Jvm.Cond.code ({ cls := "com/example/termwright/termwright/store/Crc32c", name := "shift", desc := "(J)I" } : Jvm.MethodName) prog_135_method_5_code (6 : Nat) (Option.some Jvm.ClassFile.FieldType.int)).before args0 about1 = true := code_word (m := ⟨3, 2⟩) (meth := k3m2) (c := k3c2) (by decide +kernel) rfl rfl rfl (by decide +kernel)
set_option maxRecDepth 65536 in
theorem w_c4 : (Jvm.Cond.code ({ cls := "com/example/termwright/termwright/store/Crc32c", name := "multiply", desc := "(II)I" } : Jvm.MethodName) prog_135_method_6_code (5 : Nat) (Option.some Jvm.ClassFile.FieldType.int)).before args0 about1 = true := code_word (m := ⟨3, 3⟩) (meth := k3m3) (c := k3c3) (by decide +kernel) rfl rfl rfl (by decide +kernel)
set_option maxRecDepth 65536 in
theorem w_c5 : (Jvm.Cond.code ({ cls := "com/example/termwright/termwright/store/Crc32c$Shift", name := "times", desc := "(I)I" } : Jvm.MethodName) prog_137_method_2_code (2 : Nat) (Option.some Jvm.ClassFile.FieldType.int)).before args0 about1 = true := code_word (m := ⟨2, 1⟩) (meth := k2m1) (c := k2c1) (by decide +kernel) rfl rfl rfl (by decide +kernel)
set_option maxRecDepth 65536 in
theorem w_c6 : (Jvm.Cond.code ({ cls := "com/example/termwright/termwright/store/Crc32c", name := "combine", desc := "(IIJ)I" } : Jvm.MethodName) prog_135_method_3_code (4 : Nat) (Option.some Jvm.ClassFile.FieldType.int)).before args0 about1 = true := code_word (m := ⟨3, 1⟩) (meth := k3m1) (c := k3c1) (by decide +kernel) rfl rfl rfl (by decide +kernel)
def codes1 : List Jvm.Cond := [Jvm.Cond.code x code maxLocals ret, Jvm.Cond.code ({ cls := "com/example/termwright/termwright/store/Crc32c$Shift", name := "<init>", desc := "(J)V" } : Jvm.MethodName) prog_137_method_1_code (6 : Nat) (Option.none : Option Jvm.ClassFile.FieldType), Jvm.Cond.code ({ cls := "java/lang/Object", name := "<init>", desc := "()V" } : Jvm.MethodName) object_method_1_code (1 : Nat) (Option.none : Option Jvm.ClassFile.FieldType), Jvm.Cond.code ({ cls := "com/example/termwright/termwright/store/Crc32c", name := "shift", desc := "(J)I" } : Jvm.MethodName) prog_135_method_5_code (6 : Nat) (Option.some Jvm.ClassFile.FieldType.int), Jvm.Cond.code ({ cls := "com/example/termwright/termwright/store/Crc32c", name := "multiply", desc := "(II)I" } : Jvm.MethodName) prog_135_method_6_code (5 : Nat) (Option.some Jvm.ClassFile.FieldType.int), Jvm.Cond.code ({ cls := "com/example/termwright/termwright/store/Crc32c$Shift", name := "times", desc := "(I)I" } : Jvm.MethodName) prog_137_method_2_code (2 : Nat) (Option.some Jvm.ClassFile.FieldType.int), Jvm.Cond.code ({ cls := "com/example/termwright/termwright/store/Crc32c", name := "combine", desc := "(IIJ)I" } : Jvm.MethodName) prog_135_method_3_code (4 : Nat) (Option.some Jvm.ClassFile.FieldType.int)]
set_option maxRecDepth 65536 in
theorem codes_eq : words1.filter isCode = codes1 := rfl
theorem w_codes : ∀ c ∈ words1.filter isCode, c.before args0 about1 = true := by
  rw [codes_eq]
  intro c hc
  simp only [codes1, List.mem_cons, List.not_mem_nil, or_false] at hc
  rcases hc with rfl | rfl | rfl | rfl | rfl | rfl | rfl
  · exact w_c0
  · exact w_c1
  · exact w_c2
  · exact w_c3
  · exact w_c4
  · exact w_c5
  · exact w_c6
set_option maxRecDepth 65536 in
theorem w_t1 : (words1.take 24).all (fun c => isCode c || c.before args0 about1) = true := by decide +kernel
set_option maxRecDepth 65536 in
theorem w_t2 : (words1.drop 24).all (fun c => isCode c || c.before args0 about1) = true := by decide +kernel
theorem w_tables : (allAtoms (Jvm.Cond.code x code maxLocals ret :: tables_1)).before args0 about1 = true := by
  rw [allAtoms_all]
  show words1.all (fun c => c.before args0 about1) = true
  refine all_split ?_ w_codes
  rw [← List.take_append_drop 24 words1, List.all_append, w_t1, w_t2]
  rfl
set_option maxRecDepth 65536 in
theorem w_case : (Jvm.Cond.and given_1 narrow_1).before args0 about1 = true := by decide +kernel
theorem w_applies : (headSpec (Jvm.Cond.code x code maxLocals ret :: tables_1) room_1).applies x e0.platform about1 = true :=
  (Spec.applies_iff w_frames).mpr ⟨w_running, w_runnable, w_alone, w_named, w_hears, w_ripe, w_room, w_tables⟩
theorem atStart : AtStart classFile x code maxLocals ret World_1 tables_1 room_1 Calls_1 rest_1 Pre_1 launch0 p0 e0 about1 theMethod args0 below0 :=
  ⟨lists_1, trivial, launch0.admits_env _ _ _, launch0.least_env, fairChoices_fair.cas, fairChoices_fair.clock, w_frames, w_args, w_heap, w_applies, trivial, trivial, w_case⟩
end start1
theorem witness_1 : WitnessClaimed_1 := ⟨start1.p0, start1.e0, start1.about1, start1.theMethod, start1.args0, start1.below0, start1.atStart⟩
end Jvm.Pilot.@@N@@
