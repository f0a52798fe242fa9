import JvmDerived
import JvmDerived.Pilot.@@N@@Statement
import JvmDerived.Pilot.@@N@@Code
set_option linter.unusedVariables false
set_option linter.unusedSimpArgs false
namespace Jvm.RoadKit
open Sem ClassFile Op Lib Jvm.Stand Jvm.Free Jvm.LawKit
section New
variable {p : Program} {l : Launch} {e : Env} {R : Room} {s : State} {m : MethodId} {args : Array Value} {below : List Frame} {meth : Method} {c : Code} {T : State} {locs : List Loc} {cells slots : Nat}
theorem retI (X : Stand p l e R s m args below meth c T locs cells slots) (hx : p.tables.exec = Jvm.exec) {pc : Nat} {Ls : Array Slot} {z : Int32} {rest : List Value} (hret : meth.sig.returnType = some .int) (hd : decode c.code pc = .ok (.ireturn, 1)) {fs : List Frame}
    (hl : ∀ (f : JFrame) (acts : List Action), f.method = m → f.locked = none → f.entered = [] → (doReturn e (T.setTop f) acts (some (.int z))).1 = T.setFrames fs) : Steps p.tables e below (T.setTop (mkF m pc Ls (.int z :: rest))) (T.setFrames fs) := by
  have hm' : T.vm.method? m = some meth := X.method'
  have hn : narrow .int (.int z) = .int z := rfl
  show Steps p.tables e below (T.setTop { method := m, pc := pc, locals := Ls, stack := _ :: rest, locked := none }) _
  jvm_step X.here [X.here.top, hx, hd, hm', hret, hn]
  first | (intro acts; rw [hl _ acts rfl rfl rfl]) | rw [hl _ _ rfl rfl rfl]
  exact Steps.refl _
end New
end Jvm.RoadKit
/- laws to paste: pair_says (cut by pick.py; bodies as the Statement names them) -/
namespace Jvm.Pilot.@@N@@
namespace StrChars
open Jvm Sem ClassFile Op Lib Jvm.Stand Jvm.Free.XT Jvm.Free.ALB Jvm.Free.JM Jvm.Free
open Jvm.Lib.Cold (StaticIs)
/-- the byte that i2b leaves of a char -/
def lo8 (x : Int32) : Int32 := x.toInt8.toInt32
end StrChars
namespace StrChars
open Jvm Sem ClassFile Op Lib Jvm.Stand Jvm.Free.XT Jvm.Free.ALB Jvm.Free.JM Jvm.Free
open Jvm.Lib.Cold (StaticIs)
def hi8 (x : Int32) : Int32 := lo8 (x >>> ((8 : Int32) &&& 31))
/-- what StringUTF16.getChar makes of two bytes -/
def pairCh (u v : Int32) : Int32 := (((u &&& 255) <<< ((0 : Int32) &&& 31)) ||| ((v &&& 255) <<< ((8 : Int32) &&& 31))).toUInt32.toUInt16.toUInt32.toInt32
theorem lo8_and (x : Int32) : (lo8 x &&& 255).toBitVec.toNat = x.toBitVec.toNat % 256 := by
  have h : (lo8 x).toBitVec = (x.toBitVec.signExtend 8).signExtend 32 := by rw [lo8, Int8.toBitVec_toInt32, Int32.toBitVec_toInt8]
  rw [Int32.toBitVec_and, BitVec.toNat_and, h]
  have e : ((x.toBitVec.signExtend 8).signExtend 32).toNat % 256 = x.toBitVec.toNat % 256 := by
    rw [BitVec.toNat_signExtend]
    have hlt := x.toBitVec.isLt
    simp only [BitVec.toNat_setWidth, BitVec.toNat_signExtend]
    split <;> split <;> omega
  rw [← e]
  exact Nat.and_two_pow_sub_one_eq_mod _ 8
theorem pair_says {c : Int32} (h0 : ¬ c < 0) (h1 : ¬ 65535 < c) : pairCh (lo8 c) (hi8 c) = c := by
  rw [Int32.lt_iff_toInt_lt] at h0 h1
  have e0 : (0 : Int32).toInt = 0 := rfl
  have e1 : (65535 : Int32).toInt = 65535 := rfl
  have hc : c.toInt = c.toBitVec.toNat := by
    have := c.toBitVec.isLt
    have e : c.toInt = c.toBitVec.toInt := rfl
    rw [e] at h0 h1
    rw [e]
    rw [BitVec.toInt_eq_toNat_cond] at h0 h1 ⊢
    split at h0 <;> split <;> omega
  have hn : c.toBitVec.toNat < 65536 := by omega
  have a1 := lo8_and c
  have a2 : (hi8 c &&& 255).toBitVec.toNat = c.toBitVec.toNat / 256 := by
    rw [hi8, lo8_and]
    have e : ((8 : Int32) &&& 31) = 8 := by decide
    rw [e, Int32.toBitVec_shiftRight]
    have e2 : ((8 : Int32).toBitVec.smod 32) = 8#32 := by decide
    rw [e2, BitVec.sshiftRight_eq', BitVec.toNat_sshiftRight_of_msb_false (by rw [BitVec.msb_eq_false_iff_two_mul_lt]; omega)]
    show c.toBitVec.toNat >>> 8 % 256 = _
    rw [Nat.shiftRight_eq_div_pow]
    omega
  unfold pairCh
  apply Int32.toBitVec_inj.mp
  apply BitVec.eq_of_toNat_eq
  have f0 : ((0 : Int32) &&& 31) = 0 := by decide
  have f8 : ((8 : Int32) &&& 31) = 8 := by decide
  rw [f0, f8]
  have g : (((lo8 c &&& 255) <<< (0 : Int32)) ||| ((hi8 c &&& 255) <<< (8 : Int32))).toBitVec.toNat = c.toBitVec.toNat := by
    rw [Int32.toBitVec_or, Int32.toBitVec_shiftLeft, Int32.toBitVec_shiftLeft]
    have s0 : ((0 : Int32).toBitVec.smod 32) = 0#32 := by decide
    have s8 : ((8 : Int32).toBitVec.smod 32) = 8#32 := by decide
    rw [s0, s8, BitVec.toNat_or]
    simp only [BitVec.shiftLeft_eq', BitVec.toNat_shiftLeft, a1, a2]
    show (c.toBitVec.toNat % 256) <<< 0 % 2 ^ 32 ||| (c.toBitVec.toNat / 256) <<< 8 % 2 ^ 32 = _
    rw [Nat.shiftLeft_zero, Nat.mod_eq_of_lt (show c.toBitVec.toNat % 256 < 2 ^ 32 by omega), Nat.mod_eq_of_lt (show (c.toBitVec.toNat / 256) <<< 8 < 2 ^ 32 by rw [Nat.shiftLeft_eq]; omega), Nat.or_comm, ← Nat.shiftLeft_add_eq_or_of_lt (by omega), Nat.shiftLeft_eq]
    omega
  show BitVec.toNat (((((lo8 c &&& 255) <<< (0 : Int32)) ||| ((hi8 c &&& 255) <<< (8 : Int32))).toBitVec.setWidth 16).setWidth 32) = _
  rw [BitVec.toNat_setWidth, BitVec.toNat_setWidth, g]
  omega
end StrChars
end Jvm.Pilot.@@N@@

namespace Jvm.Pilot.@@N@@
open Jvm Jvm.ClassFile Sem Op Lib Jvm.Free Jvm.Stand Jvm.LawKit Jvm.RoadKit Bundle Jvm.Pilot.@@N@@.Jvm.D
theorem own_mi {α : Type} {l : List α} {a : α} (i : Nat) (h : l[i]? = some a) : a ∈ l := List.mem_of_getElem? h
def own_Rn (p : Program) (e : Env) (below : List Frame) (P : Outcome → State → Prop) (S : State) : Prop := ∃ U o, Steps p.tables e below S U ∧ U.status = .running ∧ Ended U below o ∧ P o U
theorem own_go {p : Program} {e : Env} {below : List Frame} {P : Outcome → State → Prop} {S S' : State} (k : ∀ t, Steps p.tables e below S' t → Steps p.tables e below S t) (h : own_Rn p e below P S') : own_Rn p e below P S := by
  obtain ⟨U, o, h1, h2⟩ := h
  exact ⟨U, o, k U h1, h2⟩
theorem own_ret {p : Program} {l : Launch} {e : Env} {R : Room} {s : State} {m : MethodId} {args : Array Value} {below : List Frame} {meth : Method} {c : Code} {T : State} {locs : List Loc} {cells slots : Nat} (X : Stand p l e R s m args below meth c T locs cells slots)
    {v : Option Value} (hv : meth.sig.returnType = none → v = none) {S : State} {Q : Option Value → Heap → List Loc → Prop} {C N : Nat}
    (k : ∀ fs, (∀ (f : JFrame) (acts : List Action), f.method = m → f.locked = none → f.entered = [] → (doReturn e (T.setTop f) acts v).1 = T.setFrames fs) → Steps p.tables e below S (T.setFrames fs)) (hq : Q v T.heap locs) (hc : cells ≤ C) (hs : slots ≤ N)
    (hlocks : meth.locks = false := by first | assumption | exact BodyLoose.notSynchronized (by assumption) | exact Body.notSynchronized (by assumption)) :
    own_Rn p e below (fun o U' => ∃ v L, o = .returned v ∧ Q v U'.heap L ∧ FrameEnd s o U' L C N) S := by
  obtain ⟨fs, hr, hrun, hended, hW, hsame⟩ := X.leave hv hlocks
  exact ⟨_, _, k fs hr, hrun, hended, _, _, rfl, hq, ⟨_, rfl⟩, hW, hsame.mono hc hs⟩
theorem own_nea {a b : Addr} (h : @LT.lt Nat _ a b ∨ @LT.lt Nat _ b a) : a ≠ b := by
  intro e
  have e' : @Eq Nat a b := e
  omega
theorem own_fits_byte (x : Int32) : fits .byte (.int (nar .byte x)) = true := by
  have h := c_i2b x
  have h1 : (-128 : Int32) ≤ x.toInt8.toInt32 := by rw [Int32.le_iff_toInt_le]; exact h.2.1
  have h2 : x.toInt8.toInt32 ≤ (127 : Int32) := by rw [Int32.le_iff_toInt_le]; exact Int.le_of_lt_add_one h.2.2
  simp only [fits, Bool.and_eq_true]
  exact ⟨decide_eq_true h1, decide_eq_true h2⟩
theorem own_fitsB (x : Int32) : fits .byte (.int x.toInt8.toInt32) = true := own_fits_byte x
theorem own_retS {p : Program} {l : Launch} {e : Env} {R : Room} {s : State} {m : MethodId} {args : Array Value} {below : List Frame} {meth : Method} {c : Code} {T : State} {locs : List Loc} {cells slots : Nat} {vm₁ : Vm} (X : Stand p l e R (s.setVm vm₁) m args below meth c T locs cells slots) {n : Nat} (hS : s.Since vm₁ n) (hn : n ≤ T.heap.size)
    {v : Option Value} (hv : meth.sig.returnType = none → v = none) {S : State} {Z : State} {EL : List (String × Nat)} {Q : Option Value → Heap → List Loc → Prop} {C N : Nat}
    (k : ∀ fs, (∀ (f : JFrame) (acts : List Action), f.method = m → f.locked = none → f.entered = [] → (doReturn e (T.setTop f) acts v).1 = T.setFrames fs) → Steps p.tables e below S (T.setFrames fs)) (hq : Q v T.heap locs) (hR : CHr Z EL s.vm s.heap T.vm T.heap) (hc : cells ≤ C) (hs : slots ≤ N)
    (hlocks : meth.locks = false := by first | assumption | exact BodyLoose.notSynchronized (by assumption) | exact Body.notSynchronized (by assumption)) :
    own_Rn p e below (fun o U' => ∃ v L, o = .returned v ∧ Q v U'.heap L ∧ CHr Z EL s.vm s.heap U'.vm U'.heap ∧ ReturnedEndW s o U' L C N) S := by
  obtain ⟨fs, hr, hrun, hended, h1, h2, h3, h4⟩ := X.leaveW hS hn hv hlocks
  exact ⟨_, _, k fs hr, hrun, hended, _, _, rfl, hq, hR, h1, h2, h3, h4.mono hc hs⟩
theorem own_safeAt {Z : State} {EL : List (String × Nat)} {vm vm1 : Vm} {h : Heap} {x : Addr} (A : CHr Z EL vm h vm1 h) (S : Safe Z EL vm h x) : Safe Z EL vm1 h x := by
  rcases Nat.lt_or_ge x h.size with hx | hx
  · exact A.safe hx S
  · exact Safe.new hx
theorem own_backSH {p : Program} {l : Launch} {e : Env} {R : Room} {s : State} {args : Array Value} {below : List Frame} {Z : State} {a0 : Array Value} {EL : List (String × Nat)} {h : Heap} {vm0 : Vm} {sf : List Addr}
    {y : MethodName} {bytes : ByteArray} {maxL : Nat} {ret : Option FieldType} {rm : Room} {len W : Nat} {as' : Array Value} {Q : Option Value → Heap → List Loc → Prop}
    (hM : MetFree l y (head1 [Cond.code y bytes maxL ret] rm) (fun a U => a = as' ∧ Z.Warmed39 U.vm ∧ U.heap = h ∧ CHv Z EL U.vm h ∧ ∀ x ∈ sf, Safe Z EL U.vm h x) (fun _ _ _ _ _ => True) (fun _ U o U' => ∃ v L, o = .returned v ∧ Q v U'.heap L ∧ CHr Z EL U.vm U.heap U'.vm U'.heap ∧ ReturnedEndW U o U' L rm.cells rm.slots))
    (hZ : Z.Warmed39 vm0) (wc : (Cond.code y bytes maxL ret).before a0 Z = true) (wz : (Cond.initialized y.cls).before a0 Z = true) (hf : rm.frames + 1 ≤ R.frames) (hl : W + (maxL + 11) + rm.locals ≤ R.locals) (hEL : EW Z a0 EL) (H : CHv Z EL vm0 h) (hsf : ∀ x ∈ sf, Safe Z EL vm0 h x) :
    BackS l R p e below (s.setVm vm0) args y len W (fun A a => a = as' ∧ A.U.heap = h ∧ A.cells + rm.cells ≤ R.cells ∧ A.slots + rm.slots ≤ R.slots)
      (fun A _ v B => ∃ L, Q v B.U.heap L ∧ B.locs = A.locs ++ L ∧ B.cells = A.cells + rm.cells ∧ B.slots = A.slots + rm.slots ∧ CHr Z EL vm0 h B.U.vm B.U.heap) :=
  BackS.of_freeW (bytes := bytes) (maxL := maxL) (ret := ret) (E := fun _ first o t L k n => k = rm.cells ∧ n = rm.slots ∧ (∃ v, o = .returned v ∧ Q v t.heap L) ∧ CHr Z EL first.vm first.heap t.vm t.heap) hM hf hl
    (fun m meth c A a Y hp => have hU : Z.Warmed39 A.U.vm := wtrans (s := s.setVm vm0) hZ Y.warmed
      ⟨by show (Cond.and _ .tt).before a A.U = true; rw [Cond.before_and, mv hU wc]; rfl, mv hU wc, mv hU wz, hp.2.2.1, hp.2.2.2⟩)
    (fun m meth c A a g mk Y hp => ⟨hp.1, wtrans (s := s.setVm vm0) hZ Y.warmed, hp.2.1, (CHv.at Y hZ hEL H).1, fun x hx => show Safe Z EL A.U.vm h x from own_safeAt (CHv.at Y hZ hEL H) (hsf x hx)⟩) (fun _ _ _ _ _ _ _ _ _ => trivial)
    (fun _ _ _ _ ⟨v, L, h1, h2, h3, h4⟩ => ⟨L, _, _, h4, rfl, rfl, ⟨v, h1, h2⟩, h3⟩)
    (fun m meth c A a g mk v t L k n Y hp _ _ ⟨e1, e2, ⟨v', e3, e4⟩, e5⟩ => by
      cases e3; subst e1 e2
      refine ⟨L, e4, rfl, rfl, rfl, (CHv.at Y hZ hEL H).trans ?_⟩
      rw [← hp.2.1]; exact e5)
section OwnSteps
variable {p : Program} {l : Launch} {e : Env} {R : Room} {s : State} {m : MethodId} {args : Array Value} {below : List Frame} {meth : Method} {c : Code} {T : State} {locs : List Loc} {cells slots : Nat} {P : Outcome → State → Prop} {pc : Nat} {L : Array Slot} {S : List Value}
theorem own_il (X : Stand p l e R s m args below meth c T locs cells slots) (hx : p.tables.exec = Jvm.exec) {k : Nat} {v : Int32} (pc' : Nat) (hd : decode c.code pc = .ok (.iload k, 2)) (hp : pc + 2 = pc') (hl : L[k]? = some (.val (.int v))) (h : own_Rn p e below P (T.setTop (mkF m pc' L (.int v :: S)))) : own_Rn p e below P (T.setTop (mkF m pc L S)) := by
  subst hp; exact own_go (fun t k => XS.iload X.here hx rfl hd hl k) h
theorem own_iln (X : Stand p l e R s m args below meth c T locs cells slots) (hx : p.tables.exec = Jvm.exec) {k : Fin 4} {v : Int32} (pc' : Nat) (hd : decode c.code pc = .ok (.iload_n k, 1)) (hp : pc + 1 = pc') (hl : L[k.val]? = some (.val (.int v))) (h : own_Rn p e below P (T.setTop (mkF m pc' L (.int v :: S)))) : own_Rn p e below P (T.setTop (mkF m pc L S)) := by
  subst hp; exact own_go (fun t k => XS.iloadN X.here hx rfl hd hl k) h
theorem own_al (X : Stand p l e R s m args below meth c T locs cells slots) (hx : p.tables.exec = Jvm.exec) {k : Nat} {v : Value} (pc' : Nat) (hd : decode c.code pc = .ok (.aload k, 2)) (hp : pc + 2 = pc') (hl : L[k]? = some (.val v)) (hv : v.isRef = true) (h : own_Rn p e below P (T.setTop (mkF m pc' L (v :: S)))) : own_Rn p e below P (T.setTop (mkF m pc L S)) := by
  subst hp; exact own_go (fun t k => XS.aload X.here hx rfl hd hl hv k) h
theorem own_aln (X : Stand p l e R s m args below meth c T locs cells slots) (hx : p.tables.exec = Jvm.exec) {k : Fin 4} {v : Value} (pc' : Nat) (hd : decode c.code pc = .ok (.aload_n k, 1)) (hp : pc + 1 = pc') (hl : L[k.val]? = some (.val v)) (hv : v.isRef = true) (h : own_Rn p e below P (T.setTop (mkF m pc' L (v :: S)))) : own_Rn p e below P (T.setTop (mkF m pc L S)) := by
  subst hp; exact own_go (fun t k => XS.aloadN X.here hx rfl hd hl hv k) h
theorem own_is (X : Stand p l e R s m args below meth c T locs cells slots) (hx : p.tables.exec = Jvm.exec) {k : Nat} {x : Int32} (L' : Array Slot) (pc' : Nat) (hd : decode c.code pc = .ok (.istore k, 2)) (hp : pc + 2 = pc') (hl : storeLocals L k (.int x) = some L') (h : own_Rn p e below P (T.setTop (mkF m pc' L' S))) : own_Rn p e below P (T.setTop (mkF m pc L (.int x :: S))) := by
  subst hp; exact own_go (fun t k => XS.istore X.here hx rfl hd rfl hl k) h
theorem own_isn (X : Stand p l e R s m args below meth c T locs cells slots) (hx : p.tables.exec = Jvm.exec) {k : Fin 4} {x : Int32} (L' : Array Slot) (pc' : Nat) (hd : decode c.code pc = .ok (.istore_n k, 1)) (hp : pc + 1 = pc') (hl : storeLocals L k.val (.int x) = some L') (h : own_Rn p e below P (T.setTop (mkF m pc' L' S))) : own_Rn p e below P (T.setTop (mkF m pc L (.int x :: S))) := by
  subst hp; exact own_go (fun t k => XS.istoreN X.here hx rfl hd rfl hl k) h
theorem own_as (X : Stand p l e R s m args below meth c T locs cells slots) (hx : p.tables.exec = Jvm.exec) {k : Nat} {x : Value} (L' : Array Slot) (pc' : Nat) (hd : decode c.code pc = .ok (.astore k, 2)) (hp : pc + 2 = pc') (hv : x.isRef = true) (hl : storeLocals L k x = some L') (h : own_Rn p e below P (T.setTop (mkF m pc' L' S))) : own_Rn p e below P (T.setTop (mkF m pc L (x :: S))) := by
  subst hp; exact own_go (fun t k => XS.astore X.here hx rfl hd rfl hv hl k) h
theorem own_asn (X : Stand p l e R s m args below meth c T locs cells slots) (hx : p.tables.exec = Jvm.exec) {k : Fin 4} {x : Value} (L' : Array Slot) (pc' : Nat) (hd : decode c.code pc = .ok (.astore_n k, 1)) (hp : pc + 1 = pc') (hv : x.isRef = true) (hl : storeLocals L k.val x = some L') (h : own_Rn p e below P (T.setTop (mkF m pc' L' S))) : own_Rn p e below P (T.setTop (mkF m pc L (x :: S))) := by
  subst hp; exact own_go (fun t k => XS.astoreN X.here hx rfl hd rfl hv hl k) h
theorem own_ic (X : Stand p l e R s m args below meth c T locs cells slots) (hx : p.tables.exec = Jvm.exec) {i : Int} (v : Int32) (pc' : Nat) (hd : decode c.code pc = .ok (.iconst i, 1)) (hp : pc + 1 = pc') (hv : Int32.ofInt i = v) (h : own_Rn p e below P (T.setTop (mkF m pc' L (.int v :: S)))) : own_Rn p e below P (T.setTop (mkF m pc L S)) := by
  subst hp hv; exact own_go (fun t k => XS.iconst X.here hx rfl hd k) h
theorem own_bp (X : Stand p l e R s m args below meth c T locs cells slots) (hx : p.tables.exec = Jvm.exec) {i : Int} (v : Int32) (pc' : Nat) (hd : decode c.code pc = .ok (.bipush i, 2)) (hp : pc + 2 = pc') (hv : (Int8.ofInt i).toInt32 = v) (h : own_Rn p e below P (T.setTop (mkF m pc' L (.int v :: S)))) : own_Rn p e below P (T.setTop (mkF m pc L S)) := by
  subst hp hv; exact own_go (fun t k => XS.bipush X.here hx rfl hd k) h
theorem own_sp (X : Stand p l e R s m args below meth c T locs cells slots) (hx : p.tables.exec = Jvm.exec) {i : Int} (v : Int32) (pc' : Nat) (hd : decode c.code pc = .ok (.sipush i, 3)) (hp : pc + 3 = pc') (hv : (Int16.ofInt i).toInt32 = v) (h : own_Rn p e below P (T.setTop (mkF m pc' L (.int v :: S)))) : own_Rn p e below P (T.setTop (mkF m pc L S)) := by
  subst hp hv; exact own_go (fun t k => XS.sipush X.here hx rfl hd k) h
theorem own_iadd (X : Stand p l e R s m args below meth c T locs cells slots) (hx : p.tables.exec = Jvm.exec) {x y : Int32} (pc' : Nat) (hd : decode c.code pc = .ok (.iadd, 1)) (hp : pc + 1 = pc')  (h : own_Rn p e below P (T.setTop (mkF m pc' L (.int (x + y) :: S)))) : own_Rn p e below P (T.setTop (mkF m pc L (.int y :: .int x :: S))) := by
  subst hp; exact own_go (fun t k => XS.iadd X.here hx rfl hd rfl k) h
theorem own_isub (X : Stand p l e R s m args below meth c T locs cells slots) (hx : p.tables.exec = Jvm.exec) {x y : Int32} (pc' : Nat) (hd : decode c.code pc = .ok (.isub, 1)) (hp : pc + 1 = pc')  (h : own_Rn p e below P (T.setTop (mkF m pc' L (.int (x - y) :: S)))) : own_Rn p e below P (T.setTop (mkF m pc L (.int y :: .int x :: S))) := by
  subst hp; exact own_go (fun t k => XS.isub X.here hx rfl hd rfl k) h
theorem own_imul (X : Stand p l e R s m args below meth c T locs cells slots) (hx : p.tables.exec = Jvm.exec) {x y : Int32} (pc' : Nat) (hd : decode c.code pc = .ok (.imul, 1)) (hp : pc + 1 = pc')  (h : own_Rn p e below P (T.setTop (mkF m pc' L (.int (x * y) :: S)))) : own_Rn p e below P (T.setTop (mkF m pc L (.int y :: .int x :: S))) := by
  subst hp; exact own_go (fun t k => XS.imul X.here hx rfl hd rfl k) h
theorem own_iand (X : Stand p l e R s m args below meth c T locs cells slots) (hx : p.tables.exec = Jvm.exec) {x y : Int32} (pc' : Nat) (hd : decode c.code pc = .ok (.iand, 1)) (hp : pc + 1 = pc')  (h : own_Rn p e below P (T.setTop (mkF m pc' L (.int (x &&& y) :: S)))) : own_Rn p e below P (T.setTop (mkF m pc L (.int y :: .int x :: S))) := by
  subst hp; exact own_go (fun t k => XS.iand X.here hx rfl hd rfl k) h
theorem own_ior (X : Stand p l e R s m args below meth c T locs cells slots) (hx : p.tables.exec = Jvm.exec) {x y : Int32} (pc' : Nat) (hd : decode c.code pc = .ok (.ior, 1)) (hp : pc + 1 = pc')  (h : own_Rn p e below P (T.setTop (mkF m pc' L (.int (x ||| y) :: S)))) : own_Rn p e below P (T.setTop (mkF m pc L (.int y :: .int x :: S))) := by
  subst hp; exact own_go (fun t k => XS.ior X.here hx rfl hd rfl k) h
theorem own_ixor (X : Stand p l e R s m args below meth c T locs cells slots) (hx : p.tables.exec = Jvm.exec) {x y : Int32} (pc' : Nat) (hd : decode c.code pc = .ok (.ixor, 1)) (hp : pc + 1 = pc')  (h : own_Rn p e below P (T.setTop (mkF m pc' L (.int (x ^^^ y) :: S)))) : own_Rn p e below P (T.setTop (mkF m pc L (.int y :: .int x :: S))) := by
  subst hp; exact own_go (fun t k => XS.ixor X.here hx rfl hd rfl k) h
theorem own_dp (X : Stand p l e R s m args below meth c T locs cells slots) (hx : p.tables.exec = Jvm.exec) {x : Value} (pc' : Nat) (hd : decode c.code pc = .ok (.dup, 1)) (hp : pc + 1 = pc') (hc : x.category = 1) (h : own_Rn p e below P (T.setTop (mkF m pc' L (x :: x :: S)))) : own_Rn p e below P (T.setTop (mkF m pc L (x :: S))) := by
  subst hp; exact own_go (fun t k => XS.dup X.here hx rfl hd rfl hc k) h
theorem own_ii (X : Stand p l e R s m args below meth c T locs cells slots) (hx : p.tables.exec = Jvm.exec) {k : Nat} {cst : Int} {x : Int32} (L' : Array Slot) (pc' : Nat) (hd : decode c.code pc = .ok (.iinc k cst, 3)) (hp : pc + 3 = pc') (hl : L[k]? = some (.val (.int x))) (hl' : storeLocals L k (.int (x + Int32.ofInt cst)) = some L') (h : own_Rn p e below P (T.setTop (mkF m pc' L' S))) : own_Rn p e below P (T.setTop (mkF m pc L S)) := by
  subst hp; exact own_go (fun t k => XS.iinc X.here hx rfl hd hl hl' k) h
theorem own_gt (X : Stand p l e R s m args below meth c T locs cells slots) (hx : p.tables.exec = Jvm.exec) {o : Int} (pc' : Nat) (hd : decode c.code pc = .ok (.goto o, 3)) (ho : 0 ≤ (pc : Int) + o) (hp : ((pc : Int) + o).toNat = pc') (h : own_Rn p e below P (T.setTop (mkF m pc' L S))) : own_Rn p e below P (T.setTop (mkF m pc L S)) := own_go (fun t k => XS.goto X.here hx rfl rfl hd ho hp k) h
theorem own_ifY (X : Stand p l e R s m args below meth c T locs cells slots) (hx : p.tables.exec = Jvm.exec) {cd : ClassFile.Cond} {x : Int32} {o : Int} (pc' : Nat) (hd : decode c.code pc = .ok (.ifCond cd o, 3)) (hc : ifCond.holds cd x = true) (ho : 0 ≤ (pc : Int) + o) (hp : ((pc : Int) + o).toNat = pc') (h : own_Rn p e below P (T.setTop (mkF m pc' L S))) : own_Rn p e below P (T.setTop (mkF m pc L (.int x :: S))) := own_go (fun t k => XS.ifYes X.here hx rfl rfl hd rfl hc ho hp k) h
theorem own_icY (X : Stand p l e R s m args below meth c T locs cells slots) (hx : p.tables.exec = Jvm.exec) {cd : ClassFile.Cond} {x y : Int32} {o : Int} (pc' : Nat) (hd : decode c.code pc = .ok (.if_icmp cd o, 3)) (hc : if_icmp.holds cd x y = true) (ho : 0 ≤ (pc : Int) + o) (hp : ((pc : Int) + o).toNat = pc') (h : own_Rn p e below P (T.setTop (mkF m pc' L S))) : own_Rn p e below P (T.setTop (mkF m pc L (.int y :: .int x :: S))) := own_go (fun t k => XS.icmpYes X.here hx rfl rfl hd rfl hc ho hp k) h
theorem own_ifN (X : Stand p l e R s m args below meth c T locs cells slots) (hx : p.tables.exec = Jvm.exec) {cd : ClassFile.Cond} {o : Int} {x : Int32} (pc' : Nat) (hd : decode c.code pc = .ok (.ifCond cd o, 3)) (hp : pc + 3 = pc') (hc : ifCond.holds cd x = false) (h : own_Rn p e below P (T.setTop (mkF m pc' L S))) : own_Rn p e below P (T.setTop (mkF m pc L (.int x :: S))) := by
  subst hp; exact own_go (fun t k => XS.ifNo X.here hx rfl hd rfl hc k) h
theorem own_icN (X : Stand p l e R s m args below meth c T locs cells slots) (hx : p.tables.exec = Jvm.exec) {cd : ClassFile.Cond} {o : Int} {x y : Int32} (pc' : Nat) (hd : decode c.code pc = .ok (.if_icmp cd o, 3)) (hp : pc + 3 = pc') (hc : if_icmp.holds cd x y = false) (h : own_Rn p e below P (T.setTop (mkF m pc' L S))) : own_Rn p e below P (T.setTop (mkF m pc L (.int y :: .int x :: S))) := by
  subst hp; exact own_go (fun t k => XS.icmpNo X.here hx rfl hd rfl hc k) h
theorem own_ishl (X : Stand p l e R s m args below meth c T locs cells slots) (hx : p.tables.exec = Jvm.exec) {x y : Int32} (pc' : Nat) (hd : decode c.code pc = .ok (.ishl, 1)) (hp : pc + 1 = pc')  (h : own_Rn p e below P (T.setTop (mkF m pc' L (.int (x <<< (y &&& 31)) :: S)))) : own_Rn p e below P (T.setTop (mkF m pc L (.int y :: .int x :: S))) := by
  subst hp; exact own_go (fun t k => XS.ishl X.here hx rfl hd rfl k) h
theorem own_ishr (X : Stand p l e R s m args below meth c T locs cells slots) (hx : p.tables.exec = Jvm.exec) {x y : Int32} (pc' : Nat) (hd : decode c.code pc = .ok (.ishr, 1)) (hp : pc + 1 = pc')  (h : own_Rn p e below P (T.setTop (mkF m pc' L (.int (x >>> (y &&& 31)) :: S)))) : own_Rn p e below P (T.setTop (mkF m pc L (.int y :: .int x :: S))) := by
  subst hp; exact own_go (fun t k => XS.ishr X.here hx rfl hd rfl k) h
theorem own_iushr (X : Stand p l e R s m args below meth c T locs cells slots) (hx : p.tables.exec = Jvm.exec) {x y : Int32} (pc' : Nat) (hd : decode c.code pc = .ok (.iushr, 1)) (hp : pc + 1 = pc')  (h : own_Rn p e below P (T.setTop (mkF m pc' L (.int ((x.toUInt32 >>> (y &&& 31).toUInt32).toInt32) :: S)))) : own_Rn p e below P (T.setTop (mkF m pc L (.int y :: .int x :: S))) := by
  subst hp; exact own_go (fun t k => XS.iushr X.here hx rfl hd rfl k) h
theorem own_i2b (X : Stand p l e R s m args below meth c T locs cells slots) (hx : p.tables.exec = Jvm.exec) {x : Int32} (pc' : Nat) (hd : decode c.code pc = .ok (.i2b, 1)) (hp : pc + 1 = pc')  (h : own_Rn p e below P (T.setTop (mkF m pc' L (.int (x.toInt8.toInt32) :: S)))) : own_Rn p e below P (T.setTop (mkF m pc L (.int x :: S))) := by
  subst hp; exact own_go (fun t k => XS.i2b X.here hx rfl hd rfl k) h
theorem own_i2c (X : Stand p l e R s m args below meth c T locs cells slots) (hx : p.tables.exec = Jvm.exec) {x : Int32} (pc' : Nat) (hd : decode c.code pc = .ok (.i2c, 1)) (hp : pc + 1 = pc')  (h : own_Rn p e below P (T.setTop (mkF m pc' L (.int (x.toUInt32.toUInt16.toUInt32.toInt32) :: S)))) : own_Rn p e below P (T.setTop (mkF m pc L (.int x :: S))) := by
  subst hp; exact own_go (fun t k => XS.i2c X.here hx rfl hd rfl k) h
theorem own_idiv (X : Stand p l e R s m args below meth c T locs cells slots) (hx : p.tables.exec = Jvm.exec) {x y : Int32} (pc' : Nat) (hd : decode c.code pc = .ok (.idiv, 1)) (hp : pc + 1 = pc') (hy : y ≠ 0) (h : own_Rn p e below P (T.setTop (mkF m pc' L (.int (x / y) :: S)))) : own_Rn p e below P (T.setTop (mkF m pc L (.int y :: .int x :: S))) := by
  subst hp; exact own_go (fun t k => XS.idiv X.here hx rfl hd rfl hy k) h
theorem own_bal (X : Stand p l e R s m args below meth c T locs cells slots) (hx : p.tables.exec = Jvm.exec) {Z : State} {hh : Heap} (hZ : Z.Warmed39 s.vm) (eT : T.heap = hh) {a : Addr} {kc : ClassId} {n j : Int32} {vs : List Value} {d : Value} (A : Arv Z hh a kc .byte n vs d) (v : Int32) (pc' : Nat) (hd : decode c.code pc = .ok (.baload, 1)) (hp : pc + 1 = pc') (inb : ¬ j < 0 ∧ j < n) (at' : vs.getD j.toNatClampNeg d = .int v) (h : own_Rn p e below P (T.setTop (mkF m pc' L (.int v :: S)))) : own_Rn p e below P (T.setTop (mkF m pc L (.int j :: .ref a :: S))) := by
  subst hp
  obtain ⟨cl, Ar, q, Sz, Nn, Hs, G⟩ := A
  have i' := inb_of (j := j) Sz inb
  exact own_go (fun t k => X.baloadBytes hx (j := j) (v := .int v) (by rw [eT]; exact Ar.1) (State.isArrayOf_alike hZ.alike Ar.2.1) Ar.2.2 i' (Hs.at i' at') (g := mkF m pc L (.int j :: .ref a :: S)) rfl rfl hd t k) h
theorem own_cal (X : Stand p l e R s m args below meth c T locs cells slots) (hx : p.tables.exec = Jvm.exec) {Z : State} {hh : Heap} (hZ : Z.Warmed39 s.vm) (eT : T.heap = hh) {a : Addr} {kc : ClassId} {n j : Int32} {vs : List Value} {d : Value} (A : Arv Z hh a kc .char n vs d) (v : Int32) (pc' : Nat) (hd : decode c.code pc = .ok (.caload, 1)) (hp : pc + 1 = pc') (inb : ¬ j < 0 ∧ j < n) (at' : vs.getD j.toNatClampNeg d = .int v) (h : own_Rn p e below P (T.setTop (mkF m pc' L (.int v :: S)))) : own_Rn p e below P (T.setTop (mkF m pc L (.int j :: .ref a :: S))) := by
  subst hp
  obtain ⟨cl, Ar, q, Sz, Nn, Hs, G⟩ := A
  have i' := inb_of (j := j) Sz inb
  exact own_go (fun t k => X.caload hx (j := j) (v := .int v) (by rw [eT]; exact Ar.1) (State.isArrayOf_alike hZ.alike Ar.2.1) Ar.2.2 i' (Hs.at i' at') (g := mkF m pc L (.int j :: .ref a :: S)) rfl rfl hd t k) h
theorem own_ial (X : Stand p l e R s m args below meth c T locs cells slots) (hx : p.tables.exec = Jvm.exec) {Z : State} {hh : Heap} (hZ : Z.Warmed39 s.vm) (eT : T.heap = hh) {a : Addr} {kc : ClassId} {n j : Int32} {vs : List Value} {d : Value} (A : Arv Z hh a kc .int n vs d) (v : Int32) (pc' : Nat) (hd : decode c.code pc = .ok (.iaload, 1)) (hp : pc + 1 = pc') (inb : ¬ j < 0 ∧ j < n) (at' : vs.getD j.toNatClampNeg d = .int v) (h : own_Rn p e below P (T.setTop (mkF m pc' L (.int v :: S)))) : own_Rn p e below P (T.setTop (mkF m pc L (.int j :: .ref a :: S))) := by
  subst hp
  obtain ⟨cl, Ar, q, Sz, Nn, Hs, G⟩ := A
  have i' := inb_of (j := j) Sz inb
  exact own_go (fun t k => X.iaload hx (j := j) (v := .int v) (by rw [eT]; exact Ar.1) (State.isArrayOf_alike hZ.alike Ar.2.1) Ar.2.2 i' (Hs.at i' at') (g := mkF m pc L (.int j :: .ref a :: S)) rfl rfl hd t k) h
theorem own_alen (X : Stand p l e R s m args below meth c T locs cells slots) (hx : p.tables.exec = Jvm.exec) {Z : State} {hh : Heap} (hZ : Z.Warmed39 s.vm) (eT : T.heap = hh) {a : Addr} {kc : ClassId} {n : Int32} {ty : FieldType} {vs : List Value} {d : Value} (A : Arv Z hh a kc ty n vs d) (pc' : Nat) (hd : decode c.code pc = .ok (.arraylength, 1)) (hp : pc + 1 = pc') (h : own_Rn p e below P (T.setTop (mkF m pc' L (.int n :: S)))) : own_Rn p e below P (T.setTop (mkF m pc L (.ref a :: S))) := by
  subst hp
  obtain ⟨cl, Ar, q, Sz, Nn, Hs, G⟩ := A
  rw [← len_of Sz Nn] at h
  exact own_go (fun t k => X.arraylength hx (cell := cl) (by rw [eT]; exact Ar.1) (State.isArrayOf_alike hZ.alike Ar.2.1) (g := mkF m pc L (.ref a :: S)) rfl rfl hd t k) h
theorem own_gF (X : Stand p l e R s m args below meth c T locs cells slots) (hx : p.tables.exec = Jvm.exec) {Z : State} {a0 : Array Value} {hh : Heap} (hZ : Z.Warmed39 s.vm) {own R0 O n d host : String} {index : Nat} (hown : s.vm.findClass own = some m.cls) (w : (Cond.fieldLink own index R0 n d).before a0 Z = true ∨ (Cond.fieldLinkNest own index R0 n d host).before a0 Z = true) (via : Via Z R0 O n d) (eT : T.heap = hh) {a : Addr} {v : Value} (F : Fld Z hh a O n d v) (pc' : Nat) (hd : decode c.code pc = .ok (.getfield index, 3)) (hp : pc + 3 = pc') (h : ∀ T', Stand p l e R s m args below meth c T' locs cells slots → T'.heap = hh → own_Rn p e below P (T'.setTop (mkF m pc' L (v :: S)))) : own_Rn p e below P (T.setTop (mkF m pc L (.ref a :: S))) := by
  subst hp
  obtain ⟨T', X', e', st⟩ := getF X hx hZ hown w via eT F (g := mkF m pc L (.ref a :: S)) rfl rfl hd
  exact own_go st (h T' X' e')
theorem own_gS (X : Stand p l e R s m args below meth c T locs cells slots) (hx : p.tables.exec = Jvm.exec) {Z : State} {a0 : Array Value} {hh : Heap} (hZ : Z.Warmed39 s.vm) {own R0 O n d host : String} {index : Nat} (hown : s.vm.findClass own = some m.cls) (w : (Cond.fieldLink own index R0 n d).before a0 Z = true ∨ (Cond.fieldLinkNest own index R0 n d host).before a0 Z = true) (via : Via Z R0 O n d) (eT : T.heap = hh) {v : Value} (F : Sta Z hh O n d v) (pc' : Nat) (hd : decode c.code pc = .ok (.getstatic index, 3)) (hp : pc + 3 = pc') (h : ∀ T', Stand p l e R s m args below meth c T' locs cells slots → T'.heap = hh → own_Rn p e below P (T'.setTop (mkF m pc' L (v :: S)))) : own_Rn p e below P (T.setTop (mkF m pc L S)) := by
  subst hp
  obtain ⟨T', X', e', st⟩ := getS2 X hx hZ hown w via eT F (g := mkF m pc L S) rfl hd
  exact own_go st (h T' X' e')
end OwnSteps
section OwnCalls
variable {p : Program} {l : Launch} {e : Env} {R : Room} {s : State} {m : MethodId} {args : Array Value} {below : List Frame} {meth : Method} {c : Code} {T : State} {locs : List Loc} {cells slots : Nat} {P : Outcome → State → Prop} {pc : Nat} {L : Array Slot} {S : List Value} {Z : State} {a0 : Array Value} {hh : Heap} {own : String} {index : Nat} {y z : MethodName} {bytes : ByteArray} {maxL : Nat} {ret : Option FieldType} {hands : List (Nat × Nat × Nat × Nat)} {rm : Room} {as' : Array Value} {Q : Option Value → Heap → List Loc → Prop}
theorem own_cS (X : Stand p l e R s m args below meth c T locs cells slots) (hx : p.tables.exec = Jvm.exec) (hZ : Z.Warmed39 s.vm) (hown : s.vm.findClass own = some m.cls) (w1 : (Cond.methodLink own index y).before a0 Z = true) (w2 : (Cond.static y).before a0 Z = true) (w3 : (Cond.initialized y.cls).before a0 Z = true) (w4 : (Cond.code y bytes maxL ret).before a0 Z = true) (hy : y.cls ≠ "java/lang/invoke/MethodHandle" ∧ y.cls ≠ "java/lang/invoke/VarHandle") (hM : MetFree l y (head1 [Cond.code y bytes maxL ret] rm) (fun a U => a = as' ∧ Z.Warmed39 U.vm ∧ U.heap = hh) (fun _ _ _ _ _ => True) (fun _ U o U' => ∃ v L, o = .returned v ∧ Q v U'.heap L ∧ FrameEnd U o U' L rm.cells rm.slots)) (eT : T.heap = hh) (argsL rest : List Value) (has : argsL.toArray = as') (hsz : L.size = c.maxLocals) (hlen : ∀ sig, parseMethodDescriptor y.desc = some sig → argsL.length = sig.parameters.length) (hst : S = argsL.reverse ++ rest) (W : Nat) (hW : (rest.map fun v => v.category).sum ≤ W) (hf : rm.frames + 1 ≤ R.frames) (hl : W + (maxL + 11) + rm.locals ≤ R.locals) (hc : cells + rm.cells ≤ R.cells) (hs : slots + rm.slots ≤ R.slots) (pc' : Nat) (hd : decode c.code pc = .ok (.invokestatic index, 3)) (hp : pc + 3 = pc') (C N : Nat) (hC : cells + rm.cells = C) (hN : slots + rm.slots = N)
    (h : ∀ v T' L', Stand p l e R s m args below meth c T' (locs ++ L') C N → Q v T'.heap L' → own_Rn p e below P (T'.setTop (mkF m pc' L (v.toList ++ rest)))) : own_Rn p e below P (T.setTop (mkF m pc L S)) := by
  subst hp hC hN has hst
  obtain ⟨v, _, ⟨T1, L1, k1, n1⟩, -, X1, ⟨Lc, hQ, q1, q2, q3⟩, st⟩ := Jvm.LawKit.callS X hx hown (mvT hZ w1) (mvT hZ w2) (mvT hZ w3) (mvT hZ w4) hy (backOf (W := W) hM hZ w4 w3 hf hl) (g := mkF m pc L (argsL.reverse ++ rest)) rfl hsz hlen rfl (by show 2 * 0 + _ ≤ W; rw [Nat.mul_zero, Nat.zero_add]; exact hW) hd (fun _ _ => ⟨rfl, eT, hc, hs⟩)
  dsimp only [Pt.U, Pt.locs, Pt.cells, Pt.slots] at X1 q1 q2 q3 st hQ
  subst q1 q2 q3
  exact own_go st (h v T1 Lc X1 hQ)
theorem own_cSW (X : Stand p l e R s m args below meth c T locs cells slots) (hx : p.tables.exec = Jvm.exec) (hZ : Z.Warmed39 s.vm) (hown : s.vm.findClass own = some m.cls) (w1 : (Cond.methodLink own index y).before a0 Z = true) (w2 : (Cond.static y).before a0 Z = true) (w3 : (Cond.initialized y.cls).before a0 Z = true) (w4 : (Cond.codeWith y bytes maxL ret hands).before a0 Z = true) (hy : y.cls ≠ "java/lang/invoke/MethodHandle" ∧ y.cls ≠ "java/lang/invoke/VarHandle") (hM : MetFree l y (head1 [Cond.codeWith y bytes maxL ret hands] rm) (fun a U => a = as' ∧ Z.Warmed39 U.vm ∧ U.heap = hh) (fun _ _ _ _ _ => True) (fun _ U o U' => ∃ v L, o = .returned v ∧ Q v U'.heap L ∧ FrameEnd U o U' L rm.cells rm.slots)) (eT : T.heap = hh) (argsL rest : List Value) (has : argsL.toArray = as') (hsz : L.size = c.maxLocals) (hlen : ∀ sig, parseMethodDescriptor y.desc = some sig → argsL.length = sig.parameters.length) (hst : S = argsL.reverse ++ rest) (W : Nat) (hW : (rest.map fun v => v.category).sum ≤ W) (hf : rm.frames + 1 ≤ R.frames) (hl : W + (maxL + 11) + rm.locals ≤ R.locals) (hc : cells + rm.cells ≤ R.cells) (hs : slots + rm.slots ≤ R.slots) (pc' : Nat) (hd : decode c.code pc = .ok (.invokestatic index, 3)) (hp : pc + 3 = pc') (C N : Nat) (hC : cells + rm.cells = C) (hN : slots + rm.slots = N)
    (h : ∀ v T' L', Stand p l e R s m args below meth c T' (locs ++ L') C N → Q v T'.heap L' → own_Rn p e below P (T'.setTop (mkF m pc' L (v.toList ++ rest)))) : own_Rn p e below P (T.setTop (mkF m pc L S)) := by
  subst hp hC hN has hst
  obtain ⟨v, _, ⟨T1, L1, k1, n1⟩, -, X1, ⟨Lc, hQ, q1, q2, q3⟩, st⟩ := Jvm.RoadKit.callSH X hx hown (mvT hZ w1) (mvT hZ w2) (mvT hZ w3) (mvT hZ w4) hy (backOfWith (W := W) hM hZ w4 w3 hf hl) (g := mkF m pc L (argsL.reverse ++ rest)) rfl hsz hlen rfl (by show 2 * 0 + _ ≤ W; rw [Nat.mul_zero, Nat.zero_add]; exact hW) hd (fun _ _ => ⟨rfl, eT, hc, hs⟩)
  dsimp only [Pt.U, Pt.locs, Pt.cells, Pt.slots] at X1 q1 q2 q3 st hQ
  subst q1 q2 q3
  exact own_go st (h v T1 Lc X1 hQ)
theorem own_cI (X : Stand p l e R s m args below meth c T locs cells slots) (hx : p.tables.exec = Jvm.exec) (hZ : Z.Warmed39 s.vm) (hy1 : y.name = "<init>") (hown : s.vm.findClass own = some m.cls) (w1 : (Cond.methodLink own index y).before a0 Z = true) (w2 : (Cond.instanceMethod y).before a0 Z = true) (w4 : (Cond.code y bytes maxL none).before a0 Z = true) (w3 : (Cond.initialized y.cls).before a0 Z = true) (hy : y.cls ≠ "java/lang/invoke/MethodHandle" ∧ y.cls ≠ "java/lang/invoke/VarHandle") (hM : MetFree l y (head1 [Cond.code y bytes maxL none] rm) (fun a U => a = as' ∧ Z.Warmed39 U.vm ∧ U.heap = hh) (fun _ _ _ _ _ => True) (fun _ U o U' => ∃ v L, o = .returned v ∧ Q v U'.heap L ∧ FrameEnd U o U' L rm.cells rm.slots)) {a : Addr} (eT : T.heap = hh) (argsL rest : List Value) (has : (.ref a :: argsL).toArray = as') (hsz : L.size = c.maxLocals) (hlen : ∀ sig, parseMethodDescriptor y.desc = some sig → argsL.length = sig.parameters.length) (hst : S = argsL.reverse ++ .ref a :: rest) (W : Nat) (hW : (rest.map fun v => v.category).sum ≤ W) (hf : rm.frames + 1 ≤ R.frames) (hl : W + (maxL + 11) + rm.locals ≤ R.locals) (hc : cells + rm.cells ≤ R.cells) (hs : slots + rm.slots ≤ R.slots) (pc' : Nat) (hd : decode c.code pc = .ok (.invokespecial index, 3)) (hp : pc + 3 = pc') (C N : Nat) (hC : cells + rm.cells = C) (hN : slots + rm.slots = N)
    (h : ∀ v T' L', Stand p l e R s m args below meth c T' (locs ++ L') C N → Q v T'.heap L' → own_Rn p e below P (T'.setTop (mkF m pc' L (v.toList ++ rest)))) : own_Rn p e below P (T.setTop (mkF m pc L S)) := by
  subst hp hC hN has hst
  obtain ⟨v, _, ⟨T1, L1, k1, n1⟩, -, X1, ⟨Lc, hQ, q1, q2, q3⟩, st⟩ := X.specialBack hx hy1 hown (mvT hZ w1) (mvT hZ w2) (mvT hZ w4) hy (backOf (W := W) hM hZ w4 w3 hf hl) (g := mkF m pc L (argsL.reverse ++ .ref a :: rest)) rfl hsz (Steps.refl _) (a := a) hlen rfl (by show 2 * 0 + _ ≤ W; rw [Nat.mul_zero, Nat.zero_add]; exact hW) hd (fun _ _ => ⟨rfl, eT, hc, hs⟩)
  dsimp only [Pt.U, Pt.locs, Pt.cells, Pt.slots] at X1 q1 q2 q3 st hQ
  subst q1 q2 q3
  exact own_go (fun t k => st.trans k) (h v T1 Lc X1 hQ)
theorem own_cV (X : Stand p l e R s m args below meth c T locs cells slots) (hx : p.tables.exec = Jvm.exec) (hZ : Z.Warmed39 s.vm) {CN : String} (hown : s.vm.findClass own = some m.cls) (w1 : (Cond.methodLink own index y).before a0 Z = true) (w2 : (Cond.declares y).before a0 Z = true) (hnf : NotFace s y) (w5 : (Cond.selects CN y z).before a0 Z = true) (w6 : (Cond.instanceMethod z).before a0 Z = true) (w4 : (Cond.code z bytes maxL ret).before a0 Z = true) (w3 : (Cond.initialized z.cls).before a0 Z = true) (hy : y.cls ≠ "java/lang/invoke/MethodHandle" ∧ y.cls ≠ "java/lang/invoke/VarHandle") (hM : MetFree l z (head1 [Cond.code z bytes maxL ret] rm) (fun a U => a = as' ∧ Z.Warmed39 U.vm ∧ U.heap = hh) (fun _ _ _ _ _ => True) (fun _ U o U' => ∃ v L, o = .returned v ∧ Q v U'.heap L ∧ FrameEnd U o U' L rm.cells rm.slots)) {a : Addr} (Ex : Exa Z hh a CN) (eT : T.heap = hh) (argsL rest : List Value) (has : (.ref a :: argsL).toArray = as') (hsz : L.size = c.maxLocals) (hlen : ∀ sig, parseMethodDescriptor y.desc = some sig → argsL.length = sig.parameters.length) (hst : S = argsL.reverse ++ .ref a :: rest) (W : Nat) (hW : (rest.map fun v => v.category).sum ≤ W) (hf : rm.frames + 1 ≤ R.frames) (hl : W + (maxL + 11) + rm.locals ≤ R.locals) (hc : cells + rm.cells ≤ R.cells) (hs : slots + rm.slots ≤ R.slots) (pc' : Nat) (hd : decode c.code pc = .ok (.invokevirtual index, 3)) (hp : pc + 3 = pc') (C N : Nat) (hC : cells + rm.cells = C) (hN : slots + rm.slots = N)
    (h : ∀ v T' L', Stand p l e R s m args below meth c T' (locs ++ L') C N → Q v T'.heap L' → own_Rn p e below P (T'.setTop (mkF m pc' L (v.toList ++ rest)))) : own_Rn p e below P (T.setTop (mkF m pc L S)) := by
  subst hp hC hN has hst
  obtain ⟨cB, kB, a1, a2, a3⟩ := isOf hZ eT Ex
  obtain ⟨v, _, ⟨T1, L1, k1, n1⟩, -, X1, ⟨Lc, hQ, q1, q2, q3⟩, st⟩ := X.virtualBack hx (y := y) (z := z) hown (mvT hZ w1) (mvT hZ w2) hnf (mvT hZ w5) (mvT hZ w6) hy (backOf (W := W) hM hZ w4 w3 hf hl) a1 a3 (g := mkF m pc L (argsL.reverse ++ .ref a :: rest)) rfl hsz (Steps.refl _) hlen rfl (by show 2 * 0 + _ ≤ W; rw [Nat.mul_zero, Nat.zero_add]; exact hW) hd (fun _ _ => ⟨rfl, eT, hc, hs⟩)
  dsimp only [Pt.U, Pt.locs, Pt.cells, Pt.slots] at X1 q1 q2 q3 st hQ
  subst q1 q2 q3
  exact own_go (fun t k => st.trans k) (h v T1 Lc X1 hQ)
theorem own_cVW (X : Stand p l e R s m args below meth c T locs cells slots) (hx : p.tables.exec = Jvm.exec) (hZ : Z.Warmed39 s.vm) {CN : String} (hown : s.vm.findClass own = some m.cls) (w1 : (Cond.methodLink own index y).before a0 Z = true) (w2 : (Cond.declares y).before a0 Z = true) (hnf : NotFace s y) (w5 : (Cond.selects CN y z).before a0 Z = true) (w6 : (Cond.instanceMethod z).before a0 Z = true) (w4 : (Cond.codeWith z bytes maxL ret hands).before a0 Z = true) (w3 : (Cond.initialized z.cls).before a0 Z = true) (hy : y.cls ≠ "java/lang/invoke/MethodHandle" ∧ y.cls ≠ "java/lang/invoke/VarHandle") (hM : MetFree l z (head1 [Cond.codeWith z bytes maxL ret hands] rm) (fun a U => a = as' ∧ Z.Warmed39 U.vm ∧ U.heap = hh) (fun _ _ _ _ _ => True) (fun _ U o U' => ∃ v L, o = .returned v ∧ Q v U'.heap L ∧ FrameEnd U o U' L rm.cells rm.slots)) {a : Addr} (Ex : Exa Z hh a CN) (eT : T.heap = hh) (argsL rest : List Value) (has : (.ref a :: argsL).toArray = as') (hsz : L.size = c.maxLocals) (hlen : ∀ sig, parseMethodDescriptor y.desc = some sig → argsL.length = sig.parameters.length) (hst : S = argsL.reverse ++ .ref a :: rest) (W : Nat) (hW : (rest.map fun v => v.category).sum ≤ W) (hf : rm.frames + 1 ≤ R.frames) (hl : W + (maxL + 11) + rm.locals ≤ R.locals) (hc : cells + rm.cells ≤ R.cells) (hs : slots + rm.slots ≤ R.slots) (pc' : Nat) (hd : decode c.code pc = .ok (.invokevirtual index, 3)) (hp : pc + 3 = pc') (C N : Nat) (hC : cells + rm.cells = C) (hN : slots + rm.slots = N)
    (h : ∀ v T' L', Stand p l e R s m args below meth c T' (locs ++ L') C N → Q v T'.heap L' → own_Rn p e below P (T'.setTop (mkF m pc' L (v.toList ++ rest)))) : own_Rn p e below P (T.setTop (mkF m pc L S)) := by
  subst hp hC hN has hst
  obtain ⟨cB, kB, a1, a2, a3⟩ := isOf hZ eT Ex
  obtain ⟨v, _, ⟨T1, L1, k1, n1⟩, -, X1, ⟨Lc, hQ, q1, q2, q3⟩, st⟩ := X.virtualBack hx (y := y) (z := z) hown (mvT hZ w1) (mvT hZ w2) hnf (mvT hZ w5) (mvT hZ w6) hy (backOfWith (W := W) hM hZ w4 w3 hf hl) a1 a3 (g := mkF m pc L (argsL.reverse ++ .ref a :: rest)) rfl hsz (Steps.refl _) hlen rfl (by show 2 * 0 + _ ≤ W; rw [Nat.mul_zero, Nat.zero_add]; exact hW) hd (fun _ _ => ⟨rfl, eT, hc, hs⟩)
  dsimp only [Pt.U, Pt.locs, Pt.cells, Pt.slots] at X1 q1 q2 q3 st hQ
  subst q1 q2 q3
  exact own_go (fun t k => st.trans k) (h v T1 Lc X1 hQ)
theorem own_cP (X : Stand p l e R s m args below meth c T locs cells slots) (hx : p.tables.exec = Jvm.exec) (hZ : Z.Warmed39 s.vm) {CN : String} (hown : s.vm.findClass own = some m.cls) (w1 : (Cond.methodLink own index y).before a0 Z = true) (w6 : (Cond.instanceMethod y).before a0 Z = true) (w5 : (Cond.selects y.cls y y).before a0 Z = true) (w7 : (Cond.privateMethod y).before a0 Z = true) (w4 : (Cond.code y bytes maxL ret).before a0 Z = true) (w3 : (Cond.initialized y.cls).before a0 Z = true) (hy : y.cls ≠ "java/lang/invoke/MethodHandle" ∧ y.cls ≠ "java/lang/invoke/VarHandle") (hM : MetFree l y (head1 [Cond.code y bytes maxL ret] rm) (fun a U => a = as' ∧ Z.Warmed39 U.vm ∧ U.heap = hh) (fun _ _ _ _ _ => True) (fun _ U o U' => ∃ v L, o = .returned v ∧ Q v U'.heap L ∧ FrameEnd U o U' L rm.cells rm.slots)) {a : Addr} (Ex : Exa Z hh a CN) (eT : T.heap = hh) (argsL rest : List Value) (has : (.ref a :: argsL).toArray = as') (hsz : L.size = c.maxLocals) (hlen : ∀ sig, parseMethodDescriptor y.desc = some sig → argsL.length = sig.parameters.length) (hst : S = argsL.reverse ++ .ref a :: rest) (W : Nat) (hW : (rest.map fun v => v.category).sum ≤ W) (hf : rm.frames + 1 ≤ R.frames) (hl : W + (maxL + 11) + rm.locals ≤ R.locals) (hc : cells + rm.cells ≤ R.cells) (hs : slots + rm.slots ≤ R.slots) (pc' : Nat) (hd : decode c.code pc = .ok (.invokevirtual index, 3)) (hp : pc + 3 = pc') (C N : Nat) (hC : cells + rm.cells = C) (hN : slots + rm.slots = N)
    (h : ∀ v T' L', Stand p l e R s m args below meth c T' (locs ++ L') C N → Q v T'.heap L' → own_Rn p e below P (T'.setTop (mkF m pc' L (v.toList ++ rest)))) : own_Rn p e below P (T.setTop (mkF m pc L S)) := by
  subst hp hC hN has hst
  obtain ⟨cq, a1, a2⟩ := Ex.cell
  obtain ⟨v, _, ⟨T1, L1, k1, n1⟩, -, X1, ⟨Lc, hQ, q1, q2, q3⟩, st⟩ := X.privateBack hx (y := y) hown (mvT hZ w1) (mvT hZ w6) (mvT hZ w5) (Cond.privateMethod_at (mvP hZ w7 (args := #[]))) (mvT hZ w4) hy (backOf (W := W) hM hZ w4 w3 hf hl) (g := mkF m pc L (argsL.reverse ++ .ref a :: rest)) rfl hsz (Steps.refl _) (a := a) (by rw [eT]; exact a1) a2 hlen rfl (by show 2 * 0 + _ ≤ W; rw [Nat.mul_zero, Nat.zero_add]; exact hW) hd (fun _ _ => ⟨rfl, eT, hc, hs⟩)
  dsimp only [Pt.U, Pt.locs, Pt.cells, Pt.slots] at X1 q1 q2 q3 st hQ
  subst q1 q2 q3
  exact own_go (fun t k => st.trans k) (h v T1 Lc X1 hQ)
end OwnCalls
theorem own_and255 (x : Int32) : ¬ (x &&& (255 : Int32)) < 0 ∧ ¬ (255 : Int32) < (x &&& (255 : Int32)) := by
  have h := c_and x 255 (by decide)
  have e2 : (255 : Int32).toInt = 255 := rfl
  rw [Int32.lt_iff_toInt_lt, Int32.lt_iff_toInt_lt]
  have e0 : (0 : Int32).toInt = 0 := rfl
  omega
theorem own_c16 (r : Int32) (h : ¬ r < 0 ∧ ¬ (65535 : Int32) < r) : r.toUInt32.toUInt16.toUInt32.toInt32 = r := by
  have h1 := c_i2c r
  rw [Int32.lt_iff_toInt_lt, Int32.lt_iff_toInt_lt] at h
  have e2 : (65535 : Int32).toInt = 65535 := rfl
  have e0 : (0 : Int32).toInt = 0 := rfl
  apply Int32.toInt_inj.mp
  omega
theorem own_up (r : Int32) (h : ¬ r < 0 ∧ ¬ (255 : Int32) < r) : ¬ r < 0 ∧ ¬ (65535 : Int32) < r := by
  rw [Int32.lt_iff_toInt_lt, Int32.lt_iff_toInt_lt] at *
  have e2 : (65535 : Int32).toInt = 65535 := rfl
  have e3 : (255 : Int32).toInt = 255 := rfl
  have e0 : (0 : Int32).toInt = 0 := rfl
  omega
theorem own_narC (r : Int32) (h : ¬ r < 0 ∧ ¬ (255 : Int32) < r) : nar .char r = r := own_c16 r (own_up r h)
theorem own_chr (x : Int32) : ((x &&& (255 : Int32)).toUInt32.toUInt16.toUInt32.toInt32) = x &&& 255 := own_c16 _ (own_up _ (own_and255 x))
theorem own_chr_rng (x : Int32) : ¬ ((x &&& (255 : Int32)).toUInt32.toUInt16.toUInt32.toInt32) < 0 ∧ ¬ (255 : Int32) < ((x &&& (255 : Int32)).toUInt32.toUInt16.toUInt32.toInt32) := by rw [own_chr]; exact own_and255 x
theorem own_narB (x : Int32) : nar .byte (x.toInt8.toInt32) = x.toInt8.toInt32 := by
  show (x.toInt8.toInt32).toInt8.toInt32 = x.toInt8.toInt32
  rw [Int8.toInt8_toInt32]
theorem own_shr0 (x : Int32) : x >>> ((0 : Int32) &&& 31) = x := by
  apply Int32.toInt_inj.mp
  rw [c_ishr x 0 0 rfl]; simp
theorem own_shl0 (x : Int32) : x <<< ((0 : Int32) &&& 31) = x := by
  show x <<< (0 : Int32) = x
  simp
abbrev own_bs (cs : List Int32) : List Value := (cs.map (fun c => c.toInt8.toInt32)).map Value.int
theorem own_bs_len (cs : List Int32) : (own_bs cs).length = cs.length := by simp [own_bs]
theorem own_bs_app (cs ds : List Int32) : own_bs (cs ++ ds) = own_bs cs ++ own_bs ds := by simp [own_bs]
theorem own_range_getD (vs : List Value) (d : Value) : (List.range vs.length).map (fun i => vs.getD (0 + i) d) = vs := by
  apply List.ext_getElem
  · simp
  · intro i h1 h2
    simp [List.getD_eq_getElem?_getD, h2]
theorem own_clampN {n : Nat} (h : n < 2147483648) : (Int32.ofNat n).toNatClampNeg = n := Int32.toNatClampNeg_ofNat_of_lt h
theorem own_nneg {n : Nat} (h : n < 2147483648) : ¬ Int32.ofNat n < 0 := by
  rw [Int32.lt_iff_toInt_lt, Int32.toInt_ofNat_small (by omega)]
  have e0 : (0 : Int32).toInt = 0 := rfl
  omega
theorem own_ofNat_add (a b : Nat) : Int32.ofNat (a + b) = Int32.ofNat a + Int32.ofNat b := Int32.ofNat_add a b
theorem own_le15 {n : Nat} (h : n ≤ 15) : ¬ (0 : Int32) < Int32.ofNat n - 16 := by
  have c := c_isub (Int32.ofNat n) 16
  rw [Int32.toInt_ofNat_small (by omega), show (16 : Int32).toInt = 16 from rfl] at c
  have r := rng32 (Int32.ofNat n - 16)
  rw [Int32.lt_iff_toInt_lt, show (0 : Int32).toInt = 0 from rfl]
  omega
theorem own_lt16 {n : Nat} (h : n ≤ 15) : Int32.ofNat n < (16 : Int32) := by
  rw [Int32.lt_iff_toInt_lt, Int32.toInt_ofNat_small (by omega), show (16 : Int32).toInt = 16 from rfl]; omega
theorem own_ne16 {n : Nat} (h : n ≤ 15) : ¬ Int32.ofNat n = (16 : Int32) := by
  intro e
  have := congrArg Int32.toInt e
  rw [Int32.toInt_ofNat_small (by omega), show (16 : Int32).toInt = 16 from rfl] at this
  omega
theorem own_us (ds : List Int32) (h : ds.length < 2147483648) : own_bs ds = (List.range (Int32.ofNat ds.length).toNatClampNeg).map fun i => (own_bs ds).getD ((0 : Int32).toNatClampNeg + i) (.int 0) := by
  rw [own_clampN h]
  have e : (0 : Int32).toNatClampNeg = 0 := rfl
  rw [e, ← own_bs_len ds, own_range_getD]
theorem own_cat {Z : State} {h : Heap} {b : Addr} {k : ClassId} {z : Int32} {cs ds es : List Int32} {dp nn : Int32} {m : Nat} (hes : es = cs ++ ds) (h16 : cs.length < 2147483648 ∧ ds.length < 2147483648) (hm : ds.length ≤ m) (hd : dp = Int32.ofNat cs.length) (hn : nn = Int32.ofNat ds.length)
    (F : Arv Z h b k .byte z ((own_bs cs ++ List.replicate m (Value.int 0)).take dp.toNatClampNeg ++ own_bs ds ++ (own_bs cs ++ List.replicate m (Value.int 0)).drop (dp.toNatClampNeg + nn.toNatClampNeg)) (.int 0)) : Arv Z h b k .byte z (own_bs es) (.int 0) := by
  subst hd hn
  rw [own_clampN h16.1, own_clampN h16.2] at F
  have e1 : (own_bs cs ++ List.replicate m (Value.int 0)).take cs.length = own_bs cs := by
    rw [← own_bs_len cs, List.take_left]
  have e2 : (own_bs cs ++ List.replicate m (Value.int 0)).drop (cs.length + ds.length) = List.replicate (m - ds.length) (.int 0) := by
    rw [← own_bs_len cs, List.drop_append, List.drop_replicate]
    simp
  rw [e1, e2, ← own_bs_app, ← hes] at F
  exact F.pad (fun i => (pad_rep (own_bs es) (.int 0) (m - ds.length) i).symm)
theorem own_notI {Z : State} {a0 : Array Value} {C : String} {x z : MethodName} (w : (Cond.selects C x z).before a0 Z = true) : ∃ c k, Z.vm.findClass z.cls = some c ∧ Z.vm.classes[c]? = some k ∧ k.isInterface = false := by
  obtain ⟨c, r, m, -, -, h3, -, k, h5, h6⟩ := Cond.selects_spec w
  exact ⟨m.cls, k, findClass_of_methodNamed h3, h5, h6⟩
theorem own_sameM {Z : State} {a0 : Array Value} {C : String} {x y z : MethodName} (w1 : (Cond.instanceMethod y).before a0 Z = true) (w : (Cond.selects C x z).before a0 Z = true) (e : z.cls = y.cls) (hy : y.cls ≠ "java/lang/invoke/MethodHandle" ∧ y.cls ≠ "java/lang/invoke/VarHandle") : (Cond.sameMethod y.cls y.cls y.name y.desc).before a0 Z = true := by
  obtain ⟨c, k, h1, h2, h3⟩ := own_notI w
  rw [e] at h1
  obtain ⟨mk, methM, hnamed, hmethM, -, -⟩ := Cond.instanceMethod_spec w1
  have hfound : Z.methodFound? y.cls y.name y.desc = some mk := State.methodFound?_of_named hnamed hy
  simp only [Cond.before, Cond.holds, Cond.value, h1, hfound, hnamed, h2]
  simp [h3]
theorem own_nf {s : State} {a0 : Array Value} {C : String} {x y z : MethodName} (w : (Cond.selects C x z).before a0 s = true) (e : z.cls = y.cls) : NotFace s y := by
  obtain ⟨c, k, h1, h2, h3⟩ := own_notI w
  intro r0 hr
  have := findClass_of_methodNamed hr
  rw [← e, h1] at this
  cases this
  exact ⟨k, h2, h3⟩
theorem own_selP {Z : State} {a0 : Array Value} {C : String} {y : MethodName} (w : (Cond.selects C y y).before a0 Z = true) (wp : (Cond.privateMethod y).before a0 Z = true) (wi : (Cond.instanceMethod y).before a0 Z = true) (hy : y.cls ≠ "java/lang/invoke/MethodHandle" ∧ y.cls ≠ "java/lang/invoke/VarHandle") : (Cond.selects y.cls y y).before a0 Z = true := by
  obtain ⟨c, k, h1, h2, h3⟩ := own_notI w
  exact Jvm.Stand.selects_self_of_private h1 h2 h3 (Cond.privateMethod_at wp) wi hy
theorem own_setcat (A : List Value) (v d : Value) (m : Nat) (hm : 0 < m) : (A ++ List.replicate m d).set A.length v = (A ++ [v]) ++ List.replicate (m - 1) d := by
  obtain ⟨m, rfl⟩ : ∃ k, m = k + 1 := ⟨m - 1, by omega⟩
  rw [List.set_append_right _ _ (Nat.le_refl _), Nat.sub_self, List.replicate_succ, List.set_cons_zero, List.append_assoc]; rfl
theorem own_store1 {Z : State} {h h' : Heap} {b : Addr} {k : ClassId} {ty : FieldType} {z j : Int32} {A : List Value} {v d : Value} (F : Arv Z h b k ty z A d) (hA : A.length < z.toNatClampNeg) (hv : fits ty v = true) (W : Wr h h' b j.toNatClampNeg v) (hj : j.toNatClampNeg = A.length) : Arv Z h' b k ty z (A ++ [v]) d := by
  obtain ⟨c, Ar, q, S, N, H, G⟩ := F.pad (pad_rep A d (z.toNatClampNeg - A.length))
  have r := Arv.set Ar q S N H G hv W A.length hj (by rw [List.length_append, List.length_replicate]; omega)
  rw [own_setcat A v d _ (by omega)] at r
  exact r.pad (fun i => (pad_rep (A ++ [v]) d _ i).symm)
abbrev own_lo (c : Int32) : Int32 := (c >>> ((0 : Int32) &&& 31)).toInt8.toInt32
abbrev own_hi (c : Int32) : Int32 := (c >>> ((8 : Int32) &&& 31)).toInt8.toInt32
theorem own_pairG {c : Int32} (h0 : ¬ c < 0) (h1 : ¬ 65535 < c) : ((((own_lo c) &&& (255 : Int32)) <<< ((0 : Int32) &&& 31)) ||| (((own_hi c) &&& (255 : Int32)) <<< ((8 : Int32) &&& 31))).toUInt32.toUInt16.toUInt32.toInt32 = c := by
  have h := StrChars.pair_says h0 h1
  unfold own_lo own_hi
  rw [own_shr0]
  exact h
def own_u16 : List Int32 → List Value
  | [] => []
  | c :: r => .int (own_lo c) :: .int (own_hi c) :: own_u16 r
theorem own_u16_len : ∀ cs : List Int32, (own_u16 cs).length = 2 * cs.length
  | [] => rfl
  | c :: r => by simp only [own_u16, List.length_cons, own_u16_len r]; omega
theorem own_u16_app : ∀ (cs : List Int32) (c : Int32), own_u16 (cs ++ [c]) = own_u16 cs ++ [.int (own_lo c), .int (own_hi c)]
  | [], c => rfl
  | a :: r, c => by simp only [List.cons_append, own_u16, own_u16_app r c]
theorem own_u16_at : ∀ (cs : List Int32) (q : Nat), q < cs.length → (own_u16 cs).getD (2 * q) (.int 0) = .int (own_lo (cs.getD q 0)) ∧ (own_u16 cs).getD (2 * q + 1) (.int 0) = .int (own_hi (cs.getD q 0))
  | [], q, h => absurd h (Nat.not_lt_zero _)
  | c :: r, 0, _ => ⟨rfl, rfl⟩
  | c :: r, q + 1, h => by
    have := own_u16_at r q (by simpa using h)
    simp only [own_u16]
    rw [show 2 * (q + 1) = 2 * q + 1 + 1 by omega]
    exact this
theorem own_take_succ (cs : List Int32) (q : Nat) (h : q < cs.length) : cs.take (q + 1) = cs.take q ++ [cs.getD q 0] := by
  rw [List.take_add_one, List.getElem?_eq_getElem h, List.getD_eq_getElem?_getD, List.getElem?_eq_getElem h]; rfl
theorem own_mapget (cs : List Int32) (q : Nat) (h : q < cs.length) (hb : cs.length < 2147483648) (d : Value) : (cs.map Value.int).getD (Int32.ofNat q).toNatClampNeg d = .int (cs.getD q 0) := by
  rw [own_clampN (by omega), List.getD_eq_getElem?_getD, List.getD_eq_getElem?_getD, List.getElem?_map, List.getElem?_eq_getElem h]; rfl
theorem own_inb (q n : Nat) (h : q < n) (hn : n < 2147483648) : ¬ Int32.ofNat q < 0 ∧ Int32.ofNat q < Int32.ofNat n := by
  constructor
  · exact own_nneg (by omega)
  · rw [Int32.lt_iff_toInt_lt, Int32.toInt_ofNat_small (by omega), Int32.toInt_ofNat_small (by omega)]; omega
theorem own_ofNat_lt {q K : Nat} (h : q < K) (hK : K < 2147483648) : Int32.ofNat q < Int32.ofNat K := by
  rw [Int32.lt_iff_toInt_lt, Int32.toInt_ofNat_small (by omega), Int32.toInt_ofNat_small (by omega)]; omega
theorem own_ofNat_nlt {q K : Nat} (h : ¬ q < K) (hK : q < 2147483648) : ¬ Int32.ofNat q < Int32.ofNat K := by
  rw [Int32.lt_iff_toInt_lt, Int32.toInt_ofNat_small (by omega), Int32.toInt_ofNat_small (by omega)]; omega
theorem own_ofNat_inj {q K : Nat} (h : Int32.ofNat q = Int32.ofNat K) (h1 : q < 2147483648) (h2 : K < 2147483648) : q = K := by
  have := congrArg Int32.toInt h
  rw [Int32.toInt_ofNat_small h1, Int32.toInt_ofNat_small h2] at this; omega
theorem own_shl1 (n : Nat) (h : n < 1000000) : Int32.ofNat n <<< ((1 : Int32) &&& 31) = Int32.ofNat (2 * n) := by
  have c := c_ishl (Int32.ofNat n) 1 1 rfl
  rw [Int32.toInt_ofNat_small (by omega)] at c
  have r := rng32 (Int32.ofNat n <<< ((1 : Int32) &&& 31))
  apply Int32.toInt_inj.mp
  rw [Int32.toInt_ofNat_small (by omega)]
  omega
theorem own_cl0 (n : Nat) : ((((Int32.ofNat n - Int32.ofNat n).toUInt32 >>> ((31 : Int32) &&& 31).toUInt32).toInt32)).toInt8.toInt32 = 0 := by
  rw [Int32.sub_self]; decide
theorem own_cl1 (n : Nat) (h0 : 0 < n) (h : n < 1000000) : ((((Int32.ofNat n - Int32.ofNat (2 * n)).toUInt32 >>> ((31 : Int32) &&& 31).toUInt32).toInt32)).toInt8.toInt32 = 1 := by
  have c := c_isub (Int32.ofNat n) (Int32.ofNat (2 * n))
  rw [Int32.toInt_ofNat_small (by omega), Int32.toInt_ofNat_small (by omega)] at c
  have r := rng32 (Int32.ofNat n - Int32.ofNat (2 * n))
  have u := c_iushr (Int32.ofNat n - Int32.ofNat (2 * n)) 31 31 rfl (by decide)
  have e : (((Int32.ofNat n - Int32.ofNat (2 * n)).toUInt32 >>> ((31 : Int32) &&& 31).toUInt32).toInt32) = 1 := by
    apply Int32.toInt_inj.mp
    rw [u, show (1 : Int32).toInt = 1 from rfl]
    omega
  rw [e]; decide
theorem own_arvH {Z : State} {h : Heap} {a : Addr} {k : ClassId} {ty : FieldType} {z : Int32} {vs : List Value} {dv : Value} (F : Arh Z h a k ty z [] vs dv) : Arv Z h a k ty z vs dv := by
  obtain ⟨c, A, q, S, N, H, G⟩ := F
  exact ⟨c, A, q, S, N, H, G⟩
theorem own_hasL {c : Cell} : ∀ (vs : List Value) (i : Nat), (∀ j v, vs[j]? = some v → c.slots[i + j]? = some v) → HasL c i vs
  | [], _, _ => trivial
  | v :: r, i, h => ⟨h 0 v rfl, own_hasL r (i + 1) fun j w hj => by have := h (j + 1) w hj; rwa [show i + (j + 1) = i + 1 + j by omega] at this⟩
theorem own_arvZ {s : State} {args : Array Value} {t : Term} {a : Addr} {ty : FieldType} {n : Int32} {vs : List Value} {dv : Value} (hf : Fit s) (et : t.eval args s none [] s = some (.ref a)) (h3 : (Cond.arrayOf t ty).value args s none s [] = some true)
    (h4 : (Term.length t).eval args s none [] s = some (.int n)) (hz : ¬ n < 0) (hl : n.toNatClampNeg = vs.length) (hs : vs.length < 2147483648) (hel : ∀ (i : Nat) (v : Value), vs[i]? = some v → (Term.elem t (.int (Int32.ofNat i))).eval args s none [] s = some v) : ∃ k, Arv s s.heap a k ty n vs dv := by
  obtain ⟨c, A⟩ := Arr.start et h3
  obtain ⟨sd, SA, hev, harr, -⟩ := Term.length_spec h4
  cases hev.symm.trans et
  cases harr.symm.trans (Arr.fin (U := s) (Vm.Alike.refl _) A)
  have h31 := Jvm.Free.SBG.length_lt hev harr h4
  have e : c.slots.size.toInt32 = n := by
    have q := len_f hev harr h31
    rw [h4] at q
    exact (Value.int.inj (Option.some.inj q)).symm
  refine ⟨_, Arv.start hf A h31 e hz hl (own_hasL vs 0 fun j v hj => ?_)⟩
  have hj2 : j < vs.length := (List.getElem?_eq_some_iff.mp hj).1
  have q := (elem_in (hel j v hj) hev (Term.int_eval _) A.1).2
  rw [Int32.toNatClampNeg_ofNat_of_lt (by omega)] at q
  rwa [Nat.zero_add]
theorem own_strZ {s : State} {args : Array Value} {t : Term} {x : Addr} {n : Int32} {cs : List Int32} (hf : Fit s) (et : t.eval args s none [] s = some (.ref x)) (h1 : (Cond.exactly t "java/lang/String").value args s none s [] = some true) (h2 : (Cond.eq (.field t "java/lang/String" "coder" "B") (.int 0)).value args s none s [] = some true)
    (h3 : (Cond.arrayOf (.field t "java/lang/String" "value" "[B") .byte).value args s none s [] = some true) (h4 : (Cond.eq (.length (.field t "java/lang/String" "value" "[B")) (.int n)).value args s none s [] = some true) (hz : ¬ n < 0) (hl : n.toNatClampNeg = cs.length) (hs : cs.length < 2147483648)
    (hel : ∀ (i : Nat) (v : Value), (own_bs cs)[i]? = some v → (Term.elem (.field t "java/lang/String" "value" "[B") (.int (Int32.ofNat i))).eval args s none [] s = some v) :
    ∃ (tb : Addr) (kb : ClassId), Exa s s.heap x "java/lang/String" ∧ Fld s s.heap x "java/lang/String" "value" "[B" (.ref tb) ∧ Fld s s.heap x "java/lang/String" "coder" "B" (.int (0 : Int32)) ∧ Arv s s.heap tb kb .byte n (own_bs cs) (.int 0) := by
  obtain ⟨tb, ev⟩ := arr_v h3
  obtain ⟨kb, K⟩ := own_arvZ (dv := .int 0) hf ev h3 (eqv_i (Term.int_eval _) h4) hz (by rw [hl, own_bs_len]) (by rw [own_bs_len]; exact hs) hel
  refine ⟨tb, kb, Exa.start et h1, Fld.start ?_, Fld.start ?_, K⟩
  · rw [← fld_at et]; exact ev
  · have := eqv_i (Term.int_eval _) h2
    rw [fld_at et] at this; exact this
theorem own_b255 (x : Int32) (h : ¬ x < 0 ∧ ¬ (255 : Int32) < x) : ((x.toInt8.toInt32) &&& (255 : Int32)) = x := by
  have a := c_i2b x; have b := c_mask (x.toInt8.toInt32) 255 8 (by decide) rfl
  rw [Int32.lt_iff_toInt_lt, Int32.lt_iff_toInt_lt, show (0 : Int32).toInt = 0 from rfl, show (255 : Int32).toInt = 255 from rfl] at h
  apply Int32.toInt_inj.mp
  omega
theorem own_tn (n : Nat) (h : n < 2147483648) : (Int32.ofNat n).toInt = n := by rw [Int32.toInt_ofNat_small (by omega)]
theorem own_rngN (n K : Nat) (h : n ≤ K) (hK : K < 2147483648) : ¬ Int32.ofNat n < 0 ∧ ¬ Int32.ofNat K < Int32.ofNat n := by
  rw [Int32.lt_iff_toInt_lt, Int32.lt_iff_toInt_lt, own_tn n (by omega), own_tn K hK, show (0 : Int32).toInt = 0 from rfl]
  omega
def own_ct (k : Nat) : Nat := if k < 26 then 65 + k else if k < 52 then 71 + k else if k < 62 then k - 4 else if k = 62 then 45 else 95
theorem own_ct_lt (k : Nat) (h : k < 64) : own_ct k < 128 := (by decide +kernel : ∀ k : Fin 64, own_ct k.val < 128) ⟨k, h⟩
theorem own_ct_61 (k : Nat) (h : k < 64) : own_ct k ≠ 61 := (by decide +kernel : ∀ k : Fin 64, own_ct k.val ≠ 61) ⟨k, h⟩
abbrev own_by (b : Nat) : Int32 := (Int32.ofNat b).toInt8.toInt32
abbrev own_cb (k : Nat) : Int32 := (Int32.ofNat (own_ct k)).toInt8.toInt32
theorem own_bym (b : Nat) (h : b < 256) : ((own_by b) &&& (255 : Int32)) = Int32.ofNat b := own_b255 _ (own_rngN b 255 (by omega) (by decide))
theorem own_cbm (k : Nat) (h : k < 64) : ((own_cb k) &&& (255 : Int32)) = Int32.ofNat (own_ct k) := own_b255 _ (own_rngN _ 255 (by have := own_ct_lt k h; omega) (by decide))
theorem own_i8 (x y : Nat) (hx : x < 2147483648) (hy : y < 2147483648) (h : x % 256 = y % 256) : (Int32.ofNat x).toInt8.toInt32 = (Int32.ofNat y).toInt8.toInt32 := by
  have a := c_i2b (Int32.ofNat x); have b := c_i2b (Int32.ofNat y)
  rw [own_tn x hx] at a
  rw [own_tn y hy] at b
  apply Int32.toInt_inj.mp
  omega
theorem own_cb61 (k : Nat) (h : k < 64) : ¬ own_cb k = (61 : Int32) := by
  intro e
  have q := own_cbm k h
  rw [e] at q
  have q2 : Int32.ofNat 61 = Int32.ofNat (own_ct k) := q
  have := own_ct_lt k h
  exact own_ct_61 k h (own_ofNat_inj q2 (by decide) (by omega)).symm
def own_e : List Nat → List Nat
  | [a] => [a / 4, a % 4 * 16 + 0 / 16]
  | [a, b] => [a / 4, a % 4 * 16 + b / 16, b % 16 * 4 + 0 / 64]
  | [a, b, c] => [a / 4, a % 4 * 16 + b / 16, b % 16 * 4 + c / 64, c % 64]
  | [a, b, c, d] => [a / 4, a % 4 * 16 + b / 16, b % 16 * 4 + c / 64, c % 64, d / 4, d % 4 * 16 + 0 / 16]
  | [a, b, c, d, f] => [a / 4, a % 4 * 16 + b / 16, b % 16 * 4 + c / 64, c % 64, d / 4, d % 4 * 16 + f / 16, f % 16 * 4 + 0 / 64]
  | _ => []
abbrev own_cs (bs : List Nat) : List Int32 := (own_e bs).map (fun k => Int32.ofNat (own_ct k))
abbrev own_ub (bs : List Nat) : List Int32 := bs.map Int32.ofNat
theorem own_e_all (bs : List Nat) (hB : ∀ b ∈ bs, b < 256) : (own_e bs).length ≤ 7 ∧ ∀ k ∈ own_e bs, k < 64 := by
  rcases bs with _ | ⟨q0, _ | ⟨q1, _ | ⟨q2, _ | ⟨q3, _ | ⟨q4, _ | ⟨q5, rs⟩⟩⟩⟩⟩⟩
  · exact ⟨by decide, fun k hk => nomatch hk⟩
  · have h0 := hB q0 (by simp)
    refine ⟨Nat.le_of_ble_eq_true rfl, fun k hk => ?_⟩
    simp only [own_e, List.mem_cons, List.not_mem_nil, or_false] at hk
    omega
  · have h0 := hB q0 (by simp); have h1 := hB q1 (by simp)
    refine ⟨Nat.le_of_ble_eq_true rfl, fun k hk => ?_⟩
    simp only [own_e, List.mem_cons, List.not_mem_nil, or_false] at hk
    omega
  · have h0 := hB q0 (by simp); have h1 := hB q1 (by simp); have h2 := hB q2 (by simp)
    refine ⟨Nat.le_of_ble_eq_true rfl, fun k hk => ?_⟩
    simp only [own_e, List.mem_cons, List.not_mem_nil, or_false] at hk
    omega
  · have h0 := hB q0 (by simp); have h1 := hB q1 (by simp); have h2 := hB q2 (by simp); have h3 := hB q3 (by simp)
    refine ⟨Nat.le_of_ble_eq_true rfl, fun k hk => ?_⟩
    simp only [own_e, List.mem_cons, List.not_mem_nil, or_false] at hk
    omega
  · have h0 := hB q0 (by simp); have h1 := hB q1 (by simp); have h2 := hB q2 (by simp); have h3 := hB q3 (by simp); have h4 := hB q4 (by simp)
    refine ⟨Nat.le_of_ble_eq_true rfl, fun k hk => ?_⟩
    simp only [own_e, List.mem_cons, List.not_mem_nil, or_false] at hk
    omega
  · exact ⟨by show ([] : List Nat).length ≤ 7; decide, fun k hk => nomatch (show k ∈ ([] : List Nat) from hk)⟩
theorem own_cs_len (bs : List Nat) (hB : ∀ b ∈ bs, b < 256) : (own_cs bs).length ≤ 7 := by rw [own_cs, List.length_map]; exact (own_e_all bs hB).1
theorem own_cs_rng (bs : List Nat) (hB : ∀ b ∈ bs, b < 256) : ∀ c ∈ own_cs bs, ¬ c < 0 ∧ ¬ (255 : Int32) < c := by
  intro c hc
  obtain ⟨k, hk, rfl⟩ := List.mem_map.mp hc
  have := own_ct_lt k ((own_e_all bs hB).2 k hk)
  exact own_rngN _ 255 (by omega) (by decide)
theorem own_cs_at (bs : List Nat) (j k : Nat) (hj : (own_e bs)[j]? = some k) (hs : j < 2147483648) : (own_bs (own_cs bs)).getD (Int32.ofNat j).toNatClampNeg (.int 0) = .int (own_cb k) := by
  rw [own_clampN hs, List.getD_eq_getElem?_getD, own_bs, own_cs, List.getElem?_map, List.getElem?_map, List.getElem?_map, hj]; rfl
theorem own_ub_at (bs : List Nat) (j b : Nat) (hj : bs[j]? = some b) (hs : j < 2147483648) : (own_bs (own_ub bs)).getD (Int32.ofNat j).toNatClampNeg (.int 0) = .int (own_by b) := by
  rw [own_clampN hs, List.getD_eq_getElem?_getD, own_bs, own_ub, List.getElem?_map, List.getElem?_map, List.getElem?_map, hj]; rfl
theorem own_cs_lt (bs : List Nat) (j k : Nat) (hj : (own_e bs)[j]? = some k) : j < (own_cs bs).length := by rw [own_cs, List.length_map]; exact (List.getElem?_eq_some_iff.mp hj).1
theorem own_shr2 (b : Nat) (h : b < 256) : Int32.ofNat b >>> ((2 : Int32) &&& 31) = Int32.ofNat (b / 4) := by
  apply Int32.toInt_inj.mp
  rw [c_ishr (Int32.ofNat b) 2 2 rfl, own_tn b (by omega), own_tn _ (by omega)]
  omega
theorem own_and63 (b : Nat) (h : b < 256) : Int32.ofNat b &&& (63 : Int32) = Int32.ofNat (b % 64) := by
  apply Int32.toInt_inj.mp
  rw [c_mask (Int32.ofNat b) 63 6 (by decide) rfl, own_tn b (by omega), own_tn _ (by omega)]
  omega
theorem own_s2 (a b : Nat) (h0 : a < 256) (h1 : b < 256) : ((Int32.ofNat a &&& (3 : Int32)) <<< ((4 : Int32) &&& 31)) ||| (Int32.ofNat b >>> ((4 : Int32) &&& 31)) = Int32.ofNat (a % 4 * 16 + b / 16) := by
  have m := c_mask (Int32.ofNat a) 3 2 (by decide) rfl
  have s := c_ishl (Int32.ofNat a &&& (3 : Int32)) 4 4 rfl
  have r := c_ishr (Int32.ofNat b) 4 4 rfl
  rw [own_tn a (by omega)] at m
  rw [own_tn b (by omega)] at r
  have q1 := rng32 ((Int32.ofNat a &&& (3 : Int32)) <<< ((4 : Int32) &&& 31))
  have o := c_or ((Int32.ofNat a &&& (3 : Int32)) <<< ((4 : Int32) &&& 31)) (Int32.ofNat b >>> ((4 : Int32) &&& 31)) 4 (by decide) 16 rfl (by omega) (by omega) (by omega)
  have q2 := rng32 (((Int32.ofNat a &&& (3 : Int32)) <<< ((4 : Int32) &&& 31)) ||| (Int32.ofNat b >>> ((4 : Int32) &&& 31)))
  apply Int32.toInt_inj.mp
  rw [own_tn _ (by omega)]
  omega
theorem own_s3 (a b : Nat) (h0 : a < 256) (h1 : b < 256) : ((Int32.ofNat a &&& (15 : Int32)) <<< ((2 : Int32) &&& 31)) ||| (Int32.ofNat b >>> ((6 : Int32) &&& 31)) = Int32.ofNat (a % 16 * 4 + b / 64) := by
  have m := c_mask (Int32.ofNat a) 15 4 (by decide) rfl
  have s := c_ishl (Int32.ofNat a &&& (15 : Int32)) 2 2 rfl
  have r := c_ishr (Int32.ofNat b) 6 6 rfl
  rw [own_tn a (by omega)] at m
  rw [own_tn b (by omega)] at r
  have q1 := rng32 ((Int32.ofNat a &&& (15 : Int32)) <<< ((2 : Int32) &&& 31))
  have o := c_or ((Int32.ofNat a &&& (15 : Int32)) <<< ((2 : Int32) &&& 31)) (Int32.ofNat b >>> ((6 : Int32) &&& 31)) 2 (by decide) 4 rfl (by omega) (by omega) (by omega)
  have q2 := rng32 (((Int32.ofNat a &&& (15 : Int32)) <<< ((2 : Int32) &&& 31)) ||| (Int32.ofNat b >>> ((6 : Int32) &&& 31)))
  apply Int32.toInt_inj.mp
  rw [own_tn _ (by omega)]
  omega
theorem own_s7 (a : Nat) (h0 : a < 256) : ((Int32.ofNat a &&& (15 : Int32)) <<< ((2 : Int32) &&& 31)) = Int32.ofNat (a % 16 * 4 + 0 / 64) := by
  have m := c_mask (Int32.ofNat a) 15 4 (by decide) rfl
  have s := c_ishl (Int32.ofNat a &&& (15 : Int32)) 2 2 rfl
  rw [own_tn a (by omega)] at m
  have q1 := rng32 ((Int32.ofNat a &&& (15 : Int32)) <<< ((2 : Int32) &&& 31))
  apply Int32.toInt_inj.mp
  rw [own_tn _ (by omega)]
  omega
theorem own_acc18 (k : Nat) (h : k < 64) : (0 : Int32) ||| (Int32.ofNat k <<< ((18 : Int32) &&& 31)) = Int32.ofNat (k * 262144) := by
  rw [Int32.zero_or]
  have s := c_ishl (Int32.ofNat k) 18 18 rfl
  rw [own_tn k (by omega)] at s
  have q1 := rng32 (Int32.ofNat k <<< ((18 : Int32) &&& 31))
  apply Int32.toInt_inj.mp
  rw [own_tn _ (by omega)]
  omega
theorem own_acc12 (a k : Nat) (ha : a < 64) (h : k < 64) : Int32.ofNat (a * 262144) ||| (Int32.ofNat k <<< ((12 : Int32) &&& 31)) = Int32.ofNat (a * 262144 + k * 4096) := by
  have s := c_ishl (Int32.ofNat k) 12 12 rfl
  rw [own_tn k (by omega)] at s
  have e := own_tn (a * 262144) (by omega)
  have q1 := rng32 (Int32.ofNat k <<< ((12 : Int32) &&& 31))
  have o := c_or (Int32.ofNat (a * 262144)) (Int32.ofNat k <<< ((12 : Int32) &&& 31)) 18 (by decide) 262144 rfl (by omega) (by omega) (by omega)
  have q2 := rng32 (Int32.ofNat (a * 262144) ||| (Int32.ofNat k <<< ((12 : Int32) &&& 31)))
  apply Int32.toInt_inj.mp
  rw [own_tn _ (by omega)]
  omega
theorem own_acc6 (a b k : Nat) (ha : a < 64) (hb : b < 64) (h : k < 64) : Int32.ofNat (a * 262144 + b * 4096) ||| (Int32.ofNat k <<< ((6 : Int32) &&& 31)) = Int32.ofNat (a * 262144 + b * 4096 + k * 64) := by
  have s := c_ishl (Int32.ofNat k) 6 6 rfl
  rw [own_tn k (by omega)] at s
  have e := own_tn (a * 262144 + b * 4096) (by omega)
  have q1 := rng32 (Int32.ofNat k <<< ((6 : Int32) &&& 31))
  have o := c_or (Int32.ofNat (a * 262144 + b * 4096)) (Int32.ofNat k <<< ((6 : Int32) &&& 31)) 12 (by decide) 4096 rfl (by omega) (by omega) (by omega)
  have q2 := rng32 (Int32.ofNat (a * 262144 + b * 4096) ||| (Int32.ofNat k <<< ((6 : Int32) &&& 31)))
  apply Int32.toInt_inj.mp
  rw [own_tn _ (by omega)]
  omega
theorem own_accL (n k : Nat) (hn : n < 16777216) (hm : n % 64 = 0) (h : k < 64) : Int32.ofNat n ||| Int32.ofNat k = Int32.ofNat (n + k) := by
  have e := own_tn n (by omega)
  have e2 := own_tn k (by omega)
  have o := c_or (Int32.ofNat n) (Int32.ofNat k) 6 (by decide) 64 rfl (by omega) (by omega) (by omega)
  have q2 := rng32 (Int32.ofNat n ||| Int32.ofNat k)
  apply Int32.toInt_inj.mp
  rw [own_tn _ (by omega)]
  omega
theorem own_accz (n k : Nat) (hn : n < 16777216) (hm : n % 64 = 0) (h : k < 64) : Int32.ofNat n ||| (Int32.ofNat k <<< ((0 : Int32) &&& 31)) = Int32.ofNat (n + k) := by
  rw [own_shl0]; exact own_accL n k hn hm h
theorem own_asm4 (a b c : Nat) (ha : a < 256) (hb : b < 256) (hc : c < 256) : ((((Int32.ofNat (a / 4) <<< ((18 : Int32) &&& 31)) ||| (Int32.ofNat (a % 4 * 16 + b / 16) <<< ((12 : Int32) &&& 31))) ||| (Int32.ofNat (b % 16 * 4 + c / 64) <<< ((6 : Int32) &&& 31))) ||| Int32.ofNat (c % 64)) = Int32.ofNat (a * 65536 + b * 256 + c) := by
  have e1 := own_acc18 (a / 4) (by omega)
  rw [Int32.zero_or] at e1
  rw [e1, own_acc12 _ _ (by omega) (by omega), own_acc6 _ _ _ (by omega) (by omega) (by omega), own_accL _ _ (by omega) (by omega) (by omega)]
  exact congrArg Int32.ofNat (by omega)
theorem own_or4 (a b c d : Nat) (ha : a < 64) (hb : b < 64) (hc : c < 64) (hd : d < 64) : ¬ (((Int32.ofNat a ||| Int32.ofNat b) ||| Int32.ofNat c) ||| Int32.ofNat d) < 0 := by
  have ea := own_tn a (by omega); have eb := own_tn b (by omega); have ec := own_tn c (by omega); have ed := own_tn d (by omega)
  have h1 := (c_orS (Int32.ofNat a) (Int32.ofNat b)).1 (by omega) (by omega)
  have h2 := (c_orS (Int32.ofNat a ||| Int32.ofNat b) (Int32.ofNat c)).1 h1 (by omega)
  have h3 := (c_orS ((Int32.ofNat a ||| Int32.ofNat b) ||| Int32.ofNat c) (Int32.ofNat d)).1 h2 (by omega)
  rw [Int32.lt_iff_toInt_lt, show (0 : Int32).toInt = 0 from rfl]
  omega
theorem own_dby16 (N q : Nat) (hN : N < 16777216) (h : N / 65536 = q) : (Int32.ofNat N >>> ((16 : Int32) &&& 31)).toInt8.toInt32 = own_by q := by
  have e : Int32.ofNat N >>> ((16 : Int32) &&& 31) = Int32.ofNat q := by
    apply Int32.toInt_inj.mp
    rw [c_ishr (Int32.ofNat N) 16 16 rfl, own_tn N (by omega), own_tn _ (by omega)]
    omega
  rw [e]
theorem own_dby8 (N q : Nat) (hN : N < 16777216) (h : N / 256 % 256 = q) : (Int32.ofNat N >>> ((8 : Int32) &&& 31)).toInt8.toInt32 = own_by q := by
  have e : Int32.ofNat N >>> ((8 : Int32) &&& 31) = Int32.ofNat (N / 256) := by
    apply Int32.toInt_inj.mp
    rw [c_ishr (Int32.ofNat N) 8 8 rfl, own_tn N (by omega), own_tn _ (by omega)]
    omega
  rw [e]
  exact own_i8 _ _ (by omega) (by omega) (by omega)
theorem own_dby0 (N q : Nat) (hN : N < 16777216) (h : N % 256 = q) : (Int32.ofNat N).toInt8.toInt32 = own_by q := own_i8 _ _ (by omega) (by omega) (by omega)
theorem own_asm3 (a b c : Nat) (ha : a < 256) (hb : b < 256) (hc : c < 256) : (((Int32.ofNat a <<< ((16 : Int32) &&& 31)) ||| (Int32.ofNat b <<< ((8 : Int32) &&& 31))) ||| Int32.ofNat c) = Int32.ofNat (a * 65536 + b * 256 + c) := by
  have s := c_ishl (Int32.ofNat a) 16 16 rfl
  have r := c_ishl (Int32.ofNat b) 8 8 rfl
  rw [own_tn a (by omega)] at s
  rw [own_tn b (by omega)] at r
  have e := own_tn c (by omega)
  have q1 := rng32 (Int32.ofNat a <<< ((16 : Int32) &&& 31))
  have q2 := rng32 (Int32.ofNat b <<< ((8 : Int32) &&& 31))
  have o := c_or (Int32.ofNat a <<< ((16 : Int32) &&& 31)) (Int32.ofNat b <<< ((8 : Int32) &&& 31)) 16 (by decide) 65536 rfl (by omega) (by omega) (by omega)
  have q3 := rng32 ((Int32.ofNat a <<< ((16 : Int32) &&& 31)) ||| (Int32.ofNat b <<< ((8 : Int32) &&& 31)))
  have o2 := c_or ((Int32.ofNat a <<< ((16 : Int32) &&& 31)) ||| (Int32.ofNat b <<< ((8 : Int32) &&& 31))) (Int32.ofNat c) 8 (by decide) 256 rfl (by omega) (by omega) (by omega)
  have q4 := rng32 (((Int32.ofNat a <<< ((16 : Int32) &&& 31)) ||| (Int32.ofNat b <<< ((8 : Int32) &&& 31))) ||| Int32.ofNat c)
  apply Int32.toInt_inj.mp
  rw [own_tn _ (by omega)]
  omega
theorem own_x18 (N k : Nat) (hN : N < 16777216) (h : N / 262144 % 64 = k) : (((Int32.ofNat N).toUInt32 >>> ((18 : Int32) &&& 31).toUInt32).toInt32 &&& (63 : Int32)) = Int32.ofNat k := by
  apply Int32.toInt_inj.mp
  rw [c_mask _ 63 6 (by decide) rfl, c_iushr (Int32.ofNat N) 18 18 rfl (by decide), own_tn N (by omega), own_tn _ (by omega)]
  omega
theorem own_x12 (N k : Nat) (hN : N < 16777216) (h : N / 4096 % 64 = k) : (((Int32.ofNat N).toUInt32 >>> ((12 : Int32) &&& 31).toUInt32).toInt32 &&& (63 : Int32)) = Int32.ofNat k := by
  apply Int32.toInt_inj.mp
  rw [c_mask _ 63 6 (by decide) rfl, c_iushr (Int32.ofNat N) 12 12 rfl (by decide), own_tn N (by omega), own_tn _ (by omega)]
  omega
theorem own_x6 (N k : Nat) (hN : N < 16777216) (h : N / 64 % 64 = k) : (((Int32.ofNat N).toUInt32 >>> ((6 : Int32) &&& 31).toUInt32).toInt32 &&& (63 : Int32)) = Int32.ofNat k := by
  apply Int32.toInt_inj.mp
  rw [c_mask _ 63 6 (by decide) rfl, c_iushr (Int32.ofNat N) 6 6 rfl (by decide), own_tn N (by omega), own_tn _ (by omega)]
  omega
theorem own_x0 (N k : Nat) (hN : N < 16777216) (h : N % 64 = k) : (Int32.ofNat N &&& (63 : Int32)) = Int32.ofNat k := by
  apply Int32.toInt_inj.mp
  rw [c_mask _ 63 6 (by decide) rfl, own_tn N (by omega), own_tn _ (by omega)]
  omega
theorem own_t1 (a : Nat) (h : a < 256) : ((Int32.ofNat a <<< ((4 : Int32) &&& 31)) &&& (63 : Int32)) = Int32.ofNat (a % 4 * 16 + 0 / 16) := by
  have s := c_ishl (Int32.ofNat a) 4 4 rfl
  rw [own_tn a (by omega)] at s
  apply Int32.toInt_inj.mp
  rw [c_mask _ 63 6 (by decide) rfl, own_tn _ (by omega)]
  omega
theorem own_t3 (a : Nat) (h : a < 256) : ((Int32.ofNat a <<< ((2 : Int32) &&& 31)) &&& (63 : Int32)) = Int32.ofNat (a % 16 * 4 + 0 / 64) := by
  have s := c_ishl (Int32.ofNat a) 2 2 rfl
  rw [own_tn a (by omega)] at s
  apply Int32.toInt_inj.mp
  rw [c_mask _ 63 6 (by decide) rfl, own_tn _ (by omega)]
  omega
theorem own_t2 (a b : Nat) (h0 : a < 256) (h1 : b < 256) : (((Int32.ofNat a <<< ((4 : Int32) &&& 31)) &&& (63 : Int32)) ||| (Int32.ofNat b >>> ((4 : Int32) &&& 31))) = Int32.ofNat (a % 4 * 16 + b / 16) := by
  have r := c_ishr (Int32.ofNat b) 4 4 rfl
  rw [own_tn b (by omega)] at r
  rw [own_t1 a h0]
  have e := own_tn (a % 4 * 16 + 0 / 16) (by omega)
  have o := c_or (Int32.ofNat (a % 4 * 16 + 0 / 16)) (Int32.ofNat b >>> ((4 : Int32) &&& 31)) 4 (by decide) 16 rfl (by omega) (by omega) (by omega)
  have q2 := rng32 (Int32.ofNat (a % 4 * 16 + 0 / 16) ||| (Int32.ofNat b >>> ((4 : Int32) &&& 31)))
  apply Int32.toInt_inj.mp
  rw [own_tn _ (by omega)]
  omega
theorem own_m255 (x : Int32) : ∃ b : Nat, b < 256 ∧ x &&& (255 : Int32) = Int32.ofNat b := by
  have h := c_mask x 255 8 (by decide) rfl
  exact ⟨(x &&& 255).toInt.toNat, by omega, by apply Int32.toInt_inj.mp; rw [own_tn _ (by omega)]; omega⟩
theorem own_mod6 (x : Int32) : ∃ n : Nat, n ≤ 5 ∧ (x &&& (2147483647 : Int32)) % (6 : Int32) = Int32.ofNat n := by
  have h := c_and x 2147483647 (by decide)
  have r := (c_irem (x &&& (2147483647 : Int32)) 6 6 rfl).1 h.1
  exact ⟨((x &&& (2147483647 : Int32)) % (6 : Int32)).toInt.toNat, by omega, by apply Int32.toInt_inj.mp; rw [own_tn _ (by omega)]; omega⟩
theorem own_rng16 (n : Nat) (h : n < 65536) : ¬ Int32.ofNat n < 0 ∧ ¬ (65535 : Int32) < Int32.ofNat n := own_rngN n 65535 (by omega) (by decide)
theorem own_c16N (x : Int32) (n : Nat) (hn : n < 65536) (h : x = Int32.ofNat n) : nar .char (x.toUInt32.toUInt16.toUInt32.toInt32) = Int32.ofNat n := by
  subst h
  show (((Int32.ofNat n).toUInt32.toUInt16.toUInt32.toInt32)).toUInt32.toUInt16.toUInt32.toInt32 = Int32.ofNat n
  rw [own_c16 _ (own_rng16 n hn), own_c16 _ (own_rng16 n hn)]
theorem own_sy1 (k : Nat) (h : k < 26) : nar .char ((((65 : Int32) + Int32.ofNat k)).toUInt32.toUInt16.toUInt32.toInt32) = Int32.ofNat (own_ct k) := by
  rw [own_ct, if_pos h]
  refine own_c16N _ _ (by omega) ?_
  have c := c_iadd (65 : Int32) (Int32.ofNat k)
  rw [own_tn k (by omega), show (65 : Int32).toInt = 65 from rfl] at c
  have q := rng32 ((65 : Int32) + Int32.ofNat k)
  apply Int32.toInt_inj.mp
  rw [own_tn _ (by omega)]
  omega
theorem own_sy2 (k : Nat) (g : ¬ k < 26) (h : k < 52) : nar .char ((((97 : Int32) + (Int32.ofNat k - (26 : Int32)))).toUInt32.toUInt16.toUInt32.toInt32) = Int32.ofNat (own_ct k) := by
  rw [own_ct, if_neg g, if_pos h]
  refine own_c16N _ _ (by omega) ?_
  have b := c_isub (Int32.ofNat k) (26 : Int32)
  have c := c_iadd (97 : Int32) (Int32.ofNat k - (26 : Int32))
  rw [own_tn k (by omega), show (26 : Int32).toInt = 26 from rfl] at b
  rw [show (97 : Int32).toInt = 97 from rfl] at c
  have q := rng32 ((97 : Int32) + (Int32.ofNat k - (26 : Int32)))
  have q2 := rng32 (Int32.ofNat k - (26 : Int32))
  apply Int32.toInt_inj.mp
  rw [own_tn _ (by omega)]
  omega
theorem own_sy3 (k : Nat) (g : ¬ k < 26) (g2 : ¬ k < 52) (h : k < 62) : nar .char ((((48 : Int32) + (Int32.ofNat k - (52 : Int32)))).toUInt32.toUInt16.toUInt32.toInt32) = Int32.ofNat (own_ct k) := by
  rw [own_ct, if_neg g, if_neg g2, if_pos h]
  refine own_c16N _ _ (by omega) ?_
  have b := c_isub (Int32.ofNat k) (52 : Int32)
  have c := c_iadd (48 : Int32) (Int32.ofNat k - (52 : Int32))
  rw [own_tn k (by omega), show (52 : Int32).toInt = 52 from rfl] at b
  rw [show (48 : Int32).toInt = 48 from rfl] at c
  have q := rng32 ((48 : Int32) + (Int32.ofNat k - (52 : Int32)))
  have q2 := rng32 (Int32.ofNat k - (52 : Int32))
  apply Int32.toInt_inj.mp
  rw [own_tn _ (by omega)]
  omega
theorem own_narct (k : Nat) (h : k < 64) : nar .char (Int32.ofNat (own_ct k)) = Int32.ofNat (own_ct k) := own_c16 _ (own_rng16 _ (by have := own_ct_lt k h; omega))
theorem own_ckneg (n : Nat) (h : n ≤ 7) : ¬ ((Int32.ofNat n ||| (0 : Int32)) ||| Int32.ofNat n) < 0 := by
  rw [Int32.or_zero, Int32.or_self]; exact own_nneg (by omega)
theorem own_cksub (n : Nat) : ¬ (Int32.ofNat n - (0 : Int32)) < Int32.ofNat n := by
  rw [Int32.sub_zero]; exact Int32.lt_irrefl
theorem own_consP {P : Nat → Value → Prop} {v0 : Value} {r : List Value} {k k' : Nat} (hk : k' = k + 1) (h0 : P k v0) (hr : ∀ i v, r[i]? = some v → P (k' + i) v) : ∀ i v, (v0 :: r)[i]? = some v → P (k + i) v := by
  intro i v h
  cases i with
  | zero => cases h; exact h0
  | succ i => have q := hr i v h; rw [hk, show k + 1 + i = k + (i + 1) by omega] at q; exact q
theorem own_consE {args : Array Value} {s : State} {t : Term} {v0 : Value} {r : List Value} {k k' : Nat} (hk : k' = k + 1) (h0 : (Term.elem t (.int (Int32.ofNat k))).eval args s none [] s = some v0) (hr : ∀ i v, r[i]? = some v → (Term.elem t (.int (Int32.ofNat (k' + i)))).eval args s none [] s = some v) : ∀ i v, (v0 :: r)[i]? = some v → (Term.elem t (.int (Int32.ofNat (k + i)))).eval args s none [] s = some v :=
  own_consP (P := fun i v => (Term.elem t (.int (Int32.ofNat i))).eval args s none [] s = some v) hk h0 hr
theorem own_zP {P : Nat → Value → Prop} {vs : List Value} (h : ∀ i v, vs[i]? = some v → P (0 + i) v) : ∀ i v, vs[i]? = some v → P i v := fun i v q => by have z := h i v q; rwa [Nat.zero_add] at z
theorem own_isB {Z : State} {h : Heap} {b : Addr} (B : Exa Z h b ("[" ++ (newarray.typeOf ArrayType.byte).toString)) : Exa Z h b "[B" := by
  rwa [show "[" ++ (newarray.typeOf ArrayType.byte).toString = "[B" from by decide] at B
theorem own_exaB {Z : State} {EL : List (String × Nat)} {vm : Vm} {h : Heap} {b : Addr} {k : ClassId} {z : Int32} {vs : List Value} {d : Value} (hZ : Z.Warmed39 vm) (A : Arv Z h b k .byte z vs d) (B : ¬ Safe Z EL vm h b) : Exa Z h b "[B" := by
  have hal : Z.vm.Alike vm := hZ.alike
  have hns := A.nostat
  obtain ⟨cl, ⟨hcl, ⟨hst, ka, hka, comp, hkind⟩, hunk⟩, -⟩ := A
  obtain ⟨ka', hka', eka⟩ := hal.2.2 _ _ hka
  obtain ⟨p, -, u, a, -, q, -, F, hb⟩ := Classical.not_not.mp B
  rcases hb with rfl | rfl
  · exfalso
    have hh : h[q.sa]? = some q.sC := F.ha
    have e : cl = q.sC := Option.some.inj (hcl.symm.trans hh)
    obtain ⟨cS, ⟨-, hfS, hcS⟩, ⟨kS, k1, k2, -⟩, -, -⟩ := F
    have k1 : vm.classes[cS]? = some kS := k1
    rw [e, hcS] at hka'
    have e2 : ka' = kS := Option.some.inj (hka'.symm.trans k1)
    rw [← e2, eka] at k2
    have k3 : ka.kind = .ordinary := k2
    rw [hkind] at k3
    cases k3
  · have hh : h[q.sd]? = some q.SA := F.hd
    have e : cl = q.SA := Option.some.inj (hcl.symm.trans hh)
    obtain ⟨cS, -, -, hB, -⟩ := F
    have hB : vm.findClass "[B" = some q.SA.cls := hB
    refine ⟨cl, ka, hcl, ?_, hka, hns cl hcl, fun g => by rw [hkind] at g; cases g⟩
    rw [e, ← hal.findClass]
    exact hB
theorem own_decl {s : State} {args : Array Value} {y : MethodName} {bytes : ByteArray} {maxL : Nat} {ret : Option FieldType} {hs : List (Nat × Nat × Nat × Nat)} (hi : (Cond.instanceMethod y).before args s = true) (hc : (Cond.codeWith y bytes maxL ret hs).before args s = true) : (Cond.declares y).before args s = true := by
  obtain ⟨mk, methM, hnamed, hmethM, hst, -⟩ := Cond.instanceMethod_spec hi
  obtain ⟨m', meth', c', hn', hm', -, -, -, -, -, -, hsig⟩ := Cond.codeWith_spec hc
  cases hnamed.symm.trans hn'
  cases hmethM.symm.trans hm'
  simp [Cond.before, Cond.holds, Cond.value, hnamed, hmethM, hst, hsig]
theorem own_bsN (cs : List Int32) (q : Nat) (h : q < cs.length) (hs : q < 2147483648) : (own_bs cs).getD (Int32.ofNat q).toNatClampNeg (.int 0) = .int ((cs.getD q 0).toInt8.toInt32) := by
  rw [own_clampN hs, own_bs, List.getD_eq_getElem?_getD, List.getD_eq_getElem?_getD, List.getElem?_map, List.getElem?_map, List.getElem?_eq_getElem h]; rfl
def own_F : List Int32 := [-1, -1, -1, -1, -1, -1, -1, -1, -1, -1, -1, -1, -1, -1, -1, -1, -1, -1, -1, -1, -1, -1, -1, -1, -1, -1, -1, -1, -1, -1, -1, -1, -1, -1, -1, -1, -1, -1, -1, -1, -1, -1, -1, -1, -1, 62, -1, -1, 52, 53, 54, 55, 56, 57, 58, 59, 60, 61, -1, -1, -1, -2, -1, -1, -1, 0, 1, 2, 3, 4, 5, 6, 7, 8, 9, 10, 11, 12, 13, 14, 15, 16, 17, 18, 19, 20, 21, 22, 23, 24, 25, -1, -1, -1, -1, 63, -1, 26, 27, 28, 29, 30, 31, 32, 33, 34, 35, 36, 37, 38, 39, 40, 41, 42, 43, 44, 45, 46, 47, 48, 49, 50, 51, -1, -1, -1, -1, -1, -1, -1, -1, -1, -1, -1, -1, -1, -1, -1, -1, -1, -1, -1, -1, -1, -1, -1, -1, -1, -1, -1, -1, -1, -1, -1, -1, -1, -1, -1, -1, -1, -1, -1, -1, -1, -1, -1, -1, -1, -1, -1, -1, -1, -1, -1, -1, -1, -1, -1, -1, -1, -1, -1, -1, -1, -1, -1, -1, -1, -1, -1, -1, -1, -1, -1, -1, -1, -1, -1, -1, -1, -1, -1, -1, -1, -1, -1, -1, -1, -1, -1, -1, -1, -1, -1, -1, -1, -1, -1, -1, -1, -1, -1, -1, -1, -1, -1, -1, -1, -1, -1, -1, -1, -1, -1, -1, -1, -1, -1, -1, -1, -1, -1, -1, -1, -1, -1, -1, -1, -1, -1, -1, -1, -1, -1, -1, -1]
def own_T : List Int32 := [65, 66, 67, 68, 69, 70, 71, 72, 73, 74, 75, 76, 77, 78, 79, 80, 81, 82, 83, 84, 85, 86, 87, 88, 89, 90, 97, 98, 99, 100, 101, 102, 103, 104, 105, 106, 107, 108, 109, 110, 111, 112, 113, 114, 115, 116, 117, 118, 119, 120, 121, 122, 48, 49, 50, 51, 52, 53, 54, 55, 56, 57, 45, 95]
theorem own_Flen : own_F.length = 256 := by decide +kernel
theorem own_Tlen : own_T.length = 64 := by decide +kernel
theorem own_Fct (k : Nat) (h : k < 64) : own_F.getD (own_ct k) 0 = Int32.ofNat k := (by decide +kernel : ∀ k : Fin 64, own_F.getD (own_ct k.val) 0 = Int32.ofNat k.val) ⟨k, h⟩
theorem own_Tct (k : Nat) (h : k < 64) : own_T.getD k 0 = Int32.ofNat (own_ct k) := (by decide +kernel : ∀ k : Fin 64, own_T.getD k.val 0 = Int32.ofNat (own_ct k.val)) ⟨k, h⟩
theorem own_Fat (k : Nat) (h : k < 64) (d : Value) : (own_F.map Value.int).getD (Int32.ofNat (own_ct k)).toNatClampNeg d = .int (Int32.ofNat k) := by
  rw [own_mapget own_F (own_ct k) (by have := own_ct_lt k h; rw [own_Flen]; omega) (by rw [own_Flen]; decide) d, own_Fct k h]
theorem own_Tat (k : Nat) (h : k < 64) (d : Value) : (own_T.map Value.int).getD (Int32.ofNat k).toNatClampNeg d = .int (Int32.ofNat (own_ct k)) := by
  rw [own_mapget own_T k (by rw [own_Tlen]; omega) (by rw [own_Tlen]; decide) d, own_Tct k h]
theorem own_Fin (k : Nat) (h : k < 64) : ¬ Int32.ofNat (own_ct k) < 0 ∧ Int32.ofNat (own_ct k) < (256 : Int32) := own_inb (own_ct k) 256 (by have := own_ct_lt k h; omega) (by decide)
theorem own_Tin (k : Nat) (h : k < 64) : ¬ Int32.ofNat k < 0 ∧ Int32.ofNat k < (64 : Int32) := own_inb k 64 h (by decide)
section
variable {p : Program} {l : Launch} {e : Env} {R : Room} {s : State} {m : MethodId} {args : Array Value} {below : List Frame} {meth : Method} {c : Code} {T : State} {locs : List Loc} {cells slots : Nat} {Z : State} {a0 : Array Value} {h : Heap}
theorem own_newP (X : Stand p l e R s m args below meth c T locs cells slots) (hx : p.tables.exec = Jvm.exec) (hZ : Z.Warmed39 s.vm) {aty : ArrayType} (w : (Cond.arrayClass (newarray.typeOf aty)).before a0 Z = true) (eT : T.heap = h) {g : JFrame} (hg : g.method = m) (hd : decode c.code g.pc = .ok (.newarray aty, 2)) {n : Int32} {rest : List Value} (hs : g.stack = .int n :: rest)
    (hn : ¬ n < 0) {cap : Nat} (hcap : n.toNatClampNeg ≤ cap) (hb : cap * 8 ≤ 536870912) (hc : cells + 1 ≤ R.cells) (hl : slots + cap ≤ R.slots) :
    ∃ T' h' cA, Stand p l e R s m args below meth c T' locs (cells + 1) (slots + cap) ∧ T'.heap = h' ∧ Ext h h' ∧ Arr Z h' h.size (newA cA (newarray.typeOf aty) n) (newarray.typeOf aty) ∧ Exa Z h' h.size ("[" ++ (newarray.typeOf aty).toString) ∧
      ∀ target, Steps p.tables e below (T'.setTop { g with pc := g.pc + 2, stack := .ref h.size :: rest }) target → Steps p.tables e below (T.setTop g) target := by
  have hcb : componentBytes (newarray.typeOf aty) ≤ 8 := by cases aty <;> decide
  obtain ⟨cA, kA, comp, h1, h2, h3, X', st⟩ := X.newarrayPrim hx (mvA hZ w) hg hd hs hn (Nat.le_trans (Nat.mul_le_mul hcap hcb) hb) hc (by omega)
  subst eT
  rw [hZ.alike.findClass] at h1
  obtain ⟨kZ, z1, -⟩ := Vm.findClass_spec h1
  obtain ⟨k', z2, z3⟩ := hZ.alike.2.2 _ _ z1
  cases h2.symm.trans z2
  have hk : kZ.kind = .array comp (newarray.typeOf aty) := by rw [← h3, z3]
  refine ⟨_, _, cA, X'.more (Nat.le_refl _) (by omega), rfl, ext_of fun a ha => ?_, ⟨by show (T.heap.push _)[T.heap.size]? = _; simp [newA], ⟨by simp [newA], kZ, z1, comp, hk⟩, by simp [newA]⟩, ⟨newA cA (newarray.typeOf aty) n, kZ, by show (T.heap.push _)[T.heap.size]? = _; simp [newA], h1, z1, rfl, fun q => by rw [hk] at q; cases q⟩, st⟩
  show (T.heap.push _)[a]? = _
  rw [Array.getElem?_push_lt ha]; exact (Array.getElem?_eq_getElem _).symm
end
theorem own_backSHW {p : Program} {l : Launch} {e : Env} {R : Room} {s : State} {args : Array Value} {below : List Frame} {Z : State} {a0 : Array Value} {EL : List (String × Nat)} {h : Heap} {vm0 : Vm} {sf : List Addr}
    {y : MethodName} {bytes : ByteArray} {maxL : Nat} {ret : Option FieldType} {hs : List (Nat × Nat × Nat × Nat)} {rm : Room} {len W : Nat} {as' : Array Value} {Q : Option Value → Heap → List Loc → Prop}
    (hM : MetFree l y (head1 [Cond.codeWith y bytes maxL ret hs] rm) (fun a U => a = as' ∧ Z.Warmed39 U.vm ∧ U.heap = h ∧ CHv Z EL U.vm h ∧ ∀ x ∈ sf, Safe Z EL U.vm h x) (fun _ _ _ _ _ => True) (fun _ U o U' => ∃ v L, o = .returned v ∧ Q v U'.heap L ∧ CHr Z EL U.vm U.heap U'.vm U'.heap ∧ ReturnedEndW U o U' L rm.cells rm.slots))
    (hZ : Z.Warmed39 vm0) (wc : (Cond.codeWith y bytes maxL ret hs).before a0 Z = true) (wz : (Cond.initialized y.cls).before a0 Z = true) (hf : rm.frames + 1 ≤ R.frames) (hl : W + (maxL + 11) + rm.locals ≤ R.locals) (hEL : EW Z a0 EL) (H : CHv Z EL vm0 h) (hsf : ∀ x ∈ sf, Safe Z EL vm0 h x) :
    BackS l R p e below (s.setVm vm0) args y len W (fun A a => a = as' ∧ A.U.heap = h ∧ A.cells + rm.cells ≤ R.cells ∧ A.slots + rm.slots ≤ R.slots)
      (fun A _ v B => ∃ L, Q v B.U.heap L ∧ B.locs = A.locs ++ L ∧ B.cells = A.cells + rm.cells ∧ B.slots = A.slots + rm.slots ∧ CHr Z EL vm0 h B.U.vm B.U.heap) := by
  intro m meth c A g ig mk a X hg hsize hdg hW hn hp
  rcases A with ⟨U, Ls, cu, su⟩
  obtain ⟨ha, hh, hcl, hsl⟩ := hp
  dsimp only [Pt.U, Pt.locs, Pt.cells, Pt.slots] at X hn hh hcl hsl ⊢
  subst ha hg
  have hU : Z.Warmed39 U.vm := wtrans (s := s.setVm vm0) hZ X.warmed
  have hCH := CHv.at X hZ hEL H
  have wcU : (Cond.codeWith y bytes maxL ret hs).before a U = true := mv hU wc
  have wzU : (Cond.initialized y.cls).before a U = true := mv hU wz
  obtain ⟨mk', mY, cY, n1, n2, n3, -, n4, -⟩ := Cond.codeWith_spec wcU
  obtain rfl : mk' = mk := Option.some.inj (n1.symm.trans hn)
  obtain ⟨kY, hkY, -⟩ := className_of_methodNamed hn
  have apl := Spec.appliesLoose_calling (S := head1 [Cond.codeWith y bytes maxL ret hs] rm) (e := e) (args := a) (g := g) X.here hdg hn hkY (Cond.initialized_spec (findClass_of_methodNamed hn) hkY wzU) (X.room_calling (g := g) (R' := rm) hsize n2 n3 hf (by rw [n4]; omega) hcl hsl) (by show (Cond.and _ .tt).before a U = true; rw [Cond.before_and, wcU]; rfl)
  obtain ⟨mid, hmid⟩ := X.here.above
  have hfr : (U.setTop g).frames = (.java g :: mid) ++ below := by rw [State.frames_setTop' g X.here.top, hmid]; rfl
  obtain ⟨o, V, run, -, hend, v, L, rfl, hQ, hR, fin⟩ := Steps.callFree hM p X.admits X.cas X.clock (acts := []) hfr apl ⟨rfl, hU, hh, hCH.1, fun x hx => own_safeAt hCH (hsf x hx)⟩ trivial
  rw [State.frames_setTop' g X.here.top] at hend
  obtain ⟨-, wV, bV, eV, s2, s3, s4, s5, s6⟩ := fin
  have WV : U.Warmed39 V.vm := wV
  obtain ⟨cE, iE, lE, hcE, hdE, hfE⟩ := hend
  have hceq : cE = c := Option.some.inj (hcE.symm.trans (Eq.trans (by rw [State.code?_eq, State.code?_eq, WV.alike.method?]) X.here.code))
  subst hceq
  have hleq : lE = len := by rw [hdg] at hdE; cases hdE; rfl
  subst hleq
  obtain ⟨g0, hg0⟩ := Option.isSome_iff_exists.mp X.here.top
  obtain ⟨r, hr⟩ := State.topJava?_eq_some.mp hg0
  obtain ⟨tt, htt, -⟩ := State.frames_cons hr
  have same : U.sameButNew ({ U with heap := V.heap, slotsUsed := V.slotsUsed } : State) L rm.cells rm.slots := by
    refine ⟨?_, s2, s3, s4, s5, s6⟩
    show ({ U with heap := V.heap, slotsUsed := V.slotsUsed } : State) = { U.setFrames U.frames with heap := V.heap, slotsUsed := V.slotsUsed }
    rw [State.setFrames_self htt]
  have hV : V = (({ U with heap := V.heap, slotsUsed := V.slotsUsed } : State).setVm V.vm).setTop { g with pc := g.pc + lE, stack := v.toList ++ g.stack } := by
    have e1 : V = ({ (U.calling g mk' a).setFrames V.frames with heap := V.heap, slotsUsed := V.slotsUsed } : State).setVm V.vm := by
      have e0 := congrArg (fun t : State => t.setVm V.vm) eV
      exact e0
    have hr' : (({ U with heap := V.heap, slotsUsed := V.slotsUsed } : State).setVm V.vm).frames = .java g0 :: r := hr
    refine e1.trans ?_
    rw [hfE, State.calling_eq X.here.top, State.setFrames_setFrames, State.setTop_of_frames _ hr', hr]
    rfl
  obtain ⟨X', hS⟩ := X.movedW (T₂ := ({ U with heap := V.heap, slotsUsed := V.slotsUsed } : State).setVm V.vm) ((X.here.setHeapUsed V.heap V.slotsUsed).setVm WV.alike) X.tail rfl rfl WV bV same
  refine ⟨v, ⟨({ U with heap := V.heap, slotsUsed := V.slotsUsed } : State).setVm V.vm, Ls ++ L, cu + rm.cells, su + rm.slots⟩, X', hS, same.2.1, ⟨L, hQ, rfl, rfl, rfl, hCH.trans ?_⟩, ?_⟩
  · rw [← hh]; exact hR
  · show Steps p.tables e below _ ((({ U with heap := V.heap, slotsUsed := V.slotsUsed } : State).setVm V.vm).setTop { g with pc := g.pc + lE, stack := v.toList ++ g.stack })
    rw [← hV]
    exact run
theorem own_callSSH {p : Program} {l : Launch} {e : Env} {R : Room} {s : State} {m : MethodId} {args : Array Value} {below : List Frame} {meth : Method} {c : Code} {T : State} {locs : List Loc} {cells slots : Nat} (X : Stand p l e R s m args below meth c T locs cells slots) (hx : p.tables.exec = Jvm.exec) {own : String} {index : Nat} {y : MethodName} {bytes : ByteArray} {maxL : Nat} {ret : Option FieldType} {hs : List (Nat × Nat × Nat × Nat)}
    (hown : s.vm.findClass own = some m.cls) (hlink : (Cond.methodLink own index y).before args s = true) (hstat : (Cond.static y).before args s = true) (hinit : (Cond.initialized y.cls).before args s = true) (hcode : (Cond.codeWith y bytes maxL ret hs).before args s = true)
    (hy : y.cls ≠ "java/lang/invoke/MethodHandle" ∧ y.cls ≠ "java/lang/invoke/VarHandle") {W : Nat} {Pre : Pt → Array Value → Prop} {Post : Pt → Array Value → Option Value → Pt → Prop} (hK : BackS l R p e below s args y 3 W Pre Post)
    {g : JFrame} (hg : g.method = m) (hsize : g.locals.size = c.maxLocals) {argsL rest : List Value} (hlen : ∀ sig, parseMethodDescriptor y.desc = some sig → argsL.length = sig.parameters.length) (hstack : g.stack = argsL.reverse ++ rest) (hW : 2 * g.monitorRoom + (rest.map fun v => v.category).sum ≤ W)
    (hdg : decode c.code g.pc = .ok (.invokestatic index, 3)) (hpre : ∀ vm₁, s.WarmedH vm₁ → Pre ⟨T.setVm vm₁, locs, cells, slots⟩ argsL.toArray) :
    ∃ (v : Option Value) (vm₁ : Vm) (B : Pt), s.WarmedH vm₁ ∧ Stand p l e R (s.setVm B.U.vm) m args below meth c B.U B.locs B.cells B.slots ∧ s.Since B.U.vm B.U.heap.size ∧ T.heap.size ≤ B.U.heap.size ∧ Post ⟨T.setVm vm₁, locs, cells, slots⟩ argsL.toArray v B ∧
      Steps p.tables e below (T.setTop g) (B.U.setTop { g with pc := g.pc + 3, stack := v.toList ++ rest }) := by
  obtain ⟨mk, mM, cM, n1, n2, -, -, -, -, -, -, n3⟩ := Cond.codeWith_spec hcode
  exact X.staticBackS hx hown hlink hstat hinit n1 n2 n3 hy hK hg hsize (Steps.refl _) hlen hstack hW hdg hpre

theorem own_ef_rmC5 (m : MethodId) (sa : Addr) (ka : ClassId) (cs : List Int32) (dv : Value) (bv : Addr) (kb : ClassId) : entryFrame m #[(.ref sa), (.int (0 : Int32)), (.ref bv), (.int (0 : Int32)), (.int (Int32.ofNat cs.length))] 7 = mkF m 0 #[.val (.ref sa), .val (.int (0 : Int32)), .val (.ref bv), .val (.int (0 : Int32)), .val (.int (Int32.ofNat cs.length)), .unset, .unset] [] := by first | (simp [entryFrame, mkF, argsToLocals, Value.category]; done) | rfl
theorem own_pn_java_lang_StringUTF16 : plainName "java/lang/StringUTF16" = true := by first | (simp [plainName, overriddenIn]; done) | decide +kernel
theorem own_d5_0 : decode jdk_52_method_21_code 0 = .ok (.iconst 0, 1) := by decide +kernel
theorem own_d5_1 : decode jdk_52_method_21_code 1 = .ok (.istore 5, 2) := by decide +kernel
theorem own_d5_3 : decode jdk_52_method_21_code 3 = .ok (.iload 5, 2) := by decide +kernel
theorem own_d5_5 : decode jdk_52_method_21_code 5 = .ok (.iload 4, 2) := by decide +kernel
theorem own_d5_7 : decode jdk_52_method_21_code 7 = .ok (.if_icmp .ge 37, 3) := by decide +kernel
theorem own_d5_44 : decode jdk_52_method_21_code 44 = .ok (.iload 4, 2) := by decide +kernel
theorem own_d5_46 : decode jdk_52_method_21_code 46 = .ok (.ireturn, 1) := by decide +kernel
theorem own_d5_10 : decode jdk_52_method_21_code 10 = .ok (.aload_n 0, 1) := by decide +kernel
theorem own_d5_11 : decode jdk_52_method_21_code 11 = .ok (.iload_n 1, 1) := by decide +kernel
theorem own_d5_12 : decode jdk_52_method_21_code 12 = .ok (.caload, 1) := by decide +kernel
theorem own_d5_13 : decode jdk_52_method_21_code 13 = .ok (.istore 6, 2) := by decide +kernel
theorem own_d5_15 : decode jdk_52_method_21_code 15 = .ok (.iload 6, 2) := by decide +kernel
theorem own_d5_17 : decode jdk_52_method_21_code 17 = .ok (.sipush 255, 3) := by decide +kernel
theorem own_d5_20 : decode jdk_52_method_21_code 20 = .ok (.if_icmp .le 6, 3) := by decide +kernel
theorem own_d5_26 : decode jdk_52_method_21_code 26 = .ok (.aload_n 2, 1) := by decide +kernel
theorem own_d5_27 : decode jdk_52_method_21_code 27 = .ok (.iload_n 3, 1) := by decide +kernel
theorem own_d5_28 : decode jdk_52_method_21_code 28 = .ok (.iload 6, 2) := by decide +kernel
theorem own_d5_30 : decode jdk_52_method_21_code 30 = .ok (.i2b, 1) := by decide +kernel
theorem own_d5_31 : decode jdk_52_method_21_code 31 = .ok (.bastore, 1) := by decide +kernel
theorem own_d5_32 : decode jdk_52_method_21_code 32 = .ok (.iinc 1 1, 3) := by decide +kernel
theorem own_d5_35 : decode jdk_52_method_21_code 35 = .ok (.iinc 3 1, 3) := by decide +kernel
theorem own_d5_38 : decode jdk_52_method_21_code 38 = .ok (.iinc 5 1, 3) := by decide +kernel
theorem own_d5_41 : decode jdk_52_method_21_code 41 = .ok (.goto (-38), 3) := by decide +kernel
def Q_rmC5 (Z : State) (sa : Addr) (ka : ClassId) (cs : List Int32) (dv : Value) (bv : Addr) (kb : ClassId) (h0 : Heap) (n0 : Nat) (vq : Option Value) (hhq : Heap) (Lq : List Loc) : Prop := vq = some (.int (Int32.ofNat cs.length)) ∧ Fr n0 Lq ∧ Keep h0 hhq [bv] ∧ Arv Z hhq bv kb .byte (Int32.ofNat cs.length) (own_bs cs) (.int 0)
set_option maxRecDepth 65536 in
set_option maxHeartbeats 40000000 in
theorem rmC5 (l : Launch) (Z : State) (a0 : Array Value) (hw : ∀ d ∈ tables_1, d.before a0 Z = true) (ws : List Jvm.Cond) (sa : Addr) (ka : ClassId) (cs : List Int32) (dv : Value) (bv : Addr) (kb : ClassId) (h0 : Heap) (n0 : Nat) (Z0 : n0 ≤ h0.size) (Pm0 : Arv Z h0 sa ka .char (Int32.ofNat cs.length) (cs.map Value.int) dv) (hn : (cs.length ≤ 7)) (hr : (∀ c ∈ cs, ¬ c < 0 ∧ ¬ (255 : Int32) < c)) (Pm3 : Arv Z h0 bv kb .byte (Int32.ofNat cs.length) [] (.int 0)) (gbv : n0 ≤ bv) (nsb : (sa ≠ bv)) (X00 : Old Z n0 h0) :
    MetFree l (⟨"java/lang/StringUTF16", "compress", "([CI[BII)I"⟩ : MethodName) (head1 (Jvm.Cond.code (⟨"java/lang/StringUTF16", "compress", "([CI[BII)I"⟩ : MethodName) jdk_52_method_21_code 7 (some .int) :: ws) ({ frames := 0, cells := 0, slots := 0, locals := 0 } : Room)) (fun aq U => aq = #[(.ref sa), (.int (0 : Int32)), (.ref bv), (.int (0 : Int32)), (.int (Int32.ofNat cs.length))] ∧ Z.Warmed39 U.vm ∧ U.heap = h0) (fun _ _ _ _ _ => True) (fun _ U oq U' => ∃ vq Lq, oq = .returned vq ∧ Q_rmC5 Z sa ka cs dv bv kb h0 n0 vq U'.heap Lq ∧ FrameEnd U oq U' Lq ({ frames := 0, cells := 0, slots := 0, locals := 0 } : Room).cells ({ frames := 0, cells := 0, slots := 0, locals := 0 } : Room).slots) := by
  refine MetFree.of_bodySF (plainFor_of_name own_pn_java_lang_StringUTF16) hisR ?_
  intro p e s m args below meth c s₁ Bd hml0 hP hK
  obtain ⟨rfl, hZ, hh⟩ := hP
  have hx := Bd.exec
  have hby := Bd.bytes
  have hml : c.maxLocals = 7 := hml0
  have hown : s.vm.findClass "java/lang/StringUTF16" = some m.cls := findClass_of_methodNamed Bd.named
  have hnm := (name_of_methodNamed Bd.named Bd.method).1
  have X0 : Stand p l e ({ frames := 0, cells := 0, slots := 0, locals := 0 } : Room) s m #[(.ref sa), (.int (0 : Int32)), (.ref bv), (.int (0 : Int32)), (.int (Int32.ofNat cs.length))] below meth c s₁ [] 0 0 := Stand.of_body Bd
  have e0 : s₁.heap = h0 := by rw [← hh, Bd.state]; rfl
  have N0 := Fr.nil n0
  have K0 : Keep h0 h0 [bv] := Keep.refl _ _
  refine own_go (S' := s₁.setTop (mkF m 0 #[.val (.ref sa), .val (.int (0 : Int32)), .val (.ref bv), .val (.int (0 : Int32)), .val (.int (Int32.ofNat cs.length)), .unset, .unset] [])) (fun tq kq => castTop (own_ef_rmC5 m sa ka cs dv bv kb) kq) ?_
  have lt1 : @LT.lt Nat _ sa h0.size := Pm0.lt
  have lt2 : @LT.lt Nat _ bv h0.size := Pm3.lt
  refine own_ic X0 hx (0 : Int32) 1 (hb hby own_d5_0) rfl rfl ?_
  refine own_is X0 hx #[.val (.ref sa), .val (.int (0 : Int32)), .val (.ref bv), .val (.int (0 : Int32)), .val (.int (Int32.ofNat cs.length)), .val (.int (0 : Int32)), .unset] 3 (hb hby own_d5_1) rfl rfl ?_
  have loop : ∀ (mm qq : Nat) (Tl : State) (hl : Heap) (ls : List Loc) (z6 : Slot), qq + mm = cs.length → Stand p l e ({ frames := 0, cells := 0, slots := 0, locals := 0 } : Room) s m #[(.ref sa), (.int (0 : Int32)), (.ref bv), (.int (0 : Int32)), (.int (Int32.ofNat cs.length))] below meth c Tl ls 0 0 → Tl.heap = hl → Fr n0 ls → Keep h0 hl [bv] → Old Z n0 hl → Arv Z hl sa ka .char (Int32.ofNat cs.length) (cs.map Value.int) dv → Arv Z hl bv kb .byte (Int32.ofNat cs.length) (own_bs (cs.take qq)) (.int 0) → One z6 → own_Rn p e below (fun oq U' => ∃ vq Lq, oq = .returned vq ∧ Q_rmC5 Z sa ka cs dv bv kb h0 n0 vq U'.heap Lq ∧ FrameEnd s oq U' Lq ({ frames := 0, cells := 0, slots := 0, locals := 0 } : Room).cells ({ frames := 0, cells := 0, slots := 0, locals := 0 } : Room).slots) (Tl.setTop (mkF m 3 #[.val (.ref sa), .val (.int (Int32.ofNat qq)), .val (.ref bv), .val (.int (Int32.ofNat qq)), .val (.int (Int32.ofNat cs.length)), .val (.int (Int32.ofNat qq)), z6] [])) := by
    intro mm
    induction mm with
    | zero =>
      intro qq Tl hl ls z6 hqm Xl el Nl Kl Ol As Ab o6
      have szl : h0.size ≤ hl.size := Kl.1
      have lt3 : @LT.lt Nat _ sa hl.size := As.lt
      have lt4 : @LT.lt Nat _ bv hl.size := Ab.lt
      refine own_il Xl hx 5 (hb hby own_d5_3) rfl rfl ?_
      refine own_il Xl hx 7 (hb hby own_d5_5) rfl rfl ?_
      refine own_icY Xl hx 44 (hb hby own_d5_7) (flt (own_ofNat_nlt (by omega) (by omega) : ¬ ((Int32.ofNat qq) < (Int32.ofNat cs.length)))).2.1 (by decide) (by decide) ?_
      refine own_il Xl hx 46 (hb hby own_d5_44) rfl rfl ?_
      rw [List.take_of_length_le (by omega)] at Ab
      exact own_ret Xl (v := some (.int (Int32.ofNat cs.length))) (fun h => by rw [Bd.returns] at h; cases h) (fun fs hr => retI Xl hx Bd.returns (hb hby own_d5_46) hr) (by rw [el]; exact ⟨rfl, Nl, Kl, Ab⟩) (by decide) (by decide)
    | succ mm ih =>
      intro qq Tl hl ls z6 hqm Xl el Nl Kl Ol As Ab o6
      have szl : h0.size ≤ hl.size := Kl.1
      have lt5 : @LT.lt Nat _ sa hl.size := As.lt
      have lt6 : @LT.lt Nat _ bv hl.size := Ab.lt
      have hq : qq < cs.length := by omega
      have hm : ¬ cs.getD qq 0 < 0 ∧ ¬ (255 : Int32) < cs.getD qq 0 := hr _ (by rw [List.getD_eq_getElem?_getD, List.getElem?_eq_getElem hq]; exact List.getElem_mem hq)
      refine own_il Xl hx 5 (hb hby own_d5_3) rfl rfl ?_
      refine own_il Xl hx 7 (hb hby own_d5_5) rfl rfl ?_
      refine own_icN Xl hx 10 (hb hby own_d5_7) rfl (tlt (own_ofNat_lt (by omega) (by omega) : (Int32.ofNat qq) < (Int32.ofNat cs.length))).2.1 ?_
      refine own_aln Xl hx 11 (hb hby own_d5_10) rfl rfl rfl ?_
      refine own_iln Xl hx 12 (hb hby own_d5_11) rfl rfl ?_
      refine own_cal Xl hx hZ el As (cs.getD qq 0) 13 (hb hby own_d5_12) rfl (own_inb _ _ (by omega) (by omega)) (own_mapget cs qq (by omega) (by omega) dv) ?_
      have os7 : storeLocals #[.val (.ref sa), .val (.int (Int32.ofNat qq)), .val (.ref bv), .val (.int (Int32.ofNat qq)), .val (.int (Int32.ofNat cs.length)), .val (.int (Int32.ofNat qq)), z6] 6 (.int (cs.getD qq 0)) = some #[.val (.ref sa), .val (.int (Int32.ofNat qq)), .val (.ref bv), .val (.int (Int32.ofNat qq)), .val (.int (Int32.ofNat cs.length)), .val (.int (Int32.ofNat qq)), .val (.int (cs.getD qq 0))] := by
        rcases o6 with rfl | ⟨w, rfl, hw⟩
        · rfl
        · cases w <;> first | rfl | (simp [Value.category] at hw)
      refine own_go (fun tq kq => XS.istore Xl.here hx rfl (hb hby own_d5_13) rfl (l' := #[.val (.ref sa), .val (.int (Int32.ofNat qq)), .val (.ref bv), .val (.int (Int32.ofNat qq)), .val (.int (Int32.ofNat cs.length)), .val (.int (Int32.ofNat qq)), .val (.int (cs.getD qq 0))]) os7 kq) ?_
      show own_Rn p e below _ (Tl.setTop (mkF m 15 #[.val (.ref sa), .val (.int (Int32.ofNat qq)), .val (.ref bv), .val (.int (Int32.ofNat qq)), .val (.int (Int32.ofNat cs.length)), .val (.int (Int32.ofNat qq)), .val (.int (cs.getD qq 0))] []))
      refine own_il Xl hx 17 (hb hby own_d5_15) rfl rfl ?_
      refine own_sp Xl hx (255 : Int32) 20 (hb hby own_d5_17) rfl rfl ?_
      refine own_icY Xl hx 26 (hb hby own_d5_20) (flt (hm.2 : ¬ ((255 : Int32) < (cs.getD qq 0)))).2.2.2 (by decide) (by decide) ?_
      refine own_aln Xl hx 27 (hb hby own_d5_26) rfl rfl rfl ?_
      refine own_iln Xl hx 28 (hb hby own_d5_27) rfl rfl ?_
      refine own_il Xl hx 30 (hb hby own_d5_28) rfl rfl ?_
      refine own_i2b Xl hx 31 (hb hby own_d5_30) rfl ?_
      have htl : (own_bs (cs.take qq)).length = qq := by rw [own_bs_len, List.length_take]; omega
      obtain ⟨cl8, Ar8, q8, Sz8, Nn8, Hs8, G8⟩ := id Ab
      obtain ⟨T8, h8, X8, e8, W8, st8⟩ := stB Xl hx hZ el Ar8 (j := (Int32.ofNat qq)) (inb_of Sz8 (own_inb _ _ (by omega) (by omega))) (g := (mkF m 31 #[.val (.ref sa), .val (.int (Int32.ofNat qq)), .val (.ref bv), .val (.int (Int32.ofNat qq)), .val (.int (Int32.ofNat cs.length)), .val (.int (Int32.ofNat qq)), .val (.int (cs.getD qq 0))] [(.int ((cs.getD qq 0).toInt8.toInt32)), (.int (Int32.ofNat qq)), (.ref bv)])) rfl rfl (hb hby own_d5_31)
      rw [own_narB] at W8
      refine own_go st8 ?_
      have V8 : Arv Z h8 bv kb .byte (Int32.ofNat cs.length) (own_bs (cs.take qq) ++ [(.int ((cs.getD qq 0).toInt8.toInt32))]) (.int 0) := own_store1 Ab (by rw [htl, own_clampN (by omega)]; omega) (own_fitsB _) W8 (by rw [own_clampN (by omega), htl])
      have N8 := Fr.snoc X8 Nl gbv
      have sz9 : hl.size ≤ h8.size := Nat.le_of_eq (Wr.size W8).symm
      have K9 := Kl.wr W8 (Or.inl (List.mem_of_getElem? (i := 0) rfl))
      show own_Rn p e below _ (T8.setTop (mkF m 32 #[.val (.ref sa), .val (.int (Int32.ofNat qq)), .val (.ref bv), .val (.int (Int32.ofNat qq)), .val (.int (Int32.ofNat cs.length)), .val (.int (Int32.ofNat qq)), .val (.int (cs.getD qq 0))] []))
      refine own_ii X8 hx #[.val (.ref sa), .val (.int ((Int32.ofNat qq) + (1 : Int32))), .val (.ref bv), .val (.int (Int32.ofNat qq)), .val (.int (Int32.ofNat cs.length)), .val (.int (Int32.ofNat qq)), .val (.int (cs.getD qq 0))] 35 (hb hby own_d5_32) rfl rfl rfl ?_
      refine own_ii X8 hx #[.val (.ref sa), .val (.int ((Int32.ofNat qq) + (1 : Int32))), .val (.ref bv), .val (.int ((Int32.ofNat qq) + (1 : Int32))), .val (.int (Int32.ofNat cs.length)), .val (.int (Int32.ofNat qq)), .val (.int (cs.getD qq 0))] 38 (hb hby own_d5_35) rfl rfl rfl ?_
      refine own_ii X8 hx #[.val (.ref sa), .val (.int ((Int32.ofNat qq) + (1 : Int32))), .val (.ref bv), .val (.int ((Int32.ofNat qq) + (1 : Int32))), .val (.int (Int32.ofNat cs.length)), .val (.int ((Int32.ofNat qq) + (1 : Int32))), .val (.int (cs.getD qq 0))] 41 (hb hby own_d5_38) rfl rfl rfl ?_
      refine own_gt X8 hx 3 (hb hby own_d5_41) (by decide) (by decide) ?_
      have F10 : Arv Z h8 sa ka .char (Int32.ofNat cs.length) (cs.map Value.int) dv := (As.other W8 nsb)
      have F11 : Old Z n0 h8 := (Ol.wr W8 gbv)
      rw [show (Int32.ofNat qq + (1 : Int32)) = Int32.ofNat (qq + 1) from (inc_ofNat qq).symm]
      exact ih (qq + 1) _ _ _ _ (by omega) X8 e8 N8 K9 F11 F10 (by rw [own_take_succ cs qq (by omega), own_bs_app]; exact V8) (One.val rfl)
  exact loop cs.length 0 _ _ _ _ (by omega) X0 e0 N0 K0 X00 Pm0 Pm3 One.u
theorem own_ef_rmC3 (m : MethodId) (sa : Addr) (ka : ClassId) (cs : List Int32) (dv : Value) : entryFrame m #[(.ref sa), (.int (0 : Int32)), (.int (Int32.ofNat cs.length))] 6 = mkF m 0 #[.val (.ref sa), .val (.int (0 : Int32)), .val (.int (Int32.ofNat cs.length)), .unset, .unset, .unset] [] := by first | (simp [entryFrame, mkF, argsToLocals, Value.category]; done) | rfl
theorem own_d4_0 : decode jdk_52_method_16_code 0 = .ok (.iload_n 2, 1) := by decide +kernel
theorem own_d4_1 : decode jdk_52_method_16_code 1 = .ok (.newarray .byte, 2) := by decide +kernel
theorem own_d4_3 : decode jdk_52_method_16_code 3 = .ok (.astore_n 3, 1) := by decide +kernel
theorem own_d4_4 : decode jdk_52_method_16_code 4 = .ok (.aload_n 0, 1) := by decide +kernel
theorem own_d4_5 : decode jdk_52_method_16_code 5 = .ok (.iload_n 1, 1) := by decide +kernel
theorem own_d4_6 : decode jdk_52_method_16_code 6 = .ok (.aload_n 3, 1) := by decide +kernel
theorem own_d4_7 : decode jdk_52_method_16_code 7 = .ok (.iconst 0, 1) := by decide +kernel
theorem own_d4_8 : decode jdk_52_method_16_code 8 = .ok (.iload_n 2, 1) := by decide +kernel
theorem own_d4_9 : decode jdk_52_method_16_code 9 = .ok (.invokestatic 115, 3) := by decide +kernel
theorem own_pd_285bCI5bBII29I : parseMethodDescriptor "([CI[BII)I" = some ⟨[(.array .char), .int, (.array .byte), .int, .int], some .int⟩ := by decide +kernel
theorem own_d4_12 : decode jdk_52_method_16_code 12 = .ok (.istore 4, 2) := by decide +kernel
theorem own_d4_14 : decode jdk_52_method_16_code 14 = .ok (.iload 4, 2) := by decide +kernel
theorem own_d4_16 : decode jdk_52_method_16_code 16 = .ok (.iload_n 2, 1) := by decide +kernel
theorem own_d4_17 : decode jdk_52_method_16_code 17 = .ok (.if_icmp .eq 40, 3) := by decide +kernel
theorem own_d4_57 : decode jdk_52_method_16_code 57 = .ok (.aload_n 3, 1) := by decide +kernel
theorem own_d4_58 : decode jdk_52_method_16_code 58 = .ok (.areturn, 1) := by decide +kernel
def Q_rmC3 (Z : State) (sa : Addr) (ka : ClassId) (cs : List Int32) (dv : Value) (h0 : Heap) (n0 : Nat) (vq : Option Value) (hhq : Heap) (Lq : List Loc) : Prop := ∃ (t : Addr), ∃ (kt : ClassId), vq = some (.ref t) ∧ Fr n0 Lq ∧ Keep h0 hhq [] ∧ h0.size ≤ t ∧ n0 ≤ t ∧ Arv Z hhq t kt .byte (Int32.ofNat cs.length) (own_bs cs) (.int 0) ∧ Exa Z hhq t "[B"
set_option maxRecDepth 65536 in
set_option maxHeartbeats 40000000 in
theorem rmC3 (l : Launch) (Z : State) (a0 : Array Value) (hw : ∀ d ∈ tables_1, d.before a0 Z = true) (ws : List Jvm.Cond) (sa : Addr) (ka : ClassId) (cs : List Int32) (dv : Value) (h0 : Heap) (n0 : Nat) (Z0 : n0 ≤ h0.size) (Pm0 : Arv Z h0 sa ka .char (Int32.ofNat cs.length) (cs.map Value.int) dv) (hn : (cs.length ≤ 7)) (hr : (∀ c ∈ cs, ¬ c < 0 ∧ ¬ (255 : Int32) < c)) (X00 : Old Z n0 h0) :
    MetFree l (⟨"java/lang/StringUTF16", "compress", "([CII)[B"⟩ : MethodName) (head1 (Jvm.Cond.code (⟨"java/lang/StringUTF16", "compress", "([CII)[B"⟩ : MethodName) jdk_52_method_16_code 6 (some (.array .byte)) :: ws) ({ frames := 1, cells := 1, slots := 7, locals := 18 } : Room)) (fun aq U => aq = #[(.ref sa), (.int (0 : Int32)), (.int (Int32.ofNat cs.length))] ∧ Z.Warmed39 U.vm ∧ U.heap = h0) (fun _ _ _ _ _ => True) (fun _ U oq U' => ∃ vq Lq, oq = .returned vq ∧ Q_rmC3 Z sa ka cs dv h0 n0 vq U'.heap Lq ∧ FrameEnd U oq U' Lq ({ frames := 1, cells := 1, slots := 7, locals := 18 } : Room).cells ({ frames := 1, cells := 1, slots := 7, locals := 18 } : Room).slots) := by
  refine MetFree.of_bodySF (plainFor_of_name own_pn_java_lang_StringUTF16) hisR ?_
  intro p e s m args below meth c s₁ Bd hml0 hP hK
  obtain ⟨rfl, hZ, hh⟩ := hP
  have hx := Bd.exec
  have hby := Bd.bytes
  have hml : c.maxLocals = 6 := hml0
  have hown : s.vm.findClass "java/lang/StringUTF16" = some m.cls := findClass_of_methodNamed Bd.named
  have hnm := (name_of_methodNamed Bd.named Bd.method).1
  have X0 : Stand p l e ({ frames := 1, cells := 1, slots := 7, locals := 18 } : Room) s m #[(.ref sa), (.int (0 : Int32)), (.int (Int32.ofNat cs.length))] below meth c s₁ [] 0 0 := Stand.of_body Bd
  have e0 : s₁.heap = h0 := by rw [← hh, Bd.state]; rfl
  have N0 := Fr.nil n0
  have K0 : Keep h0 h0 [] := Keep.refl _ _
  refine own_go (S' := s₁.setTop (mkF m 0 #[.val (.ref sa), .val (.int (0 : Int32)), .val (.int (Int32.ofNat cs.length)), .unset, .unset, .unset] [])) (fun tq kq => castTop (own_ef_rmC3 m sa ka cs dv) kq) ?_
  have lt1 : @LT.lt Nat _ sa h0.size := Pm0.lt
  refine own_iln X0 hx 1 (hb hby own_d4_0) rfl rfl ?_
  obtain ⟨T2, h2, k2, X2, e2, E2, A2, B2, st2⟩ := own_newP X0 hx hZ (hw _ (own_mi 24 rfl)) e0 (g := (mkF m 1 #[.val (.ref sa), .val (.int (0 : Int32)), .val (.int (Int32.ofNat cs.length)), .unset, .unset, .unset] [(.int (Int32.ofNat cs.length))])) rfl (hb hby own_d4_1) rfl (own_nneg (by omega)) (cap := 7) (by rw [own_clampN (by omega)]; exact hn) (by decide) (by decide) (by decide)
  obtain ⟨b2, g2⟩ : ∃ z, z = h0.size := ⟨_, rfl⟩
  rw [← g2] at A2 B2 st2
  refine own_go st2 ?_
  have sz3 : h0.size ≤ h2.size := E2.1
  have K3 := K0.ext E2
  have gn2 : n0 ≤ b2 := (Nat.le_trans (Nat.le_trans Z0 (Nat.le_refl _)) (Nat.le_of_eq g2.symm))
  have V2 : Arv Z h2 b2 k2 .byte (Int32.ofNat cs.length) [] (.int (0 : Int32)) := Arv.new A2 (own_nneg (by omega))
  have BX2 : Exa Z h2 b2 "[B" := own_isB B2
  have lt4 : @LT.lt Nat _ b2 h2.size := BX2.lt
  show own_Rn p e below _ (T2.setTop (mkF m 3 #[.val (.ref sa), .val (.int (0 : Int32)), .val (.int (Int32.ofNat cs.length)), .unset, .unset, .unset] [(.ref b2)]))
  refine own_asn X2 hx #[.val (.ref sa), .val (.int (0 : Int32)), .val (.int (Int32.ofNat cs.length)), .val (.ref b2), .unset, .unset] 4 (hb hby own_d4_3) rfl rfl rfl ?_
  refine own_aln X2 hx 5 (hb hby own_d4_4) rfl rfl rfl ?_
  refine own_iln X2 hx 6 (hb hby own_d4_5) rfl rfl ?_
  refine own_aln X2 hx 7 (hb hby own_d4_6) rfl rfl rfl ?_
  refine own_ic X2 hx (0 : Int32) 8 (hb hby own_d4_7) rfl rfl ?_
  refine own_iln X2 hx 9 (hb hby own_d4_8) rfl rfl ?_
  have ne5 : sa ≠ b2 := own_nea (Or.inl (Nat.lt_of_lt_of_le lt1 (Nat.le_trans (Nat.le_refl _) (Nat.le_of_eq g2.symm))))
  have Zn6 : n0 ≤ h2.size := (Nat.le_trans Z0 sz3)
  have F7 : Arv Z h2 sa ka .char (Int32.ofNat cs.length) (cs.map Value.int) dv := (Pm0.ext E2)
  have F8 : Old Z n0 h2 := (X00.ext E2)
  refine own_cS X2 hx hZ (y := (⟨"java/lang/StringUTF16", "compress", "([CI[BII)I"⟩ : MethodName)) hown (hw _ (own_mi 25 rfl)) (hw _ (own_mi 26 rfl)) (hw _ (own_mi 22 rfl)) (hw _ (own_mi 27 rfl)) (by decide) (rmC5 l Z a0 hw [] (sa) (ka) (cs) (dv) (b2) (k2) h2 n0 Zn6 F7 (hn) (hr) V2 gn2 (ne5) F8) e2 [(.ref sa), (.int (0 : Int32)), (.ref b2), (.int (0 : Int32)), (.int (Int32.ofNat cs.length))] [] rfl (by rw [hml]; rfl) (lenOf own_pd_285bCI5bBII29I rfl) rfl 0 (Nat.le_of_eq rfl) (by decide) (by decide) (by decide : 1 + 0 ≤ _) (by decide : 7 + 0 ≤ _) 12 (hb hby own_d4_9) rfl 1 7 rfl rfl ?_
  intro rv6 T6 Lc6 X6 hQ6
  obtain ⟨rfl, Nq6, Kq6, G0_6⟩ := hQ6
  have N6 := Fr.app N0 Nq6
  have sz9 : h2.size ≤ T6.heap.size := Kq6.1
  have K9 := K3.trans Kq6 (allS (Or.inr (Nat.le_trans (Nat.le_refl _) (Nat.le_of_eq g2.symm))) all0)
  show own_Rn p e below _ (T6.setTop (mkF m 12 #[.val (.ref sa), .val (.int (0 : Int32)), .val (.int (Int32.ofNat cs.length)), .val (.ref b2), .unset, .unset] [(.int (Int32.ofNat cs.length))]))
  refine own_is X6 hx #[.val (.ref sa), .val (.int (0 : Int32)), .val (.int (Int32.ofNat cs.length)), .val (.ref b2), .val (.int (Int32.ofNat cs.length)), .unset] 14 (hb hby own_d4_12) rfl rfl ?_
  refine own_il X6 hx 16 (hb hby own_d4_14) rfl rfl ?_
  refine own_iln X6 hx 17 (hb hby own_d4_16) rfl rfl ?_
  refine own_icY X6 hx 57 (hb hby own_d4_17) (teq (rfl : (Int32.ofNat cs.length) = (Int32.ofNat cs.length))).1 (by decide) (by decide) ?_
  refine own_aln X6 hx 58 (hb hby own_d4_57) rfl rfl rfl ?_
  have F10 : Exa Z T6.heap b2 "[B" := (BX2.keep Kq6)
  exact own_ret X6 (v := some (.ref b2)) (fun h => by rw [Bd.returns] at h; cases h) (fun fs hr => X6.areturnOut hx rfl Bd.returns rfl (hb hby own_d4_58) hr) (⟨b2, k2, rfl, N6, K9, (Nat.le_trans (Nat.le_refl _) (Nat.le_of_eq g2.symm)), gn2, G0_6, F10⟩) (by decide) (by decide)
theorem own_ef_rmCF (m : MethodId) (bv : Addr) (kb : ClassId) (cs : List Int32) : entryFrame m #[(.ref bv), (.int (Int32.ofNat cs.length))] 2 = mkF m 0 #[.val (.ref bv), .val (.int (Int32.ofNat cs.length))] [] := by first | (simp [entryFrame, mkF, argsToLocals, Value.category]; done) | rfl
theorem own_d6_0 : decode jdk_52_method_15_code 0 = .ok (.iload_n 1, 1) := by decide +kernel
theorem own_d6_1 : decode jdk_52_method_15_code 1 = .ok (.aload_n 0, 1) := by decide +kernel
theorem own_d6_2 : decode jdk_52_method_15_code 2 = .ok (.arraylength, 1) := by decide +kernel
theorem own_d6_3 : decode jdk_52_method_15_code 3 = .ok (.isub, 1) := by decide +kernel
theorem own_d6_4 : decode jdk_52_method_15_code 4 = .ok (.bipush 31, 2) := by decide +kernel
theorem own_d6_6 : decode jdk_52_method_15_code 6 = .ok (.iushr, 1) := by decide +kernel
theorem own_d6_7 : decode jdk_52_method_15_code 7 = .ok (.i2b, 1) := by decide +kernel
theorem own_d6_8 : decode jdk_52_method_15_code 8 = .ok (.ireturn, 1) := by decide +kernel
def Q_rmCF (Z : State) (bv : Addr) (kb : ClassId) (cs : List Int32) (h0 : Heap) (n0 : Nat) (vq : Option Value) (hhq : Heap) (Lq : List Loc) : Prop := vq = some (.int (0 : Int32)) ∧ Fr n0 Lq ∧ hhq = h0
set_option maxRecDepth 65536 in
set_option maxHeartbeats 40000000 in
theorem rmCF (l : Launch) (Z : State) (a0 : Array Value) (hw : ∀ d ∈ tables_1, d.before a0 Z = true) (ws : List Jvm.Cond) (bv : Addr) (kb : ClassId) (cs : List Int32) (h0 : Heap) (n0 : Nat) (Z0 : n0 ≤ h0.size) (Pm0 : Arv Z h0 bv kb .byte (Int32.ofNat cs.length) (own_bs cs) (.int 0)) :
    MetFree l (⟨"java/lang/StringUTF16", "coderFromArrayLen", "([BI)B"⟩ : MethodName) (head1 (Jvm.Cond.code (⟨"java/lang/StringUTF16", "coderFromArrayLen", "([BI)B"⟩ : MethodName) jdk_52_method_15_code 2 (some .byte) :: ws) ({ frames := 0, cells := 0, slots := 0, locals := 0 } : Room)) (fun aq U => aq = #[(.ref bv), (.int (Int32.ofNat cs.length))] ∧ Z.Warmed39 U.vm ∧ U.heap = h0) (fun _ _ _ _ _ => True) (fun _ U oq U' => ∃ vq Lq, oq = .returned vq ∧ Q_rmCF Z bv kb cs h0 n0 vq U'.heap Lq ∧ FrameEnd U oq U' Lq ({ frames := 0, cells := 0, slots := 0, locals := 0 } : Room).cells ({ frames := 0, cells := 0, slots := 0, locals := 0 } : Room).slots) := by
  refine MetFree.of_bodySF (plainFor_of_name own_pn_java_lang_StringUTF16) hisR ?_
  intro p e s m args below meth c s₁ Bd hml0 hP hK
  obtain ⟨rfl, hZ, hh⟩ := hP
  have hx := Bd.exec
  have hby := Bd.bytes
  have hml : c.maxLocals = 2 := hml0
  have hown : s.vm.findClass "java/lang/StringUTF16" = some m.cls := findClass_of_methodNamed Bd.named
  have hnm := (name_of_methodNamed Bd.named Bd.method).1
  have X0 : Stand p l e ({ frames := 0, cells := 0, slots := 0, locals := 0 } : Room) s m #[(.ref bv), (.int (Int32.ofNat cs.length))] below meth c s₁ [] 0 0 := Stand.of_body Bd
  have e0 : s₁.heap = h0 := by rw [← hh, Bd.state]; rfl
  have N0 := Fr.nil n0
  have K0 : Keep h0 h0 [] := Keep.refl _ _
  refine own_go (S' := s₁.setTop (mkF m 0 #[.val (.ref bv), .val (.int (Int32.ofNat cs.length))] [])) (fun tq kq => castTop (own_ef_rmCF m bv kb cs) kq) ?_
  have lt1 : @LT.lt Nat _ bv h0.size := Pm0.lt
  refine own_iln X0 hx 1 (hb hby own_d6_0) rfl rfl ?_
  refine own_aln X0 hx 2 (hb hby own_d6_1) rfl rfl rfl ?_
  refine own_alen X0 hx hZ e0 Pm0 3 (hb hby own_d6_2) rfl ?_
  refine own_isub X0 hx 4 (hb hby own_d6_3) rfl ?_
  refine own_bp X0 hx (31 : Int32) 6 (hb hby own_d6_4) rfl rfl ?_
  refine own_iushr X0 hx 7 (hb hby own_d6_6) rfl ?_
  refine own_i2b X0 hx 8 (hb hby own_d6_7) rfl ?_
  rw [show (((((Int32.ofNat cs.length) - (Int32.ofNat cs.length)).toUInt32 >>> ((31 : Int32) &&& 31).toUInt32).toInt32).toInt8.toInt32) = (0 : Int32) from own_cl0 _]
  exact own_ret X0 (v := some (.int (nar .byte (0 : Int32)))) (fun h => by rw [Bd.returns] at h; cases h) (fun fs hr => retN X0 hx (t := .byte) Bd.returns (by simp) (hb hby own_d6_8) hr) (by rw [e0]; exact ⟨rfl, N0, rfl⟩) (by decide) (by decide)
theorem own_ef_rmI4 (m : MethodId) (x : Addr) (sa : Addr) (ka : ClassId) (cs : List Int32) (dv : Value) (G1 : Int32) : entryFrame m #[(.ref x), (.ref sa), (.int (0 : Int32)), (.int (Int32.ofNat cs.length)), .null] 6 = mkF m 0 #[.val (.ref x), .val (.ref sa), .val (.int (0 : Int32)), .val (.int (Int32.ofNat cs.length)), .val .null, .unset] [] := by first | (simp [entryFrame, mkF, argsToLocals, Value.category]; done) | rfl
theorem own_pn_java_lang_String : plainName "java/lang/String" = true := by first | (simp [plainName, overriddenIn]; done) | decide +kernel
theorem own_d2_0 : decode jdk_42_method_149_code 0 = .ok (.aload_n 0, 1) := by decide +kernel
theorem own_d2_1 : decode jdk_42_method_149_code 1 = .ok (.invokespecial 1, 3) := by decide +kernel
theorem own_d2_4 : decode jdk_42_method_149_code 4 = .ok (.iload_n 3, 1) := by decide +kernel
theorem own_d2_5 : decode jdk_42_method_149_code 5 = .ok (.ifCond .ne 22, 3) := by decide +kernel
theorem own_d2_27 : decode jdk_42_method_149_code 27 = .ok (.getstatic 38, 3) := by decide +kernel
theorem own_d2_30 : decode jdk_42_method_149_code 30 = .ok (.ifCond .eq 28, 3) := by decide +kernel
theorem own_d2_33 : decode jdk_42_method_149_code 33 = .ok (.aload_n 1, 1) := by decide +kernel
theorem own_d2_34 : decode jdk_42_method_149_code 34 = .ok (.iload_n 2, 1) := by decide +kernel
theorem own_d2_35 : decode jdk_42_method_149_code 35 = .ok (.iload_n 3, 1) := by decide +kernel
theorem own_d2_36 : decode jdk_42_method_149_code 36 = .ok (.invokestatic 177, 3) := by decide +kernel
theorem own_pd_285bCII295bB : parseMethodDescriptor "([CII)[B" = some ⟨[(.array .char), .int, .int], some (.array .byte)⟩ := by decide +kernel
theorem own_d2_39 : decode jdk_42_method_149_code 39 = .ok (.astore 5, 2) := by decide +kernel
theorem own_d2_41 : decode jdk_42_method_149_code 41 = .ok (.aload_n 0, 1) := by decide +kernel
theorem own_d2_42 : decode jdk_42_method_149_code 42 = .ok (.aload 5, 2) := by decide +kernel
theorem own_d2_44 : decode jdk_42_method_149_code 44 = .ok (.iload_n 3, 1) := by decide +kernel
theorem own_d2_45 : decode jdk_42_method_149_code 45 = .ok (.invokestatic 47, 3) := by decide +kernel
theorem own_pd_285bBI29B : parseMethodDescriptor "([BI)B" = some ⟨[(.array .byte), .int], some .byte⟩ := by decide +kernel
theorem own_d2_48 : decode jdk_42_method_149_code 48 = .ok (.putfield 15, 3) := by decide +kernel
theorem own_fd_B : parseFieldDescriptor "B" = some .byte := by decide +kernel
theorem own_d2_51 : decode jdk_42_method_149_code 51 = .ok (.aload_n 0, 1) := by decide +kernel
theorem own_d2_52 : decode jdk_42_method_149_code 52 = .ok (.aload 5, 2) := by decide +kernel
theorem own_d2_54 : decode jdk_42_method_149_code 54 = .ok (.putfield 9, 3) := by decide +kernel
theorem own_fd_5bB : parseFieldDescriptor "[B" = some (.array .byte) := by decide +kernel
theorem own_d2_57 : decode jdk_42_method_149_code 57 = .ok (.return_, 1) := by decide +kernel
def Q_rmI4 (Z : State) (x : Addr) (sa : Addr) (ka : ClassId) (cs : List Int32) (dv : Value) (G1 : Int32) (h0 : Heap) (n0 : Nat) (vq : Option Value) (hhq : Heap) (Lq : List Loc) : Prop := ∃ (t : Addr), ∃ (kt : ClassId), vq = none ∧ Fr n0 Lq ∧ Keep h0 hhq [x] ∧ h0.size ≤ t ∧ n0 ≤ t ∧ Fld Z hhq x "java/lang/String" "value" "[B" (.ref t) ∧ Fld Z hhq x "java/lang/String" "coder" "B" (.int (0 : Int32)) ∧ Arv Z hhq t kt .byte (Int32.ofNat cs.length) (own_bs cs) (.int 0) ∧ Exa Z hhq t "[B"
set_option maxRecDepth 65536 in
set_option maxHeartbeats 40000000 in
theorem rmI4 (l : Launch) (Z : State) (a0 : Array Value) (hw : ∀ d ∈ tables_1, d.before a0 Z = true) (ws : List Jvm.Cond) (x : Addr) (sa : Addr) (ka : ClassId) (cs : List Int32) (dv : Value) (G1 : Int32) (h0 : Heap) (n0 : Nat) (Z0 : n0 ≤ h0.size) (Pm0 : Exa Z h0 x "java/lang/String") (Pm1 : Fld Z h0 x "java/lang/String" "value" "[B" .null) (Pm2 : Fld Z h0 x "java/lang/String" "coder" "B" (.int (0 : Int32))) (Pm3 : n0 ≤ x) (Pm4 : Arv Z h0 sa ka .char (Int32.ofNat cs.length) (cs.map Value.int) dv) (hn : (cs.length ≤ 7)) (hr : (∀ c ∈ cs, ¬ c < 0 ∧ ¬ (255 : Int32) < c)) (h0n : (0 < cs.length)) (O2 : Sta Z Z.heap "java/lang/String" "COMPACT_STRINGS" "Z" (.int G1)) (P5 : (¬ (G1 = (0 : Int32)))) (X00 : Old Z n0 h0) :
    MetFree l (⟨"java/lang/String", "<init>", "([CIILjava/lang/Void;)V"⟩ : MethodName) (head1 (Jvm.Cond.code (⟨"java/lang/String", "<init>", "([CIILjava/lang/Void;)V"⟩ : MethodName) jdk_42_method_149_code 6 none :: ws) ({ frames := 2, cells := 1, slots := 7, locals := 35 } : Room)) (fun aq U => aq = #[(.ref x), (.ref sa), (.int (0 : Int32)), (.int (Int32.ofNat cs.length)), .null] ∧ Z.Warmed39 U.vm ∧ U.heap = h0) (fun _ _ _ _ _ => True) (fun _ U oq U' => ∃ vq Lq, oq = .returned vq ∧ Q_rmI4 Z x sa ka cs dv G1 h0 n0 vq U'.heap Lq ∧ FrameEnd U oq U' Lq ({ frames := 2, cells := 1, slots := 7, locals := 35 } : Room).cells ({ frames := 2, cells := 1, slots := 7, locals := 35 } : Room).slots) := by
  refine MetFree.of_bodySF (plainFor_of_name own_pn_java_lang_String) hisR ?_
  intro p e s m args below meth c s₁ Bd hml0 hP hK
  obtain ⟨rfl, hZ, hh⟩ := hP
  have hx := Bd.exec
  have hby := Bd.bytes
  have hml : c.maxLocals = 6 := hml0
  have hown : s.vm.findClass "java/lang/String" = some m.cls := findClass_of_methodNamed Bd.named
  have hnm := (name_of_methodNamed Bd.named Bd.method).1
  have X0 : Stand p l e ({ frames := 2, cells := 1, slots := 7, locals := 35 } : Room) s m #[(.ref x), (.ref sa), (.int (0 : Int32)), (.int (Int32.ofNat cs.length)), .null] below meth c s₁ [] 0 0 := Stand.of_body Bd
  have e0 : s₁.heap = h0 := by rw [← hh, Bd.state]; rfl
  have N0 := Fr.nil n0
  have K0 : Keep h0 h0 [x] := Keep.refl _ _
  refine own_go (S' := s₁.setTop (mkF m 0 #[.val (.ref x), .val (.ref sa), .val (.int (0 : Int32)), .val (.int (Int32.ofNat cs.length)), .val .null, .unset] [])) (fun tq kq => castTop (own_ef_rmI4 m x sa ka cs dv G1) kq) ?_
  have lt1 : @LT.lt Nat _ x h0.size := Pm0.lt
  have lt2 : @LT.lt Nat _ sa h0.size := Pm4.lt
  refine own_aln X0 hx 1 (hb hby own_d2_0) rfl rfl rfl ?_
  obtain ⟨T3, X3, e3, st3⟩ := initO X0 hx hZ hown (hw _ (own_mi 16 rfl)) (hw _ (own_mi 17 rfl)) (hw _ (own_mi 18 rfl)) e0 (g := (mkF m 1 #[.val (.ref x), .val (.ref sa), .val (.int (0 : Int32)), .val (.int (Int32.ofNat cs.length)), .val .null, .unset] [(.ref x)])) rfl (by rw [hml]; rfl) rfl (hb hby own_d2_1) (by decide) (W := 0) (by show 2 * 0 + _ ≤ _; exact Nat.le_of_eq rfl) (by decide)
  refine own_go st3 ?_
  show own_Rn p e below _ (T3.setTop (mkF m 4 #[.val (.ref x), .val (.ref sa), .val (.int (0 : Int32)), .val (.int (Int32.ofNat cs.length)), .val .null, .unset] []))
  refine own_iln X3 hx 5 (hb hby own_d2_4) rfl rfl ?_
  refine own_ifY X3 hx 27 (hb hby own_d2_5) ((if0 _ _).trans (feq ((fun h => absurd (own_ofNat_inj (K := 0) h (by omega) (by decide)) (by omega)) : ¬ ((Int32.ofNat cs.length) = (0 : Int32)))).2) (by decide) (by decide) ?_
  refine own_gS X3 hx hZ hown (host := "") (Or.inl (hw _ (own_mi 19 rfl))) Via.refl e3 (O2.ext X00.2) 30 (hb hby own_d2_27) rfl ?_
  intro T4 X4 e4
  refine own_ifN X4 hx 33 (hb hby own_d2_30) rfl ((if0 _ _).trans (feq (P5 : ¬ (G1 = (0 : Int32)))).1) ?_
  refine own_aln X4 hx 34 (hb hby own_d2_33) rfl rfl rfl ?_
  refine own_iln X4 hx 35 (hb hby own_d2_34) rfl rfl ?_
  refine own_iln X4 hx 36 (hb hby own_d2_35) rfl rfl ?_
  have Zn5 : n0 ≤ h0.size := (Nat.le_trans Z0 (Nat.le_refl _))
  refine own_cS X4 hx hZ (y := (⟨"java/lang/StringUTF16", "compress", "([CII)[B"⟩ : MethodName)) hown (hw _ (own_mi 20 rfl)) (hw _ (own_mi 21 rfl)) (hw _ (own_mi 22 rfl)) (hw _ (own_mi 23 rfl)) (by decide) (rmC3 l Z a0 hw [] (sa) (ka) (cs) (dv) h0 n0 Zn5 Pm4 (hn) (hr) X00) e4 [(.ref sa), (.int (0 : Int32)), (.int (Int32.ofNat cs.length))] [] rfl (by rw [hml]; rfl) (lenOf own_pd_285bCII295bB rfl) rfl 0 (Nat.le_of_eq rfl) (by decide) (by decide) (by decide : 0 + 1 ≤ _) (by decide : 0 + 7 ≤ _) 39 (hb hby own_d2_36) rfl 1 7 rfl rfl ?_
  intro rv5 T5 Lc5 X5 hQ5
  obtain ⟨tt, ktt, rfl, Nq5, Kq5, G0_5, G1_5, G2_5, G3_5⟩ := hQ5
  have N5 := Fr.app N0 Nq5
  have sz6 : h0.size ≤ T5.heap.size := Kq5.1
  have K6 := K0.trans Kq5 all0
  have lt7 : @LT.lt Nat _ tt T5.heap.size := G2_5.lt
  show own_Rn p e below _ (T5.setTop (mkF m 39 #[.val (.ref x), .val (.ref sa), .val (.int (0 : Int32)), .val (.int (Int32.ofNat cs.length)), .val .null, .unset] [(.ref tt)]))
  refine own_as X5 hx #[.val (.ref x), .val (.ref sa), .val (.int (0 : Int32)), .val (.int (Int32.ofNat cs.length)), .val .null, .val (.ref tt)] 41 (hb hby own_d2_39) rfl rfl rfl ?_
  refine own_aln X5 hx 42 (hb hby own_d2_41) rfl rfl rfl ?_
  refine own_al X5 hx 44 (hb hby own_d2_42) rfl rfl rfl ?_
  refine own_iln X5 hx 45 (hb hby own_d2_44) rfl rfl ?_
  have Zn8 : n0 ≤ T5.heap.size := (Nat.le_trans Z0 sz6)
  refine own_cS X5 hx hZ (y := (⟨"java/lang/StringUTF16", "coderFromArrayLen", "([BI)B"⟩ : MethodName)) hown (hw _ (own_mi 28 rfl)) (hw _ (own_mi 29 rfl)) (hw _ (own_mi 22 rfl)) (hw _ (own_mi 30 rfl)) (by decide) (rmCF l Z a0 hw [] (tt) (ktt) (cs) T5.heap n0 Zn8 G2_5) rfl [(.ref tt), (.int (Int32.ofNat cs.length))] [(.ref x)] rfl (by rw [hml]; rfl) (lenOf own_pd_285bBI29B rfl) rfl 1 (Nat.le_of_eq rfl) (by decide) (by decide) (by decide : 1 + 0 ≤ _) (by decide : 7 + 0 ≤ _) 48 (hb hby own_d2_45) rfl 1 7 rfl rfl ?_
  intro rv8 T8 Lc8 X8 hQ8
  obtain ⟨rfl, Nq8, eh8⟩ := hQ8
  have N8 := Fr.app N5 Nq8
  show own_Rn p e below _ (T8.setTop (mkF m 48 #[.val (.ref x), .val (.ref sa), .val (.int (0 : Int32)), .val (.int (Int32.ofNat cs.length)), .val .null, .val (.ref tt)] [(.int (0 : Int32)), (.ref x)]))
  have F9 : Fld Z T5.heap x "java/lang/String" "coder" "B" (.int (0 : Int32)) := (Pm2.keep Kq5 nin0)
  have F10 : Exa Z T5.heap x "java/lang/String" := (Pm0.keep Kq5)
  obtain ⟨T11, h11, X11, e11, W11, st11⟩ := putFN X8 hx hZ hown (hw _ (own_mi 31 rfl)) Via.refl eh8 F9 F10 (Or.inr ⟨(hw _ (own_mi 32 rfl)), rfl, hnm⟩) (hw _ (own_mi 7 rfl)) (ty := .byte) (v' := (.int ((0 : Int32)))) own_fd_B rfl (by decide) (g := (mkF m 48 #[.val (.ref x), .val (.ref sa), .val (.int (0 : Int32)), .val (.int (Int32.ofNat cs.length)), .val .null, .val (.ref tt)] [(.int (0 : Int32)), (.ref x)])) rfl rfl (hb hby own_d2_48)
  refine own_go st11 ?_
  have N11 := Fr.snoc X11 N8 Pm3
  have Fw11 := F9.same W11
  have sz12 : T5.heap.size ≤ h11.size := Nat.le_of_eq (Wr.size W11).symm
  have K12 := K6.wr W11 (Or.inl (List.mem_of_getElem? (i := 0) rfl))
  show own_Rn p e below _ (T11.setTop (mkF m 51 #[.val (.ref x), .val (.ref sa), .val (.int (0 : Int32)), .val (.int (Int32.ofNat cs.length)), .val .null, .val (.ref tt)] []))
  refine own_aln X11 hx 52 (hb hby own_d2_51) rfl rfl rfl ?_
  refine own_al X11 hx 54 (hb hby own_d2_52) rfl rfl rfl ?_
  have F13 : Fld Z h11 x "java/lang/String" "value" "[B" .null := ((Pm1.keep Kq5 nin0).other W11 (Or.inr (slot_ne (Or.inr (hw _ (own_mi 34 rfl))) (Or.inr (hw _ (own_mi 32 rfl))) (by decide) (t := (.array .byte)) (t' := .byte) own_fd_5bB own_fd_B)))
  have F14 : Exa Z h11 x "java/lang/String" := (F10.wr W11)
  obtain ⟨T15, h15, X15, e15, W15, st15⟩ := putF X11 hx hZ hown (host := "") (Or.inl (hw _ (own_mi 33 rfl))) Via.refl e11 F13 F14 (Or.inr ⟨(hw _ (own_mi 34 rfl)), rfl, hnm⟩) (hw _ (own_mi 7 rfl)) (ty := (.array .byte)) own_fd_5bB rfl rfl (g := (mkF m 54 #[.val (.ref x), .val (.ref sa), .val (.int (0 : Int32)), .val (.int (Int32.ofNat cs.length)), .val .null, .val (.ref tt)] [(.ref tt), (.ref x)])) rfl rfl (hb hby own_d2_54)
  refine own_go st15 ?_
  have N15 := Fr.snoc X15 N11 Pm3
  have Fw15 := F13.same W15
  have sz16 : h11.size ≤ h15.size := Nat.le_of_eq (Wr.size W15).symm
  have K16 := K12.wr W15 (Or.inl (List.mem_of_getElem? (i := 0) rfl))
  show own_Rn p e below _ (T15.setTop (mkF m 57 #[.val (.ref x), .val (.ref sa), .val (.int (0 : Int32)), .val (.int (Int32.ofNat cs.length)), .val .null, .val (.ref tt)] []))
  have F17 : Fld Z h15 x "java/lang/String" "coder" "B" (.int (0 : Int32)) := (Fw11.other W15 (Or.inr (slot_ne (Or.inr (hw _ (own_mi 32 rfl))) (Or.inr (hw _ (own_mi 34 rfl))) (by decide) (t := .byte) (t' := (.array .byte)) own_fd_B own_fd_5bB)))
  have ne18 : tt ≠ x := own_nea (Or.inr (Nat.lt_of_lt_of_le lt1 (Nat.le_trans (Nat.le_refl _) G0_5)))
  have F19 : Arv Z h15 tt ktt .byte (Int32.ofNat cs.length) (own_bs cs) (.int 0) := ((G2_5.other W11 ne18).other W15 ne18)
  have F20 : Exa Z h15 tt "[B" := ((G3_5.wr W11).wr W15)
  exact own_ret X15 (v := none) (fun _ => rfl) (fun fs hr => X15.returnOut hx Bd.returns (hb hby own_d2_57) hr) (by rw [e15]; exact ⟨tt, ktt, rfl, N15, K16, (Nat.le_trans (Nat.le_refl _) G0_5), G1_5, Fw15, F17, F19, F20⟩) (by decide) (by decide)
theorem own_ef_rmI40 (m : MethodId) (x : Addr) (sa : Addr) : entryFrame m #[(.ref x), (.ref sa), (.int (0 : Int32)), (.int (0 : Int32)), .null] 6 = mkF m 0 #[.val (.ref x), .val (.ref sa), .val (.int (0 : Int32)), .val (.int (0 : Int32)), .val .null, .unset] [] := by first | (simp [entryFrame, mkF, argsToLocals, Value.category]; done) | rfl
theorem own_d2_8 : decode jdk_42_method_149_code 8 = .ok (.aload_n 0, 1) := by decide +kernel
theorem own_d2_9 : decode jdk_42_method_149_code 9 = .ok (.ldc 7, 2) := by decide +kernel
theorem own_d2_11 : decode jdk_42_method_149_code 11 = .ok (.getfield 9, 3) := by decide +kernel
theorem own_d2_14 : decode jdk_42_method_149_code 14 = .ok (.putfield 9, 3) := by decide +kernel
theorem own_d2_17 : decode jdk_42_method_149_code 17 = .ok (.aload_n 0, 1) := by decide +kernel
theorem own_d2_18 : decode jdk_42_method_149_code 18 = .ok (.ldc 7, 2) := by decide +kernel
theorem own_d2_20 : decode jdk_42_method_149_code 20 = .ok (.getfield 15, 3) := by decide +kernel
theorem own_d2_23 : decode jdk_42_method_149_code 23 = .ok (.putfield 15, 3) := by decide +kernel
theorem own_d2_26 : decode jdk_42_method_149_code 26 = .ok (.return_, 1) := by decide +kernel
def Q_rmI40 (Z : State) (x : Addr) (sa : Addr) (h0 : Heap) (n0 : Nat) (vq : Option Value) (hhq : Heap) (Lq : List Loc) : Prop := ∃ (t : Addr), ∃ (kt : ClassId), vq = none ∧ Fr n0 Lq ∧ Keep h0 hhq [x] ∧ Fld Z hhq x "java/lang/String" "value" "[B" (.ref t) ∧ Fld Z hhq x "java/lang/String" "coder" "B" (.int (0 : Int32)) ∧ Arv Z hhq t kt .byte (0 : Int32) (own_bs []) (.int 0) ∧ Exa Z hhq t "[B"
set_option maxRecDepth 65536 in
set_option maxHeartbeats 40000000 in
theorem rmI40 (l : Launch) (Z : State) (a0 : Array Value) (hw : ∀ d ∈ tables_1, d.before a0 Z = true) (ws : List Jvm.Cond) (x : Addr) (sa : Addr) (h0 : Heap) (n0 : Nat) (Z0 : n0 ≤ h0.size) (hEL : EW Z a0 consts_1) (Pm0 : Exa Z h0 x "java/lang/String") (Pm1 : Fld Z h0 x "java/lang/String" "value" "[B" .null) (Pm2 : Fld Z h0 x "java/lang/String" "coder" "B" (.int (0 : Int32))) (Pm3 : n0 ≤ x) :
    MetFree l (⟨"java/lang/String", "<init>", "([CIILjava/lang/Void;)V"⟩ : MethodName) (head1 (Jvm.Cond.code (⟨"java/lang/String", "<init>", "([CIILjava/lang/Void;)V"⟩ : MethodName) jdk_42_method_149_code 6 none :: ws) ({ frames := 1, cells := 4, slots := 8, locals := 12 } : Room)) (fun aq U => aq = #[(.ref x), (.ref sa), (.int (0 : Int32)), (.int (0 : Int32)), .null] ∧ Z.Warmed39 U.vm ∧ U.heap = h0 ∧ CHv Z consts_1 U.vm h0 ∧ ∀ ax ∈ ([x] : List Addr), Safe Z consts_1 U.vm h0 ax) (fun _ _ _ _ _ => True) (fun _ U oq U' => ∃ vq Lq, oq = .returned vq ∧ Q_rmI40 Z x sa h0 n0 vq U'.heap Lq ∧ CHr Z consts_1 U.vm U.heap U'.vm U'.heap ∧ ReturnedEndW U oq U' Lq ({ frames := 1, cells := 4, slots := 8, locals := 12 } : Room).cells ({ frames := 1, cells := 4, slots := 8, locals := 12 } : Room).slots) := by
  refine MetFree.of_bodySF (plainFor_of_name own_pn_java_lang_String) hisR ?_
  intro p e s m args below meth c s₁ Bd hml0 hP hK
  obtain ⟨rfl, hZ, hh, hH, hSf⟩ := hP
  have hx := Bd.exec
  have hby := Bd.bytes
  have hml : c.maxLocals = 6 := hml0
  have hown : s.vm.findClass "java/lang/String" = some m.cls := findClass_of_methodNamed Bd.named
  have hnm := (name_of_methodNamed Bd.named Bd.method).1
  have X0 : Stand p l e ({ frames := 1, cells := 4, slots := 8, locals := 12 } : Room) (s.setVm s.vm) m #[(.ref x), (.ref sa), (.int (0 : Int32)), (.int (0 : Int32)), .null] below meth c s₁ [] 0 0 := Stand.of_body Bd
  have e0 : s₁.heap = h0 := by rw [← hh, Bd.state]; rfl
  have N0 := Fr.nil n0
  have K0 : Keep h0 h0 [x] := Keep.refl _ _
  refine own_go (S' := s₁.setTop (mkF m 0 #[.val (.ref x), .val (.ref sa), .val (.int (0 : Int32)), .val (.int (0 : Int32)), .val .null, .unset] [])) (fun tq kq => castTop (own_ef_rmI40 m x sa) kq) ?_
  have lt1 : @LT.lt Nat _ x h0.size := Pm0.lt
  have hS0 : s.Since s.vm h0.size := (State.WarmedH.refl s).since _
  have CR0 : CHr Z consts_1 s.vm h0 s.vm h0 := CHr.refl hH
  have hwS : ∀ d ∈ Bundle.stringAtoms, d.before a0 Z = true := fun d hd => hw d ((by decide +kernel : ∀ d ∈ Bundle.stringAtoms, d ∈ tables_1) d hd)
  have sf_x : Safe Z consts_1 s.vm h0 x := hSf _ (List.mem_of_getElem? (i := 0) rfl)
  refine own_aln X0 hx 1 (hb hby own_d2_0) rfl rfl rfl ?_
  obtain ⟨T2, X2, e2, st2⟩ := initO X0 hx hZ hown (hw _ (own_mi 16 rfl)) (hw _ (own_mi 17 rfl)) (hw _ (own_mi 18 rfl)) e0 (g := (mkF m 1 #[.val (.ref x), .val (.ref sa), .val (.int (0 : Int32)), .val (.int (0 : Int32)), .val .null, .unset] [(.ref x)])) rfl (by rw [hml]; rfl) rfl (hb hby own_d2_1) (by decide) (W := 0) (by show 2 * 0 + _ ≤ _; exact Nat.le_of_eq rfl) (by decide)
  refine own_go st2 ?_
  show own_Rn p e below _ (T2.setTop (mkF m 4 #[.val (.ref x), .val (.ref sa), .val (.int (0 : Int32)), .val (.int (0 : Int32)), .val .null, .unset] []))
  refine own_iln X2 hx 5 (hb hby own_d2_4) rfl rfl ?_
  refine own_ifN X2 hx 8 (hb hby own_d2_5) rfl ((if0 _ _).trans (teq ((by decide : (0 : Int32) = (0 : Int32)) : (0 : Int32) = (0 : Int32))).2) ?_
  refine own_aln X2 hx 9 (hb hby own_d2_8) rfl rfl rfl ?_
  obtain ⟨a3, T3, h3, kk3, bb3, kc3, X3, e3, E3, hS3, hk3, hZ3, hown3, Ex3, Co3, Va3, Ab3, la3, lb3, crq3, Li3, sn3, st3⟩ := ldcCH X2 hx hZ hown (hw _ (own_mi 178 rfl)) hwS e2 hS0 (by omega) hEL (List.mem_of_getElem? (i := 1) rfl) CR0.1 (vs := ((([] : List Int32).map (fun c => c.toInt8.toInt32)).map Value.int)) (z := (0 : Int32)) ⟨by decide, by decide⟩ (by decide) (by decide) (g := (mkF m 9 #[.val (.ref x), .val (.ref sa), .val (.int (0 : Int32)), .val (.int (0 : Int32)), .val .null, .unset] [(.ref x)])) rfl (hb hby own_d2_9) (n := 0) (by decide) (by decide) (by decide) (by decide)
  refine own_go st3 ?_
  have sz4 : h0.size ≤ h3.size := E3.1
  have K4 := K0.ext E3
  have cr4 : CHr Z consts_1 s.vm h0 T3.vm h3 := crq3
  have CR4 := CR0.trans cr4
  have sf6 : Safe Z consts_1 T3.vm h3 x := (CHr.safe cr4 (Nat.lt_of_lt_of_le lt1 (Nat.le_refl _)) sf_x)
  obtain ⟨na3_x, nb3_x⟩ := sn3 x sf6
  have lt7 : @LT.lt Nat _ a3 h3.size := Ex3.lt
  have lt8 : @LT.lt Nat _ bb3 h3.size := Ab3.lt
  show own_Rn p e below _ (T3.setTop (mkF m 11 #[.val (.ref x), .val (.ref sa), .val (.int (0 : Int32)), .val (.int (0 : Int32)), .val .null, .unset] [(.ref a3), (.ref x)]))
  have BX3 : Exa Z h3 bb3 "[B" := own_exaB (vm := T3.vm) (EL := consts_1) hZ3 Ab3 (fun S => (sn3 _ S).2 rfl)
  refine own_gF X3 hx hZ3 hown3 (host := "") (Or.inl (hw _ (own_mi 33 rfl))) Via.refl e3 Va3 14 (hb hby own_d2_11) rfl ?_
  intro T9 X9 e9
  have F10 : Fld Z h3 x "java/lang/String" "value" "[B" .null := (Pm1.ext E3)
  have F11 : Exa Z h3 x "java/lang/String" := (Pm0.ext E3)
  obtain ⟨T12, h12, X12, e12, W12, st12⟩ := putF X9 hx hZ3 hown3 (host := "") (Or.inl (hw _ (own_mi 33 rfl))) Via.refl e9 F10 F11 (Or.inr ⟨(hw _ (own_mi 34 rfl)), rfl, hnm⟩) (hw _ (own_mi 7 rfl)) (ty := (.array .byte)) own_fd_5bB rfl rfl (g := (mkF m 14 #[.val (.ref x), .val (.ref sa), .val (.int (0 : Int32)), .val (.int (0 : Int32)), .val .null, .unset] [(.ref bb3), (.ref x)])) rfl rfl (hb hby own_d2_14)
  refine own_go st12 ?_
  have N12 := Fr.snoc X12 N0 Pm3
  have Fw12 := F10.same W12
  have sz14 : h3.size ≤ h12.size := Nat.le_of_eq (Wr.size W12).symm
  have K14 := K4.wr W12 (Or.inl (List.mem_of_getElem? (i := 0) rfl))
  have cr14 : CHr Z consts_1 T3.vm h3 T3.vm h12 := CHr.wr W12 sf6 CR4.1
  have CR14 := CR4.trans cr14
  show own_Rn p e below _ (T12.setTop (mkF m 17 #[.val (.ref x), .val (.ref sa), .val (.int (0 : Int32)), .val (.int (0 : Int32)), .val .null, .unset] []))
  refine own_aln X12 hx 18 (hb hby own_d2_17) rfl rfl rfl ?_
  obtain ⟨a15, T15, h15, kk15, bb15, kc15, X15, e15, E15, hS15, hk15, hZ15, hown15, Ex15, Co15, Va15, Ab15, la15, lb15, crq15, Li15, sn15, st15⟩ := ldcCH X12 hx hZ3 hown3 (hw _ (own_mi 178 rfl)) hwS e12 hS3 (by omega) hEL (List.mem_of_getElem? (i := 1) rfl) CR14.1 (vs := ((([] : List Int32).map (fun c => c.toInt8.toInt32)).map Value.int)) (z := (0 : Int32)) ⟨by decide, by decide⟩ (by decide) (by decide) (g := (mkF m 18 #[.val (.ref x), .val (.ref sa), .val (.int (0 : Int32)), .val (.int (0 : Int32)), .val .null, .unset] [(.ref x)])) rfl (hb hby own_d2_18) (n := 0) (by decide) (by decide) (by decide) (by decide)
  refine own_go st15 ?_
  have sz16 : h12.size ≤ h15.size := E15.1
  have K16 := K14.ext E15
  have cr16 : CHr Z consts_1 T3.vm h12 T15.vm h15 := crq15
  have CR16 := CR14.trans cr16
  have le18 : h0.size ≤ h12.size := Nat.le_trans sz4 sz14
  have sf19 : Safe Z consts_1 T15.vm h15 x := (CHr.safe cr16 (Nat.lt_of_lt_of_le lt1 le18) (CHr.safe cr14 (Nat.lt_of_lt_of_le lt1 sz4) sf6))
  obtain ⟨na15_x, nb15_x⟩ := sn15 x sf19
  have lt20 : @LT.lt Nat _ a15 h15.size := Ex15.lt
  have lt21 : @LT.lt Nat _ bb15 h15.size := Ab15.lt
  show own_Rn p e below _ (T15.setTop (mkF m 20 #[.val (.ref x), .val (.ref sa), .val (.int (0 : Int32)), .val (.int (0 : Int32)), .val .null, .unset] [(.ref a15), (.ref x)]))
  refine own_gF X15 hx hZ15 hown15 (host := "") (Or.inl (hw _ (own_mi 31 rfl))) Via.refl e15 Co15 23 (hb hby own_d2_20) rfl ?_
  intro T22 X22 e22
  have F23 : Fld Z h15 x "java/lang/String" "coder" "B" (.int (0 : Int32)) := (((Pm2.ext E3).other W12 (Or.inr (slot_ne (Or.inr (hw _ (own_mi 32 rfl))) (Or.inr (hw _ (own_mi 34 rfl))) (by decide) (t := .byte) (t' := (.array .byte)) own_fd_B own_fd_5bB))).ext E15)
  have F24 : Exa Z h15 x "java/lang/String" := ((F11.wr W12).ext E15)
  obtain ⟨T25, h25, X25, e25, W25, st25⟩ := putFN X22 hx hZ15 hown15 (hw _ (own_mi 31 rfl)) Via.refl e22 F23 F24 (Or.inr ⟨(hw _ (own_mi 32 rfl)), rfl, hnm⟩) (hw _ (own_mi 7 rfl)) (ty := .byte) (v' := (.int ((0 : Int32)))) own_fd_B rfl (by decide) (g := (mkF m 23 #[.val (.ref x), .val (.ref sa), .val (.int (0 : Int32)), .val (.int (0 : Int32)), .val .null, .unset] [(.int (0 : Int32)), (.ref x)])) rfl rfl (hb hby own_d2_23)
  refine own_go st25 ?_
  have N25 := Fr.snoc X25 N12 Pm3
  have Fw25 := F23.same W25
  have sz27 : h15.size ≤ h25.size := Nat.le_of_eq (Wr.size W25).symm
  have K27 := K16.wr W25 (Or.inl (List.mem_of_getElem? (i := 0) rfl))
  have cr27 : CHr Z consts_1 T15.vm h15 T15.vm h25 := CHr.wr W25 sf19 CR16.1
  have CR27 := CR16.trans cr27
  show own_Rn p e below _ (T25.setTop (mkF m 26 #[.val (.ref x), .val (.ref sa), .val (.int (0 : Int32)), .val (.int (0 : Int32)), .val .null, .unset] []))
  have F28 : Fld Z h25 x "java/lang/String" "value" "[B" (.ref bb3) := ((Fw12.ext E15).other W25 (Or.inr (slot_ne (Or.inr (hw _ (own_mi 34 rfl))) (Or.inr (hw _ (own_mi 32 rfl))) (by decide) (t := (.array .byte)) (t' := .byte) own_fd_5bB own_fd_B)))
  have F29 : Arv Z h25 bb3 kc3 .byte (0 : Int32) ((([] : List Int32).map (fun c => c.toInt8.toInt32)).map Value.int) (.int 0) := (((Ab3.other W12 (Ne.symm nb3_x)).ext E15).other W25 (Ne.symm nb3_x))
  have F30 : Exa Z h25 bb3 "[B" := (((BX3.wr W12).ext E15).wr W25)
  exact own_retS X25 hS15 (by rw [e25]; omega) (v := none) (fun _ => rfl) (fun fs hr => X25.returnOut hx Bd.returns (hb hby own_d2_26) hr) (by rw [e25]; exact ⟨bb3, kc3, rfl, N25, K27, F28, Fw25, F29, F30⟩) (by rw [hh, e25]; exact CR27.trans (CHv.at X25 hZ15 hEL CR27.1)) (by decide) (by decide)
theorem own_ef_rmNews (m : MethodId) (x : Addr) (sa : Addr) (ka : ClassId) (cs : List Int32) (dv : Value) (G1 : Int32) : entryFrame m #[(.ref x), (.ref sa)] 2 = mkF m 0 #[.val (.ref x), .val (.ref sa)] [] := by first | (simp [entryFrame, mkF, argsToLocals, Value.category]; done) | rfl
theorem own_d1_0 : decode jdk_42_method_3_code 0 = .ok (.aload_n 0, 1) := by decide +kernel
theorem own_d1_1 : decode jdk_42_method_3_code 1 = .ok (.aload_n 1, 1) := by decide +kernel
theorem own_d1_2 : decode jdk_42_method_3_code 2 = .ok (.iconst 0, 1) := by decide +kernel
theorem own_d1_3 : decode jdk_42_method_3_code 3 = .ok (.aload_n 1, 1) := by decide +kernel
theorem own_d1_4 : decode jdk_42_method_3_code 4 = .ok (.arraylength, 1) := by decide +kernel
theorem own_d1_5 : decode jdk_42_method_3_code 5 = .ok (.aconst_null, 1) := by decide +kernel
theorem own_d1_6 : decode jdk_42_method_3_code 6 = .ok (.invokespecial 27, 3) := by decide +kernel
theorem own_pd_285bCIILjava2flang2fVoid3b29V : parseMethodDescriptor "([CIILjava/lang/Void;)V" = some ⟨[(.array .char), .int, .int, (.object "java/lang/Void")], none⟩ := by decide +kernel
theorem own_d1_9 : decode jdk_42_method_3_code 9 = .ok (.return_, 1) := by decide +kernel
def Q_rmNews (Z : State) (x : Addr) (sa : Addr) (ka : ClassId) (cs : List Int32) (dv : Value) (G1 : Int32) (h0 : Heap) (n0 : Nat) (vq : Option Value) (hhq : Heap) (Lq : List Loc) : Prop := ∃ (t : Addr), ∃ (kt : ClassId), vq = none ∧ Fr n0 Lq ∧ Keep h0 hhq [x] ∧ Fld Z hhq x "java/lang/String" "value" "[B" (.ref t) ∧ Fld Z hhq x "java/lang/String" "coder" "B" (.int (0 : Int32)) ∧ Arv Z hhq t kt .byte (Int32.ofNat cs.length) (own_bs cs) (.int 0) ∧ Exa Z hhq t "[B"
set_option maxRecDepth 65536 in
set_option maxHeartbeats 40000000 in
theorem rmNews (l : Launch) (Z : State) (a0 : Array Value) (hw : ∀ d ∈ tables_1, d.before a0 Z = true) (ws : List Jvm.Cond) (x : Addr) (sa : Addr) (ka : ClassId) (cs : List Int32) (dv : Value) (G1 : Int32) (h0 : Heap) (n0 : Nat) (Z0 : n0 ≤ h0.size) (hEL : EW Z a0 consts_1) (Pm0 : Exa Z h0 x "java/lang/String") (Pm1 : Fld Z h0 x "java/lang/String" "value" "[B" .null) (Pm2 : Fld Z h0 x "java/lang/String" "coder" "B" (.int (0 : Int32))) (Pm3 : n0 ≤ x) (Pm4 : Arv Z h0 sa ka .char (Int32.ofNat cs.length) (cs.map Value.int) dv) (hn : (cs.length ≤ 7)) (hr : (∀ c ∈ cs, ¬ c < 0 ∧ ¬ (255 : Int32) < c)) (O2 : Sta Z Z.heap "java/lang/String" "COMPACT_STRINGS" "Z" (.int G1)) (P5 : (¬ (G1 = (0 : Int32)))) (X00 : Old Z n0 h0) :
    MetFree l (⟨"java/lang/String", "<init>", "([C)V"⟩ : MethodName) (head1 (Jvm.Cond.code (⟨"java/lang/String", "<init>", "([C)V"⟩ : MethodName) jdk_42_method_3_code 2 none :: ws) ({ frames := 3, cells := 4, slots := 8, locals := 52 } : Room)) (fun aq U => aq = #[(.ref x), (.ref sa)] ∧ Z.Warmed39 U.vm ∧ U.heap = h0 ∧ CHv Z consts_1 U.vm h0 ∧ ∀ ax ∈ ([x] : List Addr), Safe Z consts_1 U.vm h0 ax) (fun _ _ _ _ _ => True) (fun _ U oq U' => ∃ vq Lq, oq = .returned vq ∧ Q_rmNews Z x sa ka cs dv G1 h0 n0 vq U'.heap Lq ∧ CHr Z consts_1 U.vm U.heap U'.vm U'.heap ∧ ReturnedEndW U oq U' Lq ({ frames := 3, cells := 4, slots := 8, locals := 52 } : Room).cells ({ frames := 3, cells := 4, slots := 8, locals := 52 } : Room).slots) := by
  refine MetFree.of_bodySF (plainFor_of_name own_pn_java_lang_String) hisR ?_
  intro p e s m args below meth c s₁ Bd hml0 hP hK
  obtain ⟨rfl, hZ, hh, hH, hSf⟩ := hP
  have hx := Bd.exec
  have hby := Bd.bytes
  have hml : c.maxLocals = 2 := hml0
  have hown : s.vm.findClass "java/lang/String" = some m.cls := findClass_of_methodNamed Bd.named
  have hnm := (name_of_methodNamed Bd.named Bd.method).1
  have X0 : Stand p l e ({ frames := 3, cells := 4, slots := 8, locals := 52 } : Room) (s.setVm s.vm) m #[(.ref x), (.ref sa)] below meth c s₁ [] 0 0 := Stand.of_body Bd
  have e0 : s₁.heap = h0 := by rw [← hh, Bd.state]; rfl
  have N0 := Fr.nil n0
  have K0 : Keep h0 h0 [x] := Keep.refl _ _
  refine own_go (S' := s₁.setTop (mkF m 0 #[.val (.ref x), .val (.ref sa)] [])) (fun tq kq => castTop (own_ef_rmNews m x sa ka cs dv G1) kq) ?_
  have lt1 : @LT.lt Nat _ x h0.size := Pm0.lt
  have lt2 : @LT.lt Nat _ sa h0.size := Pm4.lt
  have hS0 : s.Since s.vm h0.size := (State.WarmedH.refl s).since _
  have CR0 : CHr Z consts_1 s.vm h0 s.vm h0 := CHr.refl hH
  have hwS : ∀ d ∈ Bundle.stringAtoms, d.before a0 Z = true := fun d hd => hw d ((by decide +kernel : ∀ d ∈ Bundle.stringAtoms, d ∈ tables_1) d hd)
  have sf_x : Safe Z consts_1 s.vm h0 x := hSf _ (List.mem_of_getElem? (i := 0) rfl)
  refine own_aln X0 hx 1 (hb hby own_d1_0) rfl rfl rfl ?_
  refine own_aln X0 hx 2 (hb hby own_d1_1) rfl rfl rfl ?_
  refine own_ic X0 hx (0 : Int32) 3 (hb hby own_d1_2) rfl rfl ?_
  refine own_aln X0 hx 4 (hb hby own_d1_3) rfl rfl rfl ?_
  refine own_alen X0 hx hZ e0 Pm4 5 (hb hby own_d1_4) rfl ?_
  refine own_go (fun tq kq => XS.aconstNull X0.here hx rfl (hb hby own_d1_5) kq) ?_
  show own_Rn p e below _ (s₁.setTop (mkF m 6 #[.val (.ref x), .val (.ref sa)] [.null, (.int (Int32.ofNat cs.length)), (.int (0 : Int32)), (.ref sa), (.ref x)]))
  rcases Nat.eq_zero_or_pos cs.length with hz | h0n
  · skip
    obtain rfl : cs = [] := List.length_eq_zero_iff.mp hz
    show own_Rn p e below _ (s₁.setTop (mkF m 6 #[.val (.ref x), .val (.ref sa)] [.null, (.int (0 : Int32)), (.int (0 : Int32)), (.ref sa), (.ref x)]))
    have Zn3 : n0 ≤ h0.size := (Nat.le_trans Z0 (Nat.le_refl _))
    obtain ⟨rv3, _, ⟨T3, L3, k3, n3⟩, -, X3, hS3, hG3, ⟨Lc3, hQ3, l3, y3, z3, CR3q⟩, st3⟩ := X0.specialBackS hx (y := (⟨"java/lang/String", "<init>", "([CIILjava/lang/Void;)V"⟩ : MethodName)) rfl hown (mvT hZ (hw _ (own_mi 12 rfl))) (mvT hZ (hw _ (own_mi 13 rfl))) (mvT hZ (hw _ (own_mi 15 rfl))) (by decide) (own_backSH (W := 0) (rm := ({ frames := 1, cells := 4, slots := 8, locals := 12 } : Room)) (sf := [x]) (h := h0) (rmI40 l Z a0 hw [] (x) (sa) h0 n0 Zn3 hEL Pm0 Pm1 Pm2 Pm3) hZ (hw _ (own_mi 15 rfl)) (hw _ (own_mi 8 rfl)) (by decide) (by decide) hEL CR0.1 (sfS sf_x sf0)) (g := (mkF m 6 #[.val (.ref x), .val (.ref sa)] [.null, (.int (0 : Int32)), (.int (0 : Int32)), (.ref sa), (.ref x)])) rfl (by rw [hml]; rfl) (Steps.refl _) (a := x) (argsL := [(.ref sa), (.int (0 : Int32)), (.int (0 : Int32)), .null]) (rest := []) (lenOf own_pd_285bCIILjava2flang2fVoid3b29V rfl) rfl (by show 2 * 0 + _ ≤ _; exact Nat.le_of_eq rfl) (show decode c.code 6 = .ok (.invokespecial 27, 3) from (hb hby own_d1_6)) (fun _ _ => ⟨rfl, e0, (by decide : 0 + 4 ≤ _), (by decide : 0 + 8 ≤ _)⟩)
    dsimp only [Pt.U, Pt.locs, Pt.cells, Pt.slots] at X3 l3 y3 z3 st3 hQ3 hS3 hG3 CR3q
    subst l3 y3 z3
    obtain ⟨tt, kk, rfl, Nq3, Kq3, G0_3, G1_3, G2_3, G3_3⟩ := hQ3
    have N3 := Fr.app N0 Nq3
    obtain ⟨Xr3, hSr3, hZ3, hown3⟩ := rebS hS0 (n1 := s₁.heap.size) (by rw [e0]; omega) X3 hS3 hG3 hZ hown
    have sz5 : h0.size ≤ T3.heap.size := Kq3.1
    have K5 := K0.trans Kq3 (allS (Or.inl (List.mem_of_getElem? (i := 0) rfl)) all0)
    have cr5 : CHr Z consts_1 s.vm h0 T3.vm T3.heap := CR3q
    have CR5 := CR0.trans cr5
    have lt6 : @LT.lt Nat _ tt T3.heap.size := G2_3.lt
    refine own_go (fun tq kq => st3.trans kq) ?_
    show own_Rn p e below _ (T3.setTop (mkF m 9 #[.val (.ref x), .val (.ref sa)] []))
    exact own_retS Xr3 hSr3 (by omega) (v := none) (fun _ => rfl) (fun fs hr => Xr3.returnOut hx Bd.returns (hb hby own_d1_9) hr) (⟨tt, kk, rfl, N3, K5, G0_3, G1_3, G2_3, G3_3⟩) (by rw [hh]; exact CR5.trans (CHv.at Xr3 hZ3 hEL CR5.1)) (by decide) (by decide)
  · skip
    have Zn7 : n0 ≤ h0.size := (Nat.le_trans Z0 (Nat.le_refl _))
    refine own_cI X0 hx hZ (y := (⟨"java/lang/String", "<init>", "([CIILjava/lang/Void;)V"⟩ : MethodName)) rfl hown (hw _ (own_mi 12 rfl)) (hw _ (own_mi 13 rfl)) (hw _ (own_mi 15 rfl)) (hw _ (own_mi 8 rfl)) (by decide) (rmI4 l Z a0 hw [] (x) (sa) (ka) (cs) (dv) (G1) h0 n0 Zn7 Pm0 Pm1 Pm2 Pm3 Pm4 (hn) (hr) (h0n) (O2) (P5) X00) e0 [(.ref sa), (.int (0 : Int32)), (.int (Int32.ofNat cs.length)), .null] [] rfl (by rw [hml]; rfl) (lenOf own_pd_285bCIILjava2flang2fVoid3b29V rfl) rfl 0 (Nat.le_of_eq rfl) (by decide) (by decide) (by decide : 0 + 1 ≤ _) (by decide : 0 + 7 ≤ _) 9 (hb hby own_d1_6) rfl 1 7 rfl rfl ?_
    intro rv7 T7 Lc7 X7 hQ7
    obtain ⟨tt, ktt, rfl, Nq7, Kq7, G0_7, G1_7, G2_7, G3_7, G4_7, G5_7⟩ := hQ7
    have N7 := Fr.app N0 Nq7
    have sz9 : h0.size ≤ T7.heap.size := Kq7.1
    have K9 := K0.trans Kq7 (allS (Or.inl (List.mem_of_getElem? (i := 0) rfl)) all0)
    have cr9 : CHr Z consts_1 s.vm h0 s.vm T7.heap := CHr.keep Kq7 (sfS sf_x sf0) CR0.1
    have CR9 := CR0.trans cr9
    have sf10 : Safe Z consts_1 s.vm T7.heap tt := Safe.keep Kq7 (sfS sf_x sf0) CR0.1 (Safe.new G0_7)
    have lt11 : @LT.lt Nat _ tt T7.heap.size := G4_7.lt
    show own_Rn p e below _ (T7.setTop (mkF m 9 #[.val (.ref x), .val (.ref sa)] []))
    exact own_retS X7 hS0 (by omega) (v := none) (fun _ => rfl) (fun fs hr => X7.returnOut hx Bd.returns (hb hby own_d1_9) hr) (⟨tt, ktt, rfl, N7, K9, G2_7, G3_7, G4_7, G5_7⟩) (by rw [hh]; exact CR9.trans (CHv.at X7 hZ hEL CR9.1)) (by decide) (by decide)
theorem own_ef_rmSym (m : MethodId) (kk : Nat) : entryFrame m #[(.int (Int32.ofNat kk))] 1 = mkF m 0 #[.val (.int (Int32.ofNat kk))] [] := by first | (simp [entryFrame, mkF, argsToLocals, Value.category]; done) | rfl
theorem own_pn_com_example_cartiglio_cartiglio_core_Base64UrlDecodeStrictPinLaw : plainName "com/example/cartiglio/cartiglio/core/Base64UrlDecodeStrictPinLaw" = true := by first | (simp [plainName, overriddenIn]; done) | decide +kernel
theorem own_d0_0 : decode method_2_code 0 = .ok (.iload_n 0, 1) := by decide +kernel
theorem own_d0_1 : decode method_2_code 1 = .ok (.bipush 26, 2) := by decide +kernel
theorem own_d0_3 : decode method_2_code 3 = .ok (.if_icmp .ge 9, 3) := by decide +kernel
theorem own_d0_6 : decode method_2_code 6 = .ok (.bipush 65, 2) := by decide +kernel
theorem own_d0_8 : decode method_2_code 8 = .ok (.iload_n 0, 1) := by decide +kernel
theorem own_d0_9 : decode method_2_code 9 = .ok (.iadd, 1) := by decide +kernel
theorem own_d0_10 : decode method_2_code 10 = .ok (.i2c, 1) := by decide +kernel
theorem own_d0_11 : decode method_2_code 11 = .ok (.ireturn, 1) := by decide +kernel
theorem own_d0_12 : decode method_2_code 12 = .ok (.iload_n 0, 1) := by decide +kernel
theorem own_d0_13 : decode method_2_code 13 = .ok (.bipush 52, 2) := by decide +kernel
theorem own_d0_15 : decode method_2_code 15 = .ok (.if_icmp .ge 12, 3) := by decide +kernel
theorem own_d0_18 : decode method_2_code 18 = .ok (.bipush 97, 2) := by decide +kernel
theorem own_d0_20 : decode method_2_code 20 = .ok (.iload_n 0, 1) := by decide +kernel
theorem own_d0_21 : decode method_2_code 21 = .ok (.bipush 26, 2) := by decide +kernel
theorem own_d0_23 : decode method_2_code 23 = .ok (.isub, 1) := by decide +kernel
theorem own_d0_24 : decode method_2_code 24 = .ok (.iadd, 1) := by decide +kernel
theorem own_d0_25 : decode method_2_code 25 = .ok (.i2c, 1) := by decide +kernel
theorem own_d0_26 : decode method_2_code 26 = .ok (.ireturn, 1) := by decide +kernel
theorem own_d0_27 : decode method_2_code 27 = .ok (.iload_n 0, 1) := by decide +kernel
theorem own_d0_28 : decode method_2_code 28 = .ok (.bipush 62, 2) := by decide +kernel
theorem own_d0_30 : decode method_2_code 30 = .ok (.if_icmp .ge 12, 3) := by decide +kernel
theorem own_d0_33 : decode method_2_code 33 = .ok (.bipush 48, 2) := by decide +kernel
theorem own_d0_35 : decode method_2_code 35 = .ok (.iload_n 0, 1) := by decide +kernel
theorem own_d0_36 : decode method_2_code 36 = .ok (.bipush 52, 2) := by decide +kernel
theorem own_d0_38 : decode method_2_code 38 = .ok (.isub, 1) := by decide +kernel
theorem own_d0_39 : decode method_2_code 39 = .ok (.iadd, 1) := by decide +kernel
theorem own_d0_40 : decode method_2_code 40 = .ok (.i2c, 1) := by decide +kernel
theorem own_d0_41 : decode method_2_code 41 = .ok (.ireturn, 1) := by decide +kernel
theorem own_d0_42 : decode method_2_code 42 = .ok (.iload_n 0, 1) := by decide +kernel
theorem own_d0_43 : decode method_2_code 43 = .ok (.bipush 62, 2) := by decide +kernel
theorem own_d0_45 : decode method_2_code 45 = .ok (.if_icmp .ne 6, 3) := by decide +kernel
theorem own_d0_48 : decode method_2_code 48 = .ok (.bipush 45, 2) := by decide +kernel
theorem own_d0_50 : decode method_2_code 50 = .ok (.ireturn, 1) := by decide +kernel
theorem own_d0_51 : decode method_2_code 51 = .ok (.bipush 95, 2) := by decide +kernel
theorem own_d0_53 : decode method_2_code 53 = .ok (.ireturn, 1) := by decide +kernel
def Q_rmSym (Z : State) (kk : Nat) (h0 : Heap) (n0 : Nat) (vq : Option Value) (hhq : Heap) (Lq : List Loc) : Prop := vq = some (.int (Int32.ofNat (own_ct kk))) ∧ Fr n0 Lq ∧ hhq = h0
set_option maxRecDepth 65536 in
set_option maxHeartbeats 40000000 in
theorem rmSym (l : Launch) (Z : State) (a0 : Array Value) (hw : ∀ d ∈ tables_1, d.before a0 Z = true) (ws : List Jvm.Cond) (kk : Nat) (h0 : Heap) (n0 : Nat) (Z0 : n0 ≤ h0.size) (hk : (kk < 64)) :
    MetFree l (⟨"com/example/cartiglio/cartiglio/core/Base64UrlDecodeStrictPinLaw", "sym", "(I)C"⟩ : MethodName) (head1 (Jvm.Cond.code (⟨"com/example/cartiglio/cartiglio/core/Base64UrlDecodeStrictPinLaw", "sym", "(I)C"⟩ : MethodName) method_2_code 1 (some .char) :: ws) ({ frames := 0, cells := 0, slots := 0, locals := 0 } : Room)) (fun aq U => aq = #[(.int (Int32.ofNat kk))] ∧ Z.Warmed39 U.vm ∧ U.heap = h0) (fun _ _ _ _ _ => True) (fun _ U oq U' => ∃ vq Lq, oq = .returned vq ∧ Q_rmSym Z kk h0 n0 vq U'.heap Lq ∧ FrameEnd U oq U' Lq ({ frames := 0, cells := 0, slots := 0, locals := 0 } : Room).cells ({ frames := 0, cells := 0, slots := 0, locals := 0 } : Room).slots) := by
  refine MetFree.of_bodySF (plainFor_of_name own_pn_com_example_cartiglio_cartiglio_core_Base64UrlDecodeStrictPinLaw) hisR ?_
  intro p e s m args below meth c s₁ Bd hml0 hP hK
  obtain ⟨rfl, hZ, hh⟩ := hP
  have hx := Bd.exec
  have hby := Bd.bytes
  have hml : c.maxLocals = 1 := hml0
  have hown : s.vm.findClass "com/example/cartiglio/cartiglio/core/Base64UrlDecodeStrictPinLaw" = some m.cls := findClass_of_methodNamed Bd.named
  have hnm := (name_of_methodNamed Bd.named Bd.method).1
  have X0 : Stand p l e ({ frames := 0, cells := 0, slots := 0, locals := 0 } : Room) s m #[(.int (Int32.ofNat kk))] below meth c s₁ [] 0 0 := Stand.of_body Bd
  have e0 : s₁.heap = h0 := by rw [← hh, Bd.state]; rfl
  have N0 := Fr.nil n0
  have K0 : Keep h0 h0 [] := Keep.refl _ _
  refine own_go (S' := s₁.setTop (mkF m 0 #[.val (.int (Int32.ofNat kk))] [])) (fun tq kq => castTop (own_ef_rmSym m kk) kq) ?_
  refine own_iln X0 hx 1 (hb hby own_d0_0) rfl rfl ?_
  refine own_bp X0 hx (26 : Int32) 3 (hb hby own_d0_1) rfl rfl ?_
  by_cases g26 : kk < 26
  · skip
    refine own_icN X0 hx 6 (hb hby own_d0_3) rfl (tlt (own_ofNat_lt (K := 26) g26 (by decide) : (Int32.ofNat kk) < (26 : Int32))).2.1 ?_
    refine own_bp X0 hx (65 : Int32) 8 (hb hby own_d0_6) rfl rfl ?_
    refine own_iln X0 hx 9 (hb hby own_d0_8) rfl rfl ?_
    refine own_iadd X0 hx 10 (hb hby own_d0_9) rfl ?_
    refine own_i2c X0 hx 11 (hb hby own_d0_10) rfl ?_
    exact own_ret X0 (v := some (.int (nar .char (((65 : Int32) + (Int32.ofNat kk)).toUInt32.toUInt16.toUInt32.toInt32)))) (fun h => by rw [Bd.returns] at h; cases h) (fun fs hr => retN X0 hx (t := .char) Bd.returns (by simp) (hb hby own_d0_11) hr) (by rw [e0]; exact ⟨congrArg (fun z => some (Value.int z)) (own_sy1 kk g26), N0, rfl⟩) (by decide) (by decide)
  · skip
    refine own_icY X0 hx 12 (hb hby own_d0_3) (flt (own_ofNat_nlt (K := 26) g26 (by omega) : ¬ ((Int32.ofNat kk) < (26 : Int32)))).2.1 (by decide) (by decide) ?_
    refine own_iln X0 hx 13 (hb hby own_d0_12) rfl rfl ?_
    refine own_bp X0 hx (52 : Int32) 15 (hb hby own_d0_13) rfl rfl ?_
    by_cases g52 : kk < 52
    · skip
      refine own_icN X0 hx 18 (hb hby own_d0_15) rfl (tlt (own_ofNat_lt (K := 52) g52 (by decide) : (Int32.ofNat kk) < (52 : Int32))).2.1 ?_
      refine own_bp X0 hx (97 : Int32) 20 (hb hby own_d0_18) rfl rfl ?_
      refine own_iln X0 hx 21 (hb hby own_d0_20) rfl rfl ?_
      refine own_bp X0 hx (26 : Int32) 23 (hb hby own_d0_21) rfl rfl ?_
      refine own_isub X0 hx 24 (hb hby own_d0_23) rfl ?_
      refine own_iadd X0 hx 25 (hb hby own_d0_24) rfl ?_
      refine own_i2c X0 hx 26 (hb hby own_d0_25) rfl ?_
      exact own_ret X0 (v := some (.int (nar .char (((97 : Int32) + ((Int32.ofNat kk) - (26 : Int32))).toUInt32.toUInt16.toUInt32.toInt32)))) (fun h => by rw [Bd.returns] at h; cases h) (fun fs hr => retN X0 hx (t := .char) Bd.returns (by simp) (hb hby own_d0_26) hr) (by rw [e0]; exact ⟨congrArg (fun z => some (Value.int z)) (own_sy2 kk g26 g52), N0, rfl⟩) (by decide) (by decide)
    · skip
      refine own_icY X0 hx 27 (hb hby own_d0_15) (flt (own_ofNat_nlt (K := 52) g52 (by omega) : ¬ ((Int32.ofNat kk) < (52 : Int32)))).2.1 (by decide) (by decide) ?_
      refine own_iln X0 hx 28 (hb hby own_d0_27) rfl rfl ?_
      refine own_bp X0 hx (62 : Int32) 30 (hb hby own_d0_28) rfl rfl ?_
      by_cases g62 : kk < 62
      · skip
        refine own_icN X0 hx 33 (hb hby own_d0_30) rfl (tlt (own_ofNat_lt (K := 62) g62 (by decide) : (Int32.ofNat kk) < (62 : Int32))).2.1 ?_
        refine own_bp X0 hx (48 : Int32) 35 (hb hby own_d0_33) rfl rfl ?_
        refine own_iln X0 hx 36 (hb hby own_d0_35) rfl rfl ?_
        refine own_bp X0 hx (52 : Int32) 38 (hb hby own_d0_36) rfl rfl ?_
        refine own_isub X0 hx 39 (hb hby own_d0_38) rfl ?_
        refine own_iadd X0 hx 40 (hb hby own_d0_39) rfl ?_
        refine own_i2c X0 hx 41 (hb hby own_d0_40) rfl ?_
        exact own_ret X0 (v := some (.int (nar .char (((48 : Int32) + ((Int32.ofNat kk) - (52 : Int32))).toUInt32.toUInt16.toUInt32.toInt32)))) (fun h => by rw [Bd.returns] at h; cases h) (fun fs hr => retN X0 hx (t := .char) Bd.returns (by simp) (hb hby own_d0_41) hr) (by rw [e0]; exact ⟨congrArg (fun z => some (Value.int z)) (own_sy3 kk g26 g52 g62), N0, rfl⟩) (by decide) (by decide)
      · skip
        refine own_icY X0 hx 42 (hb hby own_d0_30) (flt (own_ofNat_nlt (K := 62) g62 (by omega) : ¬ ((Int32.ofNat kk) < (62 : Int32)))).2.1 (by decide) (by decide) ?_
        refine own_iln X0 hx 43 (hb hby own_d0_42) rfl rfl ?_
        refine own_bp X0 hx (62 : Int32) 45 (hb hby own_d0_43) rfl rfl ?_
        by_cases g : kk = 62
        · skip
          refine own_icN X0 hx 48 (hb hby own_d0_45) rfl (teq (congrArg Int32.ofNat g : (Int32.ofNat kk) = (62 : Int32))).2 ?_
          refine own_bp X0 hx (45 : Int32) 50 (hb hby own_d0_48) rfl rfl ?_
          exact own_ret X0 (v := some (.int (nar .char (45 : Int32)))) (fun h => by rw [Bd.returns] at h; cases h) (fun fs hr => retN X0 hx (t := .char) Bd.returns (by simp) (hb hby own_d0_50) hr) (by rw [e0]; exact ⟨congrArg (fun z => some (Value.int z)) (by subst g; decide), N0, rfl⟩) (by decide) (by decide)
        · skip
          refine own_icY X0 hx 51 (hb hby own_d0_45) (feq (fun h => g (own_ofNat_inj (K := 62) h (by omega) (by decide)) : ¬ ((Int32.ofNat kk) = (62 : Int32)))).2 (by decide) (by decide) ?_
          refine own_bp X0 hx (95 : Int32) 53 (hb hby own_d0_51) rfl rfl ?_
          exact own_ret X0 (v := some (.int (nar .char (95 : Int32)))) (fun h => by rw [Bd.returns] at h; cases h) (fun fs hr => retN X0 hx (t := .char) Bd.returns (by simp) (hb hby own_d0_53) hr) (by rw [e0]; exact ⟨congrArg (fun z => some (Value.int z)) (by rw [own_ct, if_neg g26, if_neg g52, if_neg g62, if_neg g]; decide), N0, rfl⟩) (by decide) (by decide)
theorem own_ef_rmCo (m : MethodId) (x : Addr) (G1 : Int32) : entryFrame m #[(.ref x)] 1 = mkF m 0 #[.val (.ref x)] [] := by first | (simp [entryFrame, mkF, argsToLocals, Value.category]; done) | rfl
theorem own_d9_0 : decode jdk_42_method_152_code 0 = .ok (.getstatic 38, 3) := by decide +kernel
theorem own_d9_3 : decode jdk_42_method_152_code 3 = .ok (.ifCond .eq 10, 3) := by decide +kernel
theorem own_d9_6 : decode jdk_42_method_152_code 6 = .ok (.aload_n 0, 1) := by decide +kernel
theorem own_d9_7 : decode jdk_42_method_152_code 7 = .ok (.getfield 15, 3) := by decide +kernel
theorem own_d9_10 : decode jdk_42_method_152_code 10 = .ok (.goto 4, 3) := by decide +kernel
theorem own_d9_14 : decode jdk_42_method_152_code 14 = .ok (.ireturn, 1) := by decide +kernel
def Q_rmCo (Z : State) (x : Addr) (G1 : Int32) (h0 : Heap) (n0 : Nat) (vq : Option Value) (hhq : Heap) (Lq : List Loc) : Prop := vq = some (.int (0 : Int32)) ∧ Fr n0 Lq ∧ hhq = h0
set_option maxRecDepth 65536 in
set_option maxHeartbeats 40000000 in
theorem rmCo (l : Launch) (Z : State) (a0 : Array Value) (hw : ∀ d ∈ tables_1, d.before a0 Z = true) (ws : List Jvm.Cond) (x : Addr) (G1 : Int32) (h0 : Heap) (n0 : Nat) (Z0 : n0 ≤ h0.size) (Pm0 : Fld Z h0 x "java/lang/String" "coder" "B" (.int (0 : Int32))) (O2 : Sta Z Z.heap "java/lang/String" "COMPACT_STRINGS" "Z" (.int G1)) (P5 : (¬ (G1 = (0 : Int32)))) (X00 : Old Z n0 h0) :
    MetFree l (⟨"java/lang/String", "coder", "()B"⟩ : MethodName) (head1 (Jvm.Cond.code (⟨"java/lang/String", "coder", "()B"⟩ : MethodName) jdk_42_method_152_code 1 (some .byte) :: ws) ({ frames := 0, cells := 0, slots := 0, locals := 0 } : Room)) (fun aq U => aq = #[(.ref x)] ∧ Z.Warmed39 U.vm ∧ U.heap = h0) (fun _ _ _ _ _ => True) (fun _ U oq U' => ∃ vq Lq, oq = .returned vq ∧ Q_rmCo Z x G1 h0 n0 vq U'.heap Lq ∧ FrameEnd U oq U' Lq ({ frames := 0, cells := 0, slots := 0, locals := 0 } : Room).cells ({ frames := 0, cells := 0, slots := 0, locals := 0 } : Room).slots) := by
  refine MetFree.of_bodySF (plainFor_of_name own_pn_java_lang_String) hisR ?_
  intro p e s m args below meth c s₁ Bd hml0 hP hK
  obtain ⟨rfl, hZ, hh⟩ := hP
  have hx := Bd.exec
  have hby := Bd.bytes
  have hml : c.maxLocals = 1 := hml0
  have hown : s.vm.findClass "java/lang/String" = some m.cls := findClass_of_methodNamed Bd.named
  have hnm := (name_of_methodNamed Bd.named Bd.method).1
  have X0 : Stand p l e ({ frames := 0, cells := 0, slots := 0, locals := 0 } : Room) s m #[(.ref x)] below meth c s₁ [] 0 0 := Stand.of_body Bd
  have e0 : s₁.heap = h0 := by rw [← hh, Bd.state]; rfl
  have N0 := Fr.nil n0
  have K0 : Keep h0 h0 [] := Keep.refl _ _
  refine own_go (S' := s₁.setTop (mkF m 0 #[.val (.ref x)] [])) (fun tq kq => castTop (own_ef_rmCo m x G1) kq) ?_
  have lt1 : @LT.lt Nat _ x h0.size := Pm0.lt
  refine own_gS X0 hx hZ hown (host := "") (Or.inl (hw _ (own_mi 19 rfl))) Via.refl e0 (O2.ext X00.2) 3 (hb hby own_d9_0) rfl ?_
  intro T2 X2 e2
  refine own_ifN X2 hx 6 (hb hby own_d9_3) rfl ((if0 _ _).trans (feq (P5 : ¬ (G1 = (0 : Int32)))).1) ?_
  refine own_aln X2 hx 7 (hb hby own_d9_6) rfl rfl rfl ?_
  refine own_gF X2 hx hZ hown (host := "") (Or.inl (hw _ (own_mi 31 rfl))) Via.refl e2 Pm0 10 (hb hby own_d9_7) rfl ?_
  intro T3 X3 e3
  refine own_gt X3 hx 14 (hb hby own_d9_10) (by decide) (by decide) ?_
  exact own_ret X3 (v := some (.int (nar .byte (0 : Int32)))) (fun h => by rw [Bd.returns] at h; cases h) (fun fs hr => retN X3 hx (t := .byte) Bd.returns (by simp) (hb hby own_d9_14) hr) (by rw [e3]; exact ⟨rfl, N0, rfl⟩) (by decide) (by decide)
theorem own_ef_rmE3 (m : MethodId) (t : Addr) (kt : ClassId) (cs : List Int32) : entryFrame m #[(.int (0 : Int32)), (.ref t), (.int (1 : Int32))] 10 = mkF m 0 #[.val (.int (0 : Int32)), .val (.ref t), .val (.int (1 : Int32)), .unset, .unset, .unset, .unset, .unset, .unset, .unset] [] := by first | (simp [entryFrame, mkF, argsToLocals, Value.category]; done) | rfl
theorem own_d12_0 : decode jdk_42_method_27_code 0 = .ok (.iload_n 0, 1) := by decide +kernel
theorem own_d12_1 : decode jdk_42_method_27_code 1 = .ok (.ifCond .ne 11, 3) := by decide +kernel
theorem own_d12_4 : decode jdk_42_method_27_code 4 = .ok (.aload_n 1, 1) := by decide +kernel
theorem own_d12_5 : decode jdk_42_method_27_code 5 = .ok (.invokevirtual 279, 3) := by decide +kernel
theorem own_d12_8 : decode jdk_42_method_27_code 8 = .ok (.checkcast 280, 3) := by decide +kernel
theorem own_d12_11 : decode jdk_42_method_27_code 11 = .ok (.areturn, 1) := by decide +kernel
def Q_rmE3 (Z : State) (t : Addr) (kt : ClassId) (cs : List Int32) (h0 : Heap) (n0 : Nat) (vq : Option Value) (hhq : Heap) (Lq : List Loc) : Prop := ∃ (v : Addr), vq = some (.ref v) ∧ Fr n0 Lq ∧ Keep h0 hhq [] ∧ h0.size ≤ v ∧ n0 ≤ v ∧ Arv Z hhq v kt .byte (Int32.ofNat cs.length) (own_bs cs) (.int 0) ∧ Exa Z hhq v "[B"
set_option maxRecDepth 65536 in
set_option maxHeartbeats 40000000 in
theorem rmE3 (l : Launch) (Z : State) (a0 : Array Value) (hw : ∀ d ∈ tables_1, d.before a0 Z = true) (ws : List Jvm.Cond) (t : Addr) (kt : ClassId) (cs : List Int32) (h0 : Heap) (n0 : Nat) (Z0 : n0 ≤ h0.size) (Pm0 : Arv Z h0 t kt .byte (Int32.ofNat cs.length) (own_bs cs) (.int 0)) (Pm1 : Exa Z h0 t "[B") (hn : (cs.length ≤ 7)) :
    MetFree l (⟨"java/lang/String", "encode8859_1", "(B[BZ)[B"⟩ : MethodName) (head1 (Jvm.Cond.code (⟨"java/lang/String", "encode8859_1", "(B[BZ)[B"⟩ : MethodName) jdk_42_method_27_code 10 (some (.array .byte)) :: ws) ({ frames := 1, cells := 1, slots := 7, locals := 14 } : Room)) (fun aq U => aq = #[(.int (0 : Int32)), (.ref t), (.int (1 : Int32))] ∧ Z.Warmed39 U.vm ∧ U.heap = h0) (fun _ _ _ _ _ => True) (fun _ U oq U' => ∃ vq Lq, oq = .returned vq ∧ Q_rmE3 Z t kt cs h0 n0 vq U'.heap Lq ∧ FrameEnd U oq U' Lq ({ frames := 1, cells := 1, slots := 7, locals := 14 } : Room).cells ({ frames := 1, cells := 1, slots := 7, locals := 14 } : Room).slots) := by
  refine MetFree.of_bodySF (plainFor_of_name own_pn_java_lang_String) hisR ?_
  intro p e s m args below meth c s₁ Bd hml0 hP hK
  obtain ⟨rfl, hZ, hh⟩ := hP
  have hx := Bd.exec
  have hby := Bd.bytes
  have hml : c.maxLocals = 10 := hml0
  have hown : s.vm.findClass "java/lang/String" = some m.cls := findClass_of_methodNamed Bd.named
  have hnm := (name_of_methodNamed Bd.named Bd.method).1
  have X0 : Stand p l e ({ frames := 1, cells := 1, slots := 7, locals := 14 } : Room) s m #[(.int (0 : Int32)), (.ref t), (.int (1 : Int32))] below meth c s₁ [] 0 0 := Stand.of_body Bd
  have e0 : s₁.heap = h0 := by rw [← hh, Bd.state]; rfl
  have N0 := Fr.nil n0
  have K0 : Keep h0 h0 [] := Keep.refl _ _
  refine own_go (S' := s₁.setTop (mkF m 0 #[.val (.int (0 : Int32)), .val (.ref t), .val (.int (1 : Int32)), .unset, .unset, .unset, .unset, .unset, .unset, .unset] [])) (fun tq kq => castTop (own_ef_rmE3 m t kt cs) kq) ?_
  have lt1 : @LT.lt Nat _ t h0.size := Pm0.lt
  refine own_iln X0 hx 1 (hb hby own_d12_0) rfl rfl ?_
  refine own_ifN X0 hx 4 (hb hby own_d12_1) rfl ((if0 _ _).trans (teq ((by decide : (0 : Int32) = (0 : Int32)) : (0 : Int32) = (0 : Int32))).2) ?_
  refine own_aln X0 hx 5 (hb hby own_d12_4) rfl rfl rfl ?_
  obtain ⟨T2, h2, X2, e2, E2, R2, A2, st2⟩ := cloneH X0 hx hZ hown (hw _ (own_mi 74 rfl)) (hw _ (own_mi 75 rfl)) (hw _ (own_mi 79 rfl)) (hw _ (own_mi 77 rfl)) (hw _ (own_mi 78 rfl)) (hw _ (own_mi 80 rfl)) e0 Pm0.arh Pm1 (g := (mkF m 5 #[.val (.int (0 : Int32)), .val (.ref t), .val (.int (1 : Int32)), .unset, .unset, .unset, .unset, .unset, .unset, .unset] [(.ref t)])) rfl (by rw [hml]; rfl) rfl (hb hby own_d12_5) (by decide) (W := 0) (cap := 7) (by show 2 * 0 + _ ≤ _; exact Nat.le_of_eq rfl) (by decide) (by rw [own_clampN (by omega)]; exact hn) (by decide) (by decide)
  obtain ⟨b2, g2⟩ : ∃ z, z = h0.size := ⟨_, rfl⟩
  rw [← g2] at R2 A2 st2
  refine own_go st2 ?_
  have sz3 : h0.size ≤ h2.size := E2.1
  have K3 := K0.ext E2
  have gn2 : n0 ≤ b2 := (Nat.le_trans (Nat.le_trans Z0 (Nat.le_refl _)) (Nat.le_of_eq g2.symm))
  have V2 := own_arvH R2
  have lt4 : @LT.lt Nat _ b2 h2.size := A2.lt
  show own_Rn p e below _ (T2.setTop (mkF m 8 #[.val (.int (0 : Int32)), .val (.ref t), .val (.int (1 : Int32)), .unset, .unset, .unset, .unset, .unset, .unset, .unset] [(.ref b2)]))
  obtain ⟨T5, X5, e5, st5⟩ := castY X2 hx hZ hown (hw _ (own_mi 81 rfl)) e2 (Ins.self A2) (g := (mkF m 8 #[.val (.int (0 : Int32)), .val (.ref t), .val (.int (1 : Int32)), .unset, .unset, .unset, .unset, .unset, .unset, .unset] [(.ref b2)])) rfl rfl (hb hby own_d12_8)
  refine own_go st5 ?_
  show own_Rn p e below _ (T5.setTop (mkF m 11 #[.val (.int (0 : Int32)), .val (.ref t), .val (.int (1 : Int32)), .unset, .unset, .unset, .unset, .unset, .unset, .unset] [(.ref b2)]))
  exact own_ret X5 (v := some (.ref b2)) (fun h => by rw [Bd.returns] at h; cases h) (fun fs hr => X5.areturnOut hx rfl Bd.returns rfl (hb hby own_d12_11) hr) (by rw [e5]; exact ⟨b2, rfl, N0, K3, (Nat.le_trans (Nat.le_refl _) (Nat.le_of_eq g2.symm)), gn2, V2, A2⟩) (by decide) (by decide)
theorem own_ef_rmE2 (m : MethodId) (t : Addr) (kt : ClassId) (cs : List Int32) : entryFrame m #[(.int (0 : Int32)), (.ref t)] 2 = mkF m 0 #[.val (.int (0 : Int32)), .val (.ref t)] [] := by first | (simp [entryFrame, mkF, argsToLocals, Value.category]; done) | rfl
theorem own_d11_0 : decode jdk_42_method_26_code 0 = .ok (.iload_n 0, 1) := by decide +kernel
theorem own_d11_1 : decode jdk_42_method_26_code 1 = .ok (.aload_n 1, 1) := by decide +kernel
theorem own_d11_2 : decode jdk_42_method_26_code 2 = .ok (.iconst 1, 1) := by decide +kernel
theorem own_d11_3 : decode jdk_42_method_26_code 3 = .ok (.invokestatic 351, 3) := by decide +kernel
theorem own_pd_28B5bBZ295bB : parseMethodDescriptor "(B[BZ)[B" = some ⟨[.byte, (.array .byte), .boolean], some (.array .byte)⟩ := by decide +kernel
theorem own_d11_6 : decode jdk_42_method_26_code 6 = .ok (.areturn, 1) := by decide +kernel
def Q_rmE2 (Z : State) (t : Addr) (kt : ClassId) (cs : List Int32) (h0 : Heap) (n0 : Nat) (vq : Option Value) (hhq : Heap) (Lq : List Loc) : Prop := ∃ (v : Addr), vq = some (.ref v) ∧ Fr n0 Lq ∧ Keep h0 hhq [] ∧ h0.size ≤ v ∧ n0 ≤ v ∧ Arv Z hhq v kt .byte (Int32.ofNat cs.length) (own_bs cs) (.int 0) ∧ Exa Z hhq v "[B"
set_option maxRecDepth 65536 in
set_option maxHeartbeats 40000000 in
theorem rmE2 (l : Launch) (Z : State) (a0 : Array Value) (hw : ∀ d ∈ tables_1, d.before a0 Z = true) (ws : List Jvm.Cond) (t : Addr) (kt : ClassId) (cs : List Int32) (h0 : Heap) (n0 : Nat) (Z0 : n0 ≤ h0.size) (Pm0 : Arv Z h0 t kt .byte (Int32.ofNat cs.length) (own_bs cs) (.int 0)) (Pm1 : Exa Z h0 t "[B") (hn : (cs.length ≤ 7)) :
    MetFree l (⟨"java/lang/String", "encode8859_1", "(B[B)[B"⟩ : MethodName) (head1 (Jvm.Cond.code (⟨"java/lang/String", "encode8859_1", "(B[B)[B"⟩ : MethodName) jdk_42_method_26_code 2 (some (.array .byte)) :: ws) ({ frames := 2, cells := 1, slots := 7, locals := 35 } : Room)) (fun aq U => aq = #[(.int (0 : Int32)), (.ref t)] ∧ Z.Warmed39 U.vm ∧ U.heap = h0) (fun _ _ _ _ _ => True) (fun _ U oq U' => ∃ vq Lq, oq = .returned vq ∧ Q_rmE2 Z t kt cs h0 n0 vq U'.heap Lq ∧ FrameEnd U oq U' Lq ({ frames := 2, cells := 1, slots := 7, locals := 35 } : Room).cells ({ frames := 2, cells := 1, slots := 7, locals := 35 } : Room).slots) := by
  refine MetFree.of_bodySF (plainFor_of_name own_pn_java_lang_String) hisR ?_
  intro p e s m args below meth c s₁ Bd hml0 hP hK
  obtain ⟨rfl, hZ, hh⟩ := hP
  have hx := Bd.exec
  have hby := Bd.bytes
  have hml : c.maxLocals = 2 := hml0
  have hown : s.vm.findClass "java/lang/String" = some m.cls := findClass_of_methodNamed Bd.named
  have hnm := (name_of_methodNamed Bd.named Bd.method).1
  have X0 : Stand p l e ({ frames := 2, cells := 1, slots := 7, locals := 35 } : Room) s m #[(.int (0 : Int32)), (.ref t)] below meth c s₁ [] 0 0 := Stand.of_body Bd
  have e0 : s₁.heap = h0 := by rw [← hh, Bd.state]; rfl
  have N0 := Fr.nil n0
  have K0 : Keep h0 h0 [] := Keep.refl _ _
  refine own_go (S' := s₁.setTop (mkF m 0 #[.val (.int (0 : Int32)), .val (.ref t)] [])) (fun tq kq => castTop (own_ef_rmE2 m t kt cs) kq) ?_
  have lt1 : @LT.lt Nat _ t h0.size := Pm0.lt
  refine own_iln X0 hx 1 (hb hby own_d11_0) rfl rfl ?_
  refine own_aln X0 hx 2 (hb hby own_d11_1) rfl rfl rfl ?_
  refine own_ic X0 hx (1 : Int32) 3 (hb hby own_d11_2) rfl rfl ?_
  have Zn2 : n0 ≤ h0.size := (Nat.le_trans Z0 (Nat.le_refl _))
  refine own_cS X0 hx hZ (y := (⟨"java/lang/String", "encode8859_1", "(B[BZ)[B"⟩ : MethodName)) hown (hw _ (own_mi 71 rfl)) (hw _ (own_mi 72 rfl)) (hw _ (own_mi 8 rfl)) (hw _ (own_mi 73 rfl)) (by decide) (rmE3 l Z a0 hw [] (t) (kt) (cs) h0 n0 Zn2 Pm0 Pm1 (hn)) e0 [(.int (0 : Int32)), (.ref t), (.int (1 : Int32))] [] rfl (by rw [hml]; rfl) (lenOf own_pd_28B5bBZ295bB rfl) rfl 0 (Nat.le_of_eq rfl) (by decide) (by decide) (by decide : 0 + 1 ≤ _) (by decide : 0 + 7 ≤ _) 6 (hb hby own_d11_3) rfl 1 7 rfl rfl ?_
  intro rv2 T2 Lc2 X2 hQ2
  obtain ⟨vv, rfl, Nq2, Kq2, G0_2, G1_2, G2_2, G3_2⟩ := hQ2
  have N2 := Fr.app N0 Nq2
  have sz3 : h0.size ≤ T2.heap.size := Kq2.1
  have K3 := K0.trans Kq2 all0
  have lt4 : @LT.lt Nat _ vv T2.heap.size := G2_2.lt
  show own_Rn p e below _ (T2.setTop (mkF m 6 #[.val (.int (0 : Int32)), .val (.ref t)] [(.ref vv)]))
  exact own_ret X2 (v := some (.ref vv)) (fun h => by rw [Bd.returns] at h; cases h) (fun fs hr => X2.areturnOut hx rfl Bd.returns rfl (hb hby own_d11_6) hr) (⟨vv, rfl, N2, K3, (Nat.le_trans (Nat.le_refl _) G0_2), G1_2, G2_2, G3_2⟩) (by decide) (by decide)
theorem own_ef_rmE1 (m : MethodId) (t : Addr) (kt : ClassId) (cs : List Int32) (ci : Addr) (cu : Addr) : entryFrame m #[(.ref ci), (.int (0 : Int32)), (.ref t)] 3 = mkF m 0 #[.val (.ref ci), .val (.int (0 : Int32)), .val (.ref t)] [] := by first | (simp [entryFrame, mkF, argsToLocals, Value.category]; done) | rfl
theorem own_d10_0 : decode jdk_42_method_18_code 0 = .ok (.aload_n 0, 1) := by decide +kernel
theorem own_d10_1 : decode jdk_42_method_18_code 1 = .ok (.getstatic 86, 3) := by decide +kernel
theorem own_d10_4 : decode jdk_42_method_18_code 4 = .ok (.if_acmp .ne 10, 3) := by decide +kernel
theorem own_d10_14 : decode jdk_42_method_18_code 14 = .ok (.aload_n 0, 1) := by decide +kernel
theorem own_d10_15 : decode jdk_42_method_18_code 15 = .ok (.getstatic 116, 3) := by decide +kernel
theorem own_d10_18 : decode jdk_42_method_18_code 18 = .ok (.if_acmp .ne 9, 3) := by decide +kernel
theorem own_d10_21 : decode jdk_42_method_18_code 21 = .ok (.iload_n 1, 1) := by decide +kernel
theorem own_d10_22 : decode jdk_42_method_18_code 22 = .ok (.aload_n 2, 1) := by decide +kernel
theorem own_d10_23 : decode jdk_42_method_18_code 23 = .ok (.invokestatic 256, 3) := by decide +kernel
theorem own_pd_28B5bB295bB : parseMethodDescriptor "(B[B)[B" = some ⟨[.byte, (.array .byte)], some (.array .byte)⟩ := by decide +kernel
theorem own_d10_26 : decode jdk_42_method_18_code 26 = .ok (.areturn, 1) := by decide +kernel
def Q_rmE1 (Z : State) (t : Addr) (kt : ClassId) (cs : List Int32) (ci : Addr) (cu : Addr) (h0 : Heap) (n0 : Nat) (vq : Option Value) (hhq : Heap) (Lq : List Loc) : Prop := ∃ (v : Addr), vq = some (.ref v) ∧ Fr n0 Lq ∧ Keep h0 hhq [] ∧ h0.size ≤ v ∧ n0 ≤ v ∧ Arv Z hhq v kt .byte (Int32.ofNat cs.length) (own_bs cs) (.int 0) ∧ Exa Z hhq v "[B"
set_option maxRecDepth 65536 in
set_option maxHeartbeats 40000000 in
theorem rmE1 (l : Launch) (Z : State) (a0 : Array Value) (hw : ∀ d ∈ tables_1, d.before a0 Z = true) (ws : List Jvm.Cond) (t : Addr) (kt : ClassId) (cs : List Int32) (ci : Addr) (cu : Addr) (h0 : Heap) (n0 : Nat) (Z0 : n0 ≤ h0.size) (Pm0 : Arv Z h0 t kt .byte (Int32.ofNat cs.length) (own_bs cs) (.int 0)) (Pm1 : Exa Z h0 t "[B") (hn : (cs.length ≤ 7)) (OU : Sta Z Z.heap "sun/nio/cs/UTF_8" "INSTANCE" "Lsun/nio/cs/UTF_8;" (.ref cu)) (OI : Sta Z Z.heap "sun/nio/cs/ISO_8859_1" "INSTANCE" "Lsun/nio/cs/ISO_8859_1;" (.ref ci)) (nci : (ci ≠ cu)) (X00 : Old Z n0 h0) :
    MetFree l (⟨"java/lang/String", "encode", "(Ljava/nio/charset/Charset;B[B)[B"⟩ : MethodName) (head1 (Jvm.Cond.code (⟨"java/lang/String", "encode", "(Ljava/nio/charset/Charset;B[B)[B"⟩ : MethodName) jdk_42_method_18_code 3 (some (.array .byte)) :: ws) ({ frames := 3, cells := 1, slots := 7, locals := 48 } : Room)) (fun aq U => aq = #[(.ref ci), (.int (0 : Int32)), (.ref t)] ∧ Z.Warmed39 U.vm ∧ U.heap = h0) (fun _ _ _ _ _ => True) (fun _ U oq U' => ∃ vq Lq, oq = .returned vq ∧ Q_rmE1 Z t kt cs ci cu h0 n0 vq U'.heap Lq ∧ FrameEnd U oq U' Lq ({ frames := 3, cells := 1, slots := 7, locals := 48 } : Room).cells ({ frames := 3, cells := 1, slots := 7, locals := 48 } : Room).slots) := by
  refine MetFree.of_bodySF (plainFor_of_name own_pn_java_lang_String) hisR ?_
  intro p e s m args below meth c s₁ Bd hml0 hP hK
  obtain ⟨rfl, hZ, hh⟩ := hP
  have hx := Bd.exec
  have hby := Bd.bytes
  have hml : c.maxLocals = 3 := hml0
  have hown : s.vm.findClass "java/lang/String" = some m.cls := findClass_of_methodNamed Bd.named
  have hnm := (name_of_methodNamed Bd.named Bd.method).1
  have X0 : Stand p l e ({ frames := 3, cells := 1, slots := 7, locals := 48 } : Room) s m #[(.ref ci), (.int (0 : Int32)), (.ref t)] below meth c s₁ [] 0 0 := Stand.of_body Bd
  have e0 : s₁.heap = h0 := by rw [← hh, Bd.state]; rfl
  have N0 := Fr.nil n0
  have K0 : Keep h0 h0 [] := Keep.refl _ _
  refine own_go (S' := s₁.setTop (mkF m 0 #[.val (.ref ci), .val (.int (0 : Int32)), .val (.ref t)] [])) (fun tq kq => castTop (own_ef_rmE1 m t kt cs ci cu) kq) ?_
  have lt1 : @LT.lt Nat _ t h0.size := Pm0.lt
  refine own_aln X0 hx 1 (hb hby own_d10_0) rfl rfl rfl ?_
  refine own_gS X0 hx hZ hown (host := "") (Or.inl (hw _ (own_mi 65 rfl))) Via.refl e0 (OU.ext X00.2) 4 (hb hby own_d10_1) rfl ?_
  intro T2 X2 e2
  refine own_go (fun tq kq => Jvm.RoadKit.acmp (g := (mkF m 4 #[.val (.ref ci), .val (.int (0 : Int32)), .val (.ref t)] [(.ref cu), (.ref ci)])) X2 hx rfl rfl rfl (pc0 := 4) (pc' := 14) (same := false) rfl (hb hby own_d10_4) rfl (decide_eq_false fun q => nci (Value.ref.inj q)) (by decide) (by decide) kq) ?_
  show own_Rn p e below _ (T2.setTop (mkF m 14 #[.val (.ref ci), .val (.int (0 : Int32)), .val (.ref t)] []))
  refine own_aln X2 hx 15 (hb hby own_d10_14) rfl rfl rfl ?_
  refine own_gS X2 hx hZ hown (host := "") (Or.inl (hw _ (own_mi 67 rfl))) Via.refl e2 (OI.ext X00.2) 18 (hb hby own_d10_15) rfl ?_
  intro T3 X3 e3
  refine own_go (fun tq kq => Jvm.RoadKit.acmp (g := (mkF m 18 #[.val (.ref ci), .val (.int (0 : Int32)), .val (.ref t)] [(.ref ci), (.ref ci)])) X3 hx rfl rfl rfl (pc0 := 18) (pc' := 21) (same := true) rfl (hb hby own_d10_18) rfl (decide_eq_true rfl) (by decide) (by decide) kq) ?_
  show own_Rn p e below _ (T3.setTop (mkF m 21 #[.val (.ref ci), .val (.int (0 : Int32)), .val (.ref t)] []))
  refine own_iln X3 hx 22 (hb hby own_d10_21) rfl rfl ?_
  refine own_aln X3 hx 23 (hb hby own_d10_22) rfl rfl rfl ?_
  have Zn4 : n0 ≤ h0.size := (Nat.le_trans Z0 (Nat.le_refl _))
  refine own_cS X3 hx hZ (y := (⟨"java/lang/String", "encode8859_1", "(B[B)[B"⟩ : MethodName)) hown (hw _ (own_mi 68 rfl)) (hw _ (own_mi 69 rfl)) (hw _ (own_mi 8 rfl)) (hw _ (own_mi 70 rfl)) (by decide) (rmE2 l Z a0 hw [] (t) (kt) (cs) h0 n0 Zn4 Pm0 Pm1 (hn)) e3 [(.int (0 : Int32)), (.ref t)] [] rfl (by rw [hml]; rfl) (lenOf own_pd_28B5bB295bB rfl) rfl 0 (Nat.le_of_eq rfl) (by decide) (by decide) (by decide : 0 + 1 ≤ _) (by decide : 0 + 7 ≤ _) 26 (hb hby own_d10_23) rfl 1 7 rfl rfl ?_
  intro rv4 T4 Lc4 X4 hQ4
  obtain ⟨vv, rfl, Nq4, Kq4, G0_4, G1_4, G2_4, G3_4⟩ := hQ4
  have N4 := Fr.app N0 Nq4
  have sz5 : h0.size ≤ T4.heap.size := Kq4.1
  have K5 := K0.trans Kq4 all0
  have lt6 : @LT.lt Nat _ vv T4.heap.size := G2_4.lt
  show own_Rn p e below _ (T4.setTop (mkF m 26 #[.val (.ref ci), .val (.int (0 : Int32)), .val (.ref t)] [(.ref vv)]))
  exact own_ret X4 (v := some (.ref vv)) (fun h => by rw [Bd.returns] at h; cases h) (fun fs hr => X4.areturnOut hx rfl Bd.returns rfl (hb hby own_d10_26) hr) (⟨vv, rfl, N4, K5, (Nat.le_trans (Nat.le_refl _) G0_4), G1_4, G2_4, G3_4⟩) (by decide) (by decide)
theorem own_ef_rmGB (m : MethodId) (x : Addr) (t : Addr) (kt : ClassId) (cs : List Int32) (ci : Addr) (cu : Addr) (G1 : Int32) : entryFrame m #[(.ref x), (.ref ci)] 2 = mkF m 0 #[.val (.ref x), .val (.ref ci)] [] := by first | (simp [entryFrame, mkF, argsToLocals, Value.category]; done) | rfl
theorem own_d8_0 : decode jdk_42_method_64_code 0 = .ok (.aload_n 1, 1) := by decide +kernel
theorem own_d8_1 : decode jdk_42_method_64_code 1 = .ok (.ifnonnull 11, 3) := by decide +kernel
theorem own_d8_12 : decode jdk_42_method_64_code 12 = .ok (.aload_n 1, 1) := by decide +kernel
theorem own_d8_13 : decode jdk_42_method_64_code 13 = .ok (.aload_n 0, 1) := by decide +kernel
theorem own_d8_14 : decode jdk_42_method_64_code 14 = .ok (.invokevirtual 335, 3) := by decide +kernel
theorem own_pd_2829B : parseMethodDescriptor "()B" = some ⟨[], some .byte⟩ := by decide +kernel
theorem own_d8_17 : decode jdk_42_method_64_code 17 = .ok (.aload_n 0, 1) := by decide +kernel
theorem own_d8_18 : decode jdk_42_method_64_code 18 = .ok (.getfield 9, 3) := by decide +kernel
theorem own_d8_21 : decode jdk_42_method_64_code 21 = .ok (.invokestatic 535, 3) := by decide +kernel
theorem own_pd_28Ljava2fnio2fcharset2fCharset3bB5bB295bB : parseMethodDescriptor "(Ljava/nio/charset/Charset;B[B)[B" = some ⟨[(.object "java/nio/charset/Charset"), .byte, (.array .byte)], some (.array .byte)⟩ := by decide +kernel
theorem own_d8_24 : decode jdk_42_method_64_code 24 = .ok (.areturn, 1) := by decide +kernel
def Q_rmGB (Z : State) (x : Addr) (t : Addr) (kt : ClassId) (cs : List Int32) (ci : Addr) (cu : Addr) (G1 : Int32) (h0 : Heap) (n0 : Nat) (vq : Option Value) (hhq : Heap) (Lq : List Loc) : Prop := ∃ (v : Addr), vq = some (.ref v) ∧ Fr n0 Lq ∧ Keep h0 hhq [] ∧ h0.size ≤ v ∧ n0 ≤ v ∧ Arv Z hhq v kt .byte (Int32.ofNat cs.length) (own_bs cs) (.int 0) ∧ Exa Z hhq v "[B"
set_option maxRecDepth 65536 in
set_option maxHeartbeats 40000000 in
theorem rmGB (l : Launch) (Z : State) (a0 : Array Value) (hw : ∀ d ∈ tables_1, d.before a0 Z = true) (ws : List Jvm.Cond) (x : Addr) (t : Addr) (kt : ClassId) (cs : List Int32) (ci : Addr) (cu : Addr) (G1 : Int32) (h0 : Heap) (n0 : Nat) (Z0 : n0 ≤ h0.size) (Pm0 : Exa Z h0 x "java/lang/String") (Pm1 : Fld Z h0 x "java/lang/String" "value" "[B" (.ref t)) (Pm2 : Fld Z h0 x "java/lang/String" "coder" "B" (.int (0 : Int32))) (Pm3 : Arv Z h0 t kt .byte (Int32.ofNat cs.length) (own_bs cs) (.int 0)) (Pm4 : Exa Z h0 t "[B") (hn : (cs.length ≤ 7)) (OU : Sta Z Z.heap "sun/nio/cs/UTF_8" "INSTANCE" "Lsun/nio/cs/UTF_8;" (.ref cu)) (OI : Sta Z Z.heap "sun/nio/cs/ISO_8859_1" "INSTANCE" "Lsun/nio/cs/ISO_8859_1;" (.ref ci)) (nci : (ci ≠ cu)) (O2 : Sta Z Z.heap "java/lang/String" "COMPACT_STRINGS" "Z" (.int G1)) (P5 : (¬ (G1 = (0 : Int32)))) (X00 : Old Z n0 h0) :
    MetFree l (⟨"java/lang/String", "getBytes", "(Ljava/nio/charset/Charset;)[B"⟩ : MethodName) (head1 (Jvm.Cond.code (⟨"java/lang/String", "getBytes", "(Ljava/nio/charset/Charset;)[B"⟩ : MethodName) jdk_42_method_64_code 2 (some (.array .byte)) :: ws) ({ frames := 4, cells := 1, slots := 7, locals := 62 } : Room)) (fun aq U => aq = #[(.ref x), (.ref ci)] ∧ Z.Warmed39 U.vm ∧ U.heap = h0) (fun _ _ _ _ _ => True) (fun _ U oq U' => ∃ vq Lq, oq = .returned vq ∧ Q_rmGB Z x t kt cs ci cu G1 h0 n0 vq U'.heap Lq ∧ FrameEnd U oq U' Lq ({ frames := 4, cells := 1, slots := 7, locals := 62 } : Room).cells ({ frames := 4, cells := 1, slots := 7, locals := 62 } : Room).slots) := by
  refine MetFree.of_bodySF (plainFor_of_name own_pn_java_lang_String) hisR ?_
  intro p e s m args below meth c s₁ Bd hml0 hP hK
  obtain ⟨rfl, hZ, hh⟩ := hP
  have hx := Bd.exec
  have hby := Bd.bytes
  have hml : c.maxLocals = 2 := hml0
  have hown : s.vm.findClass "java/lang/String" = some m.cls := findClass_of_methodNamed Bd.named
  have hnm := (name_of_methodNamed Bd.named Bd.method).1
  have X0 : Stand p l e ({ frames := 4, cells := 1, slots := 7, locals := 62 } : Room) s m #[(.ref x), (.ref ci)] below meth c s₁ [] 0 0 := Stand.of_body Bd
  have e0 : s₁.heap = h0 := by rw [← hh, Bd.state]; rfl
  have N0 := Fr.nil n0
  have K0 : Keep h0 h0 [] := Keep.refl _ _
  refine own_go (S' := s₁.setTop (mkF m 0 #[.val (.ref x), .val (.ref ci)] [])) (fun tq kq => castTop (own_ef_rmGB m x t kt cs ci cu G1) kq) ?_
  have lt1 : @LT.lt Nat _ x h0.size := Pm0.lt
  have lt2 : @LT.lt Nat _ t h0.size := Pm3.lt
  refine own_aln X0 hx 1 (hb hby own_d8_0) rfl rfl rfl ?_
  refine own_go (fun tq kq => XS.ifnonnullYes X0.here hx rfl (pc0 := 1) (pc' := 12) rfl (hb hby own_d8_1) rfl (by decide) (by decide) kq) ?_
  show own_Rn p e below _ (s₁.setTop (mkF m 12 #[.val (.ref x), .val (.ref ci)] []))
  refine own_aln X0 hx 13 (hb hby own_d8_12) rfl rfl rfl ?_
  refine own_aln X0 hx 14 (hb hby own_d8_13) rfl rfl rfl ?_
  have Zn3 : n0 ≤ h0.size := (Nat.le_trans Z0 (Nat.le_refl _))
  refine own_cV X0 hx hZ (y := (⟨"java/lang/String", "coder", "()B"⟩ : MethodName)) (z := (⟨"java/lang/String", "coder", "()B"⟩ : MethodName)) hown (hw _ (own_mi 57 rfl)) (hw _ (own_mi 58 rfl)) (notFace_of_selects (args := #[]) (mvT hZ (hw _ (own_mi 60 rfl)))) (hw _ (own_mi 60 rfl)) (hw _ (own_mi 59 rfl)) (hw _ (own_mi 61 rfl)) (hw _ (own_mi 8 rfl)) (by decide) (rmCo l Z a0 hw [] (x) (G1) h0 n0 Zn3 Pm2 (O2) (P5) X00) Pm0 e0 [] [(.ref ci)] rfl (by rw [hml]; rfl) (lenOf own_pd_2829B rfl) rfl 1 (Nat.le_of_eq rfl) (by decide) (by decide) (by decide : 0 + 0 ≤ _) (by decide : 0 + 0 ≤ _) 17 (hb hby own_d8_14) rfl 0 0 rfl rfl ?_
  intro rv3 T3 Lc3 X3 hQ3
  obtain ⟨rfl, Nq3, eh3⟩ := hQ3
  have N3 := Fr.app N0 Nq3
  show own_Rn p e below _ (T3.setTop (mkF m 17 #[.val (.ref x), .val (.ref ci)] [(.int (0 : Int32)), (.ref ci)]))
  refine own_aln X3 hx 18 (hb hby own_d8_17) rfl rfl rfl ?_
  refine own_gF X3 hx hZ hown (host := "") (Or.inl (hw _ (own_mi 33 rfl))) Via.refl eh3 Pm1 21 (hb hby own_d8_18) rfl ?_
  intro T4 X4 e4
  have Zn5 : n0 ≤ h0.size := (Nat.le_trans Z0 (Nat.le_refl _))
  refine own_cS X4 hx hZ (y := (⟨"java/lang/String", "encode", "(Ljava/nio/charset/Charset;B[B)[B"⟩ : MethodName)) hown (hw _ (own_mi 62 rfl)) (hw _ (own_mi 63 rfl)) (hw _ (own_mi 8 rfl)) (hw _ (own_mi 64 rfl)) (by decide) (rmE1 l Z a0 hw [] (t) (kt) (cs) (ci) (cu) h0 n0 Zn5 Pm3 Pm4 (hn) (OU) (OI) (nci) X00) e4 [(.ref ci), (.int (0 : Int32)), (.ref t)] [] rfl (by rw [hml]; rfl) (lenOf own_pd_28Ljava2fnio2fcharset2fCharset3bB5bB295bB rfl) rfl 0 (Nat.le_of_eq rfl) (by decide) (by decide) (by decide : 0 + 1 ≤ _) (by decide : 0 + 7 ≤ _) 24 (hb hby own_d8_21) rfl 1 7 rfl rfl ?_
  intro rv5 T5 Lc5 X5 hQ5
  obtain ⟨vv, rfl, Nq5, Kq5, G0_5, G1_5, G2_5, G3_5⟩ := hQ5
  have N5 := Fr.app N3 Nq5
  have sz6 : h0.size ≤ T5.heap.size := Kq5.1
  have K6 := K0.trans Kq5 all0
  have lt7 : @LT.lt Nat _ vv T5.heap.size := G2_5.lt
  show own_Rn p e below _ (T5.setTop (mkF m 24 #[.val (.ref x), .val (.ref ci)] [(.ref vv)]))
  exact own_ret X5 (v := some (.ref vv)) (fun h => by rw [Bd.returns] at h; cases h) (fun fs hr => X5.areturnOut hx rfl Bd.returns rfl (hb hby own_d8_24) hr) (⟨vv, rfl, N5, K6, (Nat.le_trans (Nat.le_refl _) G0_5), G1_5, G2_5, G3_5⟩) (by decide) (by decide)
theorem own_ef_rmDOL (m : MethodId) (de : Addr) (t : Addr) (kt : ClassId) (bs : List Nat) (tf : Addr) (kf : ClassId) : entryFrame m #[(.ref de), (.ref t), (.int (0 : Int32)), (.int (Int32.ofNat (own_cs bs).length))] 9 = mkF m 0 #[.val (.ref de), .val (.ref t), .val (.int (0 : Int32)), .val (.int (Int32.ofNat (own_cs bs).length)), .unset, .unset, .unset, .unset, .unset] [] := by first | (simp [entryFrame, mkF, argsToLocals, Value.category]; done) | rfl
theorem own_pn_java_util_Base64_Decoder : plainName "java/util/Base64$Decoder" = true := by first | (simp [plainName, overriddenIn]; done) | decide +kernel
theorem own_d14_0 : decode jdk_2450_method_7_code 0 = .ok (.aload_n 0, 1) := by decide +kernel
theorem own_d14_1 : decode jdk_2450_method_7_code 1 = .ok (.getfield 7, 3) := by decide +kernel
theorem own_d14_4 : decode jdk_2450_method_7_code 4 = .ok (.ifCond .eq 9, 3) := by decide +kernel
theorem own_d14_7 : decode jdk_2450_method_7_code 7 = .ok (.getstatic 95, 3) := by decide +kernel
theorem own_d14_10 : decode jdk_2450_method_7_code 10 = .ok (.goto 6, 3) := by decide +kernel
theorem own_d14_16 : decode jdk_2450_method_7_code 16 = .ok (.astore 4, 2) := by decide +kernel
theorem own_d14_18 : decode jdk_2450_method_7_code 18 = .ok (.iconst 0, 1) := by decide +kernel
theorem own_d14_19 : decode jdk_2450_method_7_code 19 = .ok (.istore 5, 2) := by decide +kernel
theorem own_d14_21 : decode jdk_2450_method_7_code 21 = .ok (.iload_n 3, 1) := by decide +kernel
theorem own_d14_22 : decode jdk_2450_method_7_code 22 = .ok (.iload_n 2, 1) := by decide +kernel
theorem own_d14_23 : decode jdk_2450_method_7_code 23 = .ok (.isub, 1) := by decide +kernel
theorem own_d14_24 : decode jdk_2450_method_7_code 24 = .ok (.istore 6, 2) := by decide +kernel
theorem own_d14_26 : decode jdk_2450_method_7_code 26 = .ok (.iload 6, 2) := by decide +kernel
theorem own_d14_28 : decode jdk_2450_method_7_code 28 = .ok (.ifCond .ne 5, 3) := by decide +kernel
theorem own_d14_31 : decode jdk_2450_method_7_code 31 = .ok (.iconst 0, 1) := by decide +kernel
theorem own_d14_32 : decode jdk_2450_method_7_code 32 = .ok (.ireturn, 1) := by decide +kernel
theorem own_d14_33 : decode jdk_2450_method_7_code 33 = .ok (.iload 6, 2) := by decide +kernel
theorem own_d14_35 : decode jdk_2450_method_7_code 35 = .ok (.iconst 2, 1) := by decide +kernel
theorem own_d14_36 : decode jdk_2450_method_7_code 36 = .ok (.if_icmp .ge 30, 3) := by decide +kernel
theorem own_d14_66 : decode jdk_2450_method_7_code 66 = .ok (.aload_n 0, 1) := by decide +kernel
theorem own_d14_67 : decode jdk_2450_method_7_code 67 = .ok (.getfield 13, 3) := by decide +kernel
theorem own_d14_70 : decode jdk_2450_method_7_code 70 = .ok (.ifCond .eq 71, 3) := by decide +kernel
theorem own_d14_141 : decode jdk_2450_method_7_code 141 = .ok (.aload_n 1, 1) := by decide +kernel
theorem own_d14_142 : decode jdk_2450_method_7_code 142 = .ok (.iload_n 3, 1) := by decide +kernel
theorem own_d14_143 : decode jdk_2450_method_7_code 143 = .ok (.iconst 1, 1) := by decide +kernel
theorem own_d14_144 : decode jdk_2450_method_7_code 144 = .ok (.isub, 1) := by decide +kernel
theorem own_d14_145 : decode jdk_2450_method_7_code 145 = .ok (.baload, 1) := by decide +kernel
theorem own_d14_146 : decode jdk_2450_method_7_code 146 = .ok (.bipush 61, 2) := by decide +kernel
theorem own_d14_148 : decode jdk_2450_method_7_code 148 = .ok (.if_icmp .ne 19, 3) := by decide +kernel
theorem own_d14_167 : decode jdk_2450_method_7_code 167 = .ok (.iload 5, 2) := by decide +kernel
theorem own_d14_169 : decode jdk_2450_method_7_code 169 = .ok (.ifCond .ne 18, 3) := by decide +kernel
theorem own_d14_172 : decode jdk_2450_method_7_code 172 = .ok (.iload 6, 2) := by decide +kernel
theorem own_d14_174 : decode jdk_2450_method_7_code 174 = .ok (.iconst 3, 1) := by decide +kernel
theorem own_d14_175 : decode jdk_2450_method_7_code 175 = .ok (.iand, 1) := by decide +kernel
theorem own_d14_176 : decode jdk_2450_method_7_code 176 = .ok (.ifCond .eq 11, 3) := by decide +kernel
theorem own_d14_179 : decode jdk_2450_method_7_code 179 = .ok (.iconst 4, 1) := by decide +kernel
theorem own_d14_180 : decode jdk_2450_method_7_code 180 = .ok (.iload 6, 2) := by decide +kernel
theorem own_d14_182 : decode jdk_2450_method_7_code 182 = .ok (.iconst 3, 1) := by decide +kernel
theorem own_d14_183 : decode jdk_2450_method_7_code 183 = .ok (.iand, 1) := by decide +kernel
theorem own_d14_184 : decode jdk_2450_method_7_code 184 = .ok (.isub, 1) := by decide +kernel
theorem own_d14_185 : decode jdk_2450_method_7_code 185 = .ok (.istore 5, 2) := by decide +kernel
theorem own_d14_187 : decode jdk_2450_method_7_code 187 = .ok (.iconst 3, 1) := by decide +kernel
theorem own_d14_188 : decode jdk_2450_method_7_code 188 = .ok (.iload 6, 2) := by decide +kernel
theorem own_d14_190 : decode jdk_2450_method_7_code 190 = .ok (.i2l, 1) := by decide +kernel
theorem own_d14_191 : decode jdk_2450_method_7_code 191 = .ok (.ldc2_w 107, 3) := by decide +kernel
theorem own_d14_194 : decode jdk_2450_method_7_code 194 = .ok (.ladd, 1) := by decide +kernel
theorem own_d14_195 : decode jdk_2450_method_7_code 195 = .ok (.ldc2_w 109, 3) := by decide +kernel
theorem own_d14_198 : decode jdk_2450_method_7_code 198 = .ok (.ldiv, 1) := by decide +kernel
theorem own_d14_199 : decode jdk_2450_method_7_code 199 = .ok (.l2i, 1) := by decide +kernel
theorem own_d14_200 : decode jdk_2450_method_7_code 200 = .ok (.imul, 1) := by decide +kernel
theorem own_d14_201 : decode jdk_2450_method_7_code 201 = .ok (.iload 5, 2) := by decide +kernel
theorem own_d14_203 : decode jdk_2450_method_7_code 203 = .ok (.isub, 1) := by decide +kernel
theorem own_d14_204 : decode jdk_2450_method_7_code 204 = .ok (.ireturn, 1) := by decide +kernel
def Q_rmDOL (Z : State) (de : Addr) (t : Addr) (kt : ClassId) (bs : List Nat) (tf : Addr) (kf : ClassId) (h0 : Heap) (n0 : Nat) (vq : Option Value) (hhq : Heap) (Lq : List Loc) : Prop := vq = some (.int (Int32.ofNat bs.length)) ∧ Fr n0 Lq ∧ hhq = h0
set_option maxRecDepth 65536 in
set_option maxHeartbeats 40000000 in
theorem rmDOL (l : Launch) (Z : State) (a0 : Array Value) (hw : ∀ d ∈ tables_1, d.before a0 Z = true) (ws : List Jvm.Cond) (de : Addr) (t : Addr) (kt : ClassId) (bs : List Nat) (tf : Addr) (kf : ClassId) (h0 : Heap) (n0 : Nat) (Z0 : n0 ≤ h0.size) (ZD1 : Fld Z Z.heap de "java/util/Base64$Decoder" "isURL" "Z" (.int (1 : Int32))) (ZD2 : Fld Z Z.heap de "java/util/Base64$Decoder" "isMIME" "Z" (.int (0 : Int32))) (OF : Sta Z Z.heap "java/util/Base64$Decoder" "fromBase64URL" "[I" (.ref tf)) (Pm3 : Arv Z h0 t kt .byte (Int32.ofNat (own_cs bs).length) (own_bs (own_cs bs)) (.int 0)) (hL : (bs.length ≤ 5)) (hB : (∀ b ∈ bs, b < 256)) (X00 : Old Z n0 h0) :
    MetFree l (⟨"java/util/Base64$Decoder", "decodedOutLength", "([BII)I"⟩ : MethodName) (head1 (Jvm.Cond.code (⟨"java/util/Base64$Decoder", "decodedOutLength", "([BII)I"⟩ : MethodName) jdk_2450_method_7_code 9 (some .int) :: ws) ({ frames := 0, cells := 0, slots := 0, locals := 0 } : Room)) (fun aq U => aq = #[(.ref de), (.ref t), (.int (0 : Int32)), (.int (Int32.ofNat (own_cs bs).length))] ∧ Z.Warmed39 U.vm ∧ U.heap = h0) (fun _ _ _ _ _ => True) (fun _ U oq U' => ∃ vq Lq, oq = .returned vq ∧ Q_rmDOL Z de t kt bs tf kf h0 n0 vq U'.heap Lq ∧ FrameEnd U oq U' Lq ({ frames := 0, cells := 0, slots := 0, locals := 0 } : Room).cells ({ frames := 0, cells := 0, slots := 0, locals := 0 } : Room).slots) := by
  refine MetFree.of_bodySF (plainFor_of_name own_pn_java_util_Base64_Decoder) hisR ?_
  intro p e s m args below meth c s₁ Bd hml0 hP hK
  obtain ⟨rfl, hZ, hh⟩ := hP
  have hx := Bd.exec
  have hby := Bd.bytes
  have hml : c.maxLocals = 9 := hml0
  have hown : s.vm.findClass "java/util/Base64$Decoder" = some m.cls := findClass_of_methodNamed Bd.named
  have hnm := (name_of_methodNamed Bd.named Bd.method).1
  have X0 : Stand p l e ({ frames := 0, cells := 0, slots := 0, locals := 0 } : Room) s m #[(.ref de), (.ref t), (.int (0 : Int32)), (.int (Int32.ofNat (own_cs bs).length))] below meth c s₁ [] 0 0 := Stand.of_body Bd
  have e0 : s₁.heap = h0 := by rw [← hh, Bd.state]; rfl
  have N0 := Fr.nil n0
  have K0 : Keep h0 h0 [] := Keep.refl _ _
  refine own_go (S' := s₁.setTop (mkF m 0 #[.val (.ref de), .val (.ref t), .val (.int (0 : Int32)), .val (.int (Int32.ofNat (own_cs bs).length)), .unset, .unset, .unset, .unset, .unset] [])) (fun tq kq => castTop (own_ef_rmDOL m de t kt bs tf kf) kq) ?_
  have lt1 : @LT.lt Nat _ t h0.size := Pm3.lt
  refine own_aln X0 hx 1 (hb hby own_d14_0) rfl rfl rfl ?_
  have F2 : Fld Z h0 de "java/util/Base64$Decoder" "isURL" "Z" (.int (1 : Int32)) := ZD1.ext X00.2
  refine own_gF X0 hx hZ hown (host := "") (Or.inl (hw _ (own_mi 93 rfl))) Via.refl e0 F2 4 (hb hby own_d14_1) rfl ?_
  intro T3 X3 e3
  refine own_ifN X3 hx 7 (hb hby own_d14_4) rfl ((if0 _ _).trans (feq ((by decide : ¬ ((1 : Int32) = (0 : Int32))) : ¬ ((1 : Int32) = (0 : Int32)))).1) ?_
  refine own_gS X3 hx hZ hown (host := "") (Or.inl (hw _ (own_mi 95 rfl))) Via.refl e3 (OF.ext X00.2) 10 (hb hby own_d14_7) rfl ?_
  intro T4 X4 e4
  refine own_gt X4 hx 16 (hb hby own_d14_10) (by decide) (by decide) ?_
  refine own_as X4 hx #[.val (.ref de), .val (.ref t), .val (.int (0 : Int32)), .val (.int (Int32.ofNat (own_cs bs).length)), .val (.ref tf), .unset, .unset, .unset, .unset] 18 (hb hby own_d14_16) rfl rfl rfl ?_
  rcases bs with _ | ⟨q0, _ | ⟨q1, _ | ⟨q2, _ | ⟨q3, _ | ⟨q4, _ | ⟨q5, rs⟩⟩⟩⟩⟩⟩
  · skip
    have V5 : Arv Z h0 t kt .byte (0 : Int32) [] (.int 0) := Pm3
    show own_Rn p e below _ (T4.setTop (mkF m 18 #[.val (.ref de), .val (.ref t), .val (.int (0 : Int32)), .val (.int (0 : Int32)), .val (.ref tf), .unset, .unset, .unset, .unset] []))
    refine own_ic X4 hx (0 : Int32) 19 (hb hby own_d14_18) rfl rfl ?_
    refine own_is X4 hx #[.val (.ref de), .val (.ref t), .val (.int (0 : Int32)), .val (.int (0 : Int32)), .val (.ref tf), .val (.int (0 : Int32)), .unset, .unset, .unset] 21 (hb hby own_d14_19) rfl rfl ?_
    refine own_iln X4 hx 22 (hb hby own_d14_21) rfl rfl ?_
    refine own_iln X4 hx 23 (hb hby own_d14_22) rfl rfl ?_
    refine own_isub X4 hx 24 (hb hby own_d14_23) rfl ?_
    refine own_is X4 hx #[.val (.ref de), .val (.ref t), .val (.int (0 : Int32)), .val (.int (0 : Int32)), .val (.ref tf), .val (.int (0 : Int32)), .val (.int ((0 : Int32) - (0 : Int32))), .unset, .unset] 26 (hb hby own_d14_24) rfl rfl ?_
    refine own_il X4 hx 28 (hb hby own_d14_26) rfl rfl ?_
    refine own_ifN X4 hx 31 (hb hby own_d14_28) rfl ((if0 _ _).trans (teq (by decide : ((0 : Int32) - (0 : Int32)) = (0 : Int32))).2) ?_
    refine own_ic X4 hx (0 : Int32) 32 (hb hby own_d14_31) rfl rfl ?_
    exact own_ret X4 (v := some (.int (0 : Int32))) (fun h => by rw [Bd.returns] at h; cases h) (fun fs hr => retI X4 hx Bd.returns (hb hby own_d14_32) hr) (by rw [e4]; exact ⟨rfl, N0, rfl⟩) (by decide) (by decide)
  · skip
    have hq0 : q0 < 256 := hB q0 (by simp)
    have V6 : Arv Z h0 t kt .byte (2 : Int32) [(.int (own_cb (q0 / 4))), (.int (own_cb (q0 % 4 * 16 + 0 / 16)))] (.int 0) := Pm3
    show own_Rn p e below _ (T4.setTop (mkF m 18 #[.val (.ref de), .val (.ref t), .val (.int (0 : Int32)), .val (.int (2 : Int32)), .val (.ref tf), .unset, .unset, .unset, .unset] []))
    refine own_ic X4 hx (0 : Int32) 19 (hb hby own_d14_18) rfl rfl ?_
    refine own_is X4 hx #[.val (.ref de), .val (.ref t), .val (.int (0 : Int32)), .val (.int (2 : Int32)), .val (.ref tf), .val (.int (0 : Int32)), .unset, .unset, .unset] 21 (hb hby own_d14_19) rfl rfl ?_
    refine own_iln X4 hx 22 (hb hby own_d14_21) rfl rfl ?_
    refine own_iln X4 hx 23 (hb hby own_d14_22) rfl rfl ?_
    refine own_isub X4 hx 24 (hb hby own_d14_23) rfl ?_
    refine own_is X4 hx #[.val (.ref de), .val (.ref t), .val (.int (0 : Int32)), .val (.int (2 : Int32)), .val (.ref tf), .val (.int (0 : Int32)), .val (.int ((2 : Int32) - (0 : Int32))), .unset, .unset] 26 (hb hby own_d14_24) rfl rfl ?_
    refine own_il X4 hx 28 (hb hby own_d14_26) rfl rfl ?_
    refine own_ifY X4 hx 33 (hb hby own_d14_28) ((if0 _ _).trans (feq (by decide : ¬ (((2 : Int32) - (0 : Int32)) = (0 : Int32)))).2) (by decide) (by decide) ?_
    refine own_il X4 hx 35 (hb hby own_d14_33) rfl rfl ?_
    refine own_ic X4 hx (2 : Int32) 36 (hb hby own_d14_35) rfl rfl ?_
    refine own_icY X4 hx 66 (hb hby own_d14_36) (flt (by decide : ¬ (((2 : Int32) - (0 : Int32)) < (2 : Int32)))).2.1 (by decide) (by decide) ?_
    refine own_aln X4 hx 67 (hb hby own_d14_66) rfl rfl rfl ?_
    have F7 : Fld Z h0 de "java/util/Base64$Decoder" "isMIME" "Z" (.int (0 : Int32)) := ZD2.ext X00.2
    refine own_gF X4 hx hZ hown (host := "") (Or.inl (hw _ (own_mi 96 rfl))) Via.refl e4 F7 70 (hb hby own_d14_67) rfl ?_
    intro T8 X8 e8
    refine own_ifY X8 hx 141 (hb hby own_d14_70) ((if0 _ _).trans (teq ((by decide : (0 : Int32) = (0 : Int32)) : (0 : Int32) = (0 : Int32))).1) (by decide) (by decide) ?_
    refine own_aln X8 hx 142 (hb hby own_d14_141) rfl rfl rfl ?_
    refine own_iln X8 hx 143 (hb hby own_d14_142) rfl rfl ?_
    refine own_ic X8 hx (1 : Int32) 144 (hb hby own_d14_143) rfl rfl ?_
    refine own_isub X8 hx 145 (hb hby own_d14_144) rfl ?_
    rw [show ((2 : Int32) - (1 : Int32)) = (1 : Int32) from by decide]
    refine own_bal X8 hx hZ e8 V6 (own_cb (q0 % 4 * 16 + 0 / 16)) 146 (hb hby own_d14_145) rfl ⟨by decide, by decide⟩ rfl ?_
    refine own_bp X8 hx (61 : Int32) 148 (hb hby own_d14_146) rfl rfl ?_
    refine own_icY X8 hx 167 (hb hby own_d14_148) (feq (own_cb61 _ (by omega) : ¬ ((own_cb (q0 % 4 * 16 + 0 / 16)) = (61 : Int32)))).2 (by decide) (by decide) ?_
    refine own_il X8 hx 169 (hb hby own_d14_167) rfl rfl ?_
    refine own_ifN X8 hx 172 (hb hby own_d14_169) rfl ((if0 _ _).trans (teq ((by decide : (0 : Int32) = (0 : Int32)) : (0 : Int32) = (0 : Int32))).2) ?_
    refine own_il X8 hx 174 (hb hby own_d14_172) rfl rfl ?_
    refine own_ic X8 hx (3 : Int32) 175 (hb hby own_d14_174) rfl rfl ?_
    refine own_iand X8 hx 176 (hb hby own_d14_175) rfl ?_
    refine own_ifN X8 hx 179 (hb hby own_d14_176) rfl ((if0 _ _).trans (feq (by decide : ¬ ((((2 : Int32) - (0 : Int32)) &&& (3 : Int32)) = (0 : Int32)))).1) ?_
    refine own_ic X8 hx (4 : Int32) 180 (hb hby own_d14_179) rfl rfl ?_
    refine own_il X8 hx 182 (hb hby own_d14_180) rfl rfl ?_
    refine own_ic X8 hx (3 : Int32) 183 (hb hby own_d14_182) rfl rfl ?_
    refine own_iand X8 hx 184 (hb hby own_d14_183) rfl ?_
    refine own_isub X8 hx 185 (hb hby own_d14_184) rfl ?_
    refine own_is X8 hx #[.val (.ref de), .val (.ref t), .val (.int (0 : Int32)), .val (.int (2 : Int32)), .val (.ref tf), .val (.int ((4 : Int32) - (((2 : Int32) - (0 : Int32)) &&& (3 : Int32)))), .val (.int ((2 : Int32) - (0 : Int32))), .unset, .unset] 187 (hb hby own_d14_185) rfl rfl ?_
    refine own_ic X8 hx (3 : Int32) 188 (hb hby own_d14_187) rfl rfl ?_
    refine own_il X8 hx 190 (hb hby own_d14_188) rfl rfl ?_
    refine own_go (fun tq kq => XS.i2l X8.here hx rfl (hb hby own_d14_190) rfl kq) ?_
    show own_Rn p e below _ (T8.setTop (mkF m 191 #[.val (.ref de), .val (.ref t), .val (.int (0 : Int32)), .val (.int (2 : Int32)), .val (.ref tf), .val (.int ((4 : Int32) - (((2 : Int32) - (0 : Int32)) &&& (3 : Int32)))), .val (.int ((2 : Int32) - (0 : Int32))), .unset, .unset] [(.long (((2 : Int32) - (0 : Int32)).toInt64)), (.int (3 : Int32))]))
    refine own_go (fun tq kq => X8.ldc2Long hx hown (mvT hZ (hw _ (own_mi 98 rfl))) (g := (mkF m 191 #[.val (.ref de), .val (.ref t), .val (.int (0 : Int32)), .val (.int (2 : Int32)), .val (.ref tf), .val (.int ((4 : Int32) - (((2 : Int32) - (0 : Int32)) &&& (3 : Int32)))), .val (.int ((2 : Int32) - (0 : Int32))), .unset, .unset] [(.long (((2 : Int32) - (0 : Int32)).toInt64)), (.int (3 : Int32))])) rfl (hb hby own_d14_191) _ kq) ?_
    show own_Rn p e below _ (T8.setTop (mkF m 194 #[.val (.ref de), .val (.ref t), .val (.int (0 : Int32)), .val (.int (2 : Int32)), .val (.ref tf), .val (.int ((4 : Int32) - (((2 : Int32) - (0 : Int32)) &&& (3 : Int32)))), .val (.int ((2 : Int32) - (0 : Int32))), .unset, .unset] [(.long (3 : Int64)), (.long (((2 : Int32) - (0 : Int32)).toInt64)), (.int (3 : Int32))]))
    refine own_go (fun tq kq => XS.ladd X8.here hx rfl (hb hby own_d14_194) rfl kq) ?_
    show own_Rn p e below _ (T8.setTop (mkF m 195 #[.val (.ref de), .val (.ref t), .val (.int (0 : Int32)), .val (.int (2 : Int32)), .val (.ref tf), .val (.int ((4 : Int32) - (((2 : Int32) - (0 : Int32)) &&& (3 : Int32)))), .val (.int ((2 : Int32) - (0 : Int32))), .unset, .unset] [(.long ((((2 : Int32) - (0 : Int32)).toInt64) + (3 : Int64))), (.int (3 : Int32))]))
    refine own_go (fun tq kq => X8.ldc2Long hx hown (mvT hZ (hw _ (own_mi 99 rfl))) (g := (mkF m 195 #[.val (.ref de), .val (.ref t), .val (.int (0 : Int32)), .val (.int (2 : Int32)), .val (.ref tf), .val (.int ((4 : Int32) - (((2 : Int32) - (0 : Int32)) &&& (3 : Int32)))), .val (.int ((2 : Int32) - (0 : Int32))), .unset, .unset] [(.long ((((2 : Int32) - (0 : Int32)).toInt64) + (3 : Int64))), (.int (3 : Int32))])) rfl (hb hby own_d14_195) _ kq) ?_
    show own_Rn p e below _ (T8.setTop (mkF m 198 #[.val (.ref de), .val (.ref t), .val (.int (0 : Int32)), .val (.int (2 : Int32)), .val (.ref tf), .val (.int ((4 : Int32) - (((2 : Int32) - (0 : Int32)) &&& (3 : Int32)))), .val (.int ((2 : Int32) - (0 : Int32))), .unset, .unset] [(.long (4 : Int64)), (.long ((((2 : Int32) - (0 : Int32)).toInt64) + (3 : Int64))), (.int (3 : Int32))]))
    refine own_go (fun tq kq => XS.ldiv X8.here hx rfl (hb hby own_d14_198) rfl (by decide) kq) ?_
    show own_Rn p e below _ (T8.setTop (mkF m 199 #[.val (.ref de), .val (.ref t), .val (.int (0 : Int32)), .val (.int (2 : Int32)), .val (.ref tf), .val (.int ((4 : Int32) - (((2 : Int32) - (0 : Int32)) &&& (3 : Int32)))), .val (.int ((2 : Int32) - (0 : Int32))), .unset, .unset] [(.long (((((2 : Int32) - (0 : Int32)).toInt64) + (3 : Int64)) / (4 : Int64))), (.int (3 : Int32))]))
    refine own_go (fun tq kq => XS.l2i X8.here hx rfl (hb hby own_d14_199) rfl kq) ?_
    show own_Rn p e below _ (T8.setTop (mkF m 200 #[.val (.ref de), .val (.ref t), .val (.int (0 : Int32)), .val (.int (2 : Int32)), .val (.ref tf), .val (.int ((4 : Int32) - (((2 : Int32) - (0 : Int32)) &&& (3 : Int32)))), .val (.int ((2 : Int32) - (0 : Int32))), .unset, .unset] [(.int ((((((2 : Int32) - (0 : Int32)).toInt64) + (3 : Int64)) / (4 : Int64)).toInt32)), (.int (3 : Int32))]))
    refine own_imul X8 hx 201 (hb hby own_d14_200) rfl ?_
    refine own_il X8 hx 203 (hb hby own_d14_201) rfl rfl ?_
    refine own_isub X8 hx 204 (hb hby own_d14_203) rfl ?_
    exact own_ret X8 (v := some (.int (((3 : Int32) * ((((((2 : Int32) - (0 : Int32)).toInt64) + (3 : Int64)) / (4 : Int64)).toInt32)) - ((4 : Int32) - (((2 : Int32) - (0 : Int32)) &&& (3 : Int32)))))) (fun h => by rw [Bd.returns] at h; cases h) (fun fs hr => retI X8 hx Bd.returns (hb hby own_d14_204) hr) (by rw [e8]; exact ⟨congrArg (fun z => some (Value.int z)) ((by decide : (((3 : Int32) * ((((((2 : Int32) - (0 : Int32)).toInt64) + (3 : Int64)) / (4 : Int64)).toInt32)) - ((4 : Int32) - (((2 : Int32) - (0 : Int32)) &&& (3 : Int32)))) = (1 : Int32))), N0, rfl⟩) (by decide) (by decide)
  · skip
    have hq0 : q0 < 256 := hB q0 (by simp)
    have hq1 : q1 < 256 := hB q1 (by simp)
    have V9 : Arv Z h0 t kt .byte (3 : Int32) [(.int (own_cb (q0 / 4))), (.int (own_cb (q0 % 4 * 16 + q1 / 16))), (.int (own_cb (q1 % 16 * 4 + 0 / 64)))] (.int 0) := Pm3
    show own_Rn p e below _ (T4.setTop (mkF m 18 #[.val (.ref de), .val (.ref t), .val (.int (0 : Int32)), .val (.int (3 : Int32)), .val (.ref tf), .unset, .unset, .unset, .unset] []))
    refine own_ic X4 hx (0 : Int32) 19 (hb hby own_d14_18) rfl rfl ?_
    refine own_is X4 hx #[.val (.ref de), .val (.ref t), .val (.int (0 : Int32)), .val (.int (3 : Int32)), .val (.ref tf), .val (.int (0 : Int32)), .unset, .unset, .unset] 21 (hb hby own_d14_19) rfl rfl ?_
    refine own_iln X4 hx 22 (hb hby own_d14_21) rfl rfl ?_
    refine own_iln X4 hx 23 (hb hby own_d14_22) rfl rfl ?_
    refine own_isub X4 hx 24 (hb hby own_d14_23) rfl ?_
    refine own_is X4 hx #[.val (.ref de), .val (.ref t), .val (.int (0 : Int32)), .val (.int (3 : Int32)), .val (.ref tf), .val (.int (0 : Int32)), .val (.int ((3 : Int32) - (0 : Int32))), .unset, .unset] 26 (hb hby own_d14_24) rfl rfl ?_
    refine own_il X4 hx 28 (hb hby own_d14_26) rfl rfl ?_
    refine own_ifY X4 hx 33 (hb hby own_d14_28) ((if0 _ _).trans (feq (by decide : ¬ (((3 : Int32) - (0 : Int32)) = (0 : Int32)))).2) (by decide) (by decide) ?_
    refine own_il X4 hx 35 (hb hby own_d14_33) rfl rfl ?_
    refine own_ic X4 hx (2 : Int32) 36 (hb hby own_d14_35) rfl rfl ?_
    refine own_icY X4 hx 66 (hb hby own_d14_36) (flt (by decide : ¬ (((3 : Int32) - (0 : Int32)) < (2 : Int32)))).2.1 (by decide) (by decide) ?_
    refine own_aln X4 hx 67 (hb hby own_d14_66) rfl rfl rfl ?_
    have F10 : Fld Z h0 de "java/util/Base64$Decoder" "isMIME" "Z" (.int (0 : Int32)) := ZD2.ext X00.2
    refine own_gF X4 hx hZ hown (host := "") (Or.inl (hw _ (own_mi 96 rfl))) Via.refl e4 F10 70 (hb hby own_d14_67) rfl ?_
    intro T11 X11 e11
    refine own_ifY X11 hx 141 (hb hby own_d14_70) ((if0 _ _).trans (teq ((by decide : (0 : Int32) = (0 : Int32)) : (0 : Int32) = (0 : Int32))).1) (by decide) (by decide) ?_
    refine own_aln X11 hx 142 (hb hby own_d14_141) rfl rfl rfl ?_
    refine own_iln X11 hx 143 (hb hby own_d14_142) rfl rfl ?_
    refine own_ic X11 hx (1 : Int32) 144 (hb hby own_d14_143) rfl rfl ?_
    refine own_isub X11 hx 145 (hb hby own_d14_144) rfl ?_
    rw [show ((3 : Int32) - (1 : Int32)) = (2 : Int32) from by decide]
    refine own_bal X11 hx hZ e11 V9 (own_cb (q1 % 16 * 4 + 0 / 64)) 146 (hb hby own_d14_145) rfl ⟨by decide, by decide⟩ rfl ?_
    refine own_bp X11 hx (61 : Int32) 148 (hb hby own_d14_146) rfl rfl ?_
    refine own_icY X11 hx 167 (hb hby own_d14_148) (feq (own_cb61 _ (by omega) : ¬ ((own_cb (q1 % 16 * 4 + 0 / 64)) = (61 : Int32)))).2 (by decide) (by decide) ?_
    refine own_il X11 hx 169 (hb hby own_d14_167) rfl rfl ?_
    refine own_ifN X11 hx 172 (hb hby own_d14_169) rfl ((if0 _ _).trans (teq ((by decide : (0 : Int32) = (0 : Int32)) : (0 : Int32) = (0 : Int32))).2) ?_
    refine own_il X11 hx 174 (hb hby own_d14_172) rfl rfl ?_
    refine own_ic X11 hx (3 : Int32) 175 (hb hby own_d14_174) rfl rfl ?_
    refine own_iand X11 hx 176 (hb hby own_d14_175) rfl ?_
    refine own_ifN X11 hx 179 (hb hby own_d14_176) rfl ((if0 _ _).trans (feq (by decide : ¬ ((((3 : Int32) - (0 : Int32)) &&& (3 : Int32)) = (0 : Int32)))).1) ?_
    refine own_ic X11 hx (4 : Int32) 180 (hb hby own_d14_179) rfl rfl ?_
    refine own_il X11 hx 182 (hb hby own_d14_180) rfl rfl ?_
    refine own_ic X11 hx (3 : Int32) 183 (hb hby own_d14_182) rfl rfl ?_
    refine own_iand X11 hx 184 (hb hby own_d14_183) rfl ?_
    refine own_isub X11 hx 185 (hb hby own_d14_184) rfl ?_
    refine own_is X11 hx #[.val (.ref de), .val (.ref t), .val (.int (0 : Int32)), .val (.int (3 : Int32)), .val (.ref tf), .val (.int ((4 : Int32) - (((3 : Int32) - (0 : Int32)) &&& (3 : Int32)))), .val (.int ((3 : Int32) - (0 : Int32))), .unset, .unset] 187 (hb hby own_d14_185) rfl rfl ?_
    refine own_ic X11 hx (3 : Int32) 188 (hb hby own_d14_187) rfl rfl ?_
    refine own_il X11 hx 190 (hb hby own_d14_188) rfl rfl ?_
    refine own_go (fun tq kq => XS.i2l X11.here hx rfl (hb hby own_d14_190) rfl kq) ?_
    show own_Rn p e below _ (T11.setTop (mkF m 191 #[.val (.ref de), .val (.ref t), .val (.int (0 : Int32)), .val (.int (3 : Int32)), .val (.ref tf), .val (.int ((4 : Int32) - (((3 : Int32) - (0 : Int32)) &&& (3 : Int32)))), .val (.int ((3 : Int32) - (0 : Int32))), .unset, .unset] [(.long (((3 : Int32) - (0 : Int32)).toInt64)), (.int (3 : Int32))]))
    refine own_go (fun tq kq => X11.ldc2Long hx hown (mvT hZ (hw _ (own_mi 98 rfl))) (g := (mkF m 191 #[.val (.ref de), .val (.ref t), .val (.int (0 : Int32)), .val (.int (3 : Int32)), .val (.ref tf), .val (.int ((4 : Int32) - (((3 : Int32) - (0 : Int32)) &&& (3 : Int32)))), .val (.int ((3 : Int32) - (0 : Int32))), .unset, .unset] [(.long (((3 : Int32) - (0 : Int32)).toInt64)), (.int (3 : Int32))])) rfl (hb hby own_d14_191) _ kq) ?_
    show own_Rn p e below _ (T11.setTop (mkF m 194 #[.val (.ref de), .val (.ref t), .val (.int (0 : Int32)), .val (.int (3 : Int32)), .val (.ref tf), .val (.int ((4 : Int32) - (((3 : Int32) - (0 : Int32)) &&& (3 : Int32)))), .val (.int ((3 : Int32) - (0 : Int32))), .unset, .unset] [(.long (3 : Int64)), (.long (((3 : Int32) - (0 : Int32)).toInt64)), (.int (3 : Int32))]))
    refine own_go (fun tq kq => XS.ladd X11.here hx rfl (hb hby own_d14_194) rfl kq) ?_
    show own_Rn p e below _ (T11.setTop (mkF m 195 #[.val (.ref de), .val (.ref t), .val (.int (0 : Int32)), .val (.int (3 : Int32)), .val (.ref tf), .val (.int ((4 : Int32) - (((3 : Int32) - (0 : Int32)) &&& (3 : Int32)))), .val (.int ((3 : Int32) - (0 : Int32))), .unset, .unset] [(.long ((((3 : Int32) - (0 : Int32)).toInt64) + (3 : Int64))), (.int (3 : Int32))]))
    refine own_go (fun tq kq => X11.ldc2Long hx hown (mvT hZ (hw _ (own_mi 99 rfl))) (g := (mkF m 195 #[.val (.ref de), .val (.ref t), .val (.int (0 : Int32)), .val (.int (3 : Int32)), .val (.ref tf), .val (.int ((4 : Int32) - (((3 : Int32) - (0 : Int32)) &&& (3 : Int32)))), .val (.int ((3 : Int32) - (0 : Int32))), .unset, .unset] [(.long ((((3 : Int32) - (0 : Int32)).toInt64) + (3 : Int64))), (.int (3 : Int32))])) rfl (hb hby own_d14_195) _ kq) ?_
    show own_Rn p e below _ (T11.setTop (mkF m 198 #[.val (.ref de), .val (.ref t), .val (.int (0 : Int32)), .val (.int (3 : Int32)), .val (.ref tf), .val (.int ((4 : Int32) - (((3 : Int32) - (0 : Int32)) &&& (3 : Int32)))), .val (.int ((3 : Int32) - (0 : Int32))), .unset, .unset] [(.long (4 : Int64)), (.long ((((3 : Int32) - (0 : Int32)).toInt64) + (3 : Int64))), (.int (3 : Int32))]))
    refine own_go (fun tq kq => XS.ldiv X11.here hx rfl (hb hby own_d14_198) rfl (by decide) kq) ?_
    show own_Rn p e below _ (T11.setTop (mkF m 199 #[.val (.ref de), .val (.ref t), .val (.int (0 : Int32)), .val (.int (3 : Int32)), .val (.ref tf), .val (.int ((4 : Int32) - (((3 : Int32) - (0 : Int32)) &&& (3 : Int32)))), .val (.int ((3 : Int32) - (0 : Int32))), .unset, .unset] [(.long (((((3 : Int32) - (0 : Int32)).toInt64) + (3 : Int64)) / (4 : Int64))), (.int (3 : Int32))]))
    refine own_go (fun tq kq => XS.l2i X11.here hx rfl (hb hby own_d14_199) rfl kq) ?_
    show own_Rn p e below _ (T11.setTop (mkF m 200 #[.val (.ref de), .val (.ref t), .val (.int (0 : Int32)), .val (.int (3 : Int32)), .val (.ref tf), .val (.int ((4 : Int32) - (((3 : Int32) - (0 : Int32)) &&& (3 : Int32)))), .val (.int ((3 : Int32) - (0 : Int32))), .unset, .unset] [(.int ((((((3 : Int32) - (0 : Int32)).toInt64) + (3 : Int64)) / (4 : Int64)).toInt32)), (.int (3 : Int32))]))
    refine own_imul X11 hx 201 (hb hby own_d14_200) rfl ?_
    refine own_il X11 hx 203 (hb hby own_d14_201) rfl rfl ?_
    refine own_isub X11 hx 204 (hb hby own_d14_203) rfl ?_
    exact own_ret X11 (v := some (.int (((3 : Int32) * ((((((3 : Int32) - (0 : Int32)).toInt64) + (3 : Int64)) / (4 : Int64)).toInt32)) - ((4 : Int32) - (((3 : Int32) - (0 : Int32)) &&& (3 : Int32)))))) (fun h => by rw [Bd.returns] at h; cases h) (fun fs hr => retI X11 hx Bd.returns (hb hby own_d14_204) hr) (by rw [e11]; exact ⟨congrArg (fun z => some (Value.int z)) ((by decide : (((3 : Int32) * ((((((3 : Int32) - (0 : Int32)).toInt64) + (3 : Int64)) / (4 : Int64)).toInt32)) - ((4 : Int32) - (((3 : Int32) - (0 : Int32)) &&& (3 : Int32)))) = (2 : Int32))), N0, rfl⟩) (by decide) (by decide)
  · skip
    have hq0 : q0 < 256 := hB q0 (by simp)
    have hq1 : q1 < 256 := hB q1 (by simp)
    have hq2 : q2 < 256 := hB q2 (by simp)
    have V12 : Arv Z h0 t kt .byte (4 : Int32) [(.int (own_cb (q0 / 4))), (.int (own_cb (q0 % 4 * 16 + q1 / 16))), (.int (own_cb (q1 % 16 * 4 + q2 / 64))), (.int (own_cb (q2 % 64)))] (.int 0) := Pm3
    show own_Rn p e below _ (T4.setTop (mkF m 18 #[.val (.ref de), .val (.ref t), .val (.int (0 : Int32)), .val (.int (4 : Int32)), .val (.ref tf), .unset, .unset, .unset, .unset] []))
    refine own_ic X4 hx (0 : Int32) 19 (hb hby own_d14_18) rfl rfl ?_
    refine own_is X4 hx #[.val (.ref de), .val (.ref t), .val (.int (0 : Int32)), .val (.int (4 : Int32)), .val (.ref tf), .val (.int (0 : Int32)), .unset, .unset, .unset] 21 (hb hby own_d14_19) rfl rfl ?_
    refine own_iln X4 hx 22 (hb hby own_d14_21) rfl rfl ?_
    refine own_iln X4 hx 23 (hb hby own_d14_22) rfl rfl ?_
    refine own_isub X4 hx 24 (hb hby own_d14_23) rfl ?_
    refine own_is X4 hx #[.val (.ref de), .val (.ref t), .val (.int (0 : Int32)), .val (.int (4 : Int32)), .val (.ref tf), .val (.int (0 : Int32)), .val (.int ((4 : Int32) - (0 : Int32))), .unset, .unset] 26 (hb hby own_d14_24) rfl rfl ?_
    refine own_il X4 hx 28 (hb hby own_d14_26) rfl rfl ?_
    refine own_ifY X4 hx 33 (hb hby own_d14_28) ((if0 _ _).trans (feq (by decide : ¬ (((4 : Int32) - (0 : Int32)) = (0 : Int32)))).2) (by decide) (by decide) ?_
    refine own_il X4 hx 35 (hb hby own_d14_33) rfl rfl ?_
    refine own_ic X4 hx (2 : Int32) 36 (hb hby own_d14_35) rfl rfl ?_
    refine own_icY X4 hx 66 (hb hby own_d14_36) (flt (by decide : ¬ (((4 : Int32) - (0 : Int32)) < (2 : Int32)))).2.1 (by decide) (by decide) ?_
    refine own_aln X4 hx 67 (hb hby own_d14_66) rfl rfl rfl ?_
    have F13 : Fld Z h0 de "java/util/Base64$Decoder" "isMIME" "Z" (.int (0 : Int32)) := ZD2.ext X00.2
    refine own_gF X4 hx hZ hown (host := "") (Or.inl (hw _ (own_mi 96 rfl))) Via.refl e4 F13 70 (hb hby own_d14_67) rfl ?_
    intro T14 X14 e14
    refine own_ifY X14 hx 141 (hb hby own_d14_70) ((if0 _ _).trans (teq ((by decide : (0 : Int32) = (0 : Int32)) : (0 : Int32) = (0 : Int32))).1) (by decide) (by decide) ?_
    refine own_aln X14 hx 142 (hb hby own_d14_141) rfl rfl rfl ?_
    refine own_iln X14 hx 143 (hb hby own_d14_142) rfl rfl ?_
    refine own_ic X14 hx (1 : Int32) 144 (hb hby own_d14_143) rfl rfl ?_
    refine own_isub X14 hx 145 (hb hby own_d14_144) rfl ?_
    rw [show ((4 : Int32) - (1 : Int32)) = (3 : Int32) from by decide]
    refine own_bal X14 hx hZ e14 V12 (own_cb (q2 % 64)) 146 (hb hby own_d14_145) rfl ⟨by decide, by decide⟩ rfl ?_
    refine own_bp X14 hx (61 : Int32) 148 (hb hby own_d14_146) rfl rfl ?_
    refine own_icY X14 hx 167 (hb hby own_d14_148) (feq (own_cb61 _ (by omega) : ¬ ((own_cb (q2 % 64)) = (61 : Int32)))).2 (by decide) (by decide) ?_
    refine own_il X14 hx 169 (hb hby own_d14_167) rfl rfl ?_
    refine own_ifN X14 hx 172 (hb hby own_d14_169) rfl ((if0 _ _).trans (teq ((by decide : (0 : Int32) = (0 : Int32)) : (0 : Int32) = (0 : Int32))).2) ?_
    refine own_il X14 hx 174 (hb hby own_d14_172) rfl rfl ?_
    refine own_ic X14 hx (3 : Int32) 175 (hb hby own_d14_174) rfl rfl ?_
    refine own_iand X14 hx 176 (hb hby own_d14_175) rfl ?_
    refine own_ifY X14 hx 187 (hb hby own_d14_176) ((if0 _ _).trans (teq (by decide : (((4 : Int32) - (0 : Int32)) &&& (3 : Int32)) = (0 : Int32))).1) (by decide) (by decide) ?_
    refine own_ic X14 hx (3 : Int32) 188 (hb hby own_d14_187) rfl rfl ?_
    refine own_il X14 hx 190 (hb hby own_d14_188) rfl rfl ?_
    refine own_go (fun tq kq => XS.i2l X14.here hx rfl (hb hby own_d14_190) rfl kq) ?_
    show own_Rn p e below _ (T14.setTop (mkF m 191 #[.val (.ref de), .val (.ref t), .val (.int (0 : Int32)), .val (.int (4 : Int32)), .val (.ref tf), .val (.int (0 : Int32)), .val (.int ((4 : Int32) - (0 : Int32))), .unset, .unset] [(.long (((4 : Int32) - (0 : Int32)).toInt64)), (.int (3 : Int32))]))
    refine own_go (fun tq kq => X14.ldc2Long hx hown (mvT hZ (hw _ (own_mi 98 rfl))) (g := (mkF m 191 #[.val (.ref de), .val (.ref t), .val (.int (0 : Int32)), .val (.int (4 : Int32)), .val (.ref tf), .val (.int (0 : Int32)), .val (.int ((4 : Int32) - (0 : Int32))), .unset, .unset] [(.long (((4 : Int32) - (0 : Int32)).toInt64)), (.int (3 : Int32))])) rfl (hb hby own_d14_191) _ kq) ?_
    show own_Rn p e below _ (T14.setTop (mkF m 194 #[.val (.ref de), .val (.ref t), .val (.int (0 : Int32)), .val (.int (4 : Int32)), .val (.ref tf), .val (.int (0 : Int32)), .val (.int ((4 : Int32) - (0 : Int32))), .unset, .unset] [(.long (3 : Int64)), (.long (((4 : Int32) - (0 : Int32)).toInt64)), (.int (3 : Int32))]))
    refine own_go (fun tq kq => XS.ladd X14.here hx rfl (hb hby own_d14_194) rfl kq) ?_
    show own_Rn p e below _ (T14.setTop (mkF m 195 #[.val (.ref de), .val (.ref t), .val (.int (0 : Int32)), .val (.int (4 : Int32)), .val (.ref tf), .val (.int (0 : Int32)), .val (.int ((4 : Int32) - (0 : Int32))), .unset, .unset] [(.long ((((4 : Int32) - (0 : Int32)).toInt64) + (3 : Int64))), (.int (3 : Int32))]))
    refine own_go (fun tq kq => X14.ldc2Long hx hown (mvT hZ (hw _ (own_mi 99 rfl))) (g := (mkF m 195 #[.val (.ref de), .val (.ref t), .val (.int (0 : Int32)), .val (.int (4 : Int32)), .val (.ref tf), .val (.int (0 : Int32)), .val (.int ((4 : Int32) - (0 : Int32))), .unset, .unset] [(.long ((((4 : Int32) - (0 : Int32)).toInt64) + (3 : Int64))), (.int (3 : Int32))])) rfl (hb hby own_d14_195) _ kq) ?_
    show own_Rn p e below _ (T14.setTop (mkF m 198 #[.val (.ref de), .val (.ref t), .val (.int (0 : Int32)), .val (.int (4 : Int32)), .val (.ref tf), .val (.int (0 : Int32)), .val (.int ((4 : Int32) - (0 : Int32))), .unset, .unset] [(.long (4 : Int64)), (.long ((((4 : Int32) - (0 : Int32)).toInt64) + (3 : Int64))), (.int (3 : Int32))]))
    refine own_go (fun tq kq => XS.ldiv X14.here hx rfl (hb hby own_d14_198) rfl (by decide) kq) ?_
    show own_Rn p e below _ (T14.setTop (mkF m 199 #[.val (.ref de), .val (.ref t), .val (.int (0 : Int32)), .val (.int (4 : Int32)), .val (.ref tf), .val (.int (0 : Int32)), .val (.int ((4 : Int32) - (0 : Int32))), .unset, .unset] [(.long (((((4 : Int32) - (0 : Int32)).toInt64) + (3 : Int64)) / (4 : Int64))), (.int (3 : Int32))]))
    refine own_go (fun tq kq => XS.l2i X14.here hx rfl (hb hby own_d14_199) rfl kq) ?_
    show own_Rn p e below _ (T14.setTop (mkF m 200 #[.val (.ref de), .val (.ref t), .val (.int (0 : Int32)), .val (.int (4 : Int32)), .val (.ref tf), .val (.int (0 : Int32)), .val (.int ((4 : Int32) - (0 : Int32))), .unset, .unset] [(.int ((((((4 : Int32) - (0 : Int32)).toInt64) + (3 : Int64)) / (4 : Int64)).toInt32)), (.int (3 : Int32))]))
    refine own_imul X14 hx 201 (hb hby own_d14_200) rfl ?_
    refine own_il X14 hx 203 (hb hby own_d14_201) rfl rfl ?_
    refine own_isub X14 hx 204 (hb hby own_d14_203) rfl ?_
    exact own_ret X14 (v := some (.int (((3 : Int32) * ((((((4 : Int32) - (0 : Int32)).toInt64) + (3 : Int64)) / (4 : Int64)).toInt32)) - (0 : Int32)))) (fun h => by rw [Bd.returns] at h; cases h) (fun fs hr => retI X14 hx Bd.returns (hb hby own_d14_204) hr) (by rw [e14]; exact ⟨congrArg (fun z => some (Value.int z)) ((by decide : (((3 : Int32) * ((((((4 : Int32) - (0 : Int32)).toInt64) + (3 : Int64)) / (4 : Int64)).toInt32)) - (0 : Int32)) = (3 : Int32))), N0, rfl⟩) (by decide) (by decide)
  · skip
    have hq0 : q0 < 256 := hB q0 (by simp)
    have hq1 : q1 < 256 := hB q1 (by simp)
    have hq2 : q2 < 256 := hB q2 (by simp)
    have hq3 : q3 < 256 := hB q3 (by simp)
    have V15 : Arv Z h0 t kt .byte (6 : Int32) [(.int (own_cb (q0 / 4))), (.int (own_cb (q0 % 4 * 16 + q1 / 16))), (.int (own_cb (q1 % 16 * 4 + q2 / 64))), (.int (own_cb (q2 % 64))), (.int (own_cb (q3 / 4))), (.int (own_cb (q3 % 4 * 16 + 0 / 16)))] (.int 0) := Pm3
    show own_Rn p e below _ (T4.setTop (mkF m 18 #[.val (.ref de), .val (.ref t), .val (.int (0 : Int32)), .val (.int (6 : Int32)), .val (.ref tf), .unset, .unset, .unset, .unset] []))
    refine own_ic X4 hx (0 : Int32) 19 (hb hby own_d14_18) rfl rfl ?_
    refine own_is X4 hx #[.val (.ref de), .val (.ref t), .val (.int (0 : Int32)), .val (.int (6 : Int32)), .val (.ref tf), .val (.int (0 : Int32)), .unset, .unset, .unset] 21 (hb hby own_d14_19) rfl rfl ?_
    refine own_iln X4 hx 22 (hb hby own_d14_21) rfl rfl ?_
    refine own_iln X4 hx 23 (hb hby own_d14_22) rfl rfl ?_
    refine own_isub X4 hx 24 (hb hby own_d14_23) rfl ?_
    refine own_is X4 hx #[.val (.ref de), .val (.ref t), .val (.int (0 : Int32)), .val (.int (6 : Int32)), .val (.ref tf), .val (.int (0 : Int32)), .val (.int ((6 : Int32) - (0 : Int32))), .unset, .unset] 26 (hb hby own_d14_24) rfl rfl ?_
    refine own_il X4 hx 28 (hb hby own_d14_26) rfl rfl ?_
    refine own_ifY X4 hx 33 (hb hby own_d14_28) ((if0 _ _).trans (feq (by decide : ¬ (((6 : Int32) - (0 : Int32)) = (0 : Int32)))).2) (by decide) (by decide) ?_
    refine own_il X4 hx 35 (hb hby own_d14_33) rfl rfl ?_
    refine own_ic X4 hx (2 : Int32) 36 (hb hby own_d14_35) rfl rfl ?_
    refine own_icY X4 hx 66 (hb hby own_d14_36) (flt (by decide : ¬ (((6 : Int32) - (0 : Int32)) < (2 : Int32)))).2.1 (by decide) (by decide) ?_
    refine own_aln X4 hx 67 (hb hby own_d14_66) rfl rfl rfl ?_
    have F16 : Fld Z h0 de "java/util/Base64$Decoder" "isMIME" "Z" (.int (0 : Int32)) := ZD2.ext X00.2
    refine own_gF X4 hx hZ hown (host := "") (Or.inl (hw _ (own_mi 96 rfl))) Via.refl e4 F16 70 (hb hby own_d14_67) rfl ?_
    intro T17 X17 e17
    refine own_ifY X17 hx 141 (hb hby own_d14_70) ((if0 _ _).trans (teq ((by decide : (0 : Int32) = (0 : Int32)) : (0 : Int32) = (0 : Int32))).1) (by decide) (by decide) ?_
    refine own_aln X17 hx 142 (hb hby own_d14_141) rfl rfl rfl ?_
    refine own_iln X17 hx 143 (hb hby own_d14_142) rfl rfl ?_
    refine own_ic X17 hx (1 : Int32) 144 (hb hby own_d14_143) rfl rfl ?_
    refine own_isub X17 hx 145 (hb hby own_d14_144) rfl ?_
    rw [show ((6 : Int32) - (1 : Int32)) = (5 : Int32) from by decide]
    refine own_bal X17 hx hZ e17 V15 (own_cb (q3 % 4 * 16 + 0 / 16)) 146 (hb hby own_d14_145) rfl ⟨by decide, by decide⟩ rfl ?_
    refine own_bp X17 hx (61 : Int32) 148 (hb hby own_d14_146) rfl rfl ?_
    refine own_icY X17 hx 167 (hb hby own_d14_148) (feq (own_cb61 _ (by omega) : ¬ ((own_cb (q3 % 4 * 16 + 0 / 16)) = (61 : Int32)))).2 (by decide) (by decide) ?_
    refine own_il X17 hx 169 (hb hby own_d14_167) rfl rfl ?_
    refine own_ifN X17 hx 172 (hb hby own_d14_169) rfl ((if0 _ _).trans (teq ((by decide : (0 : Int32) = (0 : Int32)) : (0 : Int32) = (0 : Int32))).2) ?_
    refine own_il X17 hx 174 (hb hby own_d14_172) rfl rfl ?_
    refine own_ic X17 hx (3 : Int32) 175 (hb hby own_d14_174) rfl rfl ?_
    refine own_iand X17 hx 176 (hb hby own_d14_175) rfl ?_
    refine own_ifN X17 hx 179 (hb hby own_d14_176) rfl ((if0 _ _).trans (feq (by decide : ¬ ((((6 : Int32) - (0 : Int32)) &&& (3 : Int32)) = (0 : Int32)))).1) ?_
    refine own_ic X17 hx (4 : Int32) 180 (hb hby own_d14_179) rfl rfl ?_
    refine own_il X17 hx 182 (hb hby own_d14_180) rfl rfl ?_
    refine own_ic X17 hx (3 : Int32) 183 (hb hby own_d14_182) rfl rfl ?_
    refine own_iand X17 hx 184 (hb hby own_d14_183) rfl ?_
    refine own_isub X17 hx 185 (hb hby own_d14_184) rfl ?_
    refine own_is X17 hx #[.val (.ref de), .val (.ref t), .val (.int (0 : Int32)), .val (.int (6 : Int32)), .val (.ref tf), .val (.int ((4 : Int32) - (((6 : Int32) - (0 : Int32)) &&& (3 : Int32)))), .val (.int ((6 : Int32) - (0 : Int32))), .unset, .unset] 187 (hb hby own_d14_185) rfl rfl ?_
    refine own_ic X17 hx (3 : Int32) 188 (hb hby own_d14_187) rfl rfl ?_
    refine own_il X17 hx 190 (hb hby own_d14_188) rfl rfl ?_
    refine own_go (fun tq kq => XS.i2l X17.here hx rfl (hb hby own_d14_190) rfl kq) ?_
    show own_Rn p e below _ (T17.setTop (mkF m 191 #[.val (.ref de), .val (.ref t), .val (.int (0 : Int32)), .val (.int (6 : Int32)), .val (.ref tf), .val (.int ((4 : Int32) - (((6 : Int32) - (0 : Int32)) &&& (3 : Int32)))), .val (.int ((6 : Int32) - (0 : Int32))), .unset, .unset] [(.long (((6 : Int32) - (0 : Int32)).toInt64)), (.int (3 : Int32))]))
    refine own_go (fun tq kq => X17.ldc2Long hx hown (mvT hZ (hw _ (own_mi 98 rfl))) (g := (mkF m 191 #[.val (.ref de), .val (.ref t), .val (.int (0 : Int32)), .val (.int (6 : Int32)), .val (.ref tf), .val (.int ((4 : Int32) - (((6 : Int32) - (0 : Int32)) &&& (3 : Int32)))), .val (.int ((6 : Int32) - (0 : Int32))), .unset, .unset] [(.long (((6 : Int32) - (0 : Int32)).toInt64)), (.int (3 : Int32))])) rfl (hb hby own_d14_191) _ kq) ?_
    show own_Rn p e below _ (T17.setTop (mkF m 194 #[.val (.ref de), .val (.ref t), .val (.int (0 : Int32)), .val (.int (6 : Int32)), .val (.ref tf), .val (.int ((4 : Int32) - (((6 : Int32) - (0 : Int32)) &&& (3 : Int32)))), .val (.int ((6 : Int32) - (0 : Int32))), .unset, .unset] [(.long (3 : Int64)), (.long (((6 : Int32) - (0 : Int32)).toInt64)), (.int (3 : Int32))]))
    refine own_go (fun tq kq => XS.ladd X17.here hx rfl (hb hby own_d14_194) rfl kq) ?_
    show own_Rn p e below _ (T17.setTop (mkF m 195 #[.val (.ref de), .val (.ref t), .val (.int (0 : Int32)), .val (.int (6 : Int32)), .val (.ref tf), .val (.int ((4 : Int32) - (((6 : Int32) - (0 : Int32)) &&& (3 : Int32)))), .val (.int ((6 : Int32) - (0 : Int32))), .unset, .unset] [(.long ((((6 : Int32) - (0 : Int32)).toInt64) + (3 : Int64))), (.int (3 : Int32))]))
    refine own_go (fun tq kq => X17.ldc2Long hx hown (mvT hZ (hw _ (own_mi 99 rfl))) (g := (mkF m 195 #[.val (.ref de), .val (.ref t), .val (.int (0 : Int32)), .val (.int (6 : Int32)), .val (.ref tf), .val (.int ((4 : Int32) - (((6 : Int32) - (0 : Int32)) &&& (3 : Int32)))), .val (.int ((6 : Int32) - (0 : Int32))), .unset, .unset] [(.long ((((6 : Int32) - (0 : Int32)).toInt64) + (3 : Int64))), (.int (3 : Int32))])) rfl (hb hby own_d14_195) _ kq) ?_
    show own_Rn p e below _ (T17.setTop (mkF m 198 #[.val (.ref de), .val (.ref t), .val (.int (0 : Int32)), .val (.int (6 : Int32)), .val (.ref tf), .val (.int ((4 : Int32) - (((6 : Int32) - (0 : Int32)) &&& (3 : Int32)))), .val (.int ((6 : Int32) - (0 : Int32))), .unset, .unset] [(.long (4 : Int64)), (.long ((((6 : Int32) - (0 : Int32)).toInt64) + (3 : Int64))), (.int (3 : Int32))]))
    refine own_go (fun tq kq => XS.ldiv X17.here hx rfl (hb hby own_d14_198) rfl (by decide) kq) ?_
    show own_Rn p e below _ (T17.setTop (mkF m 199 #[.val (.ref de), .val (.ref t), .val (.int (0 : Int32)), .val (.int (6 : Int32)), .val (.ref tf), .val (.int ((4 : Int32) - (((6 : Int32) - (0 : Int32)) &&& (3 : Int32)))), .val (.int ((6 : Int32) - (0 : Int32))), .unset, .unset] [(.long (((((6 : Int32) - (0 : Int32)).toInt64) + (3 : Int64)) / (4 : Int64))), (.int (3 : Int32))]))
    refine own_go (fun tq kq => XS.l2i X17.here hx rfl (hb hby own_d14_199) rfl kq) ?_
    show own_Rn p e below _ (T17.setTop (mkF m 200 #[.val (.ref de), .val (.ref t), .val (.int (0 : Int32)), .val (.int (6 : Int32)), .val (.ref tf), .val (.int ((4 : Int32) - (((6 : Int32) - (0 : Int32)) &&& (3 : Int32)))), .val (.int ((6 : Int32) - (0 : Int32))), .unset, .unset] [(.int ((((((6 : Int32) - (0 : Int32)).toInt64) + (3 : Int64)) / (4 : Int64)).toInt32)), (.int (3 : Int32))]))
    refine own_imul X17 hx 201 (hb hby own_d14_200) rfl ?_
    refine own_il X17 hx 203 (hb hby own_d14_201) rfl rfl ?_
    refine own_isub X17 hx 204 (hb hby own_d14_203) rfl ?_
    exact own_ret X17 (v := some (.int (((3 : Int32) * ((((((6 : Int32) - (0 : Int32)).toInt64) + (3 : Int64)) / (4 : Int64)).toInt32)) - ((4 : Int32) - (((6 : Int32) - (0 : Int32)) &&& (3 : Int32)))))) (fun h => by rw [Bd.returns] at h; cases h) (fun fs hr => retI X17 hx Bd.returns (hb hby own_d14_204) hr) (by rw [e17]; exact ⟨congrArg (fun z => some (Value.int z)) ((by decide : (((3 : Int32) * ((((((6 : Int32) - (0 : Int32)).toInt64) + (3 : Int64)) / (4 : Int64)).toInt32)) - ((4 : Int32) - (((6 : Int32) - (0 : Int32)) &&& (3 : Int32)))) = (4 : Int32))), N0, rfl⟩) (by decide) (by decide)
  · skip
    have hq0 : q0 < 256 := hB q0 (by simp)
    have hq1 : q1 < 256 := hB q1 (by simp)
    have hq2 : q2 < 256 := hB q2 (by simp)
    have hq3 : q3 < 256 := hB q3 (by simp)
    have hq4 : q4 < 256 := hB q4 (by simp)
    have V18 : Arv Z h0 t kt .byte (7 : Int32) [(.int (own_cb (q0 / 4))), (.int (own_cb (q0 % 4 * 16 + q1 / 16))), (.int (own_cb (q1 % 16 * 4 + q2 / 64))), (.int (own_cb (q2 % 64))), (.int (own_cb (q3 / 4))), (.int (own_cb (q3 % 4 * 16 + q4 / 16))), (.int (own_cb (q4 % 16 * 4 + 0 / 64)))] (.int 0) := Pm3
    show own_Rn p e below _ (T4.setTop (mkF m 18 #[.val (.ref de), .val (.ref t), .val (.int (0 : Int32)), .val (.int (7 : Int32)), .val (.ref tf), .unset, .unset, .unset, .unset] []))
    refine own_ic X4 hx (0 : Int32) 19 (hb hby own_d14_18) rfl rfl ?_
    refine own_is X4 hx #[.val (.ref de), .val (.ref t), .val (.int (0 : Int32)), .val (.int (7 : Int32)), .val (.ref tf), .val (.int (0 : Int32)), .unset, .unset, .unset] 21 (hb hby own_d14_19) rfl rfl ?_
    refine own_iln X4 hx 22 (hb hby own_d14_21) rfl rfl ?_
    refine own_iln X4 hx 23 (hb hby own_d14_22) rfl rfl ?_
    refine own_isub X4 hx 24 (hb hby own_d14_23) rfl ?_
    refine own_is X4 hx #[.val (.ref de), .val (.ref t), .val (.int (0 : Int32)), .val (.int (7 : Int32)), .val (.ref tf), .val (.int (0 : Int32)), .val (.int ((7 : Int32) - (0 : Int32))), .unset, .unset] 26 (hb hby own_d14_24) rfl rfl ?_
    refine own_il X4 hx 28 (hb hby own_d14_26) rfl rfl ?_
    refine own_ifY X4 hx 33 (hb hby own_d14_28) ((if0 _ _).trans (feq (by decide : ¬ (((7 : Int32) - (0 : Int32)) = (0 : Int32)))).2) (by decide) (by decide) ?_
    refine own_il X4 hx 35 (hb hby own_d14_33) rfl rfl ?_
    refine own_ic X4 hx (2 : Int32) 36 (hb hby own_d14_35) rfl rfl ?_
    refine own_icY X4 hx 66 (hb hby own_d14_36) (flt (by decide : ¬ (((7 : Int32) - (0 : Int32)) < (2 : Int32)))).2.1 (by decide) (by decide) ?_
    refine own_aln X4 hx 67 (hb hby own_d14_66) rfl rfl rfl ?_
    have F19 : Fld Z h0 de "java/util/Base64$Decoder" "isMIME" "Z" (.int (0 : Int32)) := ZD2.ext X00.2
    refine own_gF X4 hx hZ hown (host := "") (Or.inl (hw _ (own_mi 96 rfl))) Via.refl e4 F19 70 (hb hby own_d14_67) rfl ?_
    intro T20 X20 e20
    refine own_ifY X20 hx 141 (hb hby own_d14_70) ((if0 _ _).trans (teq ((by decide : (0 : Int32) = (0 : Int32)) : (0 : Int32) = (0 : Int32))).1) (by decide) (by decide) ?_
    refine own_aln X20 hx 142 (hb hby own_d14_141) rfl rfl rfl ?_
    refine own_iln X20 hx 143 (hb hby own_d14_142) rfl rfl ?_
    refine own_ic X20 hx (1 : Int32) 144 (hb hby own_d14_143) rfl rfl ?_
    refine own_isub X20 hx 145 (hb hby own_d14_144) rfl ?_
    rw [show ((7 : Int32) - (1 : Int32)) = (6 : Int32) from by decide]
    refine own_bal X20 hx hZ e20 V18 (own_cb (q4 % 16 * 4 + 0 / 64)) 146 (hb hby own_d14_145) rfl ⟨by decide, by decide⟩ rfl ?_
    refine own_bp X20 hx (61 : Int32) 148 (hb hby own_d14_146) rfl rfl ?_
    refine own_icY X20 hx 167 (hb hby own_d14_148) (feq (own_cb61 _ (by omega) : ¬ ((own_cb (q4 % 16 * 4 + 0 / 64)) = (61 : Int32)))).2 (by decide) (by decide) ?_
    refine own_il X20 hx 169 (hb hby own_d14_167) rfl rfl ?_
    refine own_ifN X20 hx 172 (hb hby own_d14_169) rfl ((if0 _ _).trans (teq ((by decide : (0 : Int32) = (0 : Int32)) : (0 : Int32) = (0 : Int32))).2) ?_
    refine own_il X20 hx 174 (hb hby own_d14_172) rfl rfl ?_
    refine own_ic X20 hx (3 : Int32) 175 (hb hby own_d14_174) rfl rfl ?_
    refine own_iand X20 hx 176 (hb hby own_d14_175) rfl ?_
    refine own_ifN X20 hx 179 (hb hby own_d14_176) rfl ((if0 _ _).trans (feq (by decide : ¬ ((((7 : Int32) - (0 : Int32)) &&& (3 : Int32)) = (0 : Int32)))).1) ?_
    refine own_ic X20 hx (4 : Int32) 180 (hb hby own_d14_179) rfl rfl ?_
    refine own_il X20 hx 182 (hb hby own_d14_180) rfl rfl ?_
    refine own_ic X20 hx (3 : Int32) 183 (hb hby own_d14_182) rfl rfl ?_
    refine own_iand X20 hx 184 (hb hby own_d14_183) rfl ?_
    refine own_isub X20 hx 185 (hb hby own_d14_184) rfl ?_
    refine own_is X20 hx #[.val (.ref de), .val (.ref t), .val (.int (0 : Int32)), .val (.int (7 : Int32)), .val (.ref tf), .val (.int ((4 : Int32) - (((7 : Int32) - (0 : Int32)) &&& (3 : Int32)))), .val (.int ((7 : Int32) - (0 : Int32))), .unset, .unset] 187 (hb hby own_d14_185) rfl rfl ?_
    refine own_ic X20 hx (3 : Int32) 188 (hb hby own_d14_187) rfl rfl ?_
    refine own_il X20 hx 190 (hb hby own_d14_188) rfl rfl ?_
    refine own_go (fun tq kq => XS.i2l X20.here hx rfl (hb hby own_d14_190) rfl kq) ?_
    show own_Rn p e below _ (T20.setTop (mkF m 191 #[.val (.ref de), .val (.ref t), .val (.int (0 : Int32)), .val (.int (7 : Int32)), .val (.ref tf), .val (.int ((4 : Int32) - (((7 : Int32) - (0 : Int32)) &&& (3 : Int32)))), .val (.int ((7 : Int32) - (0 : Int32))), .unset, .unset] [(.long (((7 : Int32) - (0 : Int32)).toInt64)), (.int (3 : Int32))]))
    refine own_go (fun tq kq => X20.ldc2Long hx hown (mvT hZ (hw _ (own_mi 98 rfl))) (g := (mkF m 191 #[.val (.ref de), .val (.ref t), .val (.int (0 : Int32)), .val (.int (7 : Int32)), .val (.ref tf), .val (.int ((4 : Int32) - (((7 : Int32) - (0 : Int32)) &&& (3 : Int32)))), .val (.int ((7 : Int32) - (0 : Int32))), .unset, .unset] [(.long (((7 : Int32) - (0 : Int32)).toInt64)), (.int (3 : Int32))])) rfl (hb hby own_d14_191) _ kq) ?_
    show own_Rn p e below _ (T20.setTop (mkF m 194 #[.val (.ref de), .val (.ref t), .val (.int (0 : Int32)), .val (.int (7 : Int32)), .val (.ref tf), .val (.int ((4 : Int32) - (((7 : Int32) - (0 : Int32)) &&& (3 : Int32)))), .val (.int ((7 : Int32) - (0 : Int32))), .unset, .unset] [(.long (3 : Int64)), (.long (((7 : Int32) - (0 : Int32)).toInt64)), (.int (3 : Int32))]))
    refine own_go (fun tq kq => XS.ladd X20.here hx rfl (hb hby own_d14_194) rfl kq) ?_
    show own_Rn p e below _ (T20.setTop (mkF m 195 #[.val (.ref de), .val (.ref t), .val (.int (0 : Int32)), .val (.int (7 : Int32)), .val (.ref tf), .val (.int ((4 : Int32) - (((7 : Int32) - (0 : Int32)) &&& (3 : Int32)))), .val (.int ((7 : Int32) - (0 : Int32))), .unset, .unset] [(.long ((((7 : Int32) - (0 : Int32)).toInt64) + (3 : Int64))), (.int (3 : Int32))]))
    refine own_go (fun tq kq => X20.ldc2Long hx hown (mvT hZ (hw _ (own_mi 99 rfl))) (g := (mkF m 195 #[.val (.ref de), .val (.ref t), .val (.int (0 : Int32)), .val (.int (7 : Int32)), .val (.ref tf), .val (.int ((4 : Int32) - (((7 : Int32) - (0 : Int32)) &&& (3 : Int32)))), .val (.int ((7 : Int32) - (0 : Int32))), .unset, .unset] [(.long ((((7 : Int32) - (0 : Int32)).toInt64) + (3 : Int64))), (.int (3 : Int32))])) rfl (hb hby own_d14_195) _ kq) ?_
    show own_Rn p e below _ (T20.setTop (mkF m 198 #[.val (.ref de), .val (.ref t), .val (.int (0 : Int32)), .val (.int (7 : Int32)), .val (.ref tf), .val (.int ((4 : Int32) - (((7 : Int32) - (0 : Int32)) &&& (3 : Int32)))), .val (.int ((7 : Int32) - (0 : Int32))), .unset, .unset] [(.long (4 : Int64)), (.long ((((7 : Int32) - (0 : Int32)).toInt64) + (3 : Int64))), (.int (3 : Int32))]))
    refine own_go (fun tq kq => XS.ldiv X20.here hx rfl (hb hby own_d14_198) rfl (by decide) kq) ?_
    show own_Rn p e below _ (T20.setTop (mkF m 199 #[.val (.ref de), .val (.ref t), .val (.int (0 : Int32)), .val (.int (7 : Int32)), .val (.ref tf), .val (.int ((4 : Int32) - (((7 : Int32) - (0 : Int32)) &&& (3 : Int32)))), .val (.int ((7 : Int32) - (0 : Int32))), .unset, .unset] [(.long (((((7 : Int32) - (0 : Int32)).toInt64) + (3 : Int64)) / (4 : Int64))), (.int (3 : Int32))]))
    refine own_go (fun tq kq => XS.l2i X20.here hx rfl (hb hby own_d14_199) rfl kq) ?_
    show own_Rn p e below _ (T20.setTop (mkF m 200 #[.val (.ref de), .val (.ref t), .val (.int (0 : Int32)), .val (.int (7 : Int32)), .val (.ref tf), .val (.int ((4 : Int32) - (((7 : Int32) - (0 : Int32)) &&& (3 : Int32)))), .val (.int ((7 : Int32) - (0 : Int32))), .unset, .unset] [(.int ((((((7 : Int32) - (0 : Int32)).toInt64) + (3 : Int64)) / (4 : Int64)).toInt32)), (.int (3 : Int32))]))
    refine own_imul X20 hx 201 (hb hby own_d14_200) rfl ?_
    refine own_il X20 hx 203 (hb hby own_d14_201) rfl rfl ?_
    refine own_isub X20 hx 204 (hb hby own_d14_203) rfl ?_
    exact own_ret X20 (v := some (.int (((3 : Int32) * ((((((7 : Int32) - (0 : Int32)).toInt64) + (3 : Int64)) / (4 : Int64)).toInt32)) - ((4 : Int32) - (((7 : Int32) - (0 : Int32)) &&& (3 : Int32)))))) (fun h => by rw [Bd.returns] at h; cases h) (fun fs hr => retI X20 hx Bd.returns (hb hby own_d14_204) hr) (by rw [e20]; exact ⟨congrArg (fun z => some (Value.int z)) ((by decide : (((3 : Int32) * ((((((7 : Int32) - (0 : Int32)).toInt64) + (3 : Int64)) / (4 : Int64)).toInt32)) - ((4 : Int32) - (((7 : Int32) - (0 : Int32)) &&& (3 : Int32)))) = (5 : Int32))), N0, rfl⟩) (by decide) (by decide)
  · exact absurd hL (by simp only [List.length_cons]; omega)
theorem own_ef_rmDB (m : MethodId) (de : Addr) (t : Addr) (kt : ClassId) (N : Int32) (rest : List Value) (q0 : Nat) (q1 : Nat) (q2 : Nat) (dd : Addr) (kd : ClassId) (M : Int32) (tf : Addr) (kf : ClassId) : entryFrame m #[(.ref de), (.ref t), (.int (0 : Int32)), (.int N), (.ref dd), (.int (0 : Int32)), (.int (1 : Int32)), (.int (0 : Int32))] 16 = mkF m 0 #[.val (.ref de), .val (.ref t), .val (.int (0 : Int32)), .val (.int N), .val (.ref dd), .val (.int (0 : Int32)), .val (.int (1 : Int32)), .val (.int (0 : Int32)), .unset, .unset, .unset, .unset, .unset, .unset, .unset, .unset] [] := by first | (simp [entryFrame, mkF, argsToLocals, Value.category]; done) | rfl
theorem own_d29_0 : decode jdk_2450_method_8_code 0 = .ok (.iload 6, 2) := by decide +kernel
theorem own_d29_2 : decode jdk_2450_method_8_code 2 = .ok (.ifCond .eq 9, 3) := by decide +kernel
theorem own_d29_5 : decode jdk_2450_method_8_code 5 = .ok (.getstatic 95, 3) := by decide +kernel
theorem own_d29_8 : decode jdk_2450_method_8_code 8 = .ok (.goto 6, 3) := by decide +kernel
theorem own_d29_14 : decode jdk_2450_method_8_code 14 = .ok (.astore 8, 2) := by decide +kernel
theorem own_d29_16 : decode jdk_2450_method_8_code 16 = .ok (.iload_n 2, 1) := by decide +kernel
theorem own_d29_17 : decode jdk_2450_method_8_code 17 = .ok (.iload_n 3, 1) := by decide +kernel
theorem own_d29_18 : decode jdk_2450_method_8_code 18 = .ok (.iload_n 2, 1) := by decide +kernel
theorem own_d29_19 : decode jdk_2450_method_8_code 19 = .ok (.isub, 1) := by decide +kernel
theorem own_d29_20 : decode jdk_2450_method_8_code 20 = .ok (.bipush (-4), 2) := by decide +kernel
theorem own_d29_22 : decode jdk_2450_method_8_code 22 = .ok (.iand, 1) := by decide +kernel
theorem own_d29_23 : decode jdk_2450_method_8_code 23 = .ok (.iadd, 1) := by decide +kernel
theorem own_d29_24 : decode jdk_2450_method_8_code 24 = .ok (.istore 9, 2) := by decide +kernel
theorem own_d29_26 : decode jdk_2450_method_8_code 26 = .ok (.iload 5, 2) := by decide +kernel
theorem own_d29_28 : decode jdk_2450_method_8_code 28 = .ok (.istore 10, 2) := by decide +kernel
theorem own_d29_30 : decode jdk_2450_method_8_code 30 = .ok (.iload_n 2, 1) := by decide +kernel
theorem own_d29_31 : decode jdk_2450_method_8_code 31 = .ok (.iload 9, 2) := by decide +kernel
theorem own_d29_33 : decode jdk_2450_method_8_code 33 = .ok (.if_icmp .ge 147, 3) := by decide +kernel
theorem own_d29_36 : decode jdk_2450_method_8_code 36 = .ok (.aload 8, 2) := by decide +kernel
theorem own_d29_38 : decode jdk_2450_method_8_code 38 = .ok (.aload_n 1, 1) := by decide +kernel
theorem own_d29_39 : decode jdk_2450_method_8_code 39 = .ok (.iload_n 2, 1) := by decide +kernel
theorem own_d29_40 : decode jdk_2450_method_8_code 40 = .ok (.iinc 2 1, 3) := by decide +kernel
theorem own_d29_43 : decode jdk_2450_method_8_code 43 = .ok (.baload, 1) := by decide +kernel
theorem own_d29_44 : decode jdk_2450_method_8_code 44 = .ok (.sipush 255, 3) := by decide +kernel
theorem own_d29_47 : decode jdk_2450_method_8_code 47 = .ok (.iand, 1) := by decide +kernel
theorem own_d29_48 : decode jdk_2450_method_8_code 48 = .ok (.iaload, 1) := by decide +kernel
theorem own_d29_49 : decode jdk_2450_method_8_code 49 = .ok (.istore 11, 2) := by decide +kernel
theorem own_d29_51 : decode jdk_2450_method_8_code 51 = .ok (.aload 8, 2) := by decide +kernel
theorem own_d29_53 : decode jdk_2450_method_8_code 53 = .ok (.aload_n 1, 1) := by decide +kernel
theorem own_d29_54 : decode jdk_2450_method_8_code 54 = .ok (.iload_n 2, 1) := by decide +kernel
theorem own_d29_55 : decode jdk_2450_method_8_code 55 = .ok (.iinc 2 1, 3) := by decide +kernel
theorem own_d29_58 : decode jdk_2450_method_8_code 58 = .ok (.baload, 1) := by decide +kernel
theorem own_d29_59 : decode jdk_2450_method_8_code 59 = .ok (.sipush 255, 3) := by decide +kernel
theorem own_d29_62 : decode jdk_2450_method_8_code 62 = .ok (.iand, 1) := by decide +kernel
theorem own_d29_63 : decode jdk_2450_method_8_code 63 = .ok (.iaload, 1) := by decide +kernel
theorem own_d29_64 : decode jdk_2450_method_8_code 64 = .ok (.istore 12, 2) := by decide +kernel
theorem own_d29_66 : decode jdk_2450_method_8_code 66 = .ok (.aload 8, 2) := by decide +kernel
theorem own_d29_68 : decode jdk_2450_method_8_code 68 = .ok (.aload_n 1, 1) := by decide +kernel
theorem own_d29_69 : decode jdk_2450_method_8_code 69 = .ok (.iload_n 2, 1) := by decide +kernel
theorem own_d29_70 : decode jdk_2450_method_8_code 70 = .ok (.iinc 2 1, 3) := by decide +kernel
theorem own_d29_73 : decode jdk_2450_method_8_code 73 = .ok (.baload, 1) := by decide +kernel
theorem own_d29_74 : decode jdk_2450_method_8_code 74 = .ok (.sipush 255, 3) := by decide +kernel
theorem own_d29_77 : decode jdk_2450_method_8_code 77 = .ok (.iand, 1) := by decide +kernel
theorem own_d29_78 : decode jdk_2450_method_8_code 78 = .ok (.iaload, 1) := by decide +kernel
theorem own_d29_79 : decode jdk_2450_method_8_code 79 = .ok (.istore 13, 2) := by decide +kernel
theorem own_d29_81 : decode jdk_2450_method_8_code 81 = .ok (.aload 8, 2) := by decide +kernel
theorem own_d29_83 : decode jdk_2450_method_8_code 83 = .ok (.aload_n 1, 1) := by decide +kernel
theorem own_d29_84 : decode jdk_2450_method_8_code 84 = .ok (.iload_n 2, 1) := by decide +kernel
theorem own_d29_85 : decode jdk_2450_method_8_code 85 = .ok (.iinc 2 1, 3) := by decide +kernel
theorem own_d29_88 : decode jdk_2450_method_8_code 88 = .ok (.baload, 1) := by decide +kernel
theorem own_d29_89 : decode jdk_2450_method_8_code 89 = .ok (.sipush 255, 3) := by decide +kernel
theorem own_d29_92 : decode jdk_2450_method_8_code 92 = .ok (.iand, 1) := by decide +kernel
theorem own_d29_93 : decode jdk_2450_method_8_code 93 = .ok (.iaload, 1) := by decide +kernel
theorem own_d29_94 : decode jdk_2450_method_8_code 94 = .ok (.istore 14, 2) := by decide +kernel
theorem own_d29_96 : decode jdk_2450_method_8_code 96 = .ok (.iload 11, 2) := by decide +kernel
theorem own_d29_98 : decode jdk_2450_method_8_code 98 = .ok (.iload 12, 2) := by decide +kernel
theorem own_d29_100 : decode jdk_2450_method_8_code 100 = .ok (.ior, 1) := by decide +kernel
theorem own_d29_101 : decode jdk_2450_method_8_code 101 = .ok (.iload 13, 2) := by decide +kernel
theorem own_d29_103 : decode jdk_2450_method_8_code 103 = .ok (.ior, 1) := by decide +kernel
theorem own_d29_104 : decode jdk_2450_method_8_code 104 = .ok (.iload 14, 2) := by decide +kernel
theorem own_d29_106 : decode jdk_2450_method_8_code 106 = .ok (.ior, 1) := by decide +kernel
theorem own_d29_107 : decode jdk_2450_method_8_code 107 = .ok (.ifCond .ge 9, 3) := by decide +kernel
theorem own_d29_116 : decode jdk_2450_method_8_code 116 = .ok (.iload 11, 2) := by decide +kernel
theorem own_d29_118 : decode jdk_2450_method_8_code 118 = .ok (.bipush 18, 2) := by decide +kernel
theorem own_d29_120 : decode jdk_2450_method_8_code 120 = .ok (.ishl, 1) := by decide +kernel
theorem own_d29_121 : decode jdk_2450_method_8_code 121 = .ok (.iload 12, 2) := by decide +kernel
theorem own_d29_123 : decode jdk_2450_method_8_code 123 = .ok (.bipush 12, 2) := by decide +kernel
theorem own_d29_125 : decode jdk_2450_method_8_code 125 = .ok (.ishl, 1) := by decide +kernel
theorem own_d29_126 : decode jdk_2450_method_8_code 126 = .ok (.ior, 1) := by decide +kernel
theorem own_d29_127 : decode jdk_2450_method_8_code 127 = .ok (.iload 13, 2) := by decide +kernel
theorem own_d29_129 : decode jdk_2450_method_8_code 129 = .ok (.bipush 6, 2) := by decide +kernel
theorem own_d29_131 : decode jdk_2450_method_8_code 131 = .ok (.ishl, 1) := by decide +kernel
theorem own_d29_132 : decode jdk_2450_method_8_code 132 = .ok (.ior, 1) := by decide +kernel
theorem own_d29_133 : decode jdk_2450_method_8_code 133 = .ok (.iload 14, 2) := by decide +kernel
theorem own_d29_135 : decode jdk_2450_method_8_code 135 = .ok (.ior, 1) := by decide +kernel
theorem own_d29_136 : decode jdk_2450_method_8_code 136 = .ok (.istore 15, 2) := by decide +kernel
theorem own_d29_138 : decode jdk_2450_method_8_code 138 = .ok (.aload 4, 2) := by decide +kernel
theorem own_d29_140 : decode jdk_2450_method_8_code 140 = .ok (.iload 10, 2) := by decide +kernel
theorem own_d29_142 : decode jdk_2450_method_8_code 142 = .ok (.iinc 10 1, 3) := by decide +kernel
theorem own_d29_145 : decode jdk_2450_method_8_code 145 = .ok (.iload 15, 2) := by decide +kernel
theorem own_d29_147 : decode jdk_2450_method_8_code 147 = .ok (.bipush 16, 2) := by decide +kernel
theorem own_d29_149 : decode jdk_2450_method_8_code 149 = .ok (.ishr, 1) := by decide +kernel
theorem own_d29_150 : decode jdk_2450_method_8_code 150 = .ok (.i2b, 1) := by decide +kernel
theorem own_d29_151 : decode jdk_2450_method_8_code 151 = .ok (.bastore, 1) := by decide +kernel
theorem own_d29_152 : decode jdk_2450_method_8_code 152 = .ok (.aload 4, 2) := by decide +kernel
theorem own_d29_154 : decode jdk_2450_method_8_code 154 = .ok (.iload 10, 2) := by decide +kernel
theorem own_d29_156 : decode jdk_2450_method_8_code 156 = .ok (.iinc 10 1, 3) := by decide +kernel
theorem own_d29_159 : decode jdk_2450_method_8_code 159 = .ok (.iload 15, 2) := by decide +kernel
theorem own_d29_161 : decode jdk_2450_method_8_code 161 = .ok (.bipush 8, 2) := by decide +kernel
theorem own_d29_163 : decode jdk_2450_method_8_code 163 = .ok (.ishr, 1) := by decide +kernel
theorem own_d29_164 : decode jdk_2450_method_8_code 164 = .ok (.i2b, 1) := by decide +kernel
theorem own_d29_165 : decode jdk_2450_method_8_code 165 = .ok (.bastore, 1) := by decide +kernel
theorem own_d29_166 : decode jdk_2450_method_8_code 166 = .ok (.aload 4, 2) := by decide +kernel
theorem own_d29_168 : decode jdk_2450_method_8_code 168 = .ok (.iload 10, 2) := by decide +kernel
theorem own_d29_170 : decode jdk_2450_method_8_code 170 = .ok (.iinc 10 1, 3) := by decide +kernel
theorem own_d29_173 : decode jdk_2450_method_8_code 173 = .ok (.iload 15, 2) := by decide +kernel
theorem own_d29_175 : decode jdk_2450_method_8_code 175 = .ok (.i2b, 1) := by decide +kernel
theorem own_d29_176 : decode jdk_2450_method_8_code 176 = .ok (.bastore, 1) := by decide +kernel
theorem own_d29_177 : decode jdk_2450_method_8_code 177 = .ok (.goto (-147), 3) := by decide +kernel
theorem own_d29_180 : decode jdk_2450_method_8_code 180 = .ok (.iload 10, 2) := by decide +kernel
theorem own_d29_182 : decode jdk_2450_method_8_code 182 = .ok (.iload 5, 2) := by decide +kernel
theorem own_d29_184 : decode jdk_2450_method_8_code 184 = .ok (.isub, 1) := by decide +kernel
theorem own_d29_185 : decode jdk_2450_method_8_code 185 = .ok (.ireturn, 1) := by decide +kernel
def Q_rmDB (Z : State) (de : Addr) (t : Addr) (kt : ClassId) (N : Int32) (rest : List Value) (q0 : Nat) (q1 : Nat) (q2 : Nat) (dd : Addr) (kd : ClassId) (M : Int32) (tf : Addr) (kf : ClassId) (h0 : Heap) (n0 : Nat) (vq : Option Value) (hhq : Heap) (Lq : List Loc) : Prop := vq = some (.int (3 : Int32)) ∧ Fr n0 Lq ∧ Keep h0 hhq [dd] ∧ Arv Z hhq dd kd .byte M [(.int (own_by q0)), (.int (own_by q1)), (.int (own_by q2))] (.int 0)
set_option maxRecDepth 65536 in
set_option maxHeartbeats 40000000 in
theorem rmDB (l : Launch) (Z : State) (a0 : Array Value) (hw : ∀ d ∈ tables_1, d.before a0 Z = true) (ws : List Jvm.Cond) (de : Addr) (t : Addr) (kt : ClassId) (N : Int32) (rest : List Value) (q0 : Nat) (q1 : Nat) (q2 : Nat) (dd : Addr) (kd : ClassId) (M : Int32) (tf : Addr) (kf : ClassId) (h0 : Heap) (n0 : Nat) (Z0 : n0 ≤ h0.size) (OF : Sta Z Z.heap "java/util/Base64$Decoder" "fromBase64URL" "[I" (.ref tf)) (ZF : Arv Z Z.heap tf kf .int (256 : Int32) (own_F.map Value.int) (.int 0)) (Pm2 : Arv Z h0 t kt .byte N (Value.int (own_cb (q0 / 4)) :: Value.int (own_cb (q0 % 4 * 16 + q1 / 16)) :: Value.int (own_cb (q1 % 16 * 4 + q2 / 64)) :: Value.int (own_cb (q2 % 64)) :: rest) (.int 0)) (hN : (N = 6 ∨ N = 7)) (hq0 : (q0 < 256)) (hq1 : (q1 < 256)) (hq2 : (q2 < 256)) (Pm7 : Arv Z h0 dd kd .byte M ([] : List Value) (.int 0)) (hM : (M = 4 ∨ M = 5)) (gdd : n0 ≤ dd) (ntd : (t ≠ dd)) (X00 : Old Z n0 h0) :
    MetFree l (⟨"java/util/Base64$Decoder", "decodeBlock", "([BII[BIZZ)I"⟩ : MethodName) (head1 (Jvm.Cond.code (⟨"java/util/Base64$Decoder", "decodeBlock", "([BII[BIZZ)I"⟩ : MethodName) jdk_2450_method_8_code 16 (some .int) :: ws) ({ frames := 0, cells := 0, slots := 0, locals := 0 } : Room)) (fun aq U => aq = #[(.ref de), (.ref t), (.int (0 : Int32)), (.int N), (.ref dd), (.int (0 : Int32)), (.int (1 : Int32)), (.int (0 : Int32))] ∧ Z.Warmed39 U.vm ∧ U.heap = h0) (fun _ _ _ _ _ => True) (fun _ U oq U' => ∃ vq Lq, oq = .returned vq ∧ Q_rmDB Z de t kt N rest q0 q1 q2 dd kd M tf kf h0 n0 vq U'.heap Lq ∧ FrameEnd U oq U' Lq ({ frames := 0, cells := 0, slots := 0, locals := 0 } : Room).cells ({ frames := 0, cells := 0, slots := 0, locals := 0 } : Room).slots) := by
  refine MetFree.of_bodySF (plainFor_of_name own_pn_java_util_Base64_Decoder) hisR ?_
  intro p e s m args below meth c s₁ Bd hml0 hP hK
  obtain ⟨rfl, hZ, hh⟩ := hP
  have hx := Bd.exec
  have hby := Bd.bytes
  have hml : c.maxLocals = 16 := hml0
  have hown : s.vm.findClass "java/util/Base64$Decoder" = some m.cls := findClass_of_methodNamed Bd.named
  have hnm := (name_of_methodNamed Bd.named Bd.method).1
  have X0 : Stand p l e ({ frames := 0, cells := 0, slots := 0, locals := 0 } : Room) s m #[(.ref de), (.ref t), (.int (0 : Int32)), (.int N), (.ref dd), (.int (0 : Int32)), (.int (1 : Int32)), (.int (0 : Int32))] below meth c s₁ [] 0 0 := Stand.of_body Bd
  have e0 : s₁.heap = h0 := by rw [← hh, Bd.state]; rfl
  have N0 := Fr.nil n0
  have K0 : Keep h0 h0 [dd] := Keep.refl _ _
  refine own_go (S' := s₁.setTop (mkF m 0 #[.val (.ref de), .val (.ref t), .val (.int (0 : Int32)), .val (.int N), .val (.ref dd), .val (.int (0 : Int32)), .val (.int (1 : Int32)), .val (.int (0 : Int32)), .unset, .unset, .unset, .unset, .unset, .unset, .unset, .unset] [])) (fun tq kq => castTop (own_ef_rmDB m de t kt N rest q0 q1 q2 dd kd M tf kf) kq) ?_
  have lt1 : @LT.lt Nat _ t h0.size := Pm2.lt
  have lt2 : @LT.lt Nat _ dd h0.size := Pm7.lt
  have iN0 : (0 : Int32) < N := by rcases hN with rfl | rfl <;> decide
  have iN1 : (1 : Int32) < N := by rcases hN with rfl | rfl <;> decide
  have iN2 : (2 : Int32) < N := by rcases hN with rfl | rfl <;> decide
  have iN3 : (3 : Int32) < N := by rcases hN with rfl | rfl <;> decide
  have iM0 : (0 : Int32) < M := by rcases hM with rfl | rfl <;> decide
  have iM1 : (1 : Int32) < M := by rcases hM with rfl | rfl <;> decide
  have iM2 : (2 : Int32) < M := by rcases hM with rfl | rfl <;> decide
  have mM : 4 ≤ M.toNatClampNeg := by rcases hM with rfl | rfl <;> decide
  refine own_il X0 hx 2 (hb hby own_d29_0) rfl rfl ?_
  refine own_ifN X0 hx 5 (hb hby own_d29_2) rfl ((if0 _ _).trans (feq ((by decide : ¬ ((1 : Int32) = (0 : Int32))) : ¬ ((1 : Int32) = (0 : Int32)))).1) ?_
  refine own_gS X0 hx hZ hown (host := "") (Or.inl (hw _ (own_mi 95 rfl))) Via.refl e0 (OF.ext X00.2) 8 (hb hby own_d29_5) rfl ?_
  intro T3 X3 e3
  refine own_gt X3 hx 14 (hb hby own_d29_8) (by decide) (by decide) ?_
  refine own_as X3 hx #[.val (.ref de), .val (.ref t), .val (.int (0 : Int32)), .val (.int N), .val (.ref dd), .val (.int (0 : Int32)), .val (.int (1 : Int32)), .val (.int (0 : Int32)), .val (.ref tf), .unset, .unset, .unset, .unset, .unset, .unset, .unset] 16 (hb hby own_d29_14) rfl rfl rfl ?_
  refine own_iln X3 hx 17 (hb hby own_d29_16) rfl rfl ?_
  refine own_iln X3 hx 18 (hb hby own_d29_17) rfl rfl ?_
  refine own_iln X3 hx 19 (hb hby own_d29_18) rfl rfl ?_
  refine own_isub X3 hx 20 (hb hby own_d29_19) rfl ?_
  refine own_bp X3 hx (-4 : Int32) 22 (hb hby own_d29_20) rfl rfl ?_
  refine own_iand X3 hx 23 (hb hby own_d29_22) rfl ?_
  refine own_iadd X3 hx 24 (hb hby own_d29_23) rfl ?_
  rw [show ((0 : Int32) + ((N - (0 : Int32)) &&& (-4 : Int32))) = (4 : Int32) from (by rcases hN with rfl | rfl <;> decide)]
  refine own_is X3 hx #[.val (.ref de), .val (.ref t), .val (.int (0 : Int32)), .val (.int N), .val (.ref dd), .val (.int (0 : Int32)), .val (.int (1 : Int32)), .val (.int (0 : Int32)), .val (.ref tf), .val (.int (4 : Int32)), .unset, .unset, .unset, .unset, .unset, .unset] 26 (hb hby own_d29_24) rfl rfl ?_
  refine own_il X3 hx 28 (hb hby own_d29_26) rfl rfl ?_
  refine own_is X3 hx #[.val (.ref de), .val (.ref t), .val (.int (0 : Int32)), .val (.int N), .val (.ref dd), .val (.int (0 : Int32)), .val (.int (1 : Int32)), .val (.int (0 : Int32)), .val (.ref tf), .val (.int (4 : Int32)), .val (.int (0 : Int32)), .unset, .unset, .unset, .unset, .unset] 30 (hb hby own_d29_28) rfl rfl ?_
  refine own_iln X3 hx 31 (hb hby own_d29_30) rfl rfl ?_
  refine own_il X3 hx 33 (hb hby own_d29_31) rfl rfl ?_
  refine own_icN X3 hx 36 (hb hby own_d29_33) rfl (tlt (by decide : (0 : Int32) < (4 : Int32))).2.1 ?_
  refine own_al X3 hx 38 (hb hby own_d29_36) rfl rfl rfl ?_
  refine own_aln X3 hx 39 (hb hby own_d29_38) rfl rfl rfl ?_
  refine own_iln X3 hx 40 (hb hby own_d29_39) rfl rfl ?_
  refine own_ii X3 hx #[.val (.ref de), .val (.ref t), .val (.int ((0 : Int32) + (1 : Int32))), .val (.int N), .val (.ref dd), .val (.int (0 : Int32)), .val (.int (1 : Int32)), .val (.int (0 : Int32)), .val (.ref tf), .val (.int (4 : Int32)), .val (.int (0 : Int32)), .unset, .unset, .unset, .unset, .unset] 43 (hb hby own_d29_40) rfl rfl rfl ?_
  rw [show ((0 : Int32) + (1 : Int32)) = (1 : Int32) from by decide]
  refine own_bal X3 hx hZ e3 Pm2 (own_cb (q0 / 4)) 44 (hb hby own_d29_43) rfl ⟨by decide, iN0⟩ rfl ?_
  refine own_sp X3 hx (255 : Int32) 47 (hb hby own_d29_44) rfl rfl ?_
  refine own_iand X3 hx 48 (hb hby own_d29_47) rfl ?_
  rw [show ((own_cb (q0 / 4)) &&& (255 : Int32)) = (Int32.ofNat (own_ct (q0 / 4))) from own_cbm _ (by omega)]
  have F4 : Arv Z h0 tf kf .int (256 : Int32) (own_F.map Value.int) (.int 0) := ZF.ext X00.2
  refine own_ial X3 hx hZ e3 F4 (Int32.ofNat (q0 / 4)) 49 (hb hby own_d29_48) rfl (own_Fin _ (by omega)) (own_Fat _ (by omega) _) ?_
  refine own_is X3 hx #[.val (.ref de), .val (.ref t), .val (.int (1 : Int32)), .val (.int N), .val (.ref dd), .val (.int (0 : Int32)), .val (.int (1 : Int32)), .val (.int (0 : Int32)), .val (.ref tf), .val (.int (4 : Int32)), .val (.int (0 : Int32)), .val (.int (Int32.ofNat (q0 / 4))), .unset, .unset, .unset, .unset] 51 (hb hby own_d29_49) rfl rfl ?_
  refine own_al X3 hx 53 (hb hby own_d29_51) rfl rfl rfl ?_
  refine own_aln X3 hx 54 (hb hby own_d29_53) rfl rfl rfl ?_
  refine own_iln X3 hx 55 (hb hby own_d29_54) rfl rfl ?_
  refine own_ii X3 hx #[.val (.ref de), .val (.ref t), .val (.int ((1 : Int32) + (1 : Int32))), .val (.int N), .val (.ref dd), .val (.int (0 : Int32)), .val (.int (1 : Int32)), .val (.int (0 : Int32)), .val (.ref tf), .val (.int (4 : Int32)), .val (.int (0 : Int32)), .val (.int (Int32.ofNat (q0 / 4))), .unset, .unset, .unset, .unset] 58 (hb hby own_d29_55) rfl rfl rfl ?_
  rw [show ((1 : Int32) + (1 : Int32)) = (2 : Int32) from by decide]
  refine own_bal X3 hx hZ e3 Pm2 (own_cb (q0 % 4 * 16 + q1 / 16)) 59 (hb hby own_d29_58) rfl ⟨by decide, iN1⟩ rfl ?_
  refine own_sp X3 hx (255 : Int32) 62 (hb hby own_d29_59) rfl rfl ?_
  refine own_iand X3 hx 63 (hb hby own_d29_62) rfl ?_
  rw [show ((own_cb (q0 % 4 * 16 + q1 / 16)) &&& (255 : Int32)) = (Int32.ofNat (own_ct (q0 % 4 * 16 + q1 / 16))) from own_cbm _ (by omega)]
  refine own_ial X3 hx hZ e3 F4 (Int32.ofNat (q0 % 4 * 16 + q1 / 16)) 64 (hb hby own_d29_63) rfl (own_Fin _ (by omega)) (own_Fat _ (by omega) _) ?_
  refine own_is X3 hx #[.val (.ref de), .val (.ref t), .val (.int (2 : Int32)), .val (.int N), .val (.ref dd), .val (.int (0 : Int32)), .val (.int (1 : Int32)), .val (.int (0 : Int32)), .val (.ref tf), .val (.int (4 : Int32)), .val (.int (0 : Int32)), .val (.int (Int32.ofNat (q0 / 4))), .val (.int (Int32.ofNat (q0 % 4 * 16 + q1 / 16))), .unset, .unset, .unset] 66 (hb hby own_d29_64) rfl rfl ?_
  refine own_al X3 hx 68 (hb hby own_d29_66) rfl rfl rfl ?_
  refine own_aln X3 hx 69 (hb hby own_d29_68) rfl rfl rfl ?_
  refine own_iln X3 hx 70 (hb hby own_d29_69) rfl rfl ?_
  refine own_ii X3 hx #[.val (.ref de), .val (.ref t), .val (.int ((2 : Int32) + (1 : Int32))), .val (.int N), .val (.ref dd), .val (.int (0 : Int32)), .val (.int (1 : Int32)), .val (.int (0 : Int32)), .val (.ref tf), .val (.int (4 : Int32)), .val (.int (0 : Int32)), .val (.int (Int32.ofNat (q0 / 4))), .val (.int (Int32.ofNat (q0 % 4 * 16 + q1 / 16))), .unset, .unset, .unset] 73 (hb hby own_d29_70) rfl rfl rfl ?_
  rw [show ((2 : Int32) + (1 : Int32)) = (3 : Int32) from by decide]
  refine own_bal X3 hx hZ e3 Pm2 (own_cb (q1 % 16 * 4 + q2 / 64)) 74 (hb hby own_d29_73) rfl ⟨by decide, iN2⟩ rfl ?_
  refine own_sp X3 hx (255 : Int32) 77 (hb hby own_d29_74) rfl rfl ?_
  refine own_iand X3 hx 78 (hb hby own_d29_77) rfl ?_
  rw [show ((own_cb (q1 % 16 * 4 + q2 / 64)) &&& (255 : Int32)) = (Int32.ofNat (own_ct (q1 % 16 * 4 + q2 / 64))) from own_cbm _ (by omega)]
  refine own_ial X3 hx hZ e3 F4 (Int32.ofNat (q1 % 16 * 4 + q2 / 64)) 79 (hb hby own_d29_78) rfl (own_Fin _ (by omega)) (own_Fat _ (by omega) _) ?_
  refine own_is X3 hx #[.val (.ref de), .val (.ref t), .val (.int (3 : Int32)), .val (.int N), .val (.ref dd), .val (.int (0 : Int32)), .val (.int (1 : Int32)), .val (.int (0 : Int32)), .val (.ref tf), .val (.int (4 : Int32)), .val (.int (0 : Int32)), .val (.int (Int32.ofNat (q0 / 4))), .val (.int (Int32.ofNat (q0 % 4 * 16 + q1 / 16))), .val (.int (Int32.ofNat (q1 % 16 * 4 + q2 / 64))), .unset, .unset] 81 (hb hby own_d29_79) rfl rfl ?_
  refine own_al X3 hx 83 (hb hby own_d29_81) rfl rfl rfl ?_
  refine own_aln X3 hx 84 (hb hby own_d29_83) rfl rfl rfl ?_
  refine own_iln X3 hx 85 (hb hby own_d29_84) rfl rfl ?_
  refine own_ii X3 hx #[.val (.ref de), .val (.ref t), .val (.int ((3 : Int32) + (1 : Int32))), .val (.int N), .val (.ref dd), .val (.int (0 : Int32)), .val (.int (1 : Int32)), .val (.int (0 : Int32)), .val (.ref tf), .val (.int (4 : Int32)), .val (.int (0 : Int32)), .val (.int (Int32.ofNat (q0 / 4))), .val (.int (Int32.ofNat (q0 % 4 * 16 + q1 / 16))), .val (.int (Int32.ofNat (q1 % 16 * 4 + q2 / 64))), .unset, .unset] 88 (hb hby own_d29_85) rfl rfl rfl ?_
  rw [show ((3 : Int32) + (1 : Int32)) = (4 : Int32) from by decide]
  refine own_bal X3 hx hZ e3 Pm2 (own_cb (q2 % 64)) 89 (hb hby own_d29_88) rfl ⟨by decide, iN3⟩ rfl ?_
  refine own_sp X3 hx (255 : Int32) 92 (hb hby own_d29_89) rfl rfl ?_
  refine own_iand X3 hx 93 (hb hby own_d29_92) rfl ?_
  rw [show ((own_cb (q2 % 64)) &&& (255 : Int32)) = (Int32.ofNat (own_ct (q2 % 64))) from own_cbm _ (by omega)]
  refine own_ial X3 hx hZ e3 F4 (Int32.ofNat (q2 % 64)) 94 (hb hby own_d29_93) rfl (own_Fin _ (by omega)) (own_Fat _ (by omega) _) ?_
  refine own_is X3 hx #[.val (.ref de), .val (.ref t), .val (.int (4 : Int32)), .val (.int N), .val (.ref dd), .val (.int (0 : Int32)), .val (.int (1 : Int32)), .val (.int (0 : Int32)), .val (.ref tf), .val (.int (4 : Int32)), .val (.int (0 : Int32)), .val (.int (Int32.ofNat (q0 / 4))), .val (.int (Int32.ofNat (q0 % 4 * 16 + q1 / 16))), .val (.int (Int32.ofNat (q1 % 16 * 4 + q2 / 64))), .val (.int (Int32.ofNat (q2 % 64))), .unset] 96 (hb hby own_d29_94) rfl rfl ?_
  refine own_il X3 hx 98 (hb hby own_d29_96) rfl rfl ?_
  refine own_il X3 hx 100 (hb hby own_d29_98) rfl rfl ?_
  refine own_ior X3 hx 101 (hb hby own_d29_100) rfl ?_
  refine own_il X3 hx 103 (hb hby own_d29_101) rfl rfl ?_
  refine own_ior X3 hx 104 (hb hby own_d29_103) rfl ?_
  refine own_il X3 hx 106 (hb hby own_d29_104) rfl rfl ?_
  refine own_ior X3 hx 107 (hb hby own_d29_106) rfl ?_
  refine own_ifY X3 hx 116 (hb hby own_d29_107) ((if0 _ _).trans (flt (own_or4 _ _ _ _ (by omega) (by omega) (by omega) (by omega) : ¬ (((((Int32.ofNat (q0 / 4)) ||| (Int32.ofNat (q0 % 4 * 16 + q1 / 16))) ||| (Int32.ofNat (q1 % 16 * 4 + q2 / 64))) ||| (Int32.ofNat (q2 % 64))) < (0 : Int32)))).2.1) (by decide) (by decide) ?_
  refine own_il X3 hx 118 (hb hby own_d29_116) rfl rfl ?_
  refine own_bp X3 hx (18 : Int32) 120 (hb hby own_d29_118) rfl rfl ?_
  refine own_ishl X3 hx 121 (hb hby own_d29_120) rfl ?_
  refine own_il X3 hx 123 (hb hby own_d29_121) rfl rfl ?_
  refine own_bp X3 hx (12 : Int32) 125 (hb hby own_d29_123) rfl rfl ?_
  refine own_ishl X3 hx 126 (hb hby own_d29_125) rfl ?_
  refine own_ior X3 hx 127 (hb hby own_d29_126) rfl ?_
  refine own_il X3 hx 129 (hb hby own_d29_127) rfl rfl ?_
  refine own_bp X3 hx (6 : Int32) 131 (hb hby own_d29_129) rfl rfl ?_
  refine own_ishl X3 hx 132 (hb hby own_d29_131) rfl ?_
  refine own_ior X3 hx 133 (hb hby own_d29_132) rfl ?_
  refine own_il X3 hx 135 (hb hby own_d29_133) rfl rfl ?_
  refine own_ior X3 hx 136 (hb hby own_d29_135) rfl ?_
  rw [show (((((Int32.ofNat (q0 / 4)) <<< ((18 : Int32) &&& 31)) ||| ((Int32.ofNat (q0 % 4 * 16 + q1 / 16)) <<< ((12 : Int32) &&& 31))) ||| ((Int32.ofNat (q1 % 16 * 4 + q2 / 64)) <<< ((6 : Int32) &&& 31))) ||| (Int32.ofNat (q2 % 64))) = (Int32.ofNat (q0 * 65536 + q1 * 256 + q2)) from own_asm4 q0 q1 q2 hq0 hq1 hq2]
  refine own_is X3 hx #[.val (.ref de), .val (.ref t), .val (.int (4 : Int32)), .val (.int N), .val (.ref dd), .val (.int (0 : Int32)), .val (.int (1 : Int32)), .val (.int (0 : Int32)), .val (.ref tf), .val (.int (4 : Int32)), .val (.int (0 : Int32)), .val (.int (Int32.ofNat (q0 / 4))), .val (.int (Int32.ofNat (q0 % 4 * 16 + q1 / 16))), .val (.int (Int32.ofNat (q1 % 16 * 4 + q2 / 64))), .val (.int (Int32.ofNat (q2 % 64))), .val (.int (Int32.ofNat (q0 * 65536 + q1 * 256 + q2)))] 138 (hb hby own_d29_136) rfl rfl ?_
  refine own_al X3 hx 140 (hb hby own_d29_138) rfl rfl rfl ?_
  refine own_il X3 hx 142 (hb hby own_d29_140) rfl rfl ?_
  refine own_ii X3 hx #[.val (.ref de), .val (.ref t), .val (.int (4 : Int32)), .val (.int N), .val (.ref dd), .val (.int (0 : Int32)), .val (.int (1 : Int32)), .val (.int (0 : Int32)), .val (.ref tf), .val (.int (4 : Int32)), .val (.int ((0 : Int32) + (1 : Int32))), .val (.int (Int32.ofNat (q0 / 4))), .val (.int (Int32.ofNat (q0 % 4 * 16 + q1 / 16))), .val (.int (Int32.ofNat (q1 % 16 * 4 + q2 / 64))), .val (.int (Int32.ofNat (q2 % 64))), .val (.int (Int32.ofNat (q0 * 65536 + q1 * 256 + q2)))] 145 (hb hby own_d29_142) rfl rfl rfl ?_
  refine own_il X3 hx 147 (hb hby own_d29_145) rfl rfl ?_
  refine own_bp X3 hx (16 : Int32) 149 (hb hby own_d29_147) rfl rfl ?_
  refine own_ishr X3 hx 150 (hb hby own_d29_149) rfl ?_
  refine own_i2b X3 hx 151 (hb hby own_d29_150) rfl ?_
  rw [show ((0 : Int32) + (1 : Int32)) = (1 : Int32) from by decide]
  rw [show (((Int32.ofNat (q0 * 65536 + q1 * 256 + q2)) >>> ((16 : Int32) &&& 31)).toInt8.toInt32) = (own_by q0) from own_dby16 (q0 * 65536 + q1 * 256 + q2) q0 (by omega) (by omega)]
  obtain ⟨cl5, Ar5, q5, Sz5, Nn5, Hs5, G5⟩ := id Pm7
  obtain ⟨T5, h5, X5, e5, W5, st5⟩ := stB X3 hx hZ e3 Ar5 (j := (0 : Int32)) (inb_of Sz5 ⟨by decide, iM0⟩) (g := (mkF m 151 #[.val (.ref de), .val (.ref t), .val (.int (4 : Int32)), .val (.int N), .val (.ref dd), .val (.int (0 : Int32)), .val (.int (1 : Int32)), .val (.int (0 : Int32)), .val (.ref tf), .val (.int (4 : Int32)), .val (.int (1 : Int32)), .val (.int (Int32.ofNat (q0 / 4))), .val (.int (Int32.ofNat (q0 % 4 * 16 + q1 / 16))), .val (.int (Int32.ofNat (q1 % 16 * 4 + q2 / 64))), .val (.int (Int32.ofNat (q2 % 64))), .val (.int (Int32.ofNat (q0 * 65536 + q1 * 256 + q2)))] [(.int (own_by q0)), (.int (0 : Int32)), (.ref dd)])) rfl rfl (hb hby own_d29_151)
  rw [own_narB] at W5
  refine own_go st5 ?_
  have V5 : Arv Z h5 dd kd .byte M (([] : List Value) ++ [(.int (own_by q0))]) (.int 0) := own_store1 Pm7 (Nat.lt_of_lt_of_le (Nat.le_of_ble_eq_true rfl : ([] : List Value).length < 4) mM) (own_fitsB _) W5 (show (0 : Int32).toNatClampNeg = 0 from by decide)
  have N5 := Fr.snoc X5 N0 gdd
  have sz6 : h0.size ≤ h5.size := Nat.le_of_eq (Wr.size W5).symm
  have K6 := K0.wr W5 (Or.inl (List.mem_of_getElem? (i := 0) rfl))
  show own_Rn p e below _ (T5.setTop (mkF m 152 #[.val (.ref de), .val (.ref t), .val (.int (4 : Int32)), .val (.int N), .val (.ref dd), .val (.int (0 : Int32)), .val (.int (1 : Int32)), .val (.int (0 : Int32)), .val (.ref tf), .val (.int (4 : Int32)), .val (.int (1 : Int32)), .val (.int (Int32.ofNat (q0 / 4))), .val (.int (Int32.ofNat (q0 % 4 * 16 + q1 / 16))), .val (.int (Int32.ofNat (q1 % 16 * 4 + q2 / 64))), .val (.int (Int32.ofNat (q2 % 64))), .val (.int (Int32.ofNat (q0 * 65536 + q1 * 256 + q2)))] []))
  refine own_al X5 hx 154 (hb hby own_d29_152) rfl rfl rfl ?_
  refine own_il X5 hx 156 (hb hby own_d29_154) rfl rfl ?_
  refine own_ii X5 hx #[.val (.ref de), .val (.ref t), .val (.int (4 : Int32)), .val (.int N), .val (.ref dd), .val (.int (0 : Int32)), .val (.int (1 : Int32)), .val (.int (0 : Int32)), .val (.ref tf), .val (.int (4 : Int32)), .val (.int ((1 : Int32) + (1 : Int32))), .val (.int (Int32.ofNat (q0 / 4))), .val (.int (Int32.ofNat (q0 % 4 * 16 + q1 / 16))), .val (.int (Int32.ofNat (q1 % 16 * 4 + q2 / 64))), .val (.int (Int32.ofNat (q2 % 64))), .val (.int (Int32.ofNat (q0 * 65536 + q1 * 256 + q2)))] 159 (hb hby own_d29_156) rfl rfl rfl ?_
  refine own_il X5 hx 161 (hb hby own_d29_159) rfl rfl ?_
  refine own_bp X5 hx (8 : Int32) 163 (hb hby own_d29_161) rfl rfl ?_
  refine own_ishr X5 hx 164 (hb hby own_d29_163) rfl ?_
  refine own_i2b X5 hx 165 (hb hby own_d29_164) rfl ?_
  rw [show ((1 : Int32) + (1 : Int32)) = (2 : Int32) from by decide]
  rw [show (((Int32.ofNat (q0 * 65536 + q1 * 256 + q2)) >>> ((8 : Int32) &&& 31)).toInt8.toInt32) = (own_by q1) from own_dby8 (q0 * 65536 + q1 * 256 + q2) q1 (by omega) (by omega)]
  obtain ⟨cl7, Ar7, q7, Sz7, Nn7, Hs7, G7⟩ := id V5
  obtain ⟨T7, h7, X7, e7, W7, st7⟩ := stB X5 hx hZ e5 Ar7 (j := (1 : Int32)) (inb_of Sz7 ⟨by decide, iM1⟩) (g := (mkF m 165 #[.val (.ref de), .val (.ref t), .val (.int (4 : Int32)), .val (.int N), .val (.ref dd), .val (.int (0 : Int32)), .val (.int (1 : Int32)), .val (.int (0 : Int32)), .val (.ref tf), .val (.int (4 : Int32)), .val (.int (2 : Int32)), .val (.int (Int32.ofNat (q0 / 4))), .val (.int (Int32.ofNat (q0 % 4 * 16 + q1 / 16))), .val (.int (Int32.ofNat (q1 % 16 * 4 + q2 / 64))), .val (.int (Int32.ofNat (q2 % 64))), .val (.int (Int32.ofNat (q0 * 65536 + q1 * 256 + q2)))] [(.int (own_by q1)), (.int (1 : Int32)), (.ref dd)])) rfl rfl (hb hby own_d29_165)
  rw [own_narB] at W7
  refine own_go st7 ?_
  have V7 : Arv Z h7 dd kd .byte M ((([] : List Value) ++ [Value.int (own_by q0)]) ++ [(.int (own_by q1))]) (.int 0) := own_store1 V5 (Nat.lt_of_lt_of_le (Nat.le_of_ble_eq_true rfl : (([] : List Value) ++ [Value.int (own_by q0)]).length < 4) mM) (own_fitsB _) W7 (show (1 : Int32).toNatClampNeg = 1 from by decide)
  have N7 := Fr.snoc X7 N5 gdd
  have sz8 : h5.size ≤ h7.size := Nat.le_of_eq (Wr.size W7).symm
  have K8 := K6.wr W7 (Or.inl (List.mem_of_getElem? (i := 0) rfl))
  show own_Rn p e below _ (T7.setTop (mkF m 166 #[.val (.ref de), .val (.ref t), .val (.int (4 : Int32)), .val (.int N), .val (.ref dd), .val (.int (0 : Int32)), .val (.int (1 : Int32)), .val (.int (0 : Int32)), .val (.ref tf), .val (.int (4 : Int32)), .val (.int (2 : Int32)), .val (.int (Int32.ofNat (q0 / 4))), .val (.int (Int32.ofNat (q0 % 4 * 16 + q1 / 16))), .val (.int (Int32.ofNat (q1 % 16 * 4 + q2 / 64))), .val (.int (Int32.ofNat (q2 % 64))), .val (.int (Int32.ofNat (q0 * 65536 + q1 * 256 + q2)))] []))
  refine own_al X7 hx 168 (hb hby own_d29_166) rfl rfl rfl ?_
  refine own_il X7 hx 170 (hb hby own_d29_168) rfl rfl ?_
  refine own_ii X7 hx #[.val (.ref de), .val (.ref t), .val (.int (4 : Int32)), .val (.int N), .val (.ref dd), .val (.int (0 : Int32)), .val (.int (1 : Int32)), .val (.int (0 : Int32)), .val (.ref tf), .val (.int (4 : Int32)), .val (.int ((2 : Int32) + (1 : Int32))), .val (.int (Int32.ofNat (q0 / 4))), .val (.int (Int32.ofNat (q0 % 4 * 16 + q1 / 16))), .val (.int (Int32.ofNat (q1 % 16 * 4 + q2 / 64))), .val (.int (Int32.ofNat (q2 % 64))), .val (.int (Int32.ofNat (q0 * 65536 + q1 * 256 + q2)))] 173 (hb hby own_d29_170) rfl rfl rfl ?_
  refine own_il X7 hx 175 (hb hby own_d29_173) rfl rfl ?_
  refine own_i2b X7 hx 176 (hb hby own_d29_175) rfl ?_
  rw [show ((2 : Int32) + (1 : Int32)) = (3 : Int32) from by decide]
  rw [show ((Int32.ofNat (q0 * 65536 + q1 * 256 + q2)).toInt8.toInt32) = (own_by q2) from own_dby0 (q0 * 65536 + q1 * 256 + q2) q2 (by omega) (by omega)]
  obtain ⟨cl9, Ar9, q9, Sz9, Nn9, Hs9, G9⟩ := id V7
  obtain ⟨T9, h9, X9, e9, W9, st9⟩ := stB X7 hx hZ e7 Ar9 (j := (2 : Int32)) (inb_of Sz9 ⟨by decide, iM2⟩) (g := (mkF m 176 #[.val (.ref de), .val (.ref t), .val (.int (4 : Int32)), .val (.int N), .val (.ref dd), .val (.int (0 : Int32)), .val (.int (1 : Int32)), .val (.int (0 : Int32)), .val (.ref tf), .val (.int (4 : Int32)), .val (.int (3 : Int32)), .val (.int (Int32.ofNat (q0 / 4))), .val (.int (Int32.ofNat (q0 % 4 * 16 + q1 / 16))), .val (.int (Int32.ofNat (q1 % 16 * 4 + q2 / 64))), .val (.int (Int32.ofNat (q2 % 64))), .val (.int (Int32.ofNat (q0 * 65536 + q1 * 256 + q2)))] [(.int (own_by q2)), (.int (2 : Int32)), (.ref dd)])) rfl rfl (hb hby own_d29_176)
  rw [own_narB] at W9
  refine own_go st9 ?_
  have V9 : Arv Z h9 dd kd .byte M (((([] : List Value) ++ [Value.int (own_by q0)]) ++ [Value.int (own_by q1)]) ++ [(.int (own_by q2))]) (.int 0) := own_store1 V7 (Nat.lt_of_lt_of_le (Nat.le_of_ble_eq_true rfl : ((([] : List Value) ++ [Value.int (own_by q0)]) ++ [Value.int (own_by q1)]).length < 4) mM) (own_fitsB _) W9 (show (2 : Int32).toNatClampNeg = 2 from by decide)
  have N9 := Fr.snoc X9 N7 gdd
  have sz10 : h7.size ≤ h9.size := Nat.le_of_eq (Wr.size W9).symm
  have K10 := K8.wr W9 (Or.inl (List.mem_of_getElem? (i := 0) rfl))
  show own_Rn p e below _ (T9.setTop (mkF m 177 #[.val (.ref de), .val (.ref t), .val (.int (4 : Int32)), .val (.int N), .val (.ref dd), .val (.int (0 : Int32)), .val (.int (1 : Int32)), .val (.int (0 : Int32)), .val (.ref tf), .val (.int (4 : Int32)), .val (.int (3 : Int32)), .val (.int (Int32.ofNat (q0 / 4))), .val (.int (Int32.ofNat (q0 % 4 * 16 + q1 / 16))), .val (.int (Int32.ofNat (q1 % 16 * 4 + q2 / 64))), .val (.int (Int32.ofNat (q2 % 64))), .val (.int (Int32.ofNat (q0 * 65536 + q1 * 256 + q2)))] []))
  refine own_gt X9 hx 30 (hb hby own_d29_177) (by decide) (by decide) ?_
  refine own_iln X9 hx 31 (hb hby own_d29_30) rfl rfl ?_
  refine own_il X9 hx 33 (hb hby own_d29_31) rfl rfl ?_
  refine own_icY X9 hx 180 (hb hby own_d29_33) (flt (by decide : ¬ ((4 : Int32) < (4 : Int32)))).2.1 (by decide) (by decide) ?_
  refine own_il X9 hx 182 (hb hby own_d29_180) rfl rfl ?_
  refine own_il X9 hx 184 (hb hby own_d29_182) rfl rfl ?_
  refine own_isub X9 hx 185 (hb hby own_d29_184) rfl ?_
  exact own_ret X9 (v := some (.int ((3 : Int32) - (0 : Int32)))) (fun h => by rw [Bd.returns] at h; cases h) (fun fs hr => retI X9 hx Bd.returns (hb hby own_d29_185) hr) (by rw [e9]; exact ⟨congrArg (fun z => some (Value.int z)) ((by decide : ((3 : Int32) - (0 : Int32)) = (3 : Int32))), N9, K10, V9⟩) (by decide) (by decide)
theorem own_ef_rmD0 (m : MethodId) (de : Addr) (t : Addr) (kt : ClassId) (bs : List Nat) (tf : Addr) (kf : ClassId) (dd : Addr) (kd : ClassId) : entryFrame m #[(.ref de), (.ref t), (.int (0 : Int32)), (.int (Int32.ofNat (own_cs bs).length)), (.ref dd)] 11 = mkF m 0 #[.val (.ref de), .val (.ref t), .val (.int (0 : Int32)), .val (.int (Int32.ofNat (own_cs bs).length)), .val (.ref dd), .unset, .unset, .unset, .unset, .unset, .unset] [] := by first | (simp [entryFrame, mkF, argsToLocals, Value.category]; done) | rfl
theorem own_d15_0 : decode jdk_2450_method_9_code 0 = .ok (.aload_n 0, 1) := by decide +kernel
theorem own_d15_1 : decode jdk_2450_method_9_code 1 = .ok (.getfield 7, 3) := by decide +kernel
theorem own_d15_4 : decode jdk_2450_method_9_code 4 = .ok (.ifCond .eq 9, 3) := by decide +kernel
theorem own_d15_7 : decode jdk_2450_method_9_code 7 = .ok (.getstatic 95, 3) := by decide +kernel
theorem own_d15_10 : decode jdk_2450_method_9_code 10 = .ok (.goto 6, 3) := by decide +kernel
theorem own_d15_16 : decode jdk_2450_method_9_code 16 = .ok (.astore 5, 2) := by decide +kernel
theorem own_d15_18 : decode jdk_2450_method_9_code 18 = .ok (.iconst 0, 1) := by decide +kernel
theorem own_d15_19 : decode jdk_2450_method_9_code 19 = .ok (.istore 6, 2) := by decide +kernel
theorem own_d15_21 : decode jdk_2450_method_9_code 21 = .ok (.iconst 0, 1) := by decide +kernel
theorem own_d15_22 : decode jdk_2450_method_9_code 22 = .ok (.istore 7, 2) := by decide +kernel
theorem own_d15_24 : decode jdk_2450_method_9_code 24 = .ok (.bipush 18, 2) := by decide +kernel
theorem own_d15_26 : decode jdk_2450_method_9_code 26 = .ok (.istore 8, 2) := by decide +kernel
theorem own_d15_90 : decode jdk_2450_method_9_code 90 = .ok (.iload_n 2, 1) := by decide +kernel
theorem own_d15_91 : decode jdk_2450_method_9_code 91 = .ok (.iload_n 3, 1) := by decide +kernel
theorem own_d15_92 : decode jdk_2450_method_9_code 92 = .ok (.if_icmp .lt 6, 3) := by decide +kernel
theorem own_d15_98 : decode jdk_2450_method_9_code 98 = .ok (.aload_n 1, 1) := by decide +kernel
theorem own_d15_99 : decode jdk_2450_method_9_code 99 = .ok (.iload_n 2, 1) := by decide +kernel
theorem own_d15_100 : decode jdk_2450_method_9_code 100 = .ok (.iinc 2 1, 3) := by decide +kernel
theorem own_d15_103 : decode jdk_2450_method_9_code 103 = .ok (.baload, 1) := by decide +kernel
theorem own_d15_104 : decode jdk_2450_method_9_code 104 = .ok (.sipush 255, 3) := by decide +kernel
theorem own_d15_107 : decode jdk_2450_method_9_code 107 = .ok (.iand, 1) := by decide +kernel
theorem own_d15_108 : decode jdk_2450_method_9_code 108 = .ok (.istore 9, 2) := by decide +kernel
theorem own_d15_110 : decode jdk_2450_method_9_code 110 = .ok (.aload 5, 2) := by decide +kernel
theorem own_d15_112 : decode jdk_2450_method_9_code 112 = .ok (.iload 9, 2) := by decide +kernel
theorem own_d15_114 : decode jdk_2450_method_9_code 114 = .ok (.iaload, 1) := by decide +kernel
theorem own_d15_115 : decode jdk_2450_method_9_code 115 = .ok (.dup, 1) := by decide +kernel
theorem own_d15_116 : decode jdk_2450_method_9_code 116 = .ok (.istore 9, 2) := by decide +kernel
theorem own_d15_118 : decode jdk_2450_method_9_code 118 = .ok (.ifCond .ge 96, 3) := by decide +kernel
theorem own_d15_214 : decode jdk_2450_method_9_code 214 = .ok (.iload 7, 2) := by decide +kernel
theorem own_d15_216 : decode jdk_2450_method_9_code 216 = .ok (.iload 9, 2) := by decide +kernel
theorem own_d15_218 : decode jdk_2450_method_9_code 218 = .ok (.iload 8, 2) := by decide +kernel
theorem own_d15_220 : decode jdk_2450_method_9_code 220 = .ok (.ishl, 1) := by decide +kernel
theorem own_d15_221 : decode jdk_2450_method_9_code 221 = .ok (.ior, 1) := by decide +kernel
theorem own_d15_222 : decode jdk_2450_method_9_code 222 = .ok (.istore 7, 2) := by decide +kernel
theorem own_d15_224 : decode jdk_2450_method_9_code 224 = .ok (.iinc 8 (-6), 3) := by decide +kernel
theorem own_d15_227 : decode jdk_2450_method_9_code 227 = .ok (.iload 8, 2) := by decide +kernel
theorem own_d15_229 : decode jdk_2450_method_9_code 229 = .ok (.ifCond .ge 49, 3) := by decide +kernel
theorem own_d15_278 : decode jdk_2450_method_9_code 278 = .ok (.goto (-250), 3) := by decide +kernel
theorem own_d15_28 : decode jdk_2450_method_9_code 28 = .ok (.iload_n 2, 1) := by decide +kernel
theorem own_d15_29 : decode jdk_2450_method_9_code 29 = .ok (.iload_n 3, 1) := by decide +kernel
theorem own_d15_30 : decode jdk_2450_method_9_code 30 = .ok (.if_icmp .ge 251, 3) := by decide +kernel
theorem own_d15_33 : decode jdk_2450_method_9_code 33 = .ok (.iload 8, 2) := by decide +kernel
theorem own_d15_35 : decode jdk_2450_method_9_code 35 = .ok (.bipush 18, 2) := by decide +kernel
theorem own_d15_37 : decode jdk_2450_method_9_code 37 = .ok (.if_icmp .ne 53, 3) := by decide +kernel
theorem own_d15_40 : decode jdk_2450_method_9_code 40 = .ok (.iload_n 2, 1) := by decide +kernel
theorem own_d15_41 : decode jdk_2450_method_9_code 41 = .ok (.iload_n 3, 1) := by decide +kernel
theorem own_d15_42 : decode jdk_2450_method_9_code 42 = .ok (.iconst 4, 1) := by decide +kernel
theorem own_d15_43 : decode jdk_2450_method_9_code 43 = .ok (.isub, 1) := by decide +kernel
theorem own_d15_44 : decode jdk_2450_method_9_code 44 = .ok (.if_icmp .ge 46, 3) := by decide +kernel
theorem own_d15_281 : decode jdk_2450_method_9_code 281 = .ok (.iload 8, 2) := by decide +kernel
theorem own_d15_283 : decode jdk_2450_method_9_code 283 = .ok (.bipush 6, 2) := by decide +kernel
theorem own_d15_285 : decode jdk_2450_method_9_code 285 = .ok (.if_icmp .ne 20, 3) := by decide +kernel
theorem own_d15_305 : decode jdk_2450_method_9_code 305 = .ok (.iload 8, 2) := by decide +kernel
theorem own_d15_307 : decode jdk_2450_method_9_code 307 = .ok (.ifCond .ne 34, 3) := by decide +kernel
theorem own_d15_341 : decode jdk_2450_method_9_code 341 = .ok (.iload 8, 2) := by decide +kernel
theorem own_d15_343 : decode jdk_2450_method_9_code 343 = .ok (.bipush 12, 2) := by decide +kernel
theorem own_d15_345 : decode jdk_2450_method_9_code 345 = .ok (.if_icmp .ne 13, 3) := by decide +kernel
theorem own_d15_358 : decode jdk_2450_method_9_code 358 = .ok (.iload_n 2, 1) := by decide +kernel
theorem own_d15_359 : decode jdk_2450_method_9_code 359 = .ok (.iload_n 3, 1) := by decide +kernel
theorem own_d15_360 : decode jdk_2450_method_9_code 360 = .ok (.if_icmp .ge 56, 3) := by decide +kernel
theorem own_d15_416 : decode jdk_2450_method_9_code 416 = .ok (.iload 6, 2) := by decide +kernel
theorem own_d15_418 : decode jdk_2450_method_9_code 418 = .ok (.ireturn, 1) := by decide +kernel
theorem own_d15_288 : decode jdk_2450_method_9_code 288 = .ok (.aload 4, 2) := by decide +kernel
theorem own_d15_290 : decode jdk_2450_method_9_code 290 = .ok (.iload 6, 2) := by decide +kernel
theorem own_d15_292 : decode jdk_2450_method_9_code 292 = .ok (.iinc 6 1, 3) := by decide +kernel
theorem own_d15_295 : decode jdk_2450_method_9_code 295 = .ok (.iload 7, 2) := by decide +kernel
theorem own_d15_297 : decode jdk_2450_method_9_code 297 = .ok (.bipush 16, 2) := by decide +kernel
theorem own_d15_299 : decode jdk_2450_method_9_code 299 = .ok (.ishr, 1) := by decide +kernel
theorem own_d15_300 : decode jdk_2450_method_9_code 300 = .ok (.i2b, 1) := by decide +kernel
theorem own_d15_301 : decode jdk_2450_method_9_code 301 = .ok (.bastore, 1) := by decide +kernel
theorem own_d15_302 : decode jdk_2450_method_9_code 302 = .ok (.goto 56, 3) := by decide +kernel
theorem own_d15_310 : decode jdk_2450_method_9_code 310 = .ok (.aload 4, 2) := by decide +kernel
theorem own_d15_312 : decode jdk_2450_method_9_code 312 = .ok (.iload 6, 2) := by decide +kernel
theorem own_d15_314 : decode jdk_2450_method_9_code 314 = .ok (.iinc 6 1, 3) := by decide +kernel
theorem own_d15_317 : decode jdk_2450_method_9_code 317 = .ok (.iload 7, 2) := by decide +kernel
theorem own_d15_319 : decode jdk_2450_method_9_code 319 = .ok (.bipush 16, 2) := by decide +kernel
theorem own_d15_321 : decode jdk_2450_method_9_code 321 = .ok (.ishr, 1) := by decide +kernel
theorem own_d15_322 : decode jdk_2450_method_9_code 322 = .ok (.i2b, 1) := by decide +kernel
theorem own_d15_323 : decode jdk_2450_method_9_code 323 = .ok (.bastore, 1) := by decide +kernel
theorem own_d15_324 : decode jdk_2450_method_9_code 324 = .ok (.aload 4, 2) := by decide +kernel
theorem own_d15_326 : decode jdk_2450_method_9_code 326 = .ok (.iload 6, 2) := by decide +kernel
theorem own_d15_328 : decode jdk_2450_method_9_code 328 = .ok (.iinc 6 1, 3) := by decide +kernel
theorem own_d15_331 : decode jdk_2450_method_9_code 331 = .ok (.iload 7, 2) := by decide +kernel
theorem own_d15_333 : decode jdk_2450_method_9_code 333 = .ok (.bipush 8, 2) := by decide +kernel
theorem own_d15_335 : decode jdk_2450_method_9_code 335 = .ok (.ishr, 1) := by decide +kernel
theorem own_d15_336 : decode jdk_2450_method_9_code 336 = .ok (.i2b, 1) := by decide +kernel
theorem own_d15_337 : decode jdk_2450_method_9_code 337 = .ok (.bastore, 1) := by decide +kernel
theorem own_d15_338 : decode jdk_2450_method_9_code 338 = .ok (.goto 20, 3) := by decide +kernel
theorem own_d15_232 : decode jdk_2450_method_9_code 232 = .ok (.aload 4, 2) := by decide +kernel
theorem own_d15_234 : decode jdk_2450_method_9_code 234 = .ok (.iload 6, 2) := by decide +kernel
theorem own_d15_236 : decode jdk_2450_method_9_code 236 = .ok (.iinc 6 1, 3) := by decide +kernel
theorem own_d15_239 : decode jdk_2450_method_9_code 239 = .ok (.iload 7, 2) := by decide +kernel
theorem own_d15_241 : decode jdk_2450_method_9_code 241 = .ok (.bipush 16, 2) := by decide +kernel
theorem own_d15_243 : decode jdk_2450_method_9_code 243 = .ok (.ishr, 1) := by decide +kernel
theorem own_d15_244 : decode jdk_2450_method_9_code 244 = .ok (.i2b, 1) := by decide +kernel
theorem own_d15_245 : decode jdk_2450_method_9_code 245 = .ok (.bastore, 1) := by decide +kernel
theorem own_d15_246 : decode jdk_2450_method_9_code 246 = .ok (.aload 4, 2) := by decide +kernel
theorem own_d15_248 : decode jdk_2450_method_9_code 248 = .ok (.iload 6, 2) := by decide +kernel
theorem own_d15_250 : decode jdk_2450_method_9_code 250 = .ok (.iinc 6 1, 3) := by decide +kernel
theorem own_d15_253 : decode jdk_2450_method_9_code 253 = .ok (.iload 7, 2) := by decide +kernel
theorem own_d15_255 : decode jdk_2450_method_9_code 255 = .ok (.bipush 8, 2) := by decide +kernel
theorem own_d15_257 : decode jdk_2450_method_9_code 257 = .ok (.ishr, 1) := by decide +kernel
theorem own_d15_258 : decode jdk_2450_method_9_code 258 = .ok (.i2b, 1) := by decide +kernel
theorem own_d15_259 : decode jdk_2450_method_9_code 259 = .ok (.bastore, 1) := by decide +kernel
theorem own_d15_260 : decode jdk_2450_method_9_code 260 = .ok (.aload 4, 2) := by decide +kernel
theorem own_d15_262 : decode jdk_2450_method_9_code 262 = .ok (.iload 6, 2) := by decide +kernel
theorem own_d15_264 : decode jdk_2450_method_9_code 264 = .ok (.iinc 6 1, 3) := by decide +kernel
theorem own_d15_267 : decode jdk_2450_method_9_code 267 = .ok (.iload 7, 2) := by decide +kernel
theorem own_d15_269 : decode jdk_2450_method_9_code 269 = .ok (.i2b, 1) := by decide +kernel
theorem own_d15_270 : decode jdk_2450_method_9_code 270 = .ok (.bastore, 1) := by decide +kernel
theorem own_d15_271 : decode jdk_2450_method_9_code 271 = .ok (.bipush 18, 2) := by decide +kernel
theorem own_d15_273 : decode jdk_2450_method_9_code 273 = .ok (.istore 8, 2) := by decide +kernel
theorem own_d15_275 : decode jdk_2450_method_9_code 275 = .ok (.iconst 0, 1) := by decide +kernel
theorem own_d15_276 : decode jdk_2450_method_9_code 276 = .ok (.istore 7, 2) := by decide +kernel
theorem own_d15_47 : decode jdk_2450_method_9_code 47 = .ok (.aload_n 0, 1) := by decide +kernel
theorem own_d15_48 : decode jdk_2450_method_9_code 48 = .ok (.aload_n 1, 1) := by decide +kernel
theorem own_d15_49 : decode jdk_2450_method_9_code 49 = .ok (.iload_n 2, 1) := by decide +kernel
theorem own_d15_50 : decode jdk_2450_method_9_code 50 = .ok (.iload_n 3, 1) := by decide +kernel
theorem own_d15_51 : decode jdk_2450_method_9_code 51 = .ok (.aload 4, 2) := by decide +kernel
theorem own_d15_53 : decode jdk_2450_method_9_code 53 = .ok (.iload 6, 2) := by decide +kernel
theorem own_d15_55 : decode jdk_2450_method_9_code 55 = .ok (.aload_n 0, 1) := by decide +kernel
theorem own_d15_56 : decode jdk_2450_method_9_code 56 = .ok (.getfield 7, 3) := by decide +kernel
theorem own_d15_59 : decode jdk_2450_method_9_code 59 = .ok (.aload_n 0, 1) := by decide +kernel
theorem own_d15_60 : decode jdk_2450_method_9_code 60 = .ok (.getfield 13, 3) := by decide +kernel
theorem own_d15_63 : decode jdk_2450_method_9_code 63 = .ok (.invokevirtual 111, 3) := by decide +kernel
theorem own_pd_285bBII5bBIZZ29I : parseMethodDescriptor "([BII[BIZZ)I" = some ⟨[(.array .byte), .int, .int, (.array .byte), .int, .boolean, .boolean], some .int⟩ := by decide +kernel
theorem own_d15_66 : decode jdk_2450_method_9_code 66 = .ok (.istore 9, 2) := by decide +kernel
theorem own_d15_68 : decode jdk_2450_method_9_code 68 = .ok (.iload 9, 2) := by decide +kernel
theorem own_d15_70 : decode jdk_2450_method_9_code 70 = .ok (.iconst 2, 1) := by decide +kernel
theorem own_d15_71 : decode jdk_2450_method_9_code 71 = .ok (.iadd, 1) := by decide +kernel
theorem own_d15_72 : decode jdk_2450_method_9_code 72 = .ok (.iconst 3, 1) := by decide +kernel
theorem own_d15_73 : decode jdk_2450_method_9_code 73 = .ok (.idiv, 1) := by decide +kernel
theorem own_d15_74 : decode jdk_2450_method_9_code 74 = .ok (.iconst 4, 1) := by decide +kernel
theorem own_d15_75 : decode jdk_2450_method_9_code 75 = .ok (.imul, 1) := by decide +kernel
theorem own_d15_76 : decode jdk_2450_method_9_code 76 = .ok (.istore 10, 2) := by decide +kernel
theorem own_d15_78 : decode jdk_2450_method_9_code 78 = .ok (.iload_n 2, 1) := by decide +kernel
theorem own_d15_79 : decode jdk_2450_method_9_code 79 = .ok (.iload 10, 2) := by decide +kernel
theorem own_d15_81 : decode jdk_2450_method_9_code 81 = .ok (.iadd, 1) := by decide +kernel
theorem own_d15_82 : decode jdk_2450_method_9_code 82 = .ok (.istore_n 2, 1) := by decide +kernel
theorem own_d15_83 : decode jdk_2450_method_9_code 83 = .ok (.iload 6, 2) := by decide +kernel
theorem own_d15_85 : decode jdk_2450_method_9_code 85 = .ok (.iload 9, 2) := by decide +kernel
theorem own_d15_87 : decode jdk_2450_method_9_code 87 = .ok (.iadd, 1) := by decide +kernel
theorem own_d15_88 : decode jdk_2450_method_9_code 88 = .ok (.istore 6, 2) := by decide +kernel
def Q_rmD0 (Z : State) (de : Addr) (t : Addr) (kt : ClassId) (bs : List Nat) (tf : Addr) (kf : ClassId) (dd : Addr) (kd : ClassId) (h0 : Heap) (n0 : Nat) (vq : Option Value) (hhq : Heap) (Lq : List Loc) : Prop := vq = some (.int (Int32.ofNat bs.length)) ∧ Fr n0 Lq ∧ Keep h0 hhq [dd] ∧ Arv Z hhq dd kd .byte (Int32.ofNat bs.length) (own_bs (own_ub bs)) (.int 0)
set_option maxRecDepth 65536 in
set_option maxHeartbeats 40000000 in
theorem rmD0 (l : Launch) (Z : State) (a0 : Array Value) (hw : ∀ d ∈ tables_1, d.before a0 Z = true) (ws : List Jvm.Cond) (de : Addr) (t : Addr) (kt : ClassId) (bs : List Nat) (tf : Addr) (kf : ClassId) (dd : Addr) (kd : ClassId) (h0 : Heap) (n0 : Nat) (Z0 : n0 ≤ h0.size) (ZD : Exa Z Z.heap de "java/util/Base64$Decoder") (ZD1 : Fld Z Z.heap de "java/util/Base64$Decoder" "isURL" "Z" (.int (1 : Int32))) (ZD2 : Fld Z Z.heap de "java/util/Base64$Decoder" "isMIME" "Z" (.int (0 : Int32))) (OF : Sta Z Z.heap "java/util/Base64$Decoder" "fromBase64URL" "[I" (.ref tf)) (ZF : Arv Z Z.heap tf kf .int (256 : Int32) (own_F.map Value.int) (.int 0)) (Pm5 : Arv Z h0 t kt .byte (Int32.ofNat (own_cs bs).length) (own_bs (own_cs bs)) (.int 0)) (hL : (bs.length ≤ 5)) (hB : (∀ b ∈ bs, b < 256)) (Pm8 : Arv Z h0 dd kd .byte (Int32.ofNat bs.length) ([] : List Value) (.int 0)) (gdd : n0 ≤ dd) (ntd : (t ≠ dd)) (X00 : Old Z n0 h0) :
    MetFree l (⟨"java/util/Base64$Decoder", "decode0", "([BII[B)I"⟩ : MethodName) (head1 (Jvm.Cond.code (⟨"java/util/Base64$Decoder", "decode0", "([BII[B)I"⟩ : MethodName) jdk_2450_method_9_code 11 (some .int) :: ws) ({ frames := 1, cells := 0, slots := 0, locals := 27 } : Room)) (fun aq U => aq = #[(.ref de), (.ref t), (.int (0 : Int32)), (.int (Int32.ofNat (own_cs bs).length)), (.ref dd)] ∧ Z.Warmed39 U.vm ∧ U.heap = h0) (fun _ _ _ _ _ => True) (fun _ U oq U' => ∃ vq Lq, oq = .returned vq ∧ Q_rmD0 Z de t kt bs tf kf dd kd h0 n0 vq U'.heap Lq ∧ FrameEnd U oq U' Lq ({ frames := 1, cells := 0, slots := 0, locals := 27 } : Room).cells ({ frames := 1, cells := 0, slots := 0, locals := 27 } : Room).slots) := by
  refine MetFree.of_bodySF (plainFor_of_name own_pn_java_util_Base64_Decoder) hisR ?_
  intro p e s m args below meth c s₁ Bd hml0 hP hK
  obtain ⟨rfl, hZ, hh⟩ := hP
  have hx := Bd.exec
  have hby := Bd.bytes
  have hml : c.maxLocals = 11 := hml0
  have hown : s.vm.findClass "java/util/Base64$Decoder" = some m.cls := findClass_of_methodNamed Bd.named
  have hnm := (name_of_methodNamed Bd.named Bd.method).1
  have X0 : Stand p l e ({ frames := 1, cells := 0, slots := 0, locals := 27 } : Room) s m #[(.ref de), (.ref t), (.int (0 : Int32)), (.int (Int32.ofNat (own_cs bs).length)), (.ref dd)] below meth c s₁ [] 0 0 := Stand.of_body Bd
  have e0 : s₁.heap = h0 := by rw [← hh, Bd.state]; rfl
  have N0 := Fr.nil n0
  have K0 : Keep h0 h0 [dd] := Keep.refl _ _
  refine own_go (S' := s₁.setTop (mkF m 0 #[.val (.ref de), .val (.ref t), .val (.int (0 : Int32)), .val (.int (Int32.ofNat (own_cs bs).length)), .val (.ref dd), .unset, .unset, .unset, .unset, .unset, .unset] [])) (fun tq kq => castTop (own_ef_rmD0 m de t kt bs tf kf dd kd) kq) ?_
  have lt1 : @LT.lt Nat _ t h0.size := Pm5.lt
  have lt2 : @LT.lt Nat _ dd h0.size := Pm8.lt
  refine own_aln X0 hx 1 (hb hby own_d15_0) rfl rfl rfl ?_
  have F3 : Fld Z h0 de "java/util/Base64$Decoder" "isURL" "Z" (.int (1 : Int32)) := ZD1.ext X00.2
  refine own_gF X0 hx hZ hown (host := "") (Or.inl (hw _ (own_mi 93 rfl))) Via.refl e0 F3 4 (hb hby own_d15_1) rfl ?_
  intro T4 X4 e4
  refine own_ifN X4 hx 7 (hb hby own_d15_4) rfl ((if0 _ _).trans (feq ((by decide : ¬ ((1 : Int32) = (0 : Int32))) : ¬ ((1 : Int32) = (0 : Int32)))).1) ?_
  refine own_gS X4 hx hZ hown (host := "") (Or.inl (hw _ (own_mi 95 rfl))) Via.refl e4 (OF.ext X00.2) 10 (hb hby own_d15_7) rfl ?_
  intro T5 X5 e5
  refine own_gt X5 hx 16 (hb hby own_d15_10) (by decide) (by decide) ?_
  refine own_as X5 hx #[.val (.ref de), .val (.ref t), .val (.int (0 : Int32)), .val (.int (Int32.ofNat (own_cs bs).length)), .val (.ref dd), .val (.ref tf), .unset, .unset, .unset, .unset, .unset] 18 (hb hby own_d15_16) rfl rfl rfl ?_
  refine own_ic X5 hx (0 : Int32) 19 (hb hby own_d15_18) rfl rfl ?_
  refine own_is X5 hx #[.val (.ref de), .val (.ref t), .val (.int (0 : Int32)), .val (.int (Int32.ofNat (own_cs bs).length)), .val (.ref dd), .val (.ref tf), .val (.int (0 : Int32)), .unset, .unset, .unset, .unset] 21 (hb hby own_d15_19) rfl rfl ?_
  refine own_ic X5 hx (0 : Int32) 22 (hb hby own_d15_21) rfl rfl ?_
  refine own_is X5 hx #[.val (.ref de), .val (.ref t), .val (.int (0 : Int32)), .val (.int (Int32.ofNat (own_cs bs).length)), .val (.ref dd), .val (.ref tf), .val (.int (0 : Int32)), .val (.int (0 : Int32)), .unset, .unset, .unset] 24 (hb hby own_d15_22) rfl rfl ?_
  refine own_bp X5 hx (18 : Int32) 26 (hb hby own_d15_24) rfl rfl ?_
  refine own_is X5 hx #[.val (.ref de), .val (.ref t), .val (.int (0 : Int32)), .val (.int (Int32.ofNat (own_cs bs).length)), .val (.ref dd), .val (.ref tf), .val (.int (0 : Int32)), .val (.int (0 : Int32)), .val (.int (18 : Int32)), .unset, .unset] 28 (hb hby own_d15_26) rfl rfl ?_
  have It : ∀ (jj kk : Nat) (bits bitz sh shz dp : Int32) (l9 l10 : Slot) (Tl : State) (hl : Heap) (ls : List Loc), (own_e bs)[jj]? = some kk → kk < 64 → bits ||| (Int32.ofNat kk <<< (sh &&& 31)) = bitz → sh + (-6 : Int32) = shz → ¬ shz < 0 → One l9 → Stand p l e ({ frames := 1, cells := 0, slots := 0, locals := 27 } : Room) s m #[(.ref de), (.ref t), (.int (0 : Int32)), (.int (Int32.ofNat (own_cs bs).length)), (.ref dd)] below meth c Tl ls 0 0 → Tl.heap = hl → Arv Z hl t kt .byte (Int32.ofNat (own_cs bs).length) (own_bs (own_cs bs)) (.int 0) → Arv Z hl tf kf .int (256 : Int32) (own_F.map Value.int) (.int 0) → own_Rn p e below (fun oq U' => ∃ vq Lq, oq = .returned vq ∧ Q_rmD0 Z de t kt bs tf kf dd kd h0 n0 vq U'.heap Lq ∧ FrameEnd s oq U' Lq ({ frames := 1, cells := 0, slots := 0, locals := 27 } : Room).cells ({ frames := 1, cells := 0, slots := 0, locals := 27 } : Room).slots) (Tl.setTop (mkF m 28 #[.val (.ref de), .val (.ref t), .val (.int (Int32.ofNat (jj + 1))), .val (.int (Int32.ofNat (own_cs bs).length)), .val (.ref dd), .val (.ref tf), .val (.int dp), .val (.int bitz), .val (.int shz), .val (.int (Int32.ofNat kk)), l10] [])) → own_Rn p e below (fun oq U' => ∃ vq Lq, oq = .returned vq ∧ Q_rmD0 Z de t kt bs tf kf dd kd h0 n0 vq U'.heap Lq ∧ FrameEnd s oq U' Lq ({ frames := 1, cells := 0, slots := 0, locals := 27 } : Room).cells ({ frames := 1, cells := 0, slots := 0, locals := 27 } : Room).slots) (Tl.setTop (mkF m 90 #[.val (.ref de), .val (.ref t), .val (.int (Int32.ofNat jj)), .val (.int (Int32.ofNat (own_cs bs).length)), .val (.ref dd), .val (.ref tf), .val (.int dp), .val (.int bits), .val (.int sh), l9, l10] [])) := by
    intro jj kk bits bitz sh shz dp l9 l10 Tl hl ls hj hk hbits hsh hs0 o9 Xl el As Af hgo
    have lt6 : @LT.lt Nat _ t hl.size := As.lt
    have lt7 : @LT.lt Nat _ tf hl.size := Af.lt
    have hjl := own_cs_lt bs jj kk hj
    have h7 := own_cs_len bs hB
    refine own_iln Xl hx 91 (hb hby own_d15_90) rfl rfl ?_
    refine own_iln Xl hx 92 (hb hby own_d15_91) rfl rfl ?_
    refine own_icY Xl hx 98 (hb hby own_d15_92) (tlt (own_ofNat_lt hjl (by omega) : (Int32.ofNat jj) < (Int32.ofNat (own_cs bs).length))).1 (by decide) (by decide) ?_
    refine own_aln Xl hx 99 (hb hby own_d15_98) rfl rfl rfl ?_
    refine own_iln Xl hx 100 (hb hby own_d15_99) rfl rfl ?_
    refine own_ii Xl hx #[.val (.ref de), .val (.ref t), .val (.int ((Int32.ofNat jj) + (1 : Int32))), .val (.int (Int32.ofNat (own_cs bs).length)), .val (.ref dd), .val (.ref tf), .val (.int dp), .val (.int bits), .val (.int sh), l9, l10] 103 (hb hby own_d15_100) rfl rfl rfl ?_
    rw [show (Int32.ofNat jj + (1 : Int32)) = Int32.ofNat (jj + 1) from (inc_ofNat jj).symm]
    show own_Rn p e below _ (Tl.setTop (mkF m 103 #[.val (.ref de), .val (.ref t), .val (.int (Int32.ofNat (jj + 1))), .val (.int (Int32.ofNat (own_cs bs).length)), .val (.ref dd), .val (.ref tf), .val (.int dp), .val (.int bits), .val (.int sh), l9, l10] [(.int (Int32.ofNat jj)), (.ref t)]))
    refine own_bal Xl hx hZ el As (own_cb kk) 104 (hb hby own_d15_103) rfl (own_inb _ _ hjl (by omega)) (own_cs_at bs jj kk hj (by omega)) ?_
    refine own_sp Xl hx (255 : Int32) 107 (hb hby own_d15_104) rfl rfl ?_
    refine own_iand Xl hx 108 (hb hby own_d15_107) rfl ?_
    rw [show ((own_cb kk) &&& (255 : Int32)) = (Int32.ofNat (own_ct kk)) from own_cbm kk hk]
    have os8 : storeLocals #[.val (.ref de), .val (.ref t), .val (.int (Int32.ofNat (jj + 1))), .val (.int (Int32.ofNat (own_cs bs).length)), .val (.ref dd), .val (.ref tf), .val (.int dp), .val (.int bits), .val (.int sh), l9, l10] 9 (.int (Int32.ofNat (own_ct kk))) = some #[.val (.ref de), .val (.ref t), .val (.int (Int32.ofNat (jj + 1))), .val (.int (Int32.ofNat (own_cs bs).length)), .val (.ref dd), .val (.ref tf), .val (.int dp), .val (.int bits), .val (.int sh), .val (.int (Int32.ofNat (own_ct kk))), l10] := by
      rcases o9 with rfl | ⟨w, rfl, hw⟩
      · rfl
      · cases w <;> first | rfl | (simp [Value.category] at hw)
    refine own_go (fun tq kq => XS.istore Xl.here hx rfl (hb hby own_d15_108) rfl (l' := #[.val (.ref de), .val (.ref t), .val (.int (Int32.ofNat (jj + 1))), .val (.int (Int32.ofNat (own_cs bs).length)), .val (.ref dd), .val (.ref tf), .val (.int dp), .val (.int bits), .val (.int sh), .val (.int (Int32.ofNat (own_ct kk))), l10]) os8 kq) ?_
    show own_Rn p e below _ (Tl.setTop (mkF m 110 #[.val (.ref de), .val (.ref t), .val (.int (Int32.ofNat (jj + 1))), .val (.int (Int32.ofNat (own_cs bs).length)), .val (.ref dd), .val (.ref tf), .val (.int dp), .val (.int bits), .val (.int sh), .val (.int (Int32.ofNat (own_ct kk))), l10] []))
    refine own_al Xl hx 112 (hb hby own_d15_110) rfl rfl rfl ?_
    refine own_il Xl hx 114 (hb hby own_d15_112) rfl rfl ?_
    refine own_ial Xl hx hZ el Af (Int32.ofNat kk) 115 (hb hby own_d15_114) rfl (own_Fin kk hk) (own_Fat kk hk _) ?_
    refine own_dp Xl hx 116 (hb hby own_d15_115) rfl rfl ?_
    refine own_is Xl hx #[.val (.ref de), .val (.ref t), .val (.int (Int32.ofNat (jj + 1))), .val (.int (Int32.ofNat (own_cs bs).length)), .val (.ref dd), .val (.ref tf), .val (.int dp), .val (.int bits), .val (.int sh), .val (.int (Int32.ofNat kk)), l10] 118 (hb hby own_d15_116) rfl rfl ?_
    refine own_ifY Xl hx 214 (hb hby own_d15_118) ((if0 _ _).trans (flt (own_nneg (by omega) : ¬ ((Int32.ofNat kk) < (0 : Int32)))).2.1) (by decide) (by decide) ?_
    refine own_il Xl hx 216 (hb hby own_d15_214) rfl rfl ?_
    refine own_il Xl hx 218 (hb hby own_d15_216) rfl rfl ?_
    refine own_il Xl hx 220 (hb hby own_d15_218) rfl rfl ?_
    refine own_ishl Xl hx 221 (hb hby own_d15_220) rfl ?_
    refine own_ior Xl hx 222 (hb hby own_d15_221) rfl ?_
    rw [show (bits ||| ((Int32.ofNat kk) <<< (sh &&& 31))) = bitz from hbits]
    refine own_is Xl hx #[.val (.ref de), .val (.ref t), .val (.int (Int32.ofNat (jj + 1))), .val (.int (Int32.ofNat (own_cs bs).length)), .val (.ref dd), .val (.ref tf), .val (.int dp), .val (.int bitz), .val (.int sh), .val (.int (Int32.ofNat kk)), l10] 224 (hb hby own_d15_222) rfl rfl ?_
    refine own_ii Xl hx #[.val (.ref de), .val (.ref t), .val (.int (Int32.ofNat (jj + 1))), .val (.int (Int32.ofNat (own_cs bs).length)), .val (.ref dd), .val (.ref tf), .val (.int dp), .val (.int bitz), .val (.int (sh + (-6 : Int32))), .val (.int (Int32.ofNat kk)), l10] 227 (hb hby own_d15_224) rfl rfl rfl ?_
    rw [hsh]
    show own_Rn p e below _ (Tl.setTop (mkF m 227 #[.val (.ref de), .val (.ref t), .val (.int (Int32.ofNat (jj + 1))), .val (.int (Int32.ofNat (own_cs bs).length)), .val (.ref dd), .val (.ref tf), .val (.int dp), .val (.int bitz), .val (.int shz), .val (.int (Int32.ofNat kk)), l10] []))
    refine own_il Xl hx 229 (hb hby own_d15_227) rfl rfl ?_
    refine own_ifY Xl hx 278 (hb hby own_d15_229) ((if0 _ _).trans (flt (hs0 : ¬ (shz < (0 : Int32)))).2.1) (by decide) (by decide) ?_
    refine own_gt Xl hx 28 (hb hby own_d15_278) (by decide) (by decide) ?_
    exact hgo
  have It2 : ∀ (jj kk : Nat) (bits bitz sh shz dp : Int32) (l9 l10 : Slot) (Tl : State) (hl : Heap) (ls : List Loc), (own_e bs)[jj]? = some kk → kk < 64 → bits ||| (Int32.ofNat kk <<< (sh &&& 31)) = bitz → sh + (-6 : Int32) = shz → ¬ shz < 0 → One l9 → Stand p l e ({ frames := 1, cells := 0, slots := 0, locals := 27 } : Room) s m #[(.ref de), (.ref t), (.int (0 : Int32)), (.int (Int32.ofNat (own_cs bs).length)), (.ref dd)] below meth c Tl ls 0 0 → Tl.heap = hl → Arv Z hl t kt .byte (Int32.ofNat (own_cs bs).length) (own_bs (own_cs bs)) (.int 0) → Arv Z hl tf kf .int (256 : Int32) (own_F.map Value.int) (.int 0) → (¬ sh = (18 : Int32) ∨ ¬ Int32.ofNat jj < (Int32.ofNat (own_cs bs).length) - (4 : Int32)) → own_Rn p e below (fun oq U' => ∃ vq Lq, oq = .returned vq ∧ Q_rmD0 Z de t kt bs tf kf dd kd h0 n0 vq U'.heap Lq ∧ FrameEnd s oq U' Lq ({ frames := 1, cells := 0, slots := 0, locals := 27 } : Room).cells ({ frames := 1, cells := 0, slots := 0, locals := 27 } : Room).slots) (Tl.setTop (mkF m 28 #[.val (.ref de), .val (.ref t), .val (.int (Int32.ofNat (jj + 1))), .val (.int (Int32.ofNat (own_cs bs).length)), .val (.ref dd), .val (.ref tf), .val (.int dp), .val (.int bitz), .val (.int shz), .val (.int (Int32.ofNat kk)), l10] [])) → own_Rn p e below (fun oq U' => ∃ vq Lq, oq = .returned vq ∧ Q_rmD0 Z de t kt bs tf kf dd kd h0 n0 vq U'.heap Lq ∧ FrameEnd s oq U' Lq ({ frames := 1, cells := 0, slots := 0, locals := 27 } : Room).cells ({ frames := 1, cells := 0, slots := 0, locals := 27 } : Room).slots) (Tl.setTop (mkF m 28 #[.val (.ref de), .val (.ref t), .val (.int (Int32.ofNat jj)), .val (.int (Int32.ofNat (own_cs bs).length)), .val (.ref dd), .val (.ref tf), .val (.int dp), .val (.int bits), .val (.int sh), l9, l10] [])) := by
    intro jj kk bits bitz sh shz dp l9 l10 Tl hl ls hj hk hbits hsh hs0 o9 Xl el As Af hnb hgo
    have lt9 : @LT.lt Nat _ t hl.size := As.lt
    have lt10 : @LT.lt Nat _ tf hl.size := Af.lt
    have hjl := own_cs_lt bs jj kk hj
    have h7 := own_cs_len bs hB
    refine own_iln Xl hx 29 (hb hby own_d15_28) rfl rfl ?_
    refine own_iln Xl hx 30 (hb hby own_d15_29) rfl rfl ?_
    refine own_icN Xl hx 33 (hb hby own_d15_30) rfl (tlt (own_ofNat_lt hjl (by omega) : (Int32.ofNat jj) < (Int32.ofNat (own_cs bs).length))).2.1 ?_
    refine own_il Xl hx 35 (hb hby own_d15_33) rfl rfl ?_
    refine own_bp Xl hx (18 : Int32) 37 (hb hby own_d15_35) rfl rfl ?_
    by_cases h18 : sh = (18 : Int32)
    · skip
      refine own_icN Xl hx 40 (hb hby own_d15_37) rfl (teq (h18 : sh = (18 : Int32))).2 ?_
      refine own_iln Xl hx 41 (hb hby own_d15_40) rfl rfl ?_
      refine own_iln Xl hx 42 (hb hby own_d15_41) rfl rfl ?_
      refine own_ic Xl hx (4 : Int32) 43 (hb hby own_d15_42) rfl rfl ?_
      refine own_isub Xl hx 44 (hb hby own_d15_43) rfl ?_
      refine own_icY Xl hx 90 (hb hby own_d15_44) (flt (hnb.resolve_left (fun h => h h18) : ¬ ((Int32.ofNat jj) < ((Int32.ofNat (own_cs bs).length) - (4 : Int32))))).2.1 (by decide) (by decide) ?_
      exact It jj kk bits bitz sh shz dp l9 l10 Tl hl ls hj hk hbits hsh hs0 o9 Xl el As Af hgo
    · skip
      refine own_icY Xl hx 90 (hb hby own_d15_37) (feq (h18 : ¬ (sh = (18 : Int32)))).2 (by decide) (by decide) ?_
      exact It jj kk bits bitz sh shz dp l9 l10 Tl hl ls hj hk hbits hsh hs0 o9 Xl el As Af hgo
  rcases bs with _ | ⟨q0, _ | ⟨q1, _ | ⟨q2, _ | ⟨q3, _ | ⟨q4, _ | ⟨q5, rs⟩⟩⟩⟩⟩⟩
  · skip
    have V11 : Arv Z h0 t kt .byte (0 : Int32) [] (.int 0) := Pm5
    have V12 : Arv Z h0 dd kd .byte (0 : Int32) [] (.int 0) := Pm8
    show own_Rn p e below _ (T5.setTop (mkF m 28 #[.val (.ref de), .val (.ref t), .val (.int (0 : Int32)), .val (.int (0 : Int32)), .val (.ref dd), .val (.ref tf), .val (.int (0 : Int32)), .val (.int (0 : Int32)), .val (.int (18 : Int32)), .unset, .unset] []))
    refine own_iln X5 hx 29 (hb hby own_d15_28) rfl rfl ?_
    refine own_iln X5 hx 30 (hb hby own_d15_29) rfl rfl ?_
    refine own_icY X5 hx 281 (hb hby own_d15_30) (flt (by decide : ¬ ((0 : Int32) < (0 : Int32)))).2.1 (by decide) (by decide) ?_
    refine own_il X5 hx 283 (hb hby own_d15_281) rfl rfl ?_
    refine own_bp X5 hx (6 : Int32) 285 (hb hby own_d15_283) rfl rfl ?_
    refine own_icY X5 hx 305 (hb hby own_d15_285) (feq (by decide : ¬ ((18 : Int32) = (6 : Int32)))).2 (by decide) (by decide) ?_
    refine own_il X5 hx 307 (hb hby own_d15_305) rfl rfl ?_
    refine own_ifY X5 hx 341 (hb hby own_d15_307) ((if0 _ _).trans (feq (by decide : ¬ ((18 : Int32) = (0 : Int32)))).2) (by decide) (by decide) ?_
    refine own_il X5 hx 343 (hb hby own_d15_341) rfl rfl ?_
    refine own_bp X5 hx (12 : Int32) 345 (hb hby own_d15_343) rfl rfl ?_
    refine own_icY X5 hx 358 (hb hby own_d15_345) (feq (by decide : ¬ ((18 : Int32) = (12 : Int32)))).2 (by decide) (by decide) ?_
    refine own_iln X5 hx 359 (hb hby own_d15_358) rfl rfl ?_
    refine own_iln X5 hx 360 (hb hby own_d15_359) rfl rfl ?_
    refine own_icY X5 hx 416 (hb hby own_d15_360) (flt (by decide : ¬ ((0 : Int32) < (0 : Int32)))).2.1 (by decide) (by decide) ?_
    refine own_il X5 hx 418 (hb hby own_d15_416) rfl rfl ?_
    exact own_ret X5 (v := some (.int (0 : Int32))) (fun h => by rw [Bd.returns] at h; cases h) (fun fs hr => retI X5 hx Bd.returns (hb hby own_d15_418) hr) (by rw [e5]; exact ⟨rfl, N0, K0, V12⟩) (by decide) (by decide)
  · skip
    have hq0 : q0 < 256 := hB q0 (by simp)
    have V13 : Arv Z h0 t kt .byte (2 : Int32) [(.int (own_cb (q0 / 4))), (.int (own_cb (q0 % 4 * 16 + 0 / 16)))] (.int 0) := Pm5
    have V14 : Arv Z h0 dd kd .byte (1 : Int32) [] (.int 0) := Pm8
    show own_Rn p e below _ (T5.setTop (mkF m 28 #[.val (.ref de), .val (.ref t), .val (.int (0 : Int32)), .val (.int (2 : Int32)), .val (.ref dd), .val (.ref tf), .val (.int (0 : Int32)), .val (.int (0 : Int32)), .val (.int (18 : Int32)), .unset, .unset] []))
    have F15 : Arv Z h0 tf kf .int (256 : Int32) (own_F.map Value.int) (.int 0) := ZF.ext X00.2
    refine It2 0 (q0 / 4) (0 : Int32) (Int32.ofNat ((q0 / 4) * 262144)) (18 : Int32) (12 : Int32) (0 : Int32) _ _ _ _ _ rfl (by omega) (own_acc18 _ (by omega)) (by decide) (by decide) One.u X5 e5 V13 F15 (Or.inr (show ¬ (0 : Int32) < (2 : Int32) - (4 : Int32) from by decide)) ?_
    show own_Rn p e below _ (T5.setTop (mkF m 28 #[.val (.ref de), .val (.ref t), .val (.int (1 : Int32)), .val (.int (2 : Int32)), .val (.ref dd), .val (.ref tf), .val (.int (0 : Int32)), .val (.int (Int32.ofNat ((q0 / 4) * 262144))), .val (.int (12 : Int32)), .val (.int (Int32.ofNat (q0 / 4))), .unset] []))
    refine It2 1 (q0 % 4 * 16 + 0 / 16) (Int32.ofNat ((q0 / 4) * 262144)) (Int32.ofNat ((q0 / 4) * 262144 + (q0 % 4 * 16 + 0 / 16) * 4096)) (12 : Int32) (6 : Int32) (0 : Int32) _ _ _ _ _ rfl (by omega) (own_acc12 _ _ (by omega) (by omega)) (by decide) (by decide) (One.val rfl) X5 e5 V13 F15 (Or.inl (by decide)) ?_
    show own_Rn p e below _ (T5.setTop (mkF m 28 #[.val (.ref de), .val (.ref t), .val (.int (2 : Int32)), .val (.int (2 : Int32)), .val (.ref dd), .val (.ref tf), .val (.int (0 : Int32)), .val (.int (Int32.ofNat ((q0 / 4) * 262144 + (q0 % 4 * 16 + 0 / 16) * 4096))), .val (.int (6 : Int32)), .val (.int (Int32.ofNat (q0 % 4 * 16 + 0 / 16))), .unset] []))
    refine own_iln X5 hx 29 (hb hby own_d15_28) rfl rfl ?_
    refine own_iln X5 hx 30 (hb hby own_d15_29) rfl rfl ?_
    refine own_icY X5 hx 281 (hb hby own_d15_30) (flt (by decide : ¬ ((2 : Int32) < (2 : Int32)))).2.1 (by decide) (by decide) ?_
    refine own_il X5 hx 283 (hb hby own_d15_281) rfl rfl ?_
    refine own_bp X5 hx (6 : Int32) 285 (hb hby own_d15_283) rfl rfl ?_
    refine own_icN X5 hx 288 (hb hby own_d15_285) rfl (teq (by decide : (6 : Int32) = (6 : Int32))).2 ?_
    refine own_al X5 hx 290 (hb hby own_d15_288) rfl rfl rfl ?_
    refine own_il X5 hx 292 (hb hby own_d15_290) rfl rfl ?_
    refine own_ii X5 hx #[.val (.ref de), .val (.ref t), .val (.int (2 : Int32)), .val (.int (2 : Int32)), .val (.ref dd), .val (.ref tf), .val (.int ((0 : Int32) + (1 : Int32))), .val (.int (Int32.ofNat ((q0 / 4) * 262144 + (q0 % 4 * 16 + 0 / 16) * 4096))), .val (.int (6 : Int32)), .val (.int (Int32.ofNat (q0 % 4 * 16 + 0 / 16))), .unset] 295 (hb hby own_d15_292) rfl rfl rfl ?_
    refine own_il X5 hx 297 (hb hby own_d15_295) rfl rfl ?_
    refine own_bp X5 hx (16 : Int32) 299 (hb hby own_d15_297) rfl rfl ?_
    refine own_ishr X5 hx 300 (hb hby own_d15_299) rfl ?_
    refine own_i2b X5 hx 301 (hb hby own_d15_300) rfl ?_
    rw [show ((0 : Int32) + (1 : Int32)) = (1 : Int32) from by decide]
    rw [show (((Int32.ofNat ((q0 / 4) * 262144 + (q0 % 4 * 16 + 0 / 16) * 4096)) >>> ((16 : Int32) &&& 31)).toInt8.toInt32) = (own_by q0) from own_dby16 ((q0 / 4) * 262144 + (q0 % 4 * 16 + 0 / 16) * 4096) q0 (by omega) (by omega)]
    obtain ⟨cl16, Ar16, q16, Sz16, Nn16, Hs16, G16⟩ := id V14
    obtain ⟨T16, h16, X16, e16, W16, st16⟩ := stB X5 hx hZ e5 Ar16 (j := (0 : Int32)) (inb_of Sz16 ⟨by decide, by decide⟩) (g := (mkF m 301 #[.val (.ref de), .val (.ref t), .val (.int (2 : Int32)), .val (.int (2 : Int32)), .val (.ref dd), .val (.ref tf), .val (.int (1 : Int32)), .val (.int (Int32.ofNat ((q0 / 4) * 262144 + (q0 % 4 * 16 + 0 / 16) * 4096))), .val (.int (6 : Int32)), .val (.int (Int32.ofNat (q0 % 4 * 16 + 0 / 16))), .unset] [(.int (own_by q0)), (.int (0 : Int32)), (.ref dd)])) rfl rfl (hb hby own_d15_301)
    rw [own_narB] at W16
    refine own_go st16 ?_
    have V16 : Arv Z h16 dd kd .byte (1 : Int32) (([] : List Value) ++ [(.int (own_by q0))]) (.int 0) := own_store1 V14 (by rw [show ((1 : Int32).toNatClampNeg = 1) from by decide]; exact Nat.le_of_ble_eq_true rfl) (own_fitsB _) W16 (show (0 : Int32).toNatClampNeg = 0 from by decide)
    have N16 := Fr.snoc X16 N0 gdd
    have sz17 : h0.size ≤ h16.size := Nat.le_of_eq (Wr.size W16).symm
    have K17 := K0.wr W16 (Or.inl (List.mem_of_getElem? (i := 0) rfl))
    show own_Rn p e below _ (T16.setTop (mkF m 302 #[.val (.ref de), .val (.ref t), .val (.int (2 : Int32)), .val (.int (2 : Int32)), .val (.ref dd), .val (.ref tf), .val (.int (1 : Int32)), .val (.int (Int32.ofNat ((q0 / 4) * 262144 + (q0 % 4 * 16 + 0 / 16) * 4096))), .val (.int (6 : Int32)), .val (.int (Int32.ofNat (q0 % 4 * 16 + 0 / 16))), .unset] []))
    refine own_gt X16 hx 358 (hb hby own_d15_302) (by decide) (by decide) ?_
    refine own_iln X16 hx 359 (hb hby own_d15_358) rfl rfl ?_
    refine own_iln X16 hx 360 (hb hby own_d15_359) rfl rfl ?_
    refine own_icY X16 hx 416 (hb hby own_d15_360) (flt (by decide : ¬ ((2 : Int32) < (2 : Int32)))).2.1 (by decide) (by decide) ?_
    refine own_il X16 hx 418 (hb hby own_d15_416) rfl rfl ?_
    exact own_ret X16 (v := some (.int (1 : Int32))) (fun h => by rw [Bd.returns] at h; cases h) (fun fs hr => retI X16 hx Bd.returns (hb hby own_d15_418) hr) (by rw [e16]; exact ⟨rfl, N16, K17, V16⟩) (by decide) (by decide)
  · skip
    have hq0 : q0 < 256 := hB q0 (by simp)
    have hq1 : q1 < 256 := hB q1 (by simp)
    have V18 : Arv Z h0 t kt .byte (3 : Int32) [(.int (own_cb (q0 / 4))), (.int (own_cb (q0 % 4 * 16 + q1 / 16))), (.int (own_cb (q1 % 16 * 4 + 0 / 64)))] (.int 0) := Pm5
    have V19 : Arv Z h0 dd kd .byte (2 : Int32) [] (.int 0) := Pm8
    show own_Rn p e below _ (T5.setTop (mkF m 28 #[.val (.ref de), .val (.ref t), .val (.int (0 : Int32)), .val (.int (3 : Int32)), .val (.ref dd), .val (.ref tf), .val (.int (0 : Int32)), .val (.int (0 : Int32)), .val (.int (18 : Int32)), .unset, .unset] []))
    have F20 : Arv Z h0 tf kf .int (256 : Int32) (own_F.map Value.int) (.int 0) := ZF.ext X00.2
    refine It2 0 (q0 / 4) (0 : Int32) (Int32.ofNat ((q0 / 4) * 262144)) (18 : Int32) (12 : Int32) (0 : Int32) _ _ _ _ _ rfl (by omega) (own_acc18 _ (by omega)) (by decide) (by decide) One.u X5 e5 V18 F20 (Or.inr (show ¬ (0 : Int32) < (3 : Int32) - (4 : Int32) from by decide)) ?_
    show own_Rn p e below _ (T5.setTop (mkF m 28 #[.val (.ref de), .val (.ref t), .val (.int (1 : Int32)), .val (.int (3 : Int32)), .val (.ref dd), .val (.ref tf), .val (.int (0 : Int32)), .val (.int (Int32.ofNat ((q0 / 4) * 262144))), .val (.int (12 : Int32)), .val (.int (Int32.ofNat (q0 / 4))), .unset] []))
    refine It2 1 (q0 % 4 * 16 + q1 / 16) (Int32.ofNat ((q0 / 4) * 262144)) (Int32.ofNat ((q0 / 4) * 262144 + (q0 % 4 * 16 + q1 / 16) * 4096)) (12 : Int32) (6 : Int32) (0 : Int32) _ _ _ _ _ rfl (by omega) (own_acc12 _ _ (by omega) (by omega)) (by decide) (by decide) (One.val rfl) X5 e5 V18 F20 (Or.inl (by decide)) ?_
    show own_Rn p e below _ (T5.setTop (mkF m 28 #[.val (.ref de), .val (.ref t), .val (.int (2 : Int32)), .val (.int (3 : Int32)), .val (.ref dd), .val (.ref tf), .val (.int (0 : Int32)), .val (.int (Int32.ofNat ((q0 / 4) * 262144 + (q0 % 4 * 16 + q1 / 16) * 4096))), .val (.int (6 : Int32)), .val (.int (Int32.ofNat (q0 % 4 * 16 + q1 / 16))), .unset] []))
    refine It2 2 (q1 % 16 * 4 + 0 / 64) (Int32.ofNat ((q0 / 4) * 262144 + (q0 % 4 * 16 + q1 / 16) * 4096)) (Int32.ofNat ((q0 / 4) * 262144 + (q0 % 4 * 16 + q1 / 16) * 4096 + (q1 % 16 * 4 + 0 / 64) * 64)) (6 : Int32) (0 : Int32) (0 : Int32) _ _ _ _ _ rfl (by omega) (own_acc6 _ _ _ (by omega) (by omega) (by omega)) (by decide) (by decide) (One.val rfl) X5 e5 V18 F20 (Or.inl (by decide)) ?_
    show own_Rn p e below _ (T5.setTop (mkF m 28 #[.val (.ref de), .val (.ref t), .val (.int (3 : Int32)), .val (.int (3 : Int32)), .val (.ref dd), .val (.ref tf), .val (.int (0 : Int32)), .val (.int (Int32.ofNat ((q0 / 4) * 262144 + (q0 % 4 * 16 + q1 / 16) * 4096 + (q1 % 16 * 4 + 0 / 64) * 64))), .val (.int (0 : Int32)), .val (.int (Int32.ofNat (q1 % 16 * 4 + 0 / 64))), .unset] []))
    refine own_iln X5 hx 29 (hb hby own_d15_28) rfl rfl ?_
    refine own_iln X5 hx 30 (hb hby own_d15_29) rfl rfl ?_
    refine own_icY X5 hx 281 (hb hby own_d15_30) (flt (by decide : ¬ ((3 : Int32) < (3 : Int32)))).2.1 (by decide) (by decide) ?_
    refine own_il X5 hx 283 (hb hby own_d15_281) rfl rfl ?_
    refine own_bp X5 hx (6 : Int32) 285 (hb hby own_d15_283) rfl rfl ?_
    refine own_icY X5 hx 305 (hb hby own_d15_285) (feq (by decide : ¬ ((0 : Int32) = (6 : Int32)))).2 (by decide) (by decide) ?_
    refine own_il X5 hx 307 (hb hby own_d15_305) rfl rfl ?_
    refine own_ifN X5 hx 310 (hb hby own_d15_307) rfl ((if0 _ _).trans (teq (by decide : (0 : Int32) = (0 : Int32))).2) ?_
    refine own_al X5 hx 312 (hb hby own_d15_310) rfl rfl rfl ?_
    refine own_il X5 hx 314 (hb hby own_d15_312) rfl rfl ?_
    refine own_ii X5 hx #[.val (.ref de), .val (.ref t), .val (.int (3 : Int32)), .val (.int (3 : Int32)), .val (.ref dd), .val (.ref tf), .val (.int ((0 : Int32) + (1 : Int32))), .val (.int (Int32.ofNat ((q0 / 4) * 262144 + (q0 % 4 * 16 + q1 / 16) * 4096 + (q1 % 16 * 4 + 0 / 64) * 64))), .val (.int (0 : Int32)), .val (.int (Int32.ofNat (q1 % 16 * 4 + 0 / 64))), .unset] 317 (hb hby own_d15_314) rfl rfl rfl ?_
    refine own_il X5 hx 319 (hb hby own_d15_317) rfl rfl ?_
    refine own_bp X5 hx (16 : Int32) 321 (hb hby own_d15_319) rfl rfl ?_
    refine own_ishr X5 hx 322 (hb hby own_d15_321) rfl ?_
    refine own_i2b X5 hx 323 (hb hby own_d15_322) rfl ?_
    rw [show ((0 : Int32) + (1 : Int32)) = (1 : Int32) from by decide]
    rw [show (((Int32.ofNat ((q0 / 4) * 262144 + (q0 % 4 * 16 + q1 / 16) * 4096 + (q1 % 16 * 4 + 0 / 64) * 64)) >>> ((16 : Int32) &&& 31)).toInt8.toInt32) = (own_by q0) from own_dby16 ((q0 / 4) * 262144 + (q0 % 4 * 16 + q1 / 16) * 4096 + (q1 % 16 * 4 + 0 / 64) * 64) q0 (by omega) (by omega)]
    obtain ⟨cl21, Ar21, q21, Sz21, Nn21, Hs21, G21⟩ := id V19
    obtain ⟨T21, h21, X21, e21, W21, st21⟩ := stB X5 hx hZ e5 Ar21 (j := (0 : Int32)) (inb_of Sz21 ⟨by decide, by decide⟩) (g := (mkF m 323 #[.val (.ref de), .val (.ref t), .val (.int (3 : Int32)), .val (.int (3 : Int32)), .val (.ref dd), .val (.ref tf), .val (.int (1 : Int32)), .val (.int (Int32.ofNat ((q0 / 4) * 262144 + (q0 % 4 * 16 + q1 / 16) * 4096 + (q1 % 16 * 4 + 0 / 64) * 64))), .val (.int (0 : Int32)), .val (.int (Int32.ofNat (q1 % 16 * 4 + 0 / 64))), .unset] [(.int (own_by q0)), (.int (0 : Int32)), (.ref dd)])) rfl rfl (hb hby own_d15_323)
    rw [own_narB] at W21
    refine own_go st21 ?_
    have V21 : Arv Z h21 dd kd .byte (2 : Int32) (([] : List Value) ++ [(.int (own_by q0))]) (.int 0) := own_store1 V19 (by rw [show ((2 : Int32).toNatClampNeg = 2) from by decide]; exact Nat.le_of_ble_eq_true rfl) (own_fitsB _) W21 (show (0 : Int32).toNatClampNeg = 0 from by decide)
    have N21 := Fr.snoc X21 N0 gdd
    have sz22 : h0.size ≤ h21.size := Nat.le_of_eq (Wr.size W21).symm
    have K22 := K0.wr W21 (Or.inl (List.mem_of_getElem? (i := 0) rfl))
    show own_Rn p e below _ (T21.setTop (mkF m 324 #[.val (.ref de), .val (.ref t), .val (.int (3 : Int32)), .val (.int (3 : Int32)), .val (.ref dd), .val (.ref tf), .val (.int (1 : Int32)), .val (.int (Int32.ofNat ((q0 / 4) * 262144 + (q0 % 4 * 16 + q1 / 16) * 4096 + (q1 % 16 * 4 + 0 / 64) * 64))), .val (.int (0 : Int32)), .val (.int (Int32.ofNat (q1 % 16 * 4 + 0 / 64))), .unset] []))
    refine own_al X21 hx 326 (hb hby own_d15_324) rfl rfl rfl ?_
    refine own_il X21 hx 328 (hb hby own_d15_326) rfl rfl ?_
    refine own_ii X21 hx #[.val (.ref de), .val (.ref t), .val (.int (3 : Int32)), .val (.int (3 : Int32)), .val (.ref dd), .val (.ref tf), .val (.int ((1 : Int32) + (1 : Int32))), .val (.int (Int32.ofNat ((q0 / 4) * 262144 + (q0 % 4 * 16 + q1 / 16) * 4096 + (q1 % 16 * 4 + 0 / 64) * 64))), .val (.int (0 : Int32)), .val (.int (Int32.ofNat (q1 % 16 * 4 + 0 / 64))), .unset] 331 (hb hby own_d15_328) rfl rfl rfl ?_
    refine own_il X21 hx 333 (hb hby own_d15_331) rfl rfl ?_
    refine own_bp X21 hx (8 : Int32) 335 (hb hby own_d15_333) rfl rfl ?_
    refine own_ishr X21 hx 336 (hb hby own_d15_335) rfl ?_
    refine own_i2b X21 hx 337 (hb hby own_d15_336) rfl ?_
    rw [show ((1 : Int32) + (1 : Int32)) = (2 : Int32) from by decide]
    rw [show (((Int32.ofNat ((q0 / 4) * 262144 + (q0 % 4 * 16 + q1 / 16) * 4096 + (q1 % 16 * 4 + 0 / 64) * 64)) >>> ((8 : Int32) &&& 31)).toInt8.toInt32) = (own_by q1) from own_dby8 ((q0 / 4) * 262144 + (q0 % 4 * 16 + q1 / 16) * 4096 + (q1 % 16 * 4 + 0 / 64) * 64) q1 (by omega) (by omega)]
    obtain ⟨cl23, Ar23, q23, Sz23, Nn23, Hs23, G23⟩ := id V21
    obtain ⟨T23, h23, X23, e23, W23, st23⟩ := stB X21 hx hZ e21 Ar23 (j := (1 : Int32)) (inb_of Sz23 ⟨by decide, by decide⟩) (g := (mkF m 337 #[.val (.ref de), .val (.ref t), .val (.int (3 : Int32)), .val (.int (3 : Int32)), .val (.ref dd), .val (.ref tf), .val (.int (2 : Int32)), .val (.int (Int32.ofNat ((q0 / 4) * 262144 + (q0 % 4 * 16 + q1 / 16) * 4096 + (q1 % 16 * 4 + 0 / 64) * 64))), .val (.int (0 : Int32)), .val (.int (Int32.ofNat (q1 % 16 * 4 + 0 / 64))), .unset] [(.int (own_by q1)), (.int (1 : Int32)), (.ref dd)])) rfl rfl (hb hby own_d15_337)
    rw [own_narB] at W23
    refine own_go st23 ?_
    have V23 : Arv Z h23 dd kd .byte (2 : Int32) ((([] : List Value) ++ [Value.int (own_by q0)]) ++ [(.int (own_by q1))]) (.int 0) := own_store1 V21 (by rw [show ((2 : Int32).toNatClampNeg = 2) from by decide]; exact Nat.le_of_ble_eq_true rfl) (own_fitsB _) W23 (show (1 : Int32).toNatClampNeg = 1 from by decide)
    have N23 := Fr.snoc X23 N21 gdd
    have sz24 : h21.size ≤ h23.size := Nat.le_of_eq (Wr.size W23).symm
    have K24 := K22.wr W23 (Or.inl (List.mem_of_getElem? (i := 0) rfl))
    show own_Rn p e below _ (T23.setTop (mkF m 338 #[.val (.ref de), .val (.ref t), .val (.int (3 : Int32)), .val (.int (3 : Int32)), .val (.ref dd), .val (.ref tf), .val (.int (2 : Int32)), .val (.int (Int32.ofNat ((q0 / 4) * 262144 + (q0 % 4 * 16 + q1 / 16) * 4096 + (q1 % 16 * 4 + 0 / 64) * 64))), .val (.int (0 : Int32)), .val (.int (Int32.ofNat (q1 % 16 * 4 + 0 / 64))), .unset] []))
    refine own_gt X23 hx 358 (hb hby own_d15_338) (by decide) (by decide) ?_
    refine own_iln X23 hx 359 (hb hby own_d15_358) rfl rfl ?_
    refine own_iln X23 hx 360 (hb hby own_d15_359) rfl rfl ?_
    refine own_icY X23 hx 416 (hb hby own_d15_360) (flt (by decide : ¬ ((3 : Int32) < (3 : Int32)))).2.1 (by decide) (by decide) ?_
    refine own_il X23 hx 418 (hb hby own_d15_416) rfl rfl ?_
    exact own_ret X23 (v := some (.int (2 : Int32))) (fun h => by rw [Bd.returns] at h; cases h) (fun fs hr => retI X23 hx Bd.returns (hb hby own_d15_418) hr) (by rw [e23]; exact ⟨rfl, N23, K24, V23⟩) (by decide) (by decide)
  · skip
    have hq0 : q0 < 256 := hB q0 (by simp)
    have hq1 : q1 < 256 := hB q1 (by simp)
    have hq2 : q2 < 256 := hB q2 (by simp)
    have V25 : Arv Z h0 t kt .byte (4 : Int32) [(.int (own_cb (q0 / 4))), (.int (own_cb (q0 % 4 * 16 + q1 / 16))), (.int (own_cb (q1 % 16 * 4 + q2 / 64))), (.int (own_cb (q2 % 64)))] (.int 0) := Pm5
    have V26 : Arv Z h0 dd kd .byte (3 : Int32) [] (.int 0) := Pm8
    show own_Rn p e below _ (T5.setTop (mkF m 28 #[.val (.ref de), .val (.ref t), .val (.int (0 : Int32)), .val (.int (4 : Int32)), .val (.ref dd), .val (.ref tf), .val (.int (0 : Int32)), .val (.int (0 : Int32)), .val (.int (18 : Int32)), .unset, .unset] []))
    have F27 : Arv Z h0 tf kf .int (256 : Int32) (own_F.map Value.int) (.int 0) := ZF.ext X00.2
    refine It2 0 (q0 / 4) (0 : Int32) (Int32.ofNat ((q0 / 4) * 262144)) (18 : Int32) (12 : Int32) (0 : Int32) _ _ _ _ _ rfl (by omega) (own_acc18 _ (by omega)) (by decide) (by decide) One.u X5 e5 V25 F27 (Or.inr (show ¬ (0 : Int32) < (4 : Int32) - (4 : Int32) from by decide)) ?_
    show own_Rn p e below _ (T5.setTop (mkF m 28 #[.val (.ref de), .val (.ref t), .val (.int (1 : Int32)), .val (.int (4 : Int32)), .val (.ref dd), .val (.ref tf), .val (.int (0 : Int32)), .val (.int (Int32.ofNat ((q0 / 4) * 262144))), .val (.int (12 : Int32)), .val (.int (Int32.ofNat (q0 / 4))), .unset] []))
    refine It2 1 (q0 % 4 * 16 + q1 / 16) (Int32.ofNat ((q0 / 4) * 262144)) (Int32.ofNat ((q0 / 4) * 262144 + (q0 % 4 * 16 + q1 / 16) * 4096)) (12 : Int32) (6 : Int32) (0 : Int32) _ _ _ _ _ rfl (by omega) (own_acc12 _ _ (by omega) (by omega)) (by decide) (by decide) (One.val rfl) X5 e5 V25 F27 (Or.inl (by decide)) ?_
    show own_Rn p e below _ (T5.setTop (mkF m 28 #[.val (.ref de), .val (.ref t), .val (.int (2 : Int32)), .val (.int (4 : Int32)), .val (.ref dd), .val (.ref tf), .val (.int (0 : Int32)), .val (.int (Int32.ofNat ((q0 / 4) * 262144 + (q0 % 4 * 16 + q1 / 16) * 4096))), .val (.int (6 : Int32)), .val (.int (Int32.ofNat (q0 % 4 * 16 + q1 / 16))), .unset] []))
    refine It2 2 (q1 % 16 * 4 + q2 / 64) (Int32.ofNat ((q0 / 4) * 262144 + (q0 % 4 * 16 + q1 / 16) * 4096)) (Int32.ofNat ((q0 / 4) * 262144 + (q0 % 4 * 16 + q1 / 16) * 4096 + (q1 % 16 * 4 + q2 / 64) * 64)) (6 : Int32) (0 : Int32) (0 : Int32) _ _ _ _ _ rfl (by omega) (own_acc6 _ _ _ (by omega) (by omega) (by omega)) (by decide) (by decide) (One.val rfl) X5 e5 V25 F27 (Or.inl (by decide)) ?_
    show own_Rn p e below _ (T5.setTop (mkF m 28 #[.val (.ref de), .val (.ref t), .val (.int (3 : Int32)), .val (.int (4 : Int32)), .val (.ref dd), .val (.ref tf), .val (.int (0 : Int32)), .val (.int (Int32.ofNat ((q0 / 4) * 262144 + (q0 % 4 * 16 + q1 / 16) * 4096 + (q1 % 16 * 4 + q2 / 64) * 64))), .val (.int (0 : Int32)), .val (.int (Int32.ofNat (q1 % 16 * 4 + q2 / 64))), .unset] []))
    refine own_iln X5 hx 29 (hb hby own_d15_28) rfl rfl ?_
    refine own_iln X5 hx 30 (hb hby own_d15_29) rfl rfl ?_
    refine own_icN X5 hx 33 (hb hby own_d15_30) rfl (tlt (by decide : (3 : Int32) < (4 : Int32))).2.1 ?_
    refine own_il X5 hx 35 (hb hby own_d15_33) rfl rfl ?_
    refine own_bp X5 hx (18 : Int32) 37 (hb hby own_d15_35) rfl rfl ?_
    refine own_icY X5 hx 90 (hb hby own_d15_37) (feq (by decide : ¬ ((0 : Int32) = (18 : Int32)))).2 (by decide) (by decide) ?_
    refine own_iln X5 hx 91 (hb hby own_d15_90) rfl rfl ?_
    refine own_iln X5 hx 92 (hb hby own_d15_91) rfl rfl ?_
    refine own_icY X5 hx 98 (hb hby own_d15_92) (tlt (by decide : (3 : Int32) < (4 : Int32))).1 (by decide) (by decide) ?_
    refine own_aln X5 hx 99 (hb hby own_d15_98) rfl rfl rfl ?_
    refine own_iln X5 hx 100 (hb hby own_d15_99) rfl rfl ?_
    refine own_ii X5 hx #[.val (.ref de), .val (.ref t), .val (.int ((3 : Int32) + (1 : Int32))), .val (.int (4 : Int32)), .val (.ref dd), .val (.ref tf), .val (.int (0 : Int32)), .val (.int (Int32.ofNat ((q0 / 4) * 262144 + (q0 % 4 * 16 + q1 / 16) * 4096 + (q1 % 16 * 4 + q2 / 64) * 64))), .val (.int (0 : Int32)), .val (.int (Int32.ofNat (q1 % 16 * 4 + q2 / 64))), .unset] 103 (hb hby own_d15_100) rfl rfl rfl ?_
    rw [show ((3 : Int32) + (1 : Int32)) = (4 : Int32) from by decide]
    refine own_bal X5 hx hZ e5 V25 (own_cb (q2 % 64)) 104 (hb hby own_d15_103) rfl ⟨by decide, by decide⟩ rfl ?_
    refine own_sp X5 hx (255 : Int32) 107 (hb hby own_d15_104) rfl rfl ?_
    refine own_iand X5 hx 108 (hb hby own_d15_107) rfl ?_
    rw [show ((own_cb (q2 % 64)) &&& (255 : Int32)) = (Int32.ofNat (own_ct (q2 % 64))) from own_cbm _ (by omega)]
    refine own_is X5 hx #[.val (.ref de), .val (.ref t), .val (.int (4 : Int32)), .val (.int (4 : Int32)), .val (.ref dd), .val (.ref tf), .val (.int (0 : Int32)), .val (.int (Int32.ofNat ((q0 / 4) * 262144 + (q0 % 4 * 16 + q1 / 16) * 4096 + (q1 % 16 * 4 + q2 / 64) * 64))), .val (.int (0 : Int32)), .val (.int (Int32.ofNat (own_ct (q2 % 64)))), .unset] 110 (hb hby own_d15_108) rfl rfl ?_
    refine own_al X5 hx 112 (hb hby own_d15_110) rfl rfl rfl ?_
    refine own_il X5 hx 114 (hb hby own_d15_112) rfl rfl ?_
    refine own_ial X5 hx hZ e5 F27 (Int32.ofNat (q2 % 64)) 115 (hb hby own_d15_114) rfl (own_Fin _ (by omega)) (own_Fat _ (by omega) _) ?_
    refine own_dp X5 hx 116 (hb hby own_d15_115) rfl rfl ?_
    refine own_is X5 hx #[.val (.ref de), .val (.ref t), .val (.int (4 : Int32)), .val (.int (4 : Int32)), .val (.ref dd), .val (.ref tf), .val (.int (0 : Int32)), .val (.int (Int32.ofNat ((q0 / 4) * 262144 + (q0 % 4 * 16 + q1 / 16) * 4096 + (q1 % 16 * 4 + q2 / 64) * 64))), .val (.int (0 : Int32)), .val (.int (Int32.ofNat (q2 % 64))), .unset] 118 (hb hby own_d15_116) rfl rfl ?_
    refine own_ifY X5 hx 214 (hb hby own_d15_118) ((if0 _ _).trans (flt (own_nneg (by omega) : ¬ ((Int32.ofNat (q2 % 64)) < (0 : Int32)))).2.1) (by decide) (by decide) ?_
    refine own_il X5 hx 216 (hb hby own_d15_214) rfl rfl ?_
    refine own_il X5 hx 218 (hb hby own_d15_216) rfl rfl ?_
    refine own_il X5 hx 220 (hb hby own_d15_218) rfl rfl ?_
    refine own_ishl X5 hx 221 (hb hby own_d15_220) rfl ?_
    refine own_ior X5 hx 222 (hb hby own_d15_221) rfl ?_
    rw [show ((Int32.ofNat ((q0 / 4) * 262144 + (q0 % 4 * 16 + q1 / 16) * 4096 + (q1 % 16 * 4 + q2 / 64) * 64)) ||| ((Int32.ofNat (q2 % 64)) <<< ((0 : Int32) &&& 31))) = (Int32.ofNat ((q0 / 4) * 262144 + (q0 % 4 * 16 + q1 / 16) * 4096 + (q1 % 16 * 4 + q2 / 64) * 64 + (q2 % 64))) from own_accz _ _ (by omega) (by omega) (by omega)]
    refine own_is X5 hx #[.val (.ref de), .val (.ref t), .val (.int (4 : Int32)), .val (.int (4 : Int32)), .val (.ref dd), .val (.ref tf), .val (.int (0 : Int32)), .val (.int (Int32.ofNat ((q0 / 4) * 262144 + (q0 % 4 * 16 + q1 / 16) * 4096 + (q1 % 16 * 4 + q2 / 64) * 64 + (q2 % 64)))), .val (.int (0 : Int32)), .val (.int (Int32.ofNat (q2 % 64))), .unset] 224 (hb hby own_d15_222) rfl rfl ?_
    refine own_ii X5 hx #[.val (.ref de), .val (.ref t), .val (.int (4 : Int32)), .val (.int (4 : Int32)), .val (.ref dd), .val (.ref tf), .val (.int (0 : Int32)), .val (.int (Int32.ofNat ((q0 / 4) * 262144 + (q0 % 4 * 16 + q1 / 16) * 4096 + (q1 % 16 * 4 + q2 / 64) * 64 + (q2 % 64)))), .val (.int ((0 : Int32) + (-6 : Int32))), .val (.int (Int32.ofNat (q2 % 64))), .unset] 227 (hb hby own_d15_224) rfl rfl rfl ?_
    rw [show ((0 : Int32) + (-6 : Int32)) = (-6 : Int32) from by decide]
    refine own_il X5 hx 229 (hb hby own_d15_227) rfl rfl ?_
    refine own_ifN X5 hx 232 (hb hby own_d15_229) rfl ((if0 _ _).trans (tlt (by decide : (-6 : Int32) < (0 : Int32))).2.1) ?_
    refine own_al X5 hx 234 (hb hby own_d15_232) rfl rfl rfl ?_
    refine own_il X5 hx 236 (hb hby own_d15_234) rfl rfl ?_
    refine own_ii X5 hx #[.val (.ref de), .val (.ref t), .val (.int (4 : Int32)), .val (.int (4 : Int32)), .val (.ref dd), .val (.ref tf), .val (.int ((0 : Int32) + (1 : Int32))), .val (.int (Int32.ofNat ((q0 / 4) * 262144 + (q0 % 4 * 16 + q1 / 16) * 4096 + (q1 % 16 * 4 + q2 / 64) * 64 + (q2 % 64)))), .val (.int (-6 : Int32)), .val (.int (Int32.ofNat (q2 % 64))), .unset] 239 (hb hby own_d15_236) rfl rfl rfl ?_
    refine own_il X5 hx 241 (hb hby own_d15_239) rfl rfl ?_
    refine own_bp X5 hx (16 : Int32) 243 (hb hby own_d15_241) rfl rfl ?_
    refine own_ishr X5 hx 244 (hb hby own_d15_243) rfl ?_
    refine own_i2b X5 hx 245 (hb hby own_d15_244) rfl ?_
    rw [show ((0 : Int32) + (1 : Int32)) = (1 : Int32) from by decide]
    rw [show (((Int32.ofNat ((q0 / 4) * 262144 + (q0 % 4 * 16 + q1 / 16) * 4096 + (q1 % 16 * 4 + q2 / 64) * 64 + (q2 % 64))) >>> ((16 : Int32) &&& 31)).toInt8.toInt32) = (own_by q0) from own_dby16 ((q0 / 4) * 262144 + (q0 % 4 * 16 + q1 / 16) * 4096 + (q1 % 16 * 4 + q2 / 64) * 64 + (q2 % 64)) q0 (by omega) (by omega)]
    obtain ⟨cl28, Ar28, q28, Sz28, Nn28, Hs28, G28⟩ := id V26
    obtain ⟨T28, h28, X28, e28, W28, st28⟩ := stB X5 hx hZ e5 Ar28 (j := (0 : Int32)) (inb_of Sz28 ⟨by decide, by decide⟩) (g := (mkF m 245 #[.val (.ref de), .val (.ref t), .val (.int (4 : Int32)), .val (.int (4 : Int32)), .val (.ref dd), .val (.ref tf), .val (.int (1 : Int32)), .val (.int (Int32.ofNat ((q0 / 4) * 262144 + (q0 % 4 * 16 + q1 / 16) * 4096 + (q1 % 16 * 4 + q2 / 64) * 64 + (q2 % 64)))), .val (.int (-6 : Int32)), .val (.int (Int32.ofNat (q2 % 64))), .unset] [(.int (own_by q0)), (.int (0 : Int32)), (.ref dd)])) rfl rfl (hb hby own_d15_245)
    rw [own_narB] at W28
    refine own_go st28 ?_
    have V28 : Arv Z h28 dd kd .byte (3 : Int32) (([] : List Value) ++ [(.int (own_by q0))]) (.int 0) := own_store1 V26 (by rw [show ((3 : Int32).toNatClampNeg = 3) from by decide]; exact Nat.le_of_ble_eq_true rfl) (own_fitsB _) W28 (show (0 : Int32).toNatClampNeg = 0 from by decide)
    have N28 := Fr.snoc X28 N0 gdd
    have sz29 : h0.size ≤ h28.size := Nat.le_of_eq (Wr.size W28).symm
    have K29 := K0.wr W28 (Or.inl (List.mem_of_getElem? (i := 0) rfl))
    show own_Rn p e below _ (T28.setTop (mkF m 246 #[.val (.ref de), .val (.ref t), .val (.int (4 : Int32)), .val (.int (4 : Int32)), .val (.ref dd), .val (.ref tf), .val (.int (1 : Int32)), .val (.int (Int32.ofNat ((q0 / 4) * 262144 + (q0 % 4 * 16 + q1 / 16) * 4096 + (q1 % 16 * 4 + q2 / 64) * 64 + (q2 % 64)))), .val (.int (-6 : Int32)), .val (.int (Int32.ofNat (q2 % 64))), .unset] []))
    refine own_al X28 hx 248 (hb hby own_d15_246) rfl rfl rfl ?_
    refine own_il X28 hx 250 (hb hby own_d15_248) rfl rfl ?_
    refine own_ii X28 hx #[.val (.ref de), .val (.ref t), .val (.int (4 : Int32)), .val (.int (4 : Int32)), .val (.ref dd), .val (.ref tf), .val (.int ((1 : Int32) + (1 : Int32))), .val (.int (Int32.ofNat ((q0 / 4) * 262144 + (q0 % 4 * 16 + q1 / 16) * 4096 + (q1 % 16 * 4 + q2 / 64) * 64 + (q2 % 64)))), .val (.int (-6 : Int32)), .val (.int (Int32.ofNat (q2 % 64))), .unset] 253 (hb hby own_d15_250) rfl rfl rfl ?_
    refine own_il X28 hx 255 (hb hby own_d15_253) rfl rfl ?_
    refine own_bp X28 hx (8 : Int32) 257 (hb hby own_d15_255) rfl rfl ?_
    refine own_ishr X28 hx 258 (hb hby own_d15_257) rfl ?_
    refine own_i2b X28 hx 259 (hb hby own_d15_258) rfl ?_
    rw [show ((1 : Int32) + (1 : Int32)) = (2 : Int32) from by decide]
    rw [show (((Int32.ofNat ((q0 / 4) * 262144 + (q0 % 4 * 16 + q1 / 16) * 4096 + (q1 % 16 * 4 + q2 / 64) * 64 + (q2 % 64))) >>> ((8 : Int32) &&& 31)).toInt8.toInt32) = (own_by q1) from own_dby8 ((q0 / 4) * 262144 + (q0 % 4 * 16 + q1 / 16) * 4096 + (q1 % 16 * 4 + q2 / 64) * 64 + (q2 % 64)) q1 (by omega) (by omega)]
    obtain ⟨cl30, Ar30, q30, Sz30, Nn30, Hs30, G30⟩ := id V28
    obtain ⟨T30, h30, X30, e30, W30, st30⟩ := stB X28 hx hZ e28 Ar30 (j := (1 : Int32)) (inb_of Sz30 ⟨by decide, by decide⟩) (g := (mkF m 259 #[.val (.ref de), .val (.ref t), .val (.int (4 : Int32)), .val (.int (4 : Int32)), .val (.ref dd), .val (.ref tf), .val (.int (2 : Int32)), .val (.int (Int32.ofNat ((q0 / 4) * 262144 + (q0 % 4 * 16 + q1 / 16) * 4096 + (q1 % 16 * 4 + q2 / 64) * 64 + (q2 % 64)))), .val (.int (-6 : Int32)), .val (.int (Int32.ofNat (q2 % 64))), .unset] [(.int (own_by q1)), (.int (1 : Int32)), (.ref dd)])) rfl rfl (hb hby own_d15_259)
    rw [own_narB] at W30
    refine own_go st30 ?_
    have V30 : Arv Z h30 dd kd .byte (3 : Int32) ((([] : List Value) ++ [Value.int (own_by q0)]) ++ [(.int (own_by q1))]) (.int 0) := own_store1 V28 (by rw [show ((3 : Int32).toNatClampNeg = 3) from by decide]; exact Nat.le_of_ble_eq_true rfl) (own_fitsB _) W30 (show (1 : Int32).toNatClampNeg = 1 from by decide)
    have N30 := Fr.snoc X30 N28 gdd
    have sz31 : h28.size ≤ h30.size := Nat.le_of_eq (Wr.size W30).symm
    have K31 := K29.wr W30 (Or.inl (List.mem_of_getElem? (i := 0) rfl))
    show own_Rn p e below _ (T30.setTop (mkF m 260 #[.val (.ref de), .val (.ref t), .val (.int (4 : Int32)), .val (.int (4 : Int32)), .val (.ref dd), .val (.ref tf), .val (.int (2 : Int32)), .val (.int (Int32.ofNat ((q0 / 4) * 262144 + (q0 % 4 * 16 + q1 / 16) * 4096 + (q1 % 16 * 4 + q2 / 64) * 64 + (q2 % 64)))), .val (.int (-6 : Int32)), .val (.int (Int32.ofNat (q2 % 64))), .unset] []))
    refine own_al X30 hx 262 (hb hby own_d15_260) rfl rfl rfl ?_
    refine own_il X30 hx 264 (hb hby own_d15_262) rfl rfl ?_
    refine own_ii X30 hx #[.val (.ref de), .val (.ref t), .val (.int (4 : Int32)), .val (.int (4 : Int32)), .val (.ref dd), .val (.ref tf), .val (.int ((2 : Int32) + (1 : Int32))), .val (.int (Int32.ofNat ((q0 / 4) * 262144 + (q0 % 4 * 16 + q1 / 16) * 4096 + (q1 % 16 * 4 + q2 / 64) * 64 + (q2 % 64)))), .val (.int (-6 : Int32)), .val (.int (Int32.ofNat (q2 % 64))), .unset] 267 (hb hby own_d15_264) rfl rfl rfl ?_
    refine own_il X30 hx 269 (hb hby own_d15_267) rfl rfl ?_
    refine own_i2b X30 hx 270 (hb hby own_d15_269) rfl ?_
    rw [show ((2 : Int32) + (1 : Int32)) = (3 : Int32) from by decide]
    rw [show ((Int32.ofNat ((q0 / 4) * 262144 + (q0 % 4 * 16 + q1 / 16) * 4096 + (q1 % 16 * 4 + q2 / 64) * 64 + (q2 % 64))).toInt8.toInt32) = (own_by q2) from own_dby0 ((q0 / 4) * 262144 + (q0 % 4 * 16 + q1 / 16) * 4096 + (q1 % 16 * 4 + q2 / 64) * 64 + (q2 % 64)) q2 (by omega) (by omega)]
    obtain ⟨cl32, Ar32, q32, Sz32, Nn32, Hs32, G32⟩ := id V30
    obtain ⟨T32, h32, X32, e32, W32, st32⟩ := stB X30 hx hZ e30 Ar32 (j := (2 : Int32)) (inb_of Sz32 ⟨by decide, by decide⟩) (g := (mkF m 270 #[.val (.ref de), .val (.ref t), .val (.int (4 : Int32)), .val (.int (4 : Int32)), .val (.ref dd), .val (.ref tf), .val (.int (3 : Int32)), .val (.int (Int32.ofNat ((q0 / 4) * 262144 + (q0 % 4 * 16 + q1 / 16) * 4096 + (q1 % 16 * 4 + q2 / 64) * 64 + (q2 % 64)))), .val (.int (-6 : Int32)), .val (.int (Int32.ofNat (q2 % 64))), .unset] [(.int (own_by q2)), (.int (2 : Int32)), (.ref dd)])) rfl rfl (hb hby own_d15_270)
    rw [own_narB] at W32
    refine own_go st32 ?_
    have V32 : Arv Z h32 dd kd .byte (3 : Int32) (((([] : List Value) ++ [Value.int (own_by q0)]) ++ [Value.int (own_by q1)]) ++ [(.int (own_by q2))]) (.int 0) := own_store1 V30 (by rw [show ((3 : Int32).toNatClampNeg = 3) from by decide]; exact Nat.le_of_ble_eq_true rfl) (own_fitsB _) W32 (show (2 : Int32).toNatClampNeg = 2 from by decide)
    have N32 := Fr.snoc X32 N30 gdd
    have sz33 : h30.size ≤ h32.size := Nat.le_of_eq (Wr.size W32).symm
    have K33 := K31.wr W32 (Or.inl (List.mem_of_getElem? (i := 0) rfl))
    show own_Rn p e below _ (T32.setTop (mkF m 271 #[.val (.ref de), .val (.ref t), .val (.int (4 : Int32)), .val (.int (4 : Int32)), .val (.ref dd), .val (.ref tf), .val (.int (3 : Int32)), .val (.int (Int32.ofNat ((q0 / 4) * 262144 + (q0 % 4 * 16 + q1 / 16) * 4096 + (q1 % 16 * 4 + q2 / 64) * 64 + (q2 % 64)))), .val (.int (-6 : Int32)), .val (.int (Int32.ofNat (q2 % 64))), .unset] []))
    refine own_bp X32 hx (18 : Int32) 273 (hb hby own_d15_271) rfl rfl ?_
    refine own_is X32 hx #[.val (.ref de), .val (.ref t), .val (.int (4 : Int32)), .val (.int (4 : Int32)), .val (.ref dd), .val (.ref tf), .val (.int (3 : Int32)), .val (.int (Int32.ofNat ((q0 / 4) * 262144 + (q0 % 4 * 16 + q1 / 16) * 4096 + (q1 % 16 * 4 + q2 / 64) * 64 + (q2 % 64)))), .val (.int (18 : Int32)), .val (.int (Int32.ofNat (q2 % 64))), .unset] 275 (hb hby own_d15_273) rfl rfl ?_
    refine own_ic X32 hx (0 : Int32) 276 (hb hby own_d15_275) rfl rfl ?_
    refine own_is X32 hx #[.val (.ref de), .val (.ref t), .val (.int (4 : Int32)), .val (.int (4 : Int32)), .val (.ref dd), .val (.ref tf), .val (.int (3 : Int32)), .val (.int (0 : Int32)), .val (.int (18 : Int32)), .val (.int (Int32.ofNat (q2 % 64))), .unset] 278 (hb hby own_d15_276) rfl rfl ?_
    refine own_gt X32 hx 28 (hb hby own_d15_278) (by decide) (by decide) ?_
    refine own_iln X32 hx 29 (hb hby own_d15_28) rfl rfl ?_
    refine own_iln X32 hx 30 (hb hby own_d15_29) rfl rfl ?_
    refine own_icY X32 hx 281 (hb hby own_d15_30) (flt (by decide : ¬ ((4 : Int32) < (4 : Int32)))).2.1 (by decide) (by decide) ?_
    refine own_il X32 hx 283 (hb hby own_d15_281) rfl rfl ?_
    refine own_bp X32 hx (6 : Int32) 285 (hb hby own_d15_283) rfl rfl ?_
    refine own_icY X32 hx 305 (hb hby own_d15_285) (feq (by decide : ¬ ((18 : Int32) = (6 : Int32)))).2 (by decide) (by decide) ?_
    refine own_il X32 hx 307 (hb hby own_d15_305) rfl rfl ?_
    refine own_ifY X32 hx 341 (hb hby own_d15_307) ((if0 _ _).trans (feq (by decide : ¬ ((18 : Int32) = (0 : Int32)))).2) (by decide) (by decide) ?_
    refine own_il X32 hx 343 (hb hby own_d15_341) rfl rfl ?_
    refine own_bp X32 hx (12 : Int32) 345 (hb hby own_d15_343) rfl rfl ?_
    refine own_icY X32 hx 358 (hb hby own_d15_345) (feq (by decide : ¬ ((18 : Int32) = (12 : Int32)))).2 (by decide) (by decide) ?_
    refine own_iln X32 hx 359 (hb hby own_d15_358) rfl rfl ?_
    refine own_iln X32 hx 360 (hb hby own_d15_359) rfl rfl ?_
    refine own_icY X32 hx 416 (hb hby own_d15_360) (flt (by decide : ¬ ((4 : Int32) < (4 : Int32)))).2.1 (by decide) (by decide) ?_
    refine own_il X32 hx 418 (hb hby own_d15_416) rfl rfl ?_
    exact own_ret X32 (v := some (.int (3 : Int32))) (fun h => by rw [Bd.returns] at h; cases h) (fun fs hr => retI X32 hx Bd.returns (hb hby own_d15_418) hr) (by rw [e32]; exact ⟨rfl, N32, K33, V32⟩) (by decide) (by decide)
  · skip
    have hq0 : q0 < 256 := hB q0 (by simp)
    have hq1 : q1 < 256 := hB q1 (by simp)
    have hq2 : q2 < 256 := hB q2 (by simp)
    have hq3 : q3 < 256 := hB q3 (by simp)
    have V34 : Arv Z h0 t kt .byte (6 : Int32) [(.int (own_cb (q0 / 4))), (.int (own_cb (q0 % 4 * 16 + q1 / 16))), (.int (own_cb (q1 % 16 * 4 + q2 / 64))), (.int (own_cb (q2 % 64))), (.int (own_cb (q3 / 4))), (.int (own_cb (q3 % 4 * 16 + 0 / 16)))] (.int 0) := Pm5
    have V35 : Arv Z h0 dd kd .byte (4 : Int32) [] (.int 0) := Pm8
    show own_Rn p e below _ (T5.setTop (mkF m 28 #[.val (.ref de), .val (.ref t), .val (.int (0 : Int32)), .val (.int (6 : Int32)), .val (.ref dd), .val (.ref tf), .val (.int (0 : Int32)), .val (.int (0 : Int32)), .val (.int (18 : Int32)), .unset, .unset] []))
    refine own_iln X5 hx 29 (hb hby own_d15_28) rfl rfl ?_
    refine own_iln X5 hx 30 (hb hby own_d15_29) rfl rfl ?_
    refine own_icN X5 hx 33 (hb hby own_d15_30) rfl (tlt (by decide : (0 : Int32) < (6 : Int32))).2.1 ?_
    refine own_il X5 hx 35 (hb hby own_d15_33) rfl rfl ?_
    refine own_bp X5 hx (18 : Int32) 37 (hb hby own_d15_35) rfl rfl ?_
    refine own_icN X5 hx 40 (hb hby own_d15_37) rfl (teq (by decide : (18 : Int32) = (18 : Int32))).2 ?_
    refine own_iln X5 hx 41 (hb hby own_d15_40) rfl rfl ?_
    refine own_iln X5 hx 42 (hb hby own_d15_41) rfl rfl ?_
    refine own_ic X5 hx (4 : Int32) 43 (hb hby own_d15_42) rfl rfl ?_
    refine own_isub X5 hx 44 (hb hby own_d15_43) rfl ?_
    refine own_icN X5 hx 47 (hb hby own_d15_44) rfl (tlt (by decide : (0 : Int32) < ((6 : Int32) - (4 : Int32)))).2.1 ?_
    refine own_aln X5 hx 48 (hb hby own_d15_47) rfl rfl rfl ?_
    refine own_aln X5 hx 49 (hb hby own_d15_48) rfl rfl rfl ?_
    refine own_iln X5 hx 50 (hb hby own_d15_49) rfl rfl ?_
    refine own_iln X5 hx 51 (hb hby own_d15_50) rfl rfl ?_
    refine own_al X5 hx 53 (hb hby own_d15_51) rfl rfl rfl ?_
    refine own_il X5 hx 55 (hb hby own_d15_53) rfl rfl ?_
    refine own_aln X5 hx 56 (hb hby own_d15_55) rfl rfl rfl ?_
    refine own_gF X5 hx hZ hown (host := "") (Or.inl (hw _ (own_mi 93 rfl))) Via.refl e5 F3 59 (hb hby own_d15_56) rfl ?_
    intro T36 X36 e36
    refine own_aln X36 hx 60 (hb hby own_d15_59) rfl rfl rfl ?_
    have F37 : Fld Z h0 de "java/util/Base64$Decoder" "isMIME" "Z" (.int (0 : Int32)) := ZD2.ext X00.2
    refine own_gF X36 hx hZ hown (host := "") (Or.inl (hw _ (own_mi 96 rfl))) Via.refl e36 F37 63 (hb hby own_d15_60) rfl ?_
    intro T38 X38 e38
    have Zn39 : n0 ≤ h0.size := (Nat.le_trans Z0 (Nat.le_refl _))
    have F40 : Exa Z h0 de "java/util/Base64$Decoder" := ZD.ext X00.2
    refine own_cP X38 hx hZ (y := (⟨"java/util/Base64$Decoder", "decodeBlock", "([BII[BIZZ)I"⟩ : MethodName)) hown (hw _ (own_mi 179 rfl)) (hw _ (own_mi 180 rfl)) (hw _ (own_mi 182 rfl)) (hw _ (own_mi 181 rfl)) (hw _ (own_mi 183 rfl)) (hw _ (own_mi 48 rfl)) (by decide) (rmDB l Z a0 hw [] (de) (t) (kt) ((6 : Int32)) ([(.int (own_cb (q3 / 4))), (.int (own_cb (q3 % 4 * 16 + 0 / 16)))]) (q0) (q1) (q2) (dd) (kd) ((4 : Int32)) (tf) (kf) h0 n0 Zn39 (OF) ZF V34 (Or.inl rfl) (hq0) (hq1) (hq2) V35 (Or.inl rfl) gdd (ntd) X00) F40 e38 [(.ref t), (.int (0 : Int32)), (.int (6 : Int32)), (.ref dd), (.int (0 : Int32)), (.int (1 : Int32)), (.int (0 : Int32))] [] rfl (by rw [hml]; rfl) (lenOf own_pd_285bBII5bBIZZ29I rfl) rfl 0 (Nat.le_of_eq rfl) (by decide) (by decide) (by decide : 0 + 0 ≤ _) (by decide : 0 + 0 ≤ _) 66 (hb hby own_d15_63) rfl 0 0 rfl rfl ?_
    intro rv39 T39 Lc39 X39 hQ39
    obtain ⟨rfl, Nq39, Kq39, G0_39⟩ := hQ39
    have N39 := Fr.app N0 Nq39
    have sz41 : h0.size ≤ T39.heap.size := Kq39.1
    have K41 := K0.trans Kq39 (allS (Or.inl (List.mem_of_getElem? (i := 0) rfl)) all0)
    show own_Rn p e below _ (T39.setTop (mkF m 66 #[.val (.ref de), .val (.ref t), .val (.int (0 : Int32)), .val (.int (6 : Int32)), .val (.ref dd), .val (.ref tf), .val (.int (0 : Int32)), .val (.int (0 : Int32)), .val (.int (18 : Int32)), .unset, .unset] [(.int (3 : Int32))]))
    refine own_is X39 hx #[.val (.ref de), .val (.ref t), .val (.int (0 : Int32)), .val (.int (6 : Int32)), .val (.ref dd), .val (.ref tf), .val (.int (0 : Int32)), .val (.int (0 : Int32)), .val (.int (18 : Int32)), .val (.int (3 : Int32)), .unset] 68 (hb hby own_d15_66) rfl rfl ?_
    refine own_il X39 hx 70 (hb hby own_d15_68) rfl rfl ?_
    refine own_ic X39 hx (2 : Int32) 71 (hb hby own_d15_70) rfl rfl ?_
    refine own_iadd X39 hx 72 (hb hby own_d15_71) rfl ?_
    refine own_ic X39 hx (3 : Int32) 73 (hb hby own_d15_72) rfl rfl ?_
    refine own_idiv X39 hx 74 (hb hby own_d15_73) rfl (by decide) ?_
    refine own_ic X39 hx (4 : Int32) 75 (hb hby own_d15_74) rfl rfl ?_
    refine own_imul X39 hx 76 (hb hby own_d15_75) rfl ?_
    rw [show ((((3 : Int32) + (2 : Int32)) / (3 : Int32)) * (4 : Int32)) = (4 : Int32) from by decide]
    refine own_is X39 hx #[.val (.ref de), .val (.ref t), .val (.int (0 : Int32)), .val (.int (6 : Int32)), .val (.ref dd), .val (.ref tf), .val (.int (0 : Int32)), .val (.int (0 : Int32)), .val (.int (18 : Int32)), .val (.int (3 : Int32)), .val (.int (4 : Int32))] 78 (hb hby own_d15_76) rfl rfl ?_
    refine own_iln X39 hx 79 (hb hby own_d15_78) rfl rfl ?_
    refine own_il X39 hx 81 (hb hby own_d15_79) rfl rfl ?_
    refine own_iadd X39 hx 82 (hb hby own_d15_81) rfl ?_
    rw [show ((0 : Int32) + (4 : Int32)) = (4 : Int32) from by decide]
    refine own_isn X39 hx #[.val (.ref de), .val (.ref t), .val (.int (4 : Int32)), .val (.int (6 : Int32)), .val (.ref dd), .val (.ref tf), .val (.int (0 : Int32)), .val (.int (0 : Int32)), .val (.int (18 : Int32)), .val (.int (3 : Int32)), .val (.int (4 : Int32))] 83 (hb hby own_d15_82) rfl rfl ?_
    refine own_il X39 hx 85 (hb hby own_d15_83) rfl rfl ?_
    refine own_il X39 hx 87 (hb hby own_d15_85) rfl rfl ?_
    refine own_iadd X39 hx 88 (hb hby own_d15_87) rfl ?_
    rw [show ((0 : Int32) + (3 : Int32)) = (3 : Int32) from by decide]
    refine own_is X39 hx #[.val (.ref de), .val (.ref t), .val (.int (4 : Int32)), .val (.int (6 : Int32)), .val (.ref dd), .val (.ref tf), .val (.int (3 : Int32)), .val (.int (0 : Int32)), .val (.int (18 : Int32)), .val (.int (3 : Int32)), .val (.int (4 : Int32))] 90 (hb hby own_d15_88) rfl rfl ?_
    have F42 : Arv Z T39.heap t kt .byte (6 : Int32) [(.int (own_cb (q0 / 4))), (.int (own_cb (q0 % 4 * 16 + q1 / 16))), (.int (own_cb (q1 % 16 * 4 + q2 / 64))), (.int (own_cb (q2 % 64))), (.int (own_cb (q3 / 4))), (.int (own_cb (q3 % 4 * 16 + 0 / 16)))] (.int 0) := (V34.keep Kq39 (ninS ntd nin0))
    have F44 : Old Z n0 T39.heap := (X00.keep Kq39 (allS gdd all0))
    have F43 : Arv Z T39.heap tf kf .int (256 : Int32) (own_F.map Value.int) (.int 0) := ZF.ext F44.2
    refine It 4 (q3 / 4) (0 : Int32) (Int32.ofNat ((q3 / 4) * 262144)) (18 : Int32) (12 : Int32) (3 : Int32) _ _ _ _ _ rfl (by omega) (own_acc18 _ (by omega)) (by decide) (by decide) (One.val rfl) X39 rfl F42 F43 ?_
    show own_Rn p e below _ (T39.setTop (mkF m 28 #[.val (.ref de), .val (.ref t), .val (.int (5 : Int32)), .val (.int (6 : Int32)), .val (.ref dd), .val (.ref tf), .val (.int (3 : Int32)), .val (.int (Int32.ofNat ((q3 / 4) * 262144))), .val (.int (12 : Int32)), .val (.int (Int32.ofNat (q3 / 4))), .val (.int (4 : Int32))] []))
    refine It2 5 (q3 % 4 * 16 + 0 / 16) (Int32.ofNat ((q3 / 4) * 262144)) (Int32.ofNat ((q3 / 4) * 262144 + (q3 % 4 * 16 + 0 / 16) * 4096)) (12 : Int32) (6 : Int32) (3 : Int32) _ _ _ _ _ rfl (by omega) (own_acc12 _ _ (by omega) (by omega)) (by decide) (by decide) (One.val rfl) X39 rfl F42 F43 (Or.inl (by decide)) ?_
    show own_Rn p e below _ (T39.setTop (mkF m 28 #[.val (.ref de), .val (.ref t), .val (.int (6 : Int32)), .val (.int (6 : Int32)), .val (.ref dd), .val (.ref tf), .val (.int (3 : Int32)), .val (.int (Int32.ofNat ((q3 / 4) * 262144 + (q3 % 4 * 16 + 0 / 16) * 4096))), .val (.int (6 : Int32)), .val (.int (Int32.ofNat (q3 % 4 * 16 + 0 / 16))), .val (.int (4 : Int32))] []))
    refine own_iln X39 hx 29 (hb hby own_d15_28) rfl rfl ?_
    refine own_iln X39 hx 30 (hb hby own_d15_29) rfl rfl ?_
    refine own_icY X39 hx 281 (hb hby own_d15_30) (flt (by decide : ¬ ((6 : Int32) < (6 : Int32)))).2.1 (by decide) (by decide) ?_
    refine own_il X39 hx 283 (hb hby own_d15_281) rfl rfl ?_
    refine own_bp X39 hx (6 : Int32) 285 (hb hby own_d15_283) rfl rfl ?_
    refine own_icN X39 hx 288 (hb hby own_d15_285) rfl (teq (by decide : (6 : Int32) = (6 : Int32))).2 ?_
    refine own_al X39 hx 290 (hb hby own_d15_288) rfl rfl rfl ?_
    refine own_il X39 hx 292 (hb hby own_d15_290) rfl rfl ?_
    refine own_ii X39 hx #[.val (.ref de), .val (.ref t), .val (.int (6 : Int32)), .val (.int (6 : Int32)), .val (.ref dd), .val (.ref tf), .val (.int ((3 : Int32) + (1 : Int32))), .val (.int (Int32.ofNat ((q3 / 4) * 262144 + (q3 % 4 * 16 + 0 / 16) * 4096))), .val (.int (6 : Int32)), .val (.int (Int32.ofNat (q3 % 4 * 16 + 0 / 16))), .val (.int (4 : Int32))] 295 (hb hby own_d15_292) rfl rfl rfl ?_
    refine own_il X39 hx 297 (hb hby own_d15_295) rfl rfl ?_
    refine own_bp X39 hx (16 : Int32) 299 (hb hby own_d15_297) rfl rfl ?_
    refine own_ishr X39 hx 300 (hb hby own_d15_299) rfl ?_
    refine own_i2b X39 hx 301 (hb hby own_d15_300) rfl ?_
    rw [show ((3 : Int32) + (1 : Int32)) = (4 : Int32) from by decide]
    rw [show (((Int32.ofNat ((q3 / 4) * 262144 + (q3 % 4 * 16 + 0 / 16) * 4096)) >>> ((16 : Int32) &&& 31)).toInt8.toInt32) = (own_by q3) from own_dby16 ((q3 / 4) * 262144 + (q3 % 4 * 16 + 0 / 16) * 4096) q3 (by omega) (by omega)]
    obtain ⟨cl45, Ar45, q45, Sz45, Nn45, Hs45, G45⟩ := id G0_39
    obtain ⟨T45, h45, X45, e45, W45, st45⟩ := stB X39 hx hZ rfl Ar45 (j := (3 : Int32)) (inb_of Sz45 ⟨by decide, by decide⟩) (g := (mkF m 301 #[.val (.ref de), .val (.ref t), .val (.int (6 : Int32)), .val (.int (6 : Int32)), .val (.ref dd), .val (.ref tf), .val (.int (4 : Int32)), .val (.int (Int32.ofNat ((q3 / 4) * 262144 + (q3 % 4 * 16 + 0 / 16) * 4096))), .val (.int (6 : Int32)), .val (.int (Int32.ofNat (q3 % 4 * 16 + 0 / 16))), .val (.int (4 : Int32))] [(.int (own_by q3)), (.int (3 : Int32)), (.ref dd)])) rfl rfl (hb hby own_d15_301)
    rw [own_narB] at W45
    refine own_go st45 ?_
    have V45 : Arv Z h45 dd kd .byte (4 : Int32) (([(.int (own_by q0)), (.int (own_by q1)), (.int (own_by q2))] : List Value) ++ [(.int (own_by q3))]) (.int 0) := own_store1 G0_39 (by rw [show ((4 : Int32).toNatClampNeg = 4) from by decide]; exact Nat.le_of_ble_eq_true rfl) (own_fitsB _) W45 (show (3 : Int32).toNatClampNeg = 3 from by decide)
    have N45 := Fr.snoc X45 N39 gdd
    have sz46 : T39.heap.size ≤ h45.size := Nat.le_of_eq (Wr.size W45).symm
    have K46 := K41.wr W45 (Or.inl (List.mem_of_getElem? (i := 0) rfl))
    show own_Rn p e below _ (T45.setTop (mkF m 302 #[.val (.ref de), .val (.ref t), .val (.int (6 : Int32)), .val (.int (6 : Int32)), .val (.ref dd), .val (.ref tf), .val (.int (4 : Int32)), .val (.int (Int32.ofNat ((q3 / 4) * 262144 + (q3 % 4 * 16 + 0 / 16) * 4096))), .val (.int (6 : Int32)), .val (.int (Int32.ofNat (q3 % 4 * 16 + 0 / 16))), .val (.int (4 : Int32))] []))
    refine own_gt X45 hx 358 (hb hby own_d15_302) (by decide) (by decide) ?_
    refine own_iln X45 hx 359 (hb hby own_d15_358) rfl rfl ?_
    refine own_iln X45 hx 360 (hb hby own_d15_359) rfl rfl ?_
    refine own_icY X45 hx 416 (hb hby own_d15_360) (flt (by decide : ¬ ((6 : Int32) < (6 : Int32)))).2.1 (by decide) (by decide) ?_
    refine own_il X45 hx 418 (hb hby own_d15_416) rfl rfl ?_
    exact own_ret X45 (v := some (.int (4 : Int32))) (fun h => by rw [Bd.returns] at h; cases h) (fun fs hr => retI X45 hx Bd.returns (hb hby own_d15_418) hr) (by rw [e45]; exact ⟨rfl, N45, K46, V45⟩) (by decide) (by decide)
  · skip
    have hq0 : q0 < 256 := hB q0 (by simp)
    have hq1 : q1 < 256 := hB q1 (by simp)
    have hq2 : q2 < 256 := hB q2 (by simp)
    have hq3 : q3 < 256 := hB q3 (by simp)
    have hq4 : q4 < 256 := hB q4 (by simp)
    have V47 : Arv Z h0 t kt .byte (7 : Int32) [(.int (own_cb (q0 / 4))), (.int (own_cb (q0 % 4 * 16 + q1 / 16))), (.int (own_cb (q1 % 16 * 4 + q2 / 64))), (.int (own_cb (q2 % 64))), (.int (own_cb (q3 / 4))), (.int (own_cb (q3 % 4 * 16 + q4 / 16))), (.int (own_cb (q4 % 16 * 4 + 0 / 64)))] (.int 0) := Pm5
    have V48 : Arv Z h0 dd kd .byte (5 : Int32) [] (.int 0) := Pm8
    show own_Rn p e below _ (T5.setTop (mkF m 28 #[.val (.ref de), .val (.ref t), .val (.int (0 : Int32)), .val (.int (7 : Int32)), .val (.ref dd), .val (.ref tf), .val (.int (0 : Int32)), .val (.int (0 : Int32)), .val (.int (18 : Int32)), .unset, .unset] []))
    refine own_iln X5 hx 29 (hb hby own_d15_28) rfl rfl ?_
    refine own_iln X5 hx 30 (hb hby own_d15_29) rfl rfl ?_
    refine own_icN X5 hx 33 (hb hby own_d15_30) rfl (tlt (by decide : (0 : Int32) < (7 : Int32))).2.1 ?_
    refine own_il X5 hx 35 (hb hby own_d15_33) rfl rfl ?_
    refine own_bp X5 hx (18 : Int32) 37 (hb hby own_d15_35) rfl rfl ?_
    refine own_icN X5 hx 40 (hb hby own_d15_37) rfl (teq (by decide : (18 : Int32) = (18 : Int32))).2 ?_
    refine own_iln X5 hx 41 (hb hby own_d15_40) rfl rfl ?_
    refine own_iln X5 hx 42 (hb hby own_d15_41) rfl rfl ?_
    refine own_ic X5 hx (4 : Int32) 43 (hb hby own_d15_42) rfl rfl ?_
    refine own_isub X5 hx 44 (hb hby own_d15_43) rfl ?_
    refine own_icN X5 hx 47 (hb hby own_d15_44) rfl (tlt (by decide : (0 : Int32) < ((7 : Int32) - (4 : Int32)))).2.1 ?_
    refine own_aln X5 hx 48 (hb hby own_d15_47) rfl rfl rfl ?_
    refine own_aln X5 hx 49 (hb hby own_d15_48) rfl rfl rfl ?_
    refine own_iln X5 hx 50 (hb hby own_d15_49) rfl rfl ?_
    refine own_iln X5 hx 51 (hb hby own_d15_50) rfl rfl ?_
    refine own_al X5 hx 53 (hb hby own_d15_51) rfl rfl rfl ?_
    refine own_il X5 hx 55 (hb hby own_d15_53) rfl rfl ?_
    refine own_aln X5 hx 56 (hb hby own_d15_55) rfl rfl rfl ?_
    refine own_gF X5 hx hZ hown (host := "") (Or.inl (hw _ (own_mi 93 rfl))) Via.refl e5 F3 59 (hb hby own_d15_56) rfl ?_
    intro T49 X49 e49
    refine own_aln X49 hx 60 (hb hby own_d15_59) rfl rfl rfl ?_
    have F50 : Fld Z h0 de "java/util/Base64$Decoder" "isMIME" "Z" (.int (0 : Int32)) := ZD2.ext X00.2
    refine own_gF X49 hx hZ hown (host := "") (Or.inl (hw _ (own_mi 96 rfl))) Via.refl e49 F50 63 (hb hby own_d15_60) rfl ?_
    intro T51 X51 e51
    have Zn52 : n0 ≤ h0.size := (Nat.le_trans Z0 (Nat.le_refl _))
    have F53 : Exa Z h0 de "java/util/Base64$Decoder" := ZD.ext X00.2
    refine own_cP X51 hx hZ (y := (⟨"java/util/Base64$Decoder", "decodeBlock", "([BII[BIZZ)I"⟩ : MethodName)) hown (hw _ (own_mi 179 rfl)) (hw _ (own_mi 180 rfl)) (hw _ (own_mi 182 rfl)) (hw _ (own_mi 181 rfl)) (hw _ (own_mi 183 rfl)) (hw _ (own_mi 48 rfl)) (by decide) (rmDB l Z a0 hw [] (de) (t) (kt) ((7 : Int32)) ([(.int (own_cb (q3 / 4))), (.int (own_cb (q3 % 4 * 16 + q4 / 16))), (.int (own_cb (q4 % 16 * 4 + 0 / 64)))]) (q0) (q1) (q2) (dd) (kd) ((5 : Int32)) (tf) (kf) h0 n0 Zn52 (OF) ZF V47 (Or.inr rfl) (hq0) (hq1) (hq2) V48 (Or.inr rfl) gdd (ntd) X00) F53 e51 [(.ref t), (.int (0 : Int32)), (.int (7 : Int32)), (.ref dd), (.int (0 : Int32)), (.int (1 : Int32)), (.int (0 : Int32))] [] rfl (by rw [hml]; rfl) (lenOf own_pd_285bBII5bBIZZ29I rfl) rfl 0 (Nat.le_of_eq rfl) (by decide) (by decide) (by decide : 0 + 0 ≤ _) (by decide : 0 + 0 ≤ _) 66 (hb hby own_d15_63) rfl 0 0 rfl rfl ?_
    intro rv52 T52 Lc52 X52 hQ52
    obtain ⟨rfl, Nq52, Kq52, G0_52⟩ := hQ52
    have N52 := Fr.app N0 Nq52
    have sz54 : h0.size ≤ T52.heap.size := Kq52.1
    have K54 := K0.trans Kq52 (allS (Or.inl (List.mem_of_getElem? (i := 0) rfl)) all0)
    show own_Rn p e below _ (T52.setTop (mkF m 66 #[.val (.ref de), .val (.ref t), .val (.int (0 : Int32)), .val (.int (7 : Int32)), .val (.ref dd), .val (.ref tf), .val (.int (0 : Int32)), .val (.int (0 : Int32)), .val (.int (18 : Int32)), .unset, .unset] [(.int (3 : Int32))]))
    refine own_is X52 hx #[.val (.ref de), .val (.ref t), .val (.int (0 : Int32)), .val (.int (7 : Int32)), .val (.ref dd), .val (.ref tf), .val (.int (0 : Int32)), .val (.int (0 : Int32)), .val (.int (18 : Int32)), .val (.int (3 : Int32)), .unset] 68 (hb hby own_d15_66) rfl rfl ?_
    refine own_il X52 hx 70 (hb hby own_d15_68) rfl rfl ?_
    refine own_ic X52 hx (2 : Int32) 71 (hb hby own_d15_70) rfl rfl ?_
    refine own_iadd X52 hx 72 (hb hby own_d15_71) rfl ?_
    refine own_ic X52 hx (3 : Int32) 73 (hb hby own_d15_72) rfl rfl ?_
    refine own_idiv X52 hx 74 (hb hby own_d15_73) rfl (by decide) ?_
    refine own_ic X52 hx (4 : Int32) 75 (hb hby own_d15_74) rfl rfl ?_
    refine own_imul X52 hx 76 (hb hby own_d15_75) rfl ?_
    rw [show ((((3 : Int32) + (2 : Int32)) / (3 : Int32)) * (4 : Int32)) = (4 : Int32) from by decide]
    refine own_is X52 hx #[.val (.ref de), .val (.ref t), .val (.int (0 : Int32)), .val (.int (7 : Int32)), .val (.ref dd), .val (.ref tf), .val (.int (0 : Int32)), .val (.int (0 : Int32)), .val (.int (18 : Int32)), .val (.int (3 : Int32)), .val (.int (4 : Int32))] 78 (hb hby own_d15_76) rfl rfl ?_
    refine own_iln X52 hx 79 (hb hby own_d15_78) rfl rfl ?_
    refine own_il X52 hx 81 (hb hby own_d15_79) rfl rfl ?_
    refine own_iadd X52 hx 82 (hb hby own_d15_81) rfl ?_
    rw [show ((0 : Int32) + (4 : Int32)) = (4 : Int32) from by decide]
    refine own_isn X52 hx #[.val (.ref de), .val (.ref t), .val (.int (4 : Int32)), .val (.int (7 : Int32)), .val (.ref dd), .val (.ref tf), .val (.int (0 : Int32)), .val (.int (0 : Int32)), .val (.int (18 : Int32)), .val (.int (3 : Int32)), .val (.int (4 : Int32))] 83 (hb hby own_d15_82) rfl rfl ?_
    refine own_il X52 hx 85 (hb hby own_d15_83) rfl rfl ?_
    refine own_il X52 hx 87 (hb hby own_d15_85) rfl rfl ?_
    refine own_iadd X52 hx 88 (hb hby own_d15_87) rfl ?_
    rw [show ((0 : Int32) + (3 : Int32)) = (3 : Int32) from by decide]
    refine own_is X52 hx #[.val (.ref de), .val (.ref t), .val (.int (4 : Int32)), .val (.int (7 : Int32)), .val (.ref dd), .val (.ref tf), .val (.int (3 : Int32)), .val (.int (0 : Int32)), .val (.int (18 : Int32)), .val (.int (3 : Int32)), .val (.int (4 : Int32))] 90 (hb hby own_d15_88) rfl rfl ?_
    have F55 : Arv Z T52.heap t kt .byte (7 : Int32) [(.int (own_cb (q0 / 4))), (.int (own_cb (q0 % 4 * 16 + q1 / 16))), (.int (own_cb (q1 % 16 * 4 + q2 / 64))), (.int (own_cb (q2 % 64))), (.int (own_cb (q3 / 4))), (.int (own_cb (q3 % 4 * 16 + q4 / 16))), (.int (own_cb (q4 % 16 * 4 + 0 / 64)))] (.int 0) := (V47.keep Kq52 (ninS ntd nin0))
    have F57 : Old Z n0 T52.heap := (X00.keep Kq52 (allS gdd all0))
    have F56 : Arv Z T52.heap tf kf .int (256 : Int32) (own_F.map Value.int) (.int 0) := ZF.ext F57.2
    refine It 4 (q3 / 4) (0 : Int32) (Int32.ofNat ((q3 / 4) * 262144)) (18 : Int32) (12 : Int32) (3 : Int32) _ _ _ _ _ rfl (by omega) (own_acc18 _ (by omega)) (by decide) (by decide) (One.val rfl) X52 rfl F55 F56 ?_
    show own_Rn p e below _ (T52.setTop (mkF m 28 #[.val (.ref de), .val (.ref t), .val (.int (5 : Int32)), .val (.int (7 : Int32)), .val (.ref dd), .val (.ref tf), .val (.int (3 : Int32)), .val (.int (Int32.ofNat ((q3 / 4) * 262144))), .val (.int (12 : Int32)), .val (.int (Int32.ofNat (q3 / 4))), .val (.int (4 : Int32))] []))
    refine It2 5 (q3 % 4 * 16 + q4 / 16) (Int32.ofNat ((q3 / 4) * 262144)) (Int32.ofNat ((q3 / 4) * 262144 + (q3 % 4 * 16 + q4 / 16) * 4096)) (12 : Int32) (6 : Int32) (3 : Int32) _ _ _ _ _ rfl (by omega) (own_acc12 _ _ (by omega) (by omega)) (by decide) (by decide) (One.val rfl) X52 rfl F55 F56 (Or.inl (by decide)) ?_
    show own_Rn p e below _ (T52.setTop (mkF m 28 #[.val (.ref de), .val (.ref t), .val (.int (6 : Int32)), .val (.int (7 : Int32)), .val (.ref dd), .val (.ref tf), .val (.int (3 : Int32)), .val (.int (Int32.ofNat ((q3 / 4) * 262144 + (q3 % 4 * 16 + q4 / 16) * 4096))), .val (.int (6 : Int32)), .val (.int (Int32.ofNat (q3 % 4 * 16 + q4 / 16))), .val (.int (4 : Int32))] []))
    refine It2 6 (q4 % 16 * 4 + 0 / 64) (Int32.ofNat ((q3 / 4) * 262144 + (q3 % 4 * 16 + q4 / 16) * 4096)) (Int32.ofNat ((q3 / 4) * 262144 + (q3 % 4 * 16 + q4 / 16) * 4096 + (q4 % 16 * 4 + 0 / 64) * 64)) (6 : Int32) (0 : Int32) (3 : Int32) _ _ _ _ _ rfl (by omega) (own_acc6 _ _ _ (by omega) (by omega) (by omega)) (by decide) (by decide) (One.val rfl) X52 rfl F55 F56 (Or.inl (by decide)) ?_
    show own_Rn p e below _ (T52.setTop (mkF m 28 #[.val (.ref de), .val (.ref t), .val (.int (7 : Int32)), .val (.int (7 : Int32)), .val (.ref dd), .val (.ref tf), .val (.int (3 : Int32)), .val (.int (Int32.ofNat ((q3 / 4) * 262144 + (q3 % 4 * 16 + q4 / 16) * 4096 + (q4 % 16 * 4 + 0 / 64) * 64))), .val (.int (0 : Int32)), .val (.int (Int32.ofNat (q4 % 16 * 4 + 0 / 64))), .val (.int (4 : Int32))] []))
    refine own_iln X52 hx 29 (hb hby own_d15_28) rfl rfl ?_
    refine own_iln X52 hx 30 (hb hby own_d15_29) rfl rfl ?_
    refine own_icY X52 hx 281 (hb hby own_d15_30) (flt (by decide : ¬ ((7 : Int32) < (7 : Int32)))).2.1 (by decide) (by decide) ?_
    refine own_il X52 hx 283 (hb hby own_d15_281) rfl rfl ?_
    refine own_bp X52 hx (6 : Int32) 285 (hb hby own_d15_283) rfl rfl ?_
    refine own_icY X52 hx 305 (hb hby own_d15_285) (feq (by decide : ¬ ((0 : Int32) = (6 : Int32)))).2 (by decide) (by decide) ?_
    refine own_il X52 hx 307 (hb hby own_d15_305) rfl rfl ?_
    refine own_ifN X52 hx 310 (hb hby own_d15_307) rfl ((if0 _ _).trans (teq (by decide : (0 : Int32) = (0 : Int32))).2) ?_
    refine own_al X52 hx 312 (hb hby own_d15_310) rfl rfl rfl ?_
    refine own_il X52 hx 314 (hb hby own_d15_312) rfl rfl ?_
    refine own_ii X52 hx #[.val (.ref de), .val (.ref t), .val (.int (7 : Int32)), .val (.int (7 : Int32)), .val (.ref dd), .val (.ref tf), .val (.int ((3 : Int32) + (1 : Int32))), .val (.int (Int32.ofNat ((q3 / 4) * 262144 + (q3 % 4 * 16 + q4 / 16) * 4096 + (q4 % 16 * 4 + 0 / 64) * 64))), .val (.int (0 : Int32)), .val (.int (Int32.ofNat (q4 % 16 * 4 + 0 / 64))), .val (.int (4 : Int32))] 317 (hb hby own_d15_314) rfl rfl rfl ?_
    refine own_il X52 hx 319 (hb hby own_d15_317) rfl rfl ?_
    refine own_bp X52 hx (16 : Int32) 321 (hb hby own_d15_319) rfl rfl ?_
    refine own_ishr X52 hx 322 (hb hby own_d15_321) rfl ?_
    refine own_i2b X52 hx 323 (hb hby own_d15_322) rfl ?_
    rw [show ((3 : Int32) + (1 : Int32)) = (4 : Int32) from by decide]
    rw [show (((Int32.ofNat ((q3 / 4) * 262144 + (q3 % 4 * 16 + q4 / 16) * 4096 + (q4 % 16 * 4 + 0 / 64) * 64)) >>> ((16 : Int32) &&& 31)).toInt8.toInt32) = (own_by q3) from own_dby16 ((q3 / 4) * 262144 + (q3 % 4 * 16 + q4 / 16) * 4096 + (q4 % 16 * 4 + 0 / 64) * 64) q3 (by omega) (by omega)]
    obtain ⟨cl58, Ar58, q58, Sz58, Nn58, Hs58, G58⟩ := id G0_52
    obtain ⟨T58, h58, X58, e58, W58, st58⟩ := stB X52 hx hZ rfl Ar58 (j := (3 : Int32)) (inb_of Sz58 ⟨by decide, by decide⟩) (g := (mkF m 323 #[.val (.ref de), .val (.ref t), .val (.int (7 : Int32)), .val (.int (7 : Int32)), .val (.ref dd), .val (.ref tf), .val (.int (4 : Int32)), .val (.int (Int32.ofNat ((q3 / 4) * 262144 + (q3 % 4 * 16 + q4 / 16) * 4096 + (q4 % 16 * 4 + 0 / 64) * 64))), .val (.int (0 : Int32)), .val (.int (Int32.ofNat (q4 % 16 * 4 + 0 / 64))), .val (.int (4 : Int32))] [(.int (own_by q3)), (.int (3 : Int32)), (.ref dd)])) rfl rfl (hb hby own_d15_323)
    rw [own_narB] at W58
    refine own_go st58 ?_
    have V58 : Arv Z h58 dd kd .byte (5 : Int32) (([(.int (own_by q0)), (.int (own_by q1)), (.int (own_by q2))] : List Value) ++ [(.int (own_by q3))]) (.int 0) := own_store1 G0_52 (by rw [show ((5 : Int32).toNatClampNeg = 5) from by decide]; exact Nat.le_of_ble_eq_true rfl) (own_fitsB _) W58 (show (3 : Int32).toNatClampNeg = 3 from by decide)
    have N58 := Fr.snoc X58 N52 gdd
    have sz59 : T52.heap.size ≤ h58.size := Nat.le_of_eq (Wr.size W58).symm
    have K59 := K54.wr W58 (Or.inl (List.mem_of_getElem? (i := 0) rfl))
    show own_Rn p e below _ (T58.setTop (mkF m 324 #[.val (.ref de), .val (.ref t), .val (.int (7 : Int32)), .val (.int (7 : Int32)), .val (.ref dd), .val (.ref tf), .val (.int (4 : Int32)), .val (.int (Int32.ofNat ((q3 / 4) * 262144 + (q3 % 4 * 16 + q4 / 16) * 4096 + (q4 % 16 * 4 + 0 / 64) * 64))), .val (.int (0 : Int32)), .val (.int (Int32.ofNat (q4 % 16 * 4 + 0 / 64))), .val (.int (4 : Int32))] []))
    refine own_al X58 hx 326 (hb hby own_d15_324) rfl rfl rfl ?_
    refine own_il X58 hx 328 (hb hby own_d15_326) rfl rfl ?_
    refine own_ii X58 hx #[.val (.ref de), .val (.ref t), .val (.int (7 : Int32)), .val (.int (7 : Int32)), .val (.ref dd), .val (.ref tf), .val (.int ((4 : Int32) + (1 : Int32))), .val (.int (Int32.ofNat ((q3 / 4) * 262144 + (q3 % 4 * 16 + q4 / 16) * 4096 + (q4 % 16 * 4 + 0 / 64) * 64))), .val (.int (0 : Int32)), .val (.int (Int32.ofNat (q4 % 16 * 4 + 0 / 64))), .val (.int (4 : Int32))] 331 (hb hby own_d15_328) rfl rfl rfl ?_
    refine own_il X58 hx 333 (hb hby own_d15_331) rfl rfl ?_
    refine own_bp X58 hx (8 : Int32) 335 (hb hby own_d15_333) rfl rfl ?_
    refine own_ishr X58 hx 336 (hb hby own_d15_335) rfl ?_
    refine own_i2b X58 hx 337 (hb hby own_d15_336) rfl ?_
    rw [show ((4 : Int32) + (1 : Int32)) = (5 : Int32) from by decide]
    rw [show (((Int32.ofNat ((q3 / 4) * 262144 + (q3 % 4 * 16 + q4 / 16) * 4096 + (q4 % 16 * 4 + 0 / 64) * 64)) >>> ((8 : Int32) &&& 31)).toInt8.toInt32) = (own_by q4) from own_dby8 ((q3 / 4) * 262144 + (q3 % 4 * 16 + q4 / 16) * 4096 + (q4 % 16 * 4 + 0 / 64) * 64) q4 (by omega) (by omega)]
    obtain ⟨cl60, Ar60, q60, Sz60, Nn60, Hs60, G60⟩ := id V58
    obtain ⟨T60, h60, X60, e60, W60, st60⟩ := stB X58 hx hZ e58 Ar60 (j := (4 : Int32)) (inb_of Sz60 ⟨by decide, by decide⟩) (g := (mkF m 337 #[.val (.ref de), .val (.ref t), .val (.int (7 : Int32)), .val (.int (7 : Int32)), .val (.ref dd), .val (.ref tf), .val (.int (5 : Int32)), .val (.int (Int32.ofNat ((q3 / 4) * 262144 + (q3 % 4 * 16 + q4 / 16) * 4096 + (q4 % 16 * 4 + 0 / 64) * 64))), .val (.int (0 : Int32)), .val (.int (Int32.ofNat (q4 % 16 * 4 + 0 / 64))), .val (.int (4 : Int32))] [(.int (own_by q4)), (.int (4 : Int32)), (.ref dd)])) rfl rfl (hb hby own_d15_337)
    rw [own_narB] at W60
    refine own_go st60 ?_
    have V60 : Arv Z h60 dd kd .byte (5 : Int32) ((([(.int (own_by q0)), (.int (own_by q1)), (.int (own_by q2))] : List Value) ++ [Value.int (own_by q3)]) ++ [(.int (own_by q4))]) (.int 0) := own_store1 V58 (by rw [show ((5 : Int32).toNatClampNeg = 5) from by decide]; exact Nat.le_of_ble_eq_true rfl) (own_fitsB _) W60 (show (4 : Int32).toNatClampNeg = 4 from by decide)
    have N60 := Fr.snoc X60 N58 gdd
    have sz61 : h58.size ≤ h60.size := Nat.le_of_eq (Wr.size W60).symm
    have K61 := K59.wr W60 (Or.inl (List.mem_of_getElem? (i := 0) rfl))
    show own_Rn p e below _ (T60.setTop (mkF m 338 #[.val (.ref de), .val (.ref t), .val (.int (7 : Int32)), .val (.int (7 : Int32)), .val (.ref dd), .val (.ref tf), .val (.int (5 : Int32)), .val (.int (Int32.ofNat ((q3 / 4) * 262144 + (q3 % 4 * 16 + q4 / 16) * 4096 + (q4 % 16 * 4 + 0 / 64) * 64))), .val (.int (0 : Int32)), .val (.int (Int32.ofNat (q4 % 16 * 4 + 0 / 64))), .val (.int (4 : Int32))] []))
    refine own_gt X60 hx 358 (hb hby own_d15_338) (by decide) (by decide) ?_
    refine own_iln X60 hx 359 (hb hby own_d15_358) rfl rfl ?_
    refine own_iln X60 hx 360 (hb hby own_d15_359) rfl rfl ?_
    refine own_icY X60 hx 416 (hb hby own_d15_360) (flt (by decide : ¬ ((7 : Int32) < (7 : Int32)))).2.1 (by decide) (by decide) ?_
    refine own_il X60 hx 418 (hb hby own_d15_416) rfl rfl ?_
    exact own_ret X60 (v := some (.int (5 : Int32))) (fun h => by rw [Bd.returns] at h; cases h) (fun fs hr => retI X60 hx Bd.returns (hb hby own_d15_418) hr) (by rw [e60]; exact ⟨rfl, N60, K61, V60⟩) (by decide) (by decide)
  · exact absurd hL (by simp only [List.length_cons]; omega)
theorem own_ef_rmDC (m : MethodId) (de : Addr) (t : Addr) (kt : ClassId) (bs : List Nat) (tf : Addr) (kf : ClassId) : entryFrame m #[(.ref de), (.ref t)] 4 = mkF m 0 #[.val (.ref de), .val (.ref t), .unset, .unset] [] := by first | (simp [entryFrame, mkF, argsToLocals, Value.category]; done) | rfl
theorem own_d13_0 : decode jdk_2450_method_2_code 0 = .ok (.aload_n 0, 1) := by decide +kernel
theorem own_d13_1 : decode jdk_2450_method_2_code 1 = .ok (.aload_n 1, 1) := by decide +kernel
theorem own_d13_2 : decode jdk_2450_method_2_code 2 = .ok (.iconst 0, 1) := by decide +kernel
theorem own_d13_3 : decode jdk_2450_method_2_code 3 = .ok (.aload_n 1, 1) := by decide +kernel
theorem own_d13_4 : decode jdk_2450_method_2_code 4 = .ok (.arraylength, 1) := by decide +kernel
theorem own_d13_5 : decode jdk_2450_method_2_code 5 = .ok (.invokevirtual 16, 3) := by decide +kernel
theorem own_pd_285bBII29I : parseMethodDescriptor "([BII)I" = some ⟨[(.array .byte), .int, .int], some .int⟩ := by decide +kernel
theorem own_d13_8 : decode jdk_2450_method_2_code 8 = .ok (.newarray .byte, 2) := by decide +kernel
theorem own_d13_10 : decode jdk_2450_method_2_code 10 = .ok (.astore_n 2, 1) := by decide +kernel
theorem own_d13_11 : decode jdk_2450_method_2_code 11 = .ok (.aload_n 0, 1) := by decide +kernel
theorem own_d13_12 : decode jdk_2450_method_2_code 12 = .ok (.aload_n 1, 1) := by decide +kernel
theorem own_d13_13 : decode jdk_2450_method_2_code 13 = .ok (.iconst 0, 1) := by decide +kernel
theorem own_d13_14 : decode jdk_2450_method_2_code 14 = .ok (.aload_n 1, 1) := by decide +kernel
theorem own_d13_15 : decode jdk_2450_method_2_code 15 = .ok (.arraylength, 1) := by decide +kernel
theorem own_d13_16 : decode jdk_2450_method_2_code 16 = .ok (.aload_n 2, 1) := by decide +kernel
theorem own_d13_17 : decode jdk_2450_method_2_code 17 = .ok (.invokevirtual 20, 3) := by decide +kernel
theorem own_pd_285bBII5bB29I : parseMethodDescriptor "([BII[B)I" = some ⟨[(.array .byte), .int, .int, (.array .byte)], some .int⟩ := by decide +kernel
theorem own_d13_20 : decode jdk_2450_method_2_code 20 = .ok (.istore_n 3, 1) := by decide +kernel
theorem own_d13_21 : decode jdk_2450_method_2_code 21 = .ok (.iload_n 3, 1) := by decide +kernel
theorem own_d13_22 : decode jdk_2450_method_2_code 22 = .ok (.aload_n 2, 1) := by decide +kernel
theorem own_d13_23 : decode jdk_2450_method_2_code 23 = .ok (.arraylength, 1) := by decide +kernel
theorem own_d13_24 : decode jdk_2450_method_2_code 24 = .ok (.if_icmp .eq 9, 3) := by decide +kernel
theorem own_d13_33 : decode jdk_2450_method_2_code 33 = .ok (.aload_n 2, 1) := by decide +kernel
theorem own_d13_34 : decode jdk_2450_method_2_code 34 = .ok (.areturn, 1) := by decide +kernel
def Q_rmDC (Z : State) (de : Addr) (t : Addr) (kt : ClassId) (bs : List Nat) (tf : Addr) (kf : ClassId) (h0 : Heap) (n0 : Nat) (vq : Option Value) (hhq : Heap) (Lq : List Loc) : Prop := ∃ (v : Addr), ∃ (kv : ClassId), vq = some (.ref v) ∧ Fr n0 Lq ∧ Keep h0 hhq [] ∧ h0.size ≤ v ∧ n0 ≤ v ∧ Arv Z hhq v kv .byte (Int32.ofNat bs.length) (own_bs (own_ub bs)) (.int 0)
set_option maxRecDepth 65536 in
set_option maxHeartbeats 40000000 in
theorem rmDC (l : Launch) (Z : State) (a0 : Array Value) (hw : ∀ d ∈ tables_1, d.before a0 Z = true) (ws : List Jvm.Cond) (de : Addr) (t : Addr) (kt : ClassId) (bs : List Nat) (tf : Addr) (kf : ClassId) (h0 : Heap) (n0 : Nat) (Z0 : n0 ≤ h0.size) (ZD : Exa Z Z.heap de "java/util/Base64$Decoder") (ZD1 : Fld Z Z.heap de "java/util/Base64$Decoder" "isURL" "Z" (.int (1 : Int32))) (ZD2 : Fld Z Z.heap de "java/util/Base64$Decoder" "isMIME" "Z" (.int (0 : Int32))) (OF : Sta Z Z.heap "java/util/Base64$Decoder" "fromBase64URL" "[I" (.ref tf)) (ZF : Arv Z Z.heap tf kf .int (256 : Int32) (own_F.map Value.int) (.int 0)) (Pm5 : Arv Z h0 t kt .byte (Int32.ofNat (own_cs bs).length) (own_bs (own_cs bs)) (.int 0)) (hL : (bs.length ≤ 5)) (hB : (∀ b ∈ bs, b < 256)) (X00 : Old Z n0 h0) :
    MetFree l (⟨"java/util/Base64$Decoder", "decode", "([B)[B"⟩ : MethodName) (head1 (Jvm.Cond.code (⟨"java/util/Base64$Decoder", "decode", "([B)[B"⟩ : MethodName) jdk_2450_method_2_code 4 (some (.array .byte)) :: ws) ({ frames := 2, cells := 1, slots := 5, locals := 49 } : Room)) (fun aq U => aq = #[(.ref de), (.ref t)] ∧ Z.Warmed39 U.vm ∧ U.heap = h0) (fun _ _ _ _ _ => True) (fun _ U oq U' => ∃ vq Lq, oq = .returned vq ∧ Q_rmDC Z de t kt bs tf kf h0 n0 vq U'.heap Lq ∧ FrameEnd U oq U' Lq ({ frames := 2, cells := 1, slots := 5, locals := 49 } : Room).cells ({ frames := 2, cells := 1, slots := 5, locals := 49 } : Room).slots) := by
  refine MetFree.of_bodySF (plainFor_of_name own_pn_java_util_Base64_Decoder) hisR ?_
  intro p e s m args below meth c s₁ Bd hml0 hP hK
  obtain ⟨rfl, hZ, hh⟩ := hP
  have hx := Bd.exec
  have hby := Bd.bytes
  have hml : c.maxLocals = 4 := hml0
  have hown : s.vm.findClass "java/util/Base64$Decoder" = some m.cls := findClass_of_methodNamed Bd.named
  have hnm := (name_of_methodNamed Bd.named Bd.method).1
  have X0 : Stand p l e ({ frames := 2, cells := 1, slots := 5, locals := 49 } : Room) s m #[(.ref de), (.ref t)] below meth c s₁ [] 0 0 := Stand.of_body Bd
  have e0 : s₁.heap = h0 := by rw [← hh, Bd.state]; rfl
  have N0 := Fr.nil n0
  have K0 : Keep h0 h0 [] := Keep.refl _ _
  refine own_go (S' := s₁.setTop (mkF m 0 #[.val (.ref de), .val (.ref t), .unset, .unset] [])) (fun tq kq => castTop (own_ef_rmDC m de t kt bs tf kf) kq) ?_
  have lt1 : @LT.lt Nat _ t h0.size := Pm5.lt
  refine own_aln X0 hx 1 (hb hby own_d13_0) rfl rfl rfl ?_
  refine own_aln X0 hx 2 (hb hby own_d13_1) rfl rfl rfl ?_
  refine own_ic X0 hx (0 : Int32) 3 (hb hby own_d13_2) rfl rfl ?_
  refine own_aln X0 hx 4 (hb hby own_d13_3) rfl rfl rfl ?_
  refine own_alen X0 hx hZ e0 Pm5 5 (hb hby own_d13_4) rfl ?_
  have Zn2 : n0 ≤ h0.size := (Nat.le_trans Z0 (Nat.le_refl _))
  have F3 : Exa Z h0 de "java/util/Base64$Decoder" := ZD.ext X00.2
  refine own_cP X0 hx hZ (y := (⟨"java/util/Base64$Decoder", "decodedOutLength", "([BII)I"⟩ : MethodName)) hown (hw _ (own_mi 88 rfl)) (hw _ (own_mi 89 rfl)) (hw _ (own_mi 91 rfl)) (hw _ (own_mi 90 rfl)) (hw _ (own_mi 92 rfl)) (hw _ (own_mi 48 rfl)) (by decide) (rmDOL l Z a0 hw [] (de) (t) (kt) (bs) (tf) (kf) h0 n0 Zn2 ZD1 ZD2 (OF) Pm5 (hL) (hB) X00) F3 e0 [(.ref t), (.int (0 : Int32)), (.int (Int32.ofNat (own_cs bs).length))] [] rfl (by rw [hml]; rfl) (lenOf own_pd_285bBII29I rfl) rfl 0 (Nat.le_of_eq rfl) (by decide) (by decide) (by decide : 0 + 0 ≤ _) (by decide : 0 + 0 ≤ _) 8 (hb hby own_d13_5) rfl 0 0 rfl rfl ?_
  intro rv2 T2 Lc2 X2 hQ2
  obtain ⟨rfl, Nq2, eh2⟩ := hQ2
  have N2 := Fr.app N0 Nq2
  show own_Rn p e below _ (T2.setTop (mkF m 8 #[.val (.ref de), .val (.ref t), .unset, .unset] [(.int (Int32.ofNat bs.length))]))
  obtain ⟨T4, h4, k4, X4, e4, E4, A4, st4⟩ := newP X2 hx hZ (hw _ (own_mi 24 rfl)) eh2 (g := (mkF m 8 #[.val (.ref de), .val (.ref t), .unset, .unset] [(.int (Int32.ofNat bs.length))])) rfl (hb hby own_d13_8) rfl (own_nneg (by omega)) (cap := 5) (by rw [own_clampN (by omega)]; exact hL) (by decide) (by decide) (by decide)
  obtain ⟨b4, g4⟩ : ∃ z, z = h0.size := ⟨_, rfl⟩
  rw [← g4] at A4 st4
  refine own_go st4 ?_
  have sz5 : h0.size ≤ h4.size := E4.1
  have K5 := K0.ext E4
  have gn4 : n0 ≤ b4 := (Nat.le_trans (Nat.le_trans Z0 (Nat.le_refl _)) (Nat.le_of_eq g4.symm))
  have V4 : Arv Z h4 b4 k4 .byte (Int32.ofNat bs.length) [] (.int (0 : Int32)) := Arv.new A4 (own_nneg (by omega))
  have lt6 : @LT.lt Nat _ b4 h4.size := V4.lt
  show own_Rn p e below _ (T4.setTop (mkF m 10 #[.val (.ref de), .val (.ref t), .unset, .unset] [(.ref b4)]))
  refine own_asn X4 hx #[.val (.ref de), .val (.ref t), .val (.ref b4), .unset] 11 (hb hby own_d13_10) rfl rfl rfl ?_
  refine own_aln X4 hx 12 (hb hby own_d13_11) rfl rfl rfl ?_
  refine own_aln X4 hx 13 (hb hby own_d13_12) rfl rfl rfl ?_
  refine own_ic X4 hx (0 : Int32) 14 (hb hby own_d13_13) rfl rfl ?_
  refine own_aln X4 hx 15 (hb hby own_d13_14) rfl rfl rfl ?_
  have F7 : Arv Z h4 t kt .byte (Int32.ofNat (own_cs bs).length) (own_bs (own_cs bs)) (.int 0) := (Pm5.ext E4)
  refine own_alen X4 hx hZ e4 F7 16 (hb hby own_d13_15) rfl ?_
  refine own_aln X4 hx 17 (hb hby own_d13_16) rfl rfl rfl ?_
  have ne8 : t ≠ b4 := own_nea (Or.inl (Nat.lt_of_lt_of_le lt1 (Nat.le_trans (Nat.le_refl _) (Nat.le_of_eq g4.symm))))
  have Zn9 : n0 ≤ h4.size := (Nat.le_trans Z0 sz5)
  have F10 : Old Z n0 h4 := (X00.ext E4)
  have F11 : Exa Z h4 de "java/util/Base64$Decoder" := ZD.ext F10.2
  refine own_cP X4 hx hZ (y := (⟨"java/util/Base64$Decoder", "decode0", "([BII[B)I"⟩ : MethodName)) hown (hw _ (own_mi 100 rfl)) (hw _ (own_mi 101 rfl)) (hw _ (own_mi 103 rfl)) (hw _ (own_mi 102 rfl)) (hw _ (own_mi 104 rfl)) (hw _ (own_mi 48 rfl)) (by decide) (rmD0 l Z a0 hw [] (de) (t) (kt) (bs) (tf) (kf) (b4) (k4) h4 n0 Zn9 ZD ZD1 ZD2 (OF) ZF F7 (hL) (hB) V4 gn4 (ne8) F10) F11 e4 [(.ref t), (.int (0 : Int32)), (.int (Int32.ofNat (own_cs bs).length)), (.ref b4)] [] rfl (by rw [hml]; rfl) (lenOf own_pd_285bBII5bB29I rfl) rfl 0 (Nat.le_of_eq rfl) (by decide) (by decide) (by decide : 1 + 0 ≤ _) (by decide : 5 + 0 ≤ _) 20 (hb hby own_d13_17) rfl 1 5 rfl rfl ?_
  intro rv9 T9 Lc9 X9 hQ9
  obtain ⟨rfl, Nq9, Kq9, G0_9⟩ := hQ9
  have N9 := Fr.app N2 Nq9
  have sz12 : h4.size ≤ T9.heap.size := Kq9.1
  have K12 := K5.trans Kq9 (allS (Or.inr (Nat.le_trans (Nat.le_refl _) (Nat.le_of_eq g4.symm))) all0)
  show own_Rn p e below _ (T9.setTop (mkF m 20 #[.val (.ref de), .val (.ref t), .val (.ref b4), .unset] [(.int (Int32.ofNat bs.length))]))
  refine own_isn X9 hx #[.val (.ref de), .val (.ref t), .val (.ref b4), .val (.int (Int32.ofNat bs.length))] 21 (hb hby own_d13_20) rfl rfl ?_
  refine own_iln X9 hx 22 (hb hby own_d13_21) rfl rfl ?_
  refine own_aln X9 hx 23 (hb hby own_d13_22) rfl rfl rfl ?_
  refine own_alen X9 hx hZ rfl G0_9 24 (hb hby own_d13_23) rfl ?_
  refine own_icY X9 hx 33 (hb hby own_d13_24) (teq (rfl : (Int32.ofNat bs.length) = (Int32.ofNat bs.length))).1 (by decide) (by decide) ?_
  refine own_aln X9 hx 34 (hb hby own_d13_33) rfl rfl rfl ?_
  exact own_ret X9 (v := some (.ref b4)) (fun h => by rw [Bd.returns] at h; cases h) (fun fs hr => X9.areturnOut hx rfl Bd.returns rfl (hb hby own_d13_34) hr) (⟨b4, k4, rfl, N9, K12, (Nat.le_trans (Nat.le_refl _) (Nat.le_of_eq g4.symm)), gn4, G0_9⟩) (by decide) (by decide)
theorem own_ef_rmDSt (m : MethodId) (de : Addr) (x : Addr) (t : Addr) (kt : ClassId) (bs : List Nat) (tf : Addr) (kf : ClassId) (ci : Addr) (cu : Addr) (G1 : Int32) : entryFrame m #[(.ref de), (.ref x)] 2 = mkF m 0 #[.val (.ref de), .val (.ref x)] [] := by first | (simp [entryFrame, mkF, argsToLocals, Value.category]; done) | rfl
theorem own_d7_0 : decode jdk_2450_method_3_code 0 = .ok (.aload_n 0, 1) := by decide +kernel
theorem own_d7_1 : decode jdk_2450_method_3_code 1 = .ok (.aload_n 1, 1) := by decide +kernel
theorem own_d7_2 : decode jdk_2450_method_3_code 2 = .ok (.getstatic 30, 3) := by decide +kernel
theorem own_d7_5 : decode jdk_2450_method_3_code 5 = .ok (.invokevirtual 36, 3) := by decide +kernel
theorem own_pd_28Ljava2fnio2fcharset2fCharset3b295bB : parseMethodDescriptor "(Ljava/nio/charset/Charset;)[B" = some ⟨[(.object "java/nio/charset/Charset")], some (.array .byte)⟩ := by decide +kernel
theorem own_d7_8 : decode jdk_2450_method_3_code 8 = .ok (.invokevirtual 42, 3) := by decide +kernel
theorem own_pd_285bB295bB : parseMethodDescriptor "([B)[B" = some ⟨[(.array .byte)], some (.array .byte)⟩ := by decide +kernel
theorem own_d7_11 : decode jdk_2450_method_3_code 11 = .ok (.areturn, 1) := by decide +kernel
def Q_rmDSt (Z : State) (de : Addr) (x : Addr) (t : Addr) (kt : ClassId) (bs : List Nat) (tf : Addr) (kf : ClassId) (ci : Addr) (cu : Addr) (G1 : Int32) (h0 : Heap) (n0 : Nat) (vq : Option Value) (hhq : Heap) (Lq : List Loc) : Prop := ∃ (v : Addr), ∃ (kv : ClassId), vq = some (.ref v) ∧ Fr n0 Lq ∧ Keep h0 hhq [] ∧ h0.size ≤ v ∧ n0 ≤ v ∧ Arv Z hhq v kv .byte (Int32.ofNat bs.length) (own_bs (own_ub bs)) (.int 0)
set_option maxRecDepth 65536 in
set_option maxHeartbeats 40000000 in
theorem rmDSt (l : Launch) (Z : State) (a0 : Array Value) (hw : ∀ d ∈ tables_1, d.before a0 Z = true) (ws : List Jvm.Cond) (de : Addr) (x : Addr) (t : Addr) (kt : ClassId) (bs : List Nat) (tf : Addr) (kf : ClassId) (ci : Addr) (cu : Addr) (G1 : Int32) (h0 : Heap) (n0 : Nat) (Z0 : n0 ≤ h0.size) (ZD : Exa Z Z.heap de "java/util/Base64$Decoder") (ZD1 : Fld Z Z.heap de "java/util/Base64$Decoder" "isURL" "Z" (.int (1 : Int32))) (ZD2 : Fld Z Z.heap de "java/util/Base64$Decoder" "isMIME" "Z" (.int (0 : Int32))) (OF : Sta Z Z.heap "java/util/Base64$Decoder" "fromBase64URL" "[I" (.ref tf)) (ZF : Arv Z Z.heap tf kf .int (256 : Int32) (own_F.map Value.int) (.int 0)) (Pm5 : Exa Z h0 x "java/lang/String") (Pm6 : Fld Z h0 x "java/lang/String" "value" "[B" (.ref t)) (Pm7 : Fld Z h0 x "java/lang/String" "coder" "B" (.int (0 : Int32))) (Pm8 : Arv Z h0 t kt .byte (Int32.ofNat (own_cs bs).length) (own_bs (own_cs bs)) (.int 0)) (Pm9 : Exa Z h0 t "[B") (hL : (bs.length ≤ 5)) (hB : (∀ b ∈ bs, b < 256)) (OU : Sta Z Z.heap "sun/nio/cs/UTF_8" "INSTANCE" "Lsun/nio/cs/UTF_8;" (.ref cu)) (OI : Sta Z Z.heap "sun/nio/cs/ISO_8859_1" "INSTANCE" "Lsun/nio/cs/ISO_8859_1;" (.ref ci)) (nci : (ci ≠ cu)) (O2 : Sta Z Z.heap "java/lang/String" "COMPACT_STRINGS" "Z" (.int G1)) (P5 : (¬ (G1 = (0 : Int32)))) (X00 : Old Z n0 h0) :
    MetFree l (⟨"java/util/Base64$Decoder", "decode", "(Ljava/lang/String;)[B"⟩ : MethodName) (head1 (Jvm.Cond.code (⟨"java/util/Base64$Decoder", "decode", "(Ljava/lang/String;)[B"⟩ : MethodName) jdk_2450_method_3_code 2 (some (.array .byte)) :: ws) ({ frames := 5, cells := 2, slots := 12, locals := 76 } : Room)) (fun aq U => aq = #[(.ref de), (.ref x)] ∧ Z.Warmed39 U.vm ∧ U.heap = h0) (fun _ _ _ _ _ => True) (fun _ U oq U' => ∃ vq Lq, oq = .returned vq ∧ Q_rmDSt Z de x t kt bs tf kf ci cu G1 h0 n0 vq U'.heap Lq ∧ FrameEnd U oq U' Lq ({ frames := 5, cells := 2, slots := 12, locals := 76 } : Room).cells ({ frames := 5, cells := 2, slots := 12, locals := 76 } : Room).slots) := by
  refine MetFree.of_bodySF (plainFor_of_name own_pn_java_util_Base64_Decoder) hisR ?_
  intro p e s m args below meth c s₁ Bd hml0 hP hK
  obtain ⟨rfl, hZ, hh⟩ := hP
  have hx := Bd.exec
  have hby := Bd.bytes
  have hml : c.maxLocals = 2 := hml0
  have hown : s.vm.findClass "java/util/Base64$Decoder" = some m.cls := findClass_of_methodNamed Bd.named
  have hnm := (name_of_methodNamed Bd.named Bd.method).1
  have X0 : Stand p l e ({ frames := 5, cells := 2, slots := 12, locals := 76 } : Room) s m #[(.ref de), (.ref x)] below meth c s₁ [] 0 0 := Stand.of_body Bd
  have e0 : s₁.heap = h0 := by rw [← hh, Bd.state]; rfl
  have N0 := Fr.nil n0
  have K0 : Keep h0 h0 [] := Keep.refl _ _
  refine own_go (S' := s₁.setTop (mkF m 0 #[.val (.ref de), .val (.ref x)] [])) (fun tq kq => castTop (own_ef_rmDSt m de x t kt bs tf kf ci cu G1) kq) ?_
  have lt1 : @LT.lt Nat _ x h0.size := Pm5.lt
  have lt2 : @LT.lt Nat _ t h0.size := Pm8.lt
  refine own_aln X0 hx 1 (hb hby own_d7_0) rfl rfl rfl ?_
  refine own_aln X0 hx 2 (hb hby own_d7_1) rfl rfl rfl ?_
  refine own_gS X0 hx hZ hown (host := "") (Or.inl (hw _ (own_mi 50 rfl))) Via.refl e0 (OI.ext X00.2) 5 (hb hby own_d7_2) rfl ?_
  intro T3 X3 e3
  have Zn4 : n0 ≤ h0.size := (Nat.le_trans Z0 (Nat.le_refl _))
  refine own_cV X3 hx hZ (y := (⟨"java/lang/String", "getBytes", "(Ljava/nio/charset/Charset;)[B"⟩ : MethodName)) (z := (⟨"java/lang/String", "getBytes", "(Ljava/nio/charset/Charset;)[B"⟩ : MethodName)) hown (hw _ (own_mi 52 rfl)) (hw _ (own_mi 53 rfl)) (notFace_of_selects (args := #[]) (mvT hZ (hw _ (own_mi 55 rfl)))) (hw _ (own_mi 55 rfl)) (hw _ (own_mi 54 rfl)) (hw _ (own_mi 56 rfl)) (hw _ (own_mi 8 rfl)) (by decide) (rmGB l Z a0 hw [] (x) (t) (kt) ((own_cs bs)) (ci) (cu) (G1) h0 n0 Zn4 Pm5 Pm6 Pm7 Pm8 Pm9 (own_cs_len bs hB) (OU) (OI) (nci) (O2) (P5) X00) Pm5 e3 [(.ref ci)] [(.ref de)] rfl (by rw [hml]; rfl) (lenOf own_pd_28Ljava2fnio2fcharset2fCharset3b295bB rfl) rfl 1 (Nat.le_of_eq rfl) (by decide) (by decide) (by decide : 0 + 1 ≤ _) (by decide : 0 + 7 ≤ _) 8 (hb hby own_d7_5) rfl 1 7 rfl rfl ?_
  intro rv4 T4 Lc4 X4 hQ4
  obtain ⟨vb, rfl, Nq4, Kq4, G0_4, G1_4, G2_4, G3_4⟩ := hQ4
  have N4 := Fr.app N0 Nq4
  have sz5 : h0.size ≤ T4.heap.size := Kq4.1
  have K5 := K0.trans Kq4 all0
  have lt6 : @LT.lt Nat _ vb T4.heap.size := G2_4.lt
  show own_Rn p e below _ (T4.setTop (mkF m 8 #[.val (.ref de), .val (.ref x)] [(.ref vb), (.ref de)]))
  have Zn7 : n0 ≤ T4.heap.size := (Nat.le_trans Z0 sz5)
  have F8 : Old Z n0 T4.heap := (X00.keep Kq4 all0)
  have F9 : Exa Z T4.heap de "java/util/Base64$Decoder" := ZD.ext F8.2
  refine own_cV X4 hx hZ (y := (⟨"java/util/Base64$Decoder", "decode", "([B)[B"⟩ : MethodName)) (z := (⟨"java/util/Base64$Decoder", "decode", "([B)[B"⟩ : MethodName)) hown (hw _ (own_mi 83 rfl)) (hw _ (own_mi 84 rfl)) (notFace_of_selects (args := #[]) (mvT hZ (hw _ (own_mi 86 rfl)))) (hw _ (own_mi 86 rfl)) (hw _ (own_mi 85 rfl)) (hw _ (own_mi 87 rfl)) (hw _ (own_mi 48 rfl)) (by decide) (rmDC l Z a0 hw [] (de) (vb) (kt) (bs) (tf) (kf) T4.heap n0 Zn7 ZD ZD1 ZD2 (OF) ZF G2_4 (hL) (hB) F8) F9 rfl [(.ref vb)] [] rfl (by rw [hml]; rfl) (lenOf own_pd_285bB295bB rfl) rfl 0 (Nat.le_of_eq rfl) (by decide) (by decide) (by decide : 1 + 1 ≤ _) (by decide : 7 + 5 ≤ _) 11 (hb hby own_d7_8) rfl 2 12 rfl rfl ?_
  intro rv7 T7 Lc7 X7 hQ7
  obtain ⟨vv, kvv, rfl, Nq7, Kq7, G0_7, G1_7, G2_7⟩ := hQ7
  have N7 := Fr.app N4 Nq7
  have sz10 : T4.heap.size ≤ T7.heap.size := Kq7.1
  have K10 := K5.trans Kq7 all0
  have lt11 : @LT.lt Nat _ vv T7.heap.size := G2_7.lt
  show own_Rn p e below _ (T7.setTop (mkF m 11 #[.val (.ref de), .val (.ref x)] [(.ref vv)]))
  exact own_ret X7 (v := some (.ref vv)) (fun h => by rw [Bd.returns] at h; cases h) (fun fs hr => X7.areturnOut hx rfl Bd.returns rfl (hb hby own_d7_11) hr) (⟨vv, kvv, rfl, N7, K10, (Nat.le_trans sz5 G0_7), G1_7, G2_7⟩) (by decide) (by decide)
theorem own_ef_rmMX (m : MethodId) (xa : Int32) (xb : Int32) : entryFrame m #[(.int xa), (.int xb)] 4 = mkF m 0 #[.val (.int xa), .val (.int xb), .unset, .unset] [] := by first | (simp [entryFrame, mkF, argsToLocals, Value.category]; done) | rfl
theorem own_d18_0 : decode jdk_29_method_28_code 0 = .ok (.iload_n 0, 1) := by decide +kernel
theorem own_d18_1 : decode jdk_29_method_28_code 1 = .ok (.i2l, 1) := by decide +kernel
theorem own_d18_2 : decode jdk_29_method_28_code 2 = .ok (.iload_n 1, 1) := by decide +kernel
theorem own_d18_3 : decode jdk_29_method_28_code 3 = .ok (.i2l, 1) := by decide +kernel
theorem own_d18_4 : decode jdk_29_method_28_code 4 = .ok (.lmul, 1) := by decide +kernel
theorem own_d18_5 : decode jdk_29_method_28_code 5 = .ok (.lstore_n 2, 1) := by decide +kernel
theorem own_d18_6 : decode jdk_29_method_28_code 6 = .ok (.lload_n 2, 1) := by decide +kernel
theorem own_d18_7 : decode jdk_29_method_28_code 7 = .ok (.l2i, 1) := by decide +kernel
theorem own_d18_8 : decode jdk_29_method_28_code 8 = .ok (.i2l, 1) := by decide +kernel
theorem own_d18_9 : decode jdk_29_method_28_code 9 = .ok (.lload_n 2, 1) := by decide +kernel
theorem own_d18_10 : decode jdk_29_method_28_code 10 = .ok (.lcmp, 1) := by decide +kernel
theorem own_d18_11 : decode jdk_29_method_28_code 11 = .ok (.ifCond .eq 13, 3) := by decide +kernel
theorem own_d18_24 : decode jdk_29_method_28_code 24 = .ok (.lload_n 2, 1) := by decide +kernel
theorem own_d18_25 : decode jdk_29_method_28_code 25 = .ok (.l2i, 1) := by decide +kernel
theorem own_d18_26 : decode jdk_29_method_28_code 26 = .ok (.ireturn, 1) := by decide +kernel
def Q_rmMX (Z : State) (xa : Int32) (xb : Int32) (h0 : Heap) (n0 : Nat) (vq : Option Value) (hhq : Heap) (Lq : List Loc) : Prop := vq = some (.int ((xa.toInt64 * xb.toInt64).toInt32)) ∧ Fr n0 Lq ∧ hhq = h0
set_option maxRecDepth 65536 in
set_option maxHeartbeats 40000000 in
theorem rmMX (l : Launch) (Z : State) (a0 : Array Value) (hw : ∀ d ∈ tables_1, d.before a0 Z = true) (ws : List Jvm.Cond) (xa : Int32) (xb : Int32) (h0 : Heap) (n0 : Nat) (Z0 : n0 ≤ h0.size) (hmx : (lcmpW (((xa.toInt64 * xb.toInt64).toInt32).toInt64) (xa.toInt64 * xb.toInt64) = 0)) :
    MetFree l (⟨"java/lang/Math", "multiplyExact", "(II)I"⟩ : MethodName) (head1 (Jvm.Cond.code (⟨"java/lang/Math", "multiplyExact", "(II)I"⟩ : MethodName) jdk_29_method_28_code 4 (some .int) :: ws) ({ frames := 0, cells := 0, slots := 0, locals := 0 } : Room)) (fun aq U => aq = #[(.int xa), (.int xb)] ∧ Z.Warmed39 U.vm ∧ U.heap = h0) (fun _ _ _ _ _ => True) (fun _ U oq U' => ∃ vq Lq, oq = .returned vq ∧ Q_rmMX Z xa xb h0 n0 vq U'.heap Lq ∧ FrameEnd U oq U' Lq ({ frames := 0, cells := 0, slots := 0, locals := 0 } : Room).cells ({ frames := 0, cells := 0, slots := 0, locals := 0 } : Room).slots) := by
  refine MetFree.of_bodySF (Jvm.Free.JP.mathPlain rfl (by decide +kernel)) hisR ?_
  intro p e s m args below meth c s₁ Bd hml0 hP hK
  obtain ⟨rfl, hZ, hh⟩ := hP
  have hx := Bd.exec
  have hby := Bd.bytes
  have hml : c.maxLocals = 4 := hml0
  have hown : s.vm.findClass "java/lang/Math" = some m.cls := findClass_of_methodNamed Bd.named
  have hnm := (name_of_methodNamed Bd.named Bd.method).1
  have X0 : Stand p l e ({ frames := 0, cells := 0, slots := 0, locals := 0 } : Room) s m #[(.int xa), (.int xb)] below meth c s₁ [] 0 0 := Stand.of_body Bd
  have e0 : s₁.heap = h0 := by rw [← hh, Bd.state]; rfl
  have N0 := Fr.nil n0
  have K0 : Keep h0 h0 [] := Keep.refl _ _
  refine own_go (S' := s₁.setTop (mkF m 0 #[.val (.int xa), .val (.int xb), .unset, .unset] [])) (fun tq kq => castTop (own_ef_rmMX m xa xb) kq) ?_
  refine own_iln X0 hx 1 (hb hby own_d18_0) rfl rfl ?_
  refine own_go (fun tq kq => XS.i2l X0.here hx rfl (hb hby own_d18_1) rfl kq) ?_
  show own_Rn p e below _ (s₁.setTop (mkF m 2 #[.val (.int xa), .val (.int xb), .unset, .unset] [(.long (xa.toInt64))]))
  refine own_iln X0 hx 3 (hb hby own_d18_2) rfl rfl ?_
  refine own_go (fun tq kq => XS.i2l X0.here hx rfl (hb hby own_d18_3) rfl kq) ?_
  show own_Rn p e below _ (s₁.setTop (mkF m 4 #[.val (.int xa), .val (.int xb), .unset, .unset] [(.long (xb.toInt64)), (.long (xa.toInt64))]))
  refine own_go (fun tq kq => XS.lmul X0.here hx rfl (hb hby own_d18_4) rfl kq) ?_
  show own_Rn p e below _ (s₁.setTop (mkF m 5 #[.val (.int xa), .val (.int xb), .unset, .unset] [(.long ((xa.toInt64) * (xb.toInt64)))]))
  refine own_go (fun tq kq => XS.lstoreN X0.here hx rfl (hb hby own_d18_5) rfl (l' := #[.val (.int xa), .val (.int xb), .val (.long ((xa.toInt64) * (xb.toInt64))), .second]) rfl kq) ?_
  show own_Rn p e below _ (s₁.setTop (mkF m 6 #[.val (.int xa), .val (.int xb), .val (.long ((xa.toInt64) * (xb.toInt64))), .second] []))
  refine own_go (fun tq kq => XS.lloadN X0.here hx rfl (hb hby own_d18_6) rfl kq) ?_
  show own_Rn p e below _ (s₁.setTop (mkF m 7 #[.val (.int xa), .val (.int xb), .val (.long ((xa.toInt64) * (xb.toInt64))), .second] [(.long ((xa.toInt64) * (xb.toInt64)))]))
  refine own_go (fun tq kq => XS.l2i X0.here hx rfl (hb hby own_d18_7) rfl kq) ?_
  show own_Rn p e below _ (s₁.setTop (mkF m 8 #[.val (.int xa), .val (.int xb), .val (.long ((xa.toInt64) * (xb.toInt64))), .second] [(.int (((xa.toInt64) * (xb.toInt64)).toInt32))]))
  refine own_go (fun tq kq => XS.i2l X0.here hx rfl (hb hby own_d18_8) rfl kq) ?_
  show own_Rn p e below _ (s₁.setTop (mkF m 9 #[.val (.int xa), .val (.int xb), .val (.long ((xa.toInt64) * (xb.toInt64))), .second] [(.long ((((xa.toInt64) * (xb.toInt64)).toInt32).toInt64))]))
  refine own_go (fun tq kq => XS.lloadN X0.here hx rfl (hb hby own_d18_9) rfl kq) ?_
  show own_Rn p e below _ (s₁.setTop (mkF m 10 #[.val (.int xa), .val (.int xb), .val (.long ((xa.toInt64) * (xb.toInt64))), .second] [(.long ((xa.toInt64) * (xb.toInt64))), (.long ((((xa.toInt64) * (xb.toInt64)).toInt32).toInt64))]))
  refine own_go (fun tq kq => XS.lcmp X0.here hx rfl (hb hby own_d18_10) rfl kq) ?_
  show own_Rn p e below _ (s₁.setTop (mkF m 11 #[.val (.int xa), .val (.int xb), .val (.long ((xa.toInt64) * (xb.toInt64))), .second] [(.int (lcmpW ((((xa.toInt64) * (xb.toInt64)).toInt32).toInt64) ((xa.toInt64) * (xb.toInt64))))]))
  refine own_ifY X0 hx 24 (hb hby own_d18_11) ((if0 _ _).trans (teq (hmx : (lcmpW ((((xa.toInt64) * (xb.toInt64)).toInt32).toInt64) ((xa.toInt64) * (xb.toInt64))) = (0 : Int32))).1) (by decide) (by decide) ?_
  refine own_go (fun tq kq => XS.lloadN X0.here hx rfl (hb hby own_d18_24) rfl kq) ?_
  show own_Rn p e below _ (s₁.setTop (mkF m 25 #[.val (.int xa), .val (.int xb), .val (.long ((xa.toInt64) * (xb.toInt64))), .second] [(.long ((xa.toInt64) * (xb.toInt64)))]))
  refine own_go (fun tq kq => XS.l2i X0.here hx rfl (hb hby own_d18_25) rfl kq) ?_
  show own_Rn p e below _ (s₁.setTop (mkF m 26 #[.val (.int xa), .val (.int xb), .val (.long ((xa.toInt64) * (xb.toInt64))), .second] [(.int (((xa.toInt64) * (xb.toInt64)).toInt32))]))
  exact own_ret X0 (v := some (.int (((xa.toInt64) * (xb.toInt64)).toInt32))) (fun h => by rw [Bd.returns] at h; cases h) (fun fs hr => retI X0 hx Bd.returns (hb hby own_d18_26) hr) (by rw [e0]; exact ⟨rfl, N0, rfl⟩) (by decide) (by decide)
theorem own_ef_rmAX (m : MethodId) (xa : Int32) (xb : Int32) : entryFrame m #[(.int xa), (.int xb)] 3 = mkF m 0 #[.val (.int xa), .val (.int xb), .unset] [] := by first | (simp [entryFrame, mkF, argsToLocals, Value.category]; done) | rfl
theorem own_d19_0 : decode jdk_29_method_24_code 0 = .ok (.iload_n 0, 1) := by decide +kernel
theorem own_d19_1 : decode jdk_29_method_24_code 1 = .ok (.iload_n 1, 1) := by decide +kernel
theorem own_d19_2 : decode jdk_29_method_24_code 2 = .ok (.iadd, 1) := by decide +kernel
theorem own_d19_3 : decode jdk_29_method_24_code 3 = .ok (.istore_n 2, 1) := by decide +kernel
theorem own_d19_4 : decode jdk_29_method_24_code 4 = .ok (.iload_n 0, 1) := by decide +kernel
theorem own_d19_5 : decode jdk_29_method_24_code 5 = .ok (.iload_n 2, 1) := by decide +kernel
theorem own_d19_6 : decode jdk_29_method_24_code 6 = .ok (.ixor, 1) := by decide +kernel
theorem own_d19_7 : decode jdk_29_method_24_code 7 = .ok (.iload_n 1, 1) := by decide +kernel
theorem own_d19_8 : decode jdk_29_method_24_code 8 = .ok (.iload_n 2, 1) := by decide +kernel
theorem own_d19_9 : decode jdk_29_method_24_code 9 = .ok (.ixor, 1) := by decide +kernel
theorem own_d19_10 : decode jdk_29_method_24_code 10 = .ok (.iand, 1) := by decide +kernel
theorem own_d19_11 : decode jdk_29_method_24_code 11 = .ok (.ifCond .ge 13, 3) := by decide +kernel
theorem own_d19_24 : decode jdk_29_method_24_code 24 = .ok (.iload_n 2, 1) := by decide +kernel
theorem own_d19_25 : decode jdk_29_method_24_code 25 = .ok (.ireturn, 1) := by decide +kernel
def Q_rmAX (Z : State) (xa : Int32) (xb : Int32) (h0 : Heap) (n0 : Nat) (vq : Option Value) (hhq : Heap) (Lq : List Loc) : Prop := vq = some (.int (xa + xb)) ∧ Fr n0 Lq ∧ hhq = h0
set_option maxRecDepth 65536 in
set_option maxHeartbeats 40000000 in
theorem rmAX (l : Launch) (Z : State) (a0 : Array Value) (hw : ∀ d ∈ tables_1, d.before a0 Z = true) (ws : List Jvm.Cond) (xa : Int32) (xb : Int32) (h0 : Heap) (n0 : Nat) (Z0 : n0 ≤ h0.size) (hax : (¬ ((xa ^^^ (xa + xb)) &&& (xb ^^^ (xa + xb))) < 0)) :
    MetFree l (⟨"java/lang/Math", "addExact", "(II)I"⟩ : MethodName) (head1 (Jvm.Cond.code (⟨"java/lang/Math", "addExact", "(II)I"⟩ : MethodName) jdk_29_method_24_code 3 (some .int) :: ws) ({ frames := 0, cells := 0, slots := 0, locals := 0 } : Room)) (fun aq U => aq = #[(.int xa), (.int xb)] ∧ Z.Warmed39 U.vm ∧ U.heap = h0) (fun _ _ _ _ _ => True) (fun _ U oq U' => ∃ vq Lq, oq = .returned vq ∧ Q_rmAX Z xa xb h0 n0 vq U'.heap Lq ∧ FrameEnd U oq U' Lq ({ frames := 0, cells := 0, slots := 0, locals := 0 } : Room).cells ({ frames := 0, cells := 0, slots := 0, locals := 0 } : Room).slots) := by
  refine MetFree.of_bodySF (Jvm.Free.JP.mathPlain rfl (by decide +kernel)) hisR ?_
  intro p e s m args below meth c s₁ Bd hml0 hP hK
  obtain ⟨rfl, hZ, hh⟩ := hP
  have hx := Bd.exec
  have hby := Bd.bytes
  have hml : c.maxLocals = 3 := hml0
  have hown : s.vm.findClass "java/lang/Math" = some m.cls := findClass_of_methodNamed Bd.named
  have hnm := (name_of_methodNamed Bd.named Bd.method).1
  have X0 : Stand p l e ({ frames := 0, cells := 0, slots := 0, locals := 0 } : Room) s m #[(.int xa), (.int xb)] below meth c s₁ [] 0 0 := Stand.of_body Bd
  have e0 : s₁.heap = h0 := by rw [← hh, Bd.state]; rfl
  have N0 := Fr.nil n0
  have K0 : Keep h0 h0 [] := Keep.refl _ _
  refine own_go (S' := s₁.setTop (mkF m 0 #[.val (.int xa), .val (.int xb), .unset] [])) (fun tq kq => castTop (own_ef_rmAX m xa xb) kq) ?_
  refine own_iln X0 hx 1 (hb hby own_d19_0) rfl rfl ?_
  refine own_iln X0 hx 2 (hb hby own_d19_1) rfl rfl ?_
  refine own_iadd X0 hx 3 (hb hby own_d19_2) rfl ?_
  refine own_isn X0 hx #[.val (.int xa), .val (.int xb), .val (.int (xa + xb))] 4 (hb hby own_d19_3) rfl rfl ?_
  refine own_iln X0 hx 5 (hb hby own_d19_4) rfl rfl ?_
  refine own_iln X0 hx 6 (hb hby own_d19_5) rfl rfl ?_
  refine own_ixor X0 hx 7 (hb hby own_d19_6) rfl ?_
  refine own_iln X0 hx 8 (hb hby own_d19_7) rfl rfl ?_
  refine own_iln X0 hx 9 (hb hby own_d19_8) rfl rfl ?_
  refine own_ixor X0 hx 10 (hb hby own_d19_9) rfl ?_
  refine own_iand X0 hx 11 (hb hby own_d19_10) rfl ?_
  refine own_ifY X0 hx 24 (hb hby own_d19_11) ((if0 _ _).trans (flt (hax : ¬ (((xa ^^^ (xa + xb)) &&& (xb ^^^ (xa + xb))) < (0 : Int32)))).2.1) (by decide) (by decide) ?_
  refine own_iln X0 hx 25 (hb hby own_d19_24) rfl rfl ?_
  exact own_ret X0 (v := some (.int (xa + xb))) (fun h => by rw [Bd.returns] at h; cases h) (fun fs hr => retI X0 hx Bd.returns (hb hby own_d19_25) hr) (by rw [e0]; exact ⟨rfl, N0, rfl⟩) (by decide) (by decide)
theorem own_ef_rmMin (m : MethodId) (xa : Int32) (xb : Int32) : entryFrame m #[(.int xa), (.int xb)] 2 = mkF m 0 #[.val (.int xa), .val (.int xb)] [] := by first | (simp [entryFrame, mkF, argsToLocals, Value.category]; done) | rfl
theorem own_d21_0 : decode jdk_29_method_69_code 0 = .ok (.iload_n 0, 1) := by decide +kernel
theorem own_d21_1 : decode jdk_29_method_69_code 1 = .ok (.iload_n 1, 1) := by decide +kernel
theorem own_d21_2 : decode jdk_29_method_69_code 2 = .ok (.if_icmp .gt 7, 3) := by decide +kernel
theorem own_d21_5 : decode jdk_29_method_69_code 5 = .ok (.iload_n 0, 1) := by decide +kernel
theorem own_d21_6 : decode jdk_29_method_69_code 6 = .ok (.goto 4, 3) := by decide +kernel
theorem own_d21_10 : decode jdk_29_method_69_code 10 = .ok (.ireturn, 1) := by decide +kernel
def Q_rmMin (Z : State) (xa : Int32) (xb : Int32) (h0 : Heap) (n0 : Nat) (vq : Option Value) (hhq : Heap) (Lq : List Loc) : Prop := vq = some (.int xa) ∧ Fr n0 Lq ∧ hhq = h0
set_option maxRecDepth 65536 in
set_option maxHeartbeats 40000000 in
theorem rmMin (l : Launch) (Z : State) (a0 : Array Value) (hw : ∀ d ∈ tables_1, d.before a0 Z = true) (ws : List Jvm.Cond) (xa : Int32) (xb : Int32) (h0 : Heap) (n0 : Nat) (Z0 : n0 ≤ h0.size) (hmn : (¬ xb < xa)) :
    MetFree l (⟨"java/lang/Math", "min", "(II)I"⟩ : MethodName) (head1 (Jvm.Cond.code (⟨"java/lang/Math", "min", "(II)I"⟩ : MethodName) jdk_29_method_69_code 2 (some .int) :: ws) ({ frames := 0, cells := 0, slots := 0, locals := 0 } : Room)) (fun aq U => aq = #[(.int xa), (.int xb)] ∧ Z.Warmed39 U.vm ∧ U.heap = h0) (fun _ _ _ _ _ => True) (fun _ U oq U' => ∃ vq Lq, oq = .returned vq ∧ Q_rmMin Z xa xb h0 n0 vq U'.heap Lq ∧ FrameEnd U oq U' Lq ({ frames := 0, cells := 0, slots := 0, locals := 0 } : Room).cells ({ frames := 0, cells := 0, slots := 0, locals := 0 } : Room).slots) := by
  refine MetFree.of_bodySF (Jvm.Free.JP.mathPlain rfl (by decide +kernel)) hisR ?_
  intro p e s m args below meth c s₁ Bd hml0 hP hK
  obtain ⟨rfl, hZ, hh⟩ := hP
  have hx := Bd.exec
  have hby := Bd.bytes
  have hml : c.maxLocals = 2 := hml0
  have hown : s.vm.findClass "java/lang/Math" = some m.cls := findClass_of_methodNamed Bd.named
  have hnm := (name_of_methodNamed Bd.named Bd.method).1
  have X0 : Stand p l e ({ frames := 0, cells := 0, slots := 0, locals := 0 } : Room) s m #[(.int xa), (.int xb)] below meth c s₁ [] 0 0 := Stand.of_body Bd
  have e0 : s₁.heap = h0 := by rw [← hh, Bd.state]; rfl
  have N0 := Fr.nil n0
  have K0 : Keep h0 h0 [] := Keep.refl _ _
  refine own_go (S' := s₁.setTop (mkF m 0 #[.val (.int xa), .val (.int xb)] [])) (fun tq kq => castTop (own_ef_rmMin m xa xb) kq) ?_
  refine own_iln X0 hx 1 (hb hby own_d21_0) rfl rfl ?_
  refine own_iln X0 hx 2 (hb hby own_d21_1) rfl rfl ?_
  refine own_icN X0 hx 5 (hb hby own_d21_2) rfl (flt (hmn : ¬ (xb < xa))).2.2.1 ?_
  refine own_iln X0 hx 6 (hb hby own_d21_5) rfl rfl ?_
  refine own_gt X0 hx 10 (hb hby own_d21_6) (by decide) (by decide) ?_
  exact own_ret X0 (v := some (.int xa)) (fun h => by rw [Bd.returns] at h; cases h) (fun fs hr => retI X0 hx Bd.returns (hb hby own_d21_10) hr) (by rw [e0]; exact ⟨rfl, N0, rfl⟩) (by decide) (by decide)
theorem own_ef_rmEO (m : MethodId) (en : Addr) (bs : List Nat) : entryFrame m #[(.ref en), (.int (Int32.ofNat bs.length)), (.int (1 : Int32))] 5 = mkF m 0 #[.val (.ref en), .val (.int (Int32.ofNat bs.length)), .val (.int (1 : Int32)), .unset, .unset] [] := by first | (simp [entryFrame, mkF, argsToLocals, Value.category]; done) | rfl
theorem own_pn_java_util_Base64_Encoder : plainName "java/util/Base64$Encoder" = true := by first | (simp [plainName, overriddenIn]; done) | decide +kernel
theorem own_d31_0 : decode jdk_2452_method_2_code 0 = .ok (.iconst 0, 1) := by decide +kernel
theorem own_d31_1 : decode jdk_2452_method_2_code 1 = .ok (.istore_n 3, 1) := by decide +kernel
theorem own_d31_2 : decode jdk_2452_method_2_code 2 = .ok (.aload_n 0, 1) := by decide +kernel
theorem own_d31_3 : decode jdk_2452_method_2_code 3 = .ok (.getfield 21, 3) := by decide +kernel
theorem own_d31_6 : decode jdk_2452_method_2_code 6 = .ok (.ifCond .eq 18, 3) := by decide +kernel
theorem own_d31_24 : decode jdk_2452_method_2_code 24 = .ok (.iload_n 1, 1) := by decide +kernel
theorem own_d31_25 : decode jdk_2452_method_2_code 25 = .ok (.iconst 3, 1) := by decide +kernel
theorem own_d31_26 : decode jdk_2452_method_2_code 26 = .ok (.irem, 1) := by decide +kernel
theorem own_d31_27 : decode jdk_2452_method_2_code 27 = .ok (.istore 4, 2) := by decide +kernel
theorem own_d31_29 : decode jdk_2452_method_2_code 29 = .ok (.iconst 4, 1) := by decide +kernel
theorem own_d31_30 : decode jdk_2452_method_2_code 30 = .ok (.iload_n 1, 1) := by decide +kernel
theorem own_d31_31 : decode jdk_2452_method_2_code 31 = .ok (.iconst 3, 1) := by decide +kernel
theorem own_d31_32 : decode jdk_2452_method_2_code 32 = .ok (.idiv, 1) := by decide +kernel
theorem own_d31_33 : decode jdk_2452_method_2_code 33 = .ok (.invokestatic 30, 3) := by decide +kernel
theorem own_pd_28II29I : parseMethodDescriptor "(II)I" = some ⟨[.int, .int], some .int⟩ := by decide +kernel
theorem own_d31_36 : decode jdk_2452_method_2_code 36 = .ok (.iload 4, 2) := by decide +kernel
theorem own_d31_38 : decode jdk_2452_method_2_code 38 = .ok (.ifCond .ne 7, 3) := by decide +kernel
theorem own_d31_41 : decode jdk_2452_method_2_code 41 = .ok (.iconst 0, 1) := by decide +kernel
theorem own_d31_42 : decode jdk_2452_method_2_code 42 = .ok (.goto 7, 3) := by decide +kernel
theorem own_d31_49 : decode jdk_2452_method_2_code 49 = .ok (.invokestatic 24, 3) := by decide +kernel
theorem own_d31_52 : decode jdk_2452_method_2_code 52 = .ok (.istore_n 3, 1) := by decide +kernel
theorem own_d31_53 : decode jdk_2452_method_2_code 53 = .ok (.aload_n 0, 1) := by decide +kernel
theorem own_d31_54 : decode jdk_2452_method_2_code 54 = .ok (.getfield 17, 3) := by decide +kernel
theorem own_d31_57 : decode jdk_2452_method_2_code 57 = .ok (.ifCond .le 22, 3) := by decide +kernel
theorem own_d31_79 : decode jdk_2452_method_2_code 79 = .ok (.goto 21, 3) := by decide +kernel
theorem own_d31_100 : decode jdk_2452_method_2_code 100 = .ok (.iload_n 3, 1) := by decide +kernel
theorem own_d31_101 : decode jdk_2452_method_2_code 101 = .ok (.ireturn, 1) := by decide +kernel
theorem own_d31_45 : decode jdk_2452_method_2_code 45 = .ok (.iload 4, 2) := by decide +kernel
theorem own_d31_47 : decode jdk_2452_method_2_code 47 = .ok (.iconst 1, 1) := by decide +kernel
theorem own_d31_48 : decode jdk_2452_method_2_code 48 = .ok (.iadd, 1) := by decide +kernel
def Q_rmEO (Z : State) (en : Addr) (bs : List Nat) (h0 : Heap) (n0 : Nat) (vq : Option Value) (hhq : Heap) (Lq : List Loc) : Prop := vq = some (.int (Int32.ofNat (own_cs bs).length)) ∧ Fr n0 Lq ∧ hhq = h0
set_option maxRecDepth 65536 in
set_option maxHeartbeats 40000000 in
theorem rmEO (l : Launch) (Z : State) (a0 : Array Value) (hw : ∀ d ∈ tables_1, d.before a0 Z = true) (ws : List Jvm.Cond) (en : Addr) (bs : List Nat) (h0 : Heap) (n0 : Nat) (Z0 : n0 ≤ h0.size) (ZE : Exa Z Z.heap en "java/util/Base64$Encoder") (ZE1 : Fld Z Z.heap en "java/util/Base64$Encoder" "isURL" "Z" (.int (1 : Int32))) (ZE2 : Fld Z Z.heap en "java/util/Base64$Encoder" "doPadding" "Z" (.int (0 : Int32))) (ZE3 : Fld Z Z.heap en "java/util/Base64$Encoder" "linemax" "I" (.int (-1 : Int32))) (hL : (bs.length ≤ 5)) (hB : (∀ b ∈ bs, b < 256)) (X00 : Old Z n0 h0) :
    MetFree l (⟨"java/util/Base64$Encoder", "encodedOutLength", "(IZ)I"⟩ : MethodName) (head1 (Jvm.Cond.codeWith (⟨"java/util/Base64$Encoder", "encodedOutLength", "(IZ)I"⟩ : MethodName) jdk_2452_method_2_code 5 (some .int) [(2, 79, 82, 33)] :: ws) ({ frames := 1, cells := 0, slots := 0, locals := 15 } : Room)) (fun aq U => aq = #[(.ref en), (.int (Int32.ofNat bs.length)), (.int (1 : Int32))] ∧ Z.Warmed39 U.vm ∧ U.heap = h0) (fun _ _ _ _ _ => True) (fun _ U oq U' => ∃ vq Lq, oq = .returned vq ∧ Q_rmEO Z en bs h0 n0 vq U'.heap Lq ∧ FrameEnd U oq U' Lq ({ frames := 1, cells := 0, slots := 0, locals := 15 } : Room).cells ({ frames := 1, cells := 0, slots := 0, locals := 15 } : Room).slots) := by
  refine MetFree.of_bodySF (plainFor_of_name own_pn_java_util_Base64_Encoder) hisWith ?_
  intro p e s m args below meth c s₁ Bd hml0 hP hK
  obtain ⟨rfl, hZ, hh⟩ := hP
  have hx := Bd.exec
  have hby := Bd.bytes
  have hml : c.maxLocals = 5 := hml0
  have hown : s.vm.findClass "java/util/Base64$Encoder" = some m.cls := findClass_of_methodNamed Bd.named
  have hnm := (name_of_methodNamed Bd.named Bd.method).1
  have X0 : Stand p l e ({ frames := 1, cells := 0, slots := 0, locals := 15 } : Room) s m #[(.ref en), (.int (Int32.ofNat bs.length)), (.int (1 : Int32))] below meth c s₁ [] 0 0 := Stand.of_body Bd
  have e0 : s₁.heap = h0 := by rw [← hh, Bd.state]; rfl
  have N0 := Fr.nil n0
  have K0 : Keep h0 h0 [] := Keep.refl _ _
  refine own_go (S' := s₁.setTop (mkF m 0 #[.val (.ref en), .val (.int (Int32.ofNat bs.length)), .val (.int (1 : Int32)), .unset, .unset] [])) (fun tq kq => castTop (own_ef_rmEO m en bs) kq) ?_
  refine own_ic X0 hx (0 : Int32) 1 (hb hby own_d31_0) rfl rfl ?_
  refine own_isn X0 hx #[.val (.ref en), .val (.int (Int32.ofNat bs.length)), .val (.int (1 : Int32)), .val (.int (0 : Int32)), .unset] 2 (hb hby own_d31_1) rfl rfl ?_
  refine own_aln X0 hx 3 (hb hby own_d31_2) rfl rfl rfl ?_
  have F1 : Fld Z h0 en "java/util/Base64$Encoder" "doPadding" "Z" (.int (0 : Int32)) := ZE2.ext X00.2
  refine own_gF X0 hx hZ hown (host := "") (Or.inl (hw _ (own_mi 123 rfl))) Via.refl e0 F1 6 (hb hby own_d31_3) rfl ?_
  intro T2 X2 e2
  refine own_ifY X2 hx 24 (hb hby own_d31_6) ((if0 _ _).trans (teq ((by decide : (0 : Int32) = (0 : Int32)) : (0 : Int32) = (0 : Int32))).1) (by decide) (by decide) ?_
  rcases bs with _ | ⟨q0, _ | ⟨q1, _ | ⟨q2, _ | ⟨q3, _ | ⟨q4, _ | ⟨q5, rs⟩⟩⟩⟩⟩⟩
  · skip
    show own_Rn p e below _ (T2.setTop (mkF m 24 #[.val (.ref en), .val (.int (0 : Int32)), .val (.int (1 : Int32)), .val (.int (0 : Int32)), .unset] []))
    refine own_iln X2 hx 25 (hb hby own_d31_24) rfl rfl ?_
    refine own_ic X2 hx (3 : Int32) 26 (hb hby own_d31_25) rfl rfl ?_
    refine own_go (fun tq kq => iremM X2 hx rfl (hb hby own_d31_26) rfl (by decide) kq) ?_
    show own_Rn p e below _ (T2.setTop (mkF m 27 #[.val (.ref en), .val (.int (0 : Int32)), .val (.int (1 : Int32)), .val (.int (0 : Int32)), .unset] [(.int ((0 : Int32) % (3 : Int32)))]))
    rw [show ((0 : Int32) % (3 : Int32)) = (0 : Int32) from by decide]
    refine own_is X2 hx #[.val (.ref en), .val (.int (0 : Int32)), .val (.int (1 : Int32)), .val (.int (0 : Int32)), .val (.int (0 : Int32))] 29 (hb hby own_d31_27) rfl rfl ?_
    refine own_ic X2 hx (4 : Int32) 30 (hb hby own_d31_29) rfl rfl ?_
    refine own_iln X2 hx 31 (hb hby own_d31_30) rfl rfl ?_
    refine own_ic X2 hx (3 : Int32) 32 (hb hby own_d31_31) rfl rfl ?_
    refine own_idiv X2 hx 33 (hb hby own_d31_32) rfl (by decide) ?_
    rw [show ((0 : Int32) / (3 : Int32)) = (0 : Int32) from by decide]
    have Zn3 : n0 ≤ h0.size := (Nat.le_trans Z0 (Nat.le_refl _))
    refine own_cS X2 hx hZ (y := (⟨"java/lang/Math", "multiplyExact", "(II)I"⟩ : MethodName)) hown (hw _ (own_mi 125 rfl)) (hw _ (own_mi 126 rfl)) (hw _ (own_mi 127 rfl)) (hw _ (own_mi 128 rfl)) (by decide) (rmMX l Z a0 hw [] ((4 : Int32)) ((0 : Int32)) h0 n0 Zn3 (by decide)) e2 [(.int (4 : Int32)), (.int (0 : Int32))] [] rfl (by rw [hml]; rfl) (lenOf own_pd_28II29I rfl) rfl 0 (Nat.le_of_eq rfl) (by decide) (by decide) (by decide : 0 + 0 ≤ _) (by decide : 0 + 0 ≤ _) 36 (hb hby own_d31_33) rfl 0 0 rfl rfl ?_
    intro rv3 T3 Lc3 X3 hQ3
    obtain ⟨rfl, Nq3, eh3⟩ := hQ3
    have N3 := Fr.app N0 Nq3
    show own_Rn p e below _ (T3.setTop (mkF m 36 #[.val (.ref en), .val (.int (0 : Int32)), .val (.int (1 : Int32)), .val (.int (0 : Int32)), .val (.int (0 : Int32))] [(.int (((4 : Int32).toInt64 * (0 : Int32).toInt64).toInt32))]))
    rw [show (((4 : Int32).toInt64 * (0 : Int32).toInt64).toInt32) = (0 : Int32) from by decide]
    refine own_il X3 hx 38 (hb hby own_d31_36) rfl rfl ?_
    refine own_ifN X3 hx 41 (hb hby own_d31_38) rfl ((if0 _ _).trans (teq (by decide : (0 : Int32) = (0 : Int32))).2) ?_
    refine own_ic X3 hx (0 : Int32) 42 (hb hby own_d31_41) rfl rfl ?_
    refine own_gt X3 hx 49 (hb hby own_d31_42) (by decide) (by decide) ?_
    have Zn4 : n0 ≤ h0.size := (Nat.le_trans Z0 (Nat.le_refl _))
    refine own_cS X3 hx hZ (y := (⟨"java/lang/Math", "addExact", "(II)I"⟩ : MethodName)) hown (hw _ (own_mi 129 rfl)) (hw _ (own_mi 130 rfl)) (hw _ (own_mi 127 rfl)) (hw _ (own_mi 131 rfl)) (by decide) (rmAX l Z a0 hw [] ((0 : Int32)) ((0 : Int32)) h0 n0 Zn4 (by decide)) eh3 [(.int (0 : Int32)), (.int (0 : Int32))] [] rfl (by rw [hml]; rfl) (lenOf own_pd_28II29I rfl) rfl 0 (Nat.le_of_eq rfl) (by decide) (by decide) (by decide : 0 + 0 ≤ _) (by decide : 0 + 0 ≤ _) 52 (hb hby own_d31_49) rfl 0 0 rfl rfl ?_
    intro rv4 T4 Lc4 X4 hQ4
    obtain ⟨rfl, Nq4, eh4⟩ := hQ4
    have N4 := Fr.app N3 Nq4
    show own_Rn p e below _ (T4.setTop (mkF m 52 #[.val (.ref en), .val (.int (0 : Int32)), .val (.int (1 : Int32)), .val (.int (0 : Int32)), .val (.int (0 : Int32))] [(.int ((0 : Int32) + (0 : Int32)))]))
    rw [show ((0 : Int32) + (0 : Int32)) = (0 : Int32) from by decide]
    refine own_isn X4 hx #[.val (.ref en), .val (.int (0 : Int32)), .val (.int (1 : Int32)), .val (.int (0 : Int32)), .val (.int (0 : Int32))] 53 (hb hby own_d31_52) rfl rfl ?_
    refine own_aln X4 hx 54 (hb hby own_d31_53) rfl rfl rfl ?_
    have F5 : Fld Z h0 en "java/util/Base64$Encoder" "linemax" "I" (.int (-1 : Int32)) := ZE3.ext X00.2
    refine own_gF X4 hx hZ hown (host := "") (Or.inl (hw _ (own_mi 132 rfl))) Via.refl eh4 F5 57 (hb hby own_d31_54) rfl ?_
    intro T6 X6 e6
    refine own_ifY X6 hx 79 (hb hby own_d31_57) ((if0 _ _).trans (flt (by decide : ¬ ((0 : Int32) < (-1 : Int32)))).2.2.2) (by decide) (by decide) ?_
    refine own_gt X6 hx 100 (hb hby own_d31_79) (by decide) (by decide) ?_
    refine own_iln X6 hx 101 (hb hby own_d31_100) rfl rfl ?_
    exact own_ret X6 (v := some (.int (0 : Int32))) (fun h => by rw [Bd.returns] at h; cases h) (fun fs hr => retI X6 hx Bd.returns (hb hby own_d31_101) hr) (by rw [e6]; exact ⟨rfl, N4, rfl⟩) (by decide) (by decide)
  · skip
    have hq0 : q0 < 256 := hB q0 (by simp)
    show own_Rn p e below _ (T2.setTop (mkF m 24 #[.val (.ref en), .val (.int (1 : Int32)), .val (.int (1 : Int32)), .val (.int (0 : Int32)), .unset] []))
    refine own_iln X2 hx 25 (hb hby own_d31_24) rfl rfl ?_
    refine own_ic X2 hx (3 : Int32) 26 (hb hby own_d31_25) rfl rfl ?_
    refine own_go (fun tq kq => iremM X2 hx rfl (hb hby own_d31_26) rfl (by decide) kq) ?_
    show own_Rn p e below _ (T2.setTop (mkF m 27 #[.val (.ref en), .val (.int (1 : Int32)), .val (.int (1 : Int32)), .val (.int (0 : Int32)), .unset] [(.int ((1 : Int32) % (3 : Int32)))]))
    rw [show ((1 : Int32) % (3 : Int32)) = (1 : Int32) from by decide]
    refine own_is X2 hx #[.val (.ref en), .val (.int (1 : Int32)), .val (.int (1 : Int32)), .val (.int (0 : Int32)), .val (.int (1 : Int32))] 29 (hb hby own_d31_27) rfl rfl ?_
    refine own_ic X2 hx (4 : Int32) 30 (hb hby own_d31_29) rfl rfl ?_
    refine own_iln X2 hx 31 (hb hby own_d31_30) rfl rfl ?_
    refine own_ic X2 hx (3 : Int32) 32 (hb hby own_d31_31) rfl rfl ?_
    refine own_idiv X2 hx 33 (hb hby own_d31_32) rfl (by decide) ?_
    rw [show ((1 : Int32) / (3 : Int32)) = (0 : Int32) from by decide]
    have Zn7 : n0 ≤ h0.size := (Nat.le_trans Z0 (Nat.le_refl _))
    refine own_cS X2 hx hZ (y := (⟨"java/lang/Math", "multiplyExact", "(II)I"⟩ : MethodName)) hown (hw _ (own_mi 125 rfl)) (hw _ (own_mi 126 rfl)) (hw _ (own_mi 127 rfl)) (hw _ (own_mi 128 rfl)) (by decide) (rmMX l Z a0 hw [] ((4 : Int32)) ((0 : Int32)) h0 n0 Zn7 (by decide)) e2 [(.int (4 : Int32)), (.int (0 : Int32))] [] rfl (by rw [hml]; rfl) (lenOf own_pd_28II29I rfl) rfl 0 (Nat.le_of_eq rfl) (by decide) (by decide) (by decide : 0 + 0 ≤ _) (by decide : 0 + 0 ≤ _) 36 (hb hby own_d31_33) rfl 0 0 rfl rfl ?_
    intro rv7 T7 Lc7 X7 hQ7
    obtain ⟨rfl, Nq7, eh7⟩ := hQ7
    have N7 := Fr.app N0 Nq7
    show own_Rn p e below _ (T7.setTop (mkF m 36 #[.val (.ref en), .val (.int (1 : Int32)), .val (.int (1 : Int32)), .val (.int (0 : Int32)), .val (.int (1 : Int32))] [(.int (((4 : Int32).toInt64 * (0 : Int32).toInt64).toInt32))]))
    rw [show (((4 : Int32).toInt64 * (0 : Int32).toInt64).toInt32) = (0 : Int32) from by decide]
    refine own_il X7 hx 38 (hb hby own_d31_36) rfl rfl ?_
    refine own_ifY X7 hx 45 (hb hby own_d31_38) ((if0 _ _).trans (feq (by decide : ¬ ((1 : Int32) = (0 : Int32)))).2) (by decide) (by decide) ?_
    refine own_il X7 hx 47 (hb hby own_d31_45) rfl rfl ?_
    refine own_ic X7 hx (1 : Int32) 48 (hb hby own_d31_47) rfl rfl ?_
    refine own_iadd X7 hx 49 (hb hby own_d31_48) rfl ?_
    rw [show ((1 : Int32) + (1 : Int32)) = (2 : Int32) from by decide]
    have Zn8 : n0 ≤ h0.size := (Nat.le_trans Z0 (Nat.le_refl _))
    refine own_cS X7 hx hZ (y := (⟨"java/lang/Math", "addExact", "(II)I"⟩ : MethodName)) hown (hw _ (own_mi 129 rfl)) (hw _ (own_mi 130 rfl)) (hw _ (own_mi 127 rfl)) (hw _ (own_mi 131 rfl)) (by decide) (rmAX l Z a0 hw [] ((0 : Int32)) ((2 : Int32)) h0 n0 Zn8 (by decide)) eh7 [(.int (0 : Int32)), (.int (2 : Int32))] [] rfl (by rw [hml]; rfl) (lenOf own_pd_28II29I rfl) rfl 0 (Nat.le_of_eq rfl) (by decide) (by decide) (by decide : 0 + 0 ≤ _) (by decide : 0 + 0 ≤ _) 52 (hb hby own_d31_49) rfl 0 0 rfl rfl ?_
    intro rv8 T8 Lc8 X8 hQ8
    obtain ⟨rfl, Nq8, eh8⟩ := hQ8
    have N8 := Fr.app N7 Nq8
    show own_Rn p e below _ (T8.setTop (mkF m 52 #[.val (.ref en), .val (.int (1 : Int32)), .val (.int (1 : Int32)), .val (.int (0 : Int32)), .val (.int (1 : Int32))] [(.int ((0 : Int32) + (2 : Int32)))]))
    rw [show ((0 : Int32) + (2 : Int32)) = (2 : Int32) from by decide]
    refine own_isn X8 hx #[.val (.ref en), .val (.int (1 : Int32)), .val (.int (1 : Int32)), .val (.int (2 : Int32)), .val (.int (1 : Int32))] 53 (hb hby own_d31_52) rfl rfl ?_
    refine own_aln X8 hx 54 (hb hby own_d31_53) rfl rfl rfl ?_
    have F9 : Fld Z h0 en "java/util/Base64$Encoder" "linemax" "I" (.int (-1 : Int32)) := ZE3.ext X00.2
    refine own_gF X8 hx hZ hown (host := "") (Or.inl (hw _ (own_mi 132 rfl))) Via.refl eh8 F9 57 (hb hby own_d31_54) rfl ?_
    intro T10 X10 e10
    refine own_ifY X10 hx 79 (hb hby own_d31_57) ((if0 _ _).trans (flt (by decide : ¬ ((0 : Int32) < (-1 : Int32)))).2.2.2) (by decide) (by decide) ?_
    refine own_gt X10 hx 100 (hb hby own_d31_79) (by decide) (by decide) ?_
    refine own_iln X10 hx 101 (hb hby own_d31_100) rfl rfl ?_
    exact own_ret X10 (v := some (.int (2 : Int32))) (fun h => by rw [Bd.returns] at h; cases h) (fun fs hr => retI X10 hx Bd.returns (hb hby own_d31_101) hr) (by rw [e10]; exact ⟨rfl, N8, rfl⟩) (by decide) (by decide)
  · skip
    have hq0 : q0 < 256 := hB q0 (by simp)
    have hq1 : q1 < 256 := hB q1 (by simp)
    show own_Rn p e below _ (T2.setTop (mkF m 24 #[.val (.ref en), .val (.int (2 : Int32)), .val (.int (1 : Int32)), .val (.int (0 : Int32)), .unset] []))
    refine own_iln X2 hx 25 (hb hby own_d31_24) rfl rfl ?_
    refine own_ic X2 hx (3 : Int32) 26 (hb hby own_d31_25) rfl rfl ?_
    refine own_go (fun tq kq => iremM X2 hx rfl (hb hby own_d31_26) rfl (by decide) kq) ?_
    show own_Rn p e below _ (T2.setTop (mkF m 27 #[.val (.ref en), .val (.int (2 : Int32)), .val (.int (1 : Int32)), .val (.int (0 : Int32)), .unset] [(.int ((2 : Int32) % (3 : Int32)))]))
    rw [show ((2 : Int32) % (3 : Int32)) = (2 : Int32) from by decide]
    refine own_is X2 hx #[.val (.ref en), .val (.int (2 : Int32)), .val (.int (1 : Int32)), .val (.int (0 : Int32)), .val (.int (2 : Int32))] 29 (hb hby own_d31_27) rfl rfl ?_
    refine own_ic X2 hx (4 : Int32) 30 (hb hby own_d31_29) rfl rfl ?_
    refine own_iln X2 hx 31 (hb hby own_d31_30) rfl rfl ?_
    refine own_ic X2 hx (3 : Int32) 32 (hb hby own_d31_31) rfl rfl ?_
    refine own_idiv X2 hx 33 (hb hby own_d31_32) rfl (by decide) ?_
    rw [show ((2 : Int32) / (3 : Int32)) = (0 : Int32) from by decide]
    have Zn11 : n0 ≤ h0.size := (Nat.le_trans Z0 (Nat.le_refl _))
    refine own_cS X2 hx hZ (y := (⟨"java/lang/Math", "multiplyExact", "(II)I"⟩ : MethodName)) hown (hw _ (own_mi 125 rfl)) (hw _ (own_mi 126 rfl)) (hw _ (own_mi 127 rfl)) (hw _ (own_mi 128 rfl)) (by decide) (rmMX l Z a0 hw [] ((4 : Int32)) ((0 : Int32)) h0 n0 Zn11 (by decide)) e2 [(.int (4 : Int32)), (.int (0 : Int32))] [] rfl (by rw [hml]; rfl) (lenOf own_pd_28II29I rfl) rfl 0 (Nat.le_of_eq rfl) (by decide) (by decide) (by decide : 0 + 0 ≤ _) (by decide : 0 + 0 ≤ _) 36 (hb hby own_d31_33) rfl 0 0 rfl rfl ?_
    intro rv11 T11 Lc11 X11 hQ11
    obtain ⟨rfl, Nq11, eh11⟩ := hQ11
    have N11 := Fr.app N0 Nq11
    show own_Rn p e below _ (T11.setTop (mkF m 36 #[.val (.ref en), .val (.int (2 : Int32)), .val (.int (1 : Int32)), .val (.int (0 : Int32)), .val (.int (2 : Int32))] [(.int (((4 : Int32).toInt64 * (0 : Int32).toInt64).toInt32))]))
    rw [show (((4 : Int32).toInt64 * (0 : Int32).toInt64).toInt32) = (0 : Int32) from by decide]
    refine own_il X11 hx 38 (hb hby own_d31_36) rfl rfl ?_
    refine own_ifY X11 hx 45 (hb hby own_d31_38) ((if0 _ _).trans (feq (by decide : ¬ ((2 : Int32) = (0 : Int32)))).2) (by decide) (by decide) ?_
    refine own_il X11 hx 47 (hb hby own_d31_45) rfl rfl ?_
    refine own_ic X11 hx (1 : Int32) 48 (hb hby own_d31_47) rfl rfl ?_
    refine own_iadd X11 hx 49 (hb hby own_d31_48) rfl ?_
    rw [show ((2 : Int32) + (1 : Int32)) = (3 : Int32) from by decide]
    have Zn12 : n0 ≤ h0.size := (Nat.le_trans Z0 (Nat.le_refl _))
    refine own_cS X11 hx hZ (y := (⟨"java/lang/Math", "addExact", "(II)I"⟩ : MethodName)) hown (hw _ (own_mi 129 rfl)) (hw _ (own_mi 130 rfl)) (hw _ (own_mi 127 rfl)) (hw _ (own_mi 131 rfl)) (by decide) (rmAX l Z a0 hw [] ((0 : Int32)) ((3 : Int32)) h0 n0 Zn12 (by decide)) eh11 [(.int (0 : Int32)), (.int (3 : Int32))] [] rfl (by rw [hml]; rfl) (lenOf own_pd_28II29I rfl) rfl 0 (Nat.le_of_eq rfl) (by decide) (by decide) (by decide : 0 + 0 ≤ _) (by decide : 0 + 0 ≤ _) 52 (hb hby own_d31_49) rfl 0 0 rfl rfl ?_
    intro rv12 T12 Lc12 X12 hQ12
    obtain ⟨rfl, Nq12, eh12⟩ := hQ12
    have N12 := Fr.app N11 Nq12
    show own_Rn p e below _ (T12.setTop (mkF m 52 #[.val (.ref en), .val (.int (2 : Int32)), .val (.int (1 : Int32)), .val (.int (0 : Int32)), .val (.int (2 : Int32))] [(.int ((0 : Int32) + (3 : Int32)))]))
    rw [show ((0 : Int32) + (3 : Int32)) = (3 : Int32) from by decide]
    refine own_isn X12 hx #[.val (.ref en), .val (.int (2 : Int32)), .val (.int (1 : Int32)), .val (.int (3 : Int32)), .val (.int (2 : Int32))] 53 (hb hby own_d31_52) rfl rfl ?_
    refine own_aln X12 hx 54 (hb hby own_d31_53) rfl rfl rfl ?_
    have F13 : Fld Z h0 en "java/util/Base64$Encoder" "linemax" "I" (.int (-1 : Int32)) := ZE3.ext X00.2
    refine own_gF X12 hx hZ hown (host := "") (Or.inl (hw _ (own_mi 132 rfl))) Via.refl eh12 F13 57 (hb hby own_d31_54) rfl ?_
    intro T14 X14 e14
    refine own_ifY X14 hx 79 (hb hby own_d31_57) ((if0 _ _).trans (flt (by decide : ¬ ((0 : Int32) < (-1 : Int32)))).2.2.2) (by decide) (by decide) ?_
    refine own_gt X14 hx 100 (hb hby own_d31_79) (by decide) (by decide) ?_
    refine own_iln X14 hx 101 (hb hby own_d31_100) rfl rfl ?_
    exact own_ret X14 (v := some (.int (3 : Int32))) (fun h => by rw [Bd.returns] at h; cases h) (fun fs hr => retI X14 hx Bd.returns (hb hby own_d31_101) hr) (by rw [e14]; exact ⟨rfl, N12, rfl⟩) (by decide) (by decide)
  · skip
    have hq0 : q0 < 256 := hB q0 (by simp)
    have hq1 : q1 < 256 := hB q1 (by simp)
    have hq2 : q2 < 256 := hB q2 (by simp)
    show own_Rn p e below _ (T2.setTop (mkF m 24 #[.val (.ref en), .val (.int (3 : Int32)), .val (.int (1 : Int32)), .val (.int (0 : Int32)), .unset] []))
    refine own_iln X2 hx 25 (hb hby own_d31_24) rfl rfl ?_
    refine own_ic X2 hx (3 : Int32) 26 (hb hby own_d31_25) rfl rfl ?_
    refine own_go (fun tq kq => iremM X2 hx rfl (hb hby own_d31_26) rfl (by decide) kq) ?_
    show own_Rn p e below _ (T2.setTop (mkF m 27 #[.val (.ref en), .val (.int (3 : Int32)), .val (.int (1 : Int32)), .val (.int (0 : Int32)), .unset] [(.int ((3 : Int32) % (3 : Int32)))]))
    rw [show ((3 : Int32) % (3 : Int32)) = (0 : Int32) from by decide]
    refine own_is X2 hx #[.val (.ref en), .val (.int (3 : Int32)), .val (.int (1 : Int32)), .val (.int (0 : Int32)), .val (.int (0 : Int32))] 29 (hb hby own_d31_27) rfl rfl ?_
    refine own_ic X2 hx (4 : Int32) 30 (hb hby own_d31_29) rfl rfl ?_
    refine own_iln X2 hx 31 (hb hby own_d31_30) rfl rfl ?_
    refine own_ic X2 hx (3 : Int32) 32 (hb hby own_d31_31) rfl rfl ?_
    refine own_idiv X2 hx 33 (hb hby own_d31_32) rfl (by decide) ?_
    rw [show ((3 : Int32) / (3 : Int32)) = (1 : Int32) from by decide]
    have Zn15 : n0 ≤ h0.size := (Nat.le_trans Z0 (Nat.le_refl _))
    refine own_cS X2 hx hZ (y := (⟨"java/lang/Math", "multiplyExact", "(II)I"⟩ : MethodName)) hown (hw _ (own_mi 125 rfl)) (hw _ (own_mi 126 rfl)) (hw _ (own_mi 127 rfl)) (hw _ (own_mi 128 rfl)) (by decide) (rmMX l Z a0 hw [] ((4 : Int32)) ((1 : Int32)) h0 n0 Zn15 (by decide)) e2 [(.int (4 : Int32)), (.int (1 : Int32))] [] rfl (by rw [hml]; rfl) (lenOf own_pd_28II29I rfl) rfl 0 (Nat.le_of_eq rfl) (by decide) (by decide) (by decide : 0 + 0 ≤ _) (by decide : 0 + 0 ≤ _) 36 (hb hby own_d31_33) rfl 0 0 rfl rfl ?_
    intro rv15 T15 Lc15 X15 hQ15
    obtain ⟨rfl, Nq15, eh15⟩ := hQ15
    have N15 := Fr.app N0 Nq15
    show own_Rn p e below _ (T15.setTop (mkF m 36 #[.val (.ref en), .val (.int (3 : Int32)), .val (.int (1 : Int32)), .val (.int (0 : Int32)), .val (.int (0 : Int32))] [(.int (((4 : Int32).toInt64 * (1 : Int32).toInt64).toInt32))]))
    rw [show (((4 : Int32).toInt64 * (1 : Int32).toInt64).toInt32) = (4 : Int32) from by decide]
    refine own_il X15 hx 38 (hb hby own_d31_36) rfl rfl ?_
    refine own_ifN X15 hx 41 (hb hby own_d31_38) rfl ((if0 _ _).trans (teq (by decide : (0 : Int32) = (0 : Int32))).2) ?_
    refine own_ic X15 hx (0 : Int32) 42 (hb hby own_d31_41) rfl rfl ?_
    refine own_gt X15 hx 49 (hb hby own_d31_42) (by decide) (by decide) ?_
    have Zn16 : n0 ≤ h0.size := (Nat.le_trans Z0 (Nat.le_refl _))
    refine own_cS X15 hx hZ (y := (⟨"java/lang/Math", "addExact", "(II)I"⟩ : MethodName)) hown (hw _ (own_mi 129 rfl)) (hw _ (own_mi 130 rfl)) (hw _ (own_mi 127 rfl)) (hw _ (own_mi 131 rfl)) (by decide) (rmAX l Z a0 hw [] ((4 : Int32)) ((0 : Int32)) h0 n0 Zn16 (by decide)) eh15 [(.int (4 : Int32)), (.int (0 : Int32))] [] rfl (by rw [hml]; rfl) (lenOf own_pd_28II29I rfl) rfl 0 (Nat.le_of_eq rfl) (by decide) (by decide) (by decide : 0 + 0 ≤ _) (by decide : 0 + 0 ≤ _) 52 (hb hby own_d31_49) rfl 0 0 rfl rfl ?_
    intro rv16 T16 Lc16 X16 hQ16
    obtain ⟨rfl, Nq16, eh16⟩ := hQ16
    have N16 := Fr.app N15 Nq16
    show own_Rn p e below _ (T16.setTop (mkF m 52 #[.val (.ref en), .val (.int (3 : Int32)), .val (.int (1 : Int32)), .val (.int (0 : Int32)), .val (.int (0 : Int32))] [(.int ((4 : Int32) + (0 : Int32)))]))
    rw [show ((4 : Int32) + (0 : Int32)) = (4 : Int32) from by decide]
    refine own_isn X16 hx #[.val (.ref en), .val (.int (3 : Int32)), .val (.int (1 : Int32)), .val (.int (4 : Int32)), .val (.int (0 : Int32))] 53 (hb hby own_d31_52) rfl rfl ?_
    refine own_aln X16 hx 54 (hb hby own_d31_53) rfl rfl rfl ?_
    have F17 : Fld Z h0 en "java/util/Base64$Encoder" "linemax" "I" (.int (-1 : Int32)) := ZE3.ext X00.2
    refine own_gF X16 hx hZ hown (host := "") (Or.inl (hw _ (own_mi 132 rfl))) Via.refl eh16 F17 57 (hb hby own_d31_54) rfl ?_
    intro T18 X18 e18
    refine own_ifY X18 hx 79 (hb hby own_d31_57) ((if0 _ _).trans (flt (by decide : ¬ ((0 : Int32) < (-1 : Int32)))).2.2.2) (by decide) (by decide) ?_
    refine own_gt X18 hx 100 (hb hby own_d31_79) (by decide) (by decide) ?_
    refine own_iln X18 hx 101 (hb hby own_d31_100) rfl rfl ?_
    exact own_ret X18 (v := some (.int (4 : Int32))) (fun h => by rw [Bd.returns] at h; cases h) (fun fs hr => retI X18 hx Bd.returns (hb hby own_d31_101) hr) (by rw [e18]; exact ⟨rfl, N16, rfl⟩) (by decide) (by decide)
  · skip
    have hq0 : q0 < 256 := hB q0 (by simp)
    have hq1 : q1 < 256 := hB q1 (by simp)
    have hq2 : q2 < 256 := hB q2 (by simp)
    have hq3 : q3 < 256 := hB q3 (by simp)
    show own_Rn p e below _ (T2.setTop (mkF m 24 #[.val (.ref en), .val (.int (4 : Int32)), .val (.int (1 : Int32)), .val (.int (0 : Int32)), .unset] []))
    refine own_iln X2 hx 25 (hb hby own_d31_24) rfl rfl ?_
    refine own_ic X2 hx (3 : Int32) 26 (hb hby own_d31_25) rfl rfl ?_
    refine own_go (fun tq kq => iremM X2 hx rfl (hb hby own_d31_26) rfl (by decide) kq) ?_
    show own_Rn p e below _ (T2.setTop (mkF m 27 #[.val (.ref en), .val (.int (4 : Int32)), .val (.int (1 : Int32)), .val (.int (0 : Int32)), .unset] [(.int ((4 : Int32) % (3 : Int32)))]))
    rw [show ((4 : Int32) % (3 : Int32)) = (1 : Int32) from by decide]
    refine own_is X2 hx #[.val (.ref en), .val (.int (4 : Int32)), .val (.int (1 : Int32)), .val (.int (0 : Int32)), .val (.int (1 : Int32))] 29 (hb hby own_d31_27) rfl rfl ?_
    refine own_ic X2 hx (4 : Int32) 30 (hb hby own_d31_29) rfl rfl ?_
    refine own_iln X2 hx 31 (hb hby own_d31_30) rfl rfl ?_
    refine own_ic X2 hx (3 : Int32) 32 (hb hby own_d31_31) rfl rfl ?_
    refine own_idiv X2 hx 33 (hb hby own_d31_32) rfl (by decide) ?_
    rw [show ((4 : Int32) / (3 : Int32)) = (1 : Int32) from by decide]
    have Zn19 : n0 ≤ h0.size := (Nat.le_trans Z0 (Nat.le_refl _))
    refine own_cS X2 hx hZ (y := (⟨"java/lang/Math", "multiplyExact", "(II)I"⟩ : MethodName)) hown (hw _ (own_mi 125 rfl)) (hw _ (own_mi 126 rfl)) (hw _ (own_mi 127 rfl)) (hw _ (own_mi 128 rfl)) (by decide) (rmMX l Z a0 hw [] ((4 : Int32)) ((1 : Int32)) h0 n0 Zn19 (by decide)) e2 [(.int (4 : Int32)), (.int (1 : Int32))] [] rfl (by rw [hml]; rfl) (lenOf own_pd_28II29I rfl) rfl 0 (Nat.le_of_eq rfl) (by decide) (by decide) (by decide : 0 + 0 ≤ _) (by decide : 0 + 0 ≤ _) 36 (hb hby own_d31_33) rfl 0 0 rfl rfl ?_
    intro rv19 T19 Lc19 X19 hQ19
    obtain ⟨rfl, Nq19, eh19⟩ := hQ19
    have N19 := Fr.app N0 Nq19
    show own_Rn p e below _ (T19.setTop (mkF m 36 #[.val (.ref en), .val (.int (4 : Int32)), .val (.int (1 : Int32)), .val (.int (0 : Int32)), .val (.int (1 : Int32))] [(.int (((4 : Int32).toInt64 * (1 : Int32).toInt64).toInt32))]))
    rw [show (((4 : Int32).toInt64 * (1 : Int32).toInt64).toInt32) = (4 : Int32) from by decide]
    refine own_il X19 hx 38 (hb hby own_d31_36) rfl rfl ?_
    refine own_ifY X19 hx 45 (hb hby own_d31_38) ((if0 _ _).trans (feq (by decide : ¬ ((1 : Int32) = (0 : Int32)))).2) (by decide) (by decide) ?_
    refine own_il X19 hx 47 (hb hby own_d31_45) rfl rfl ?_
    refine own_ic X19 hx (1 : Int32) 48 (hb hby own_d31_47) rfl rfl ?_
    refine own_iadd X19 hx 49 (hb hby own_d31_48) rfl ?_
    rw [show ((1 : Int32) + (1 : Int32)) = (2 : Int32) from by decide]
    have Zn20 : n0 ≤ h0.size := (Nat.le_trans Z0 (Nat.le_refl _))
    refine own_cS X19 hx hZ (y := (⟨"java/lang/Math", "addExact", "(II)I"⟩ : MethodName)) hown (hw _ (own_mi 129 rfl)) (hw _ (own_mi 130 rfl)) (hw _ (own_mi 127 rfl)) (hw _ (own_mi 131 rfl)) (by decide) (rmAX l Z a0 hw [] ((4 : Int32)) ((2 : Int32)) h0 n0 Zn20 (by decide)) eh19 [(.int (4 : Int32)), (.int (2 : Int32))] [] rfl (by rw [hml]; rfl) (lenOf own_pd_28II29I rfl) rfl 0 (Nat.le_of_eq rfl) (by decide) (by decide) (by decide : 0 + 0 ≤ _) (by decide : 0 + 0 ≤ _) 52 (hb hby own_d31_49) rfl 0 0 rfl rfl ?_
    intro rv20 T20 Lc20 X20 hQ20
    obtain ⟨rfl, Nq20, eh20⟩ := hQ20
    have N20 := Fr.app N19 Nq20
    show own_Rn p e below _ (T20.setTop (mkF m 52 #[.val (.ref en), .val (.int (4 : Int32)), .val (.int (1 : Int32)), .val (.int (0 : Int32)), .val (.int (1 : Int32))] [(.int ((4 : Int32) + (2 : Int32)))]))
    rw [show ((4 : Int32) + (2 : Int32)) = (6 : Int32) from by decide]
    refine own_isn X20 hx #[.val (.ref en), .val (.int (4 : Int32)), .val (.int (1 : Int32)), .val (.int (6 : Int32)), .val (.int (1 : Int32))] 53 (hb hby own_d31_52) rfl rfl ?_
    refine own_aln X20 hx 54 (hb hby own_d31_53) rfl rfl rfl ?_
    have F21 : Fld Z h0 en "java/util/Base64$Encoder" "linemax" "I" (.int (-1 : Int32)) := ZE3.ext X00.2
    refine own_gF X20 hx hZ hown (host := "") (Or.inl (hw _ (own_mi 132 rfl))) Via.refl eh20 F21 57 (hb hby own_d31_54) rfl ?_
    intro T22 X22 e22
    refine own_ifY X22 hx 79 (hb hby own_d31_57) ((if0 _ _).trans (flt (by decide : ¬ ((0 : Int32) < (-1 : Int32)))).2.2.2) (by decide) (by decide) ?_
    refine own_gt X22 hx 100 (hb hby own_d31_79) (by decide) (by decide) ?_
    refine own_iln X22 hx 101 (hb hby own_d31_100) rfl rfl ?_
    exact own_ret X22 (v := some (.int (6 : Int32))) (fun h => by rw [Bd.returns] at h; cases h) (fun fs hr => retI X22 hx Bd.returns (hb hby own_d31_101) hr) (by rw [e22]; exact ⟨rfl, N20, rfl⟩) (by decide) (by decide)
  · skip
    have hq0 : q0 < 256 := hB q0 (by simp)
    have hq1 : q1 < 256 := hB q1 (by simp)
    have hq2 : q2 < 256 := hB q2 (by simp)
    have hq3 : q3 < 256 := hB q3 (by simp)
    have hq4 : q4 < 256 := hB q4 (by simp)
    show own_Rn p e below _ (T2.setTop (mkF m 24 #[.val (.ref en), .val (.int (5 : Int32)), .val (.int (1 : Int32)), .val (.int (0 : Int32)), .unset] []))
    refine own_iln X2 hx 25 (hb hby own_d31_24) rfl rfl ?_
    refine own_ic X2 hx (3 : Int32) 26 (hb hby own_d31_25) rfl rfl ?_
    refine own_go (fun tq kq => iremM X2 hx rfl (hb hby own_d31_26) rfl (by decide) kq) ?_
    show own_Rn p e below _ (T2.setTop (mkF m 27 #[.val (.ref en), .val (.int (5 : Int32)), .val (.int (1 : Int32)), .val (.int (0 : Int32)), .unset] [(.int ((5 : Int32) % (3 : Int32)))]))
    rw [show ((5 : Int32) % (3 : Int32)) = (2 : Int32) from by decide]
    refine own_is X2 hx #[.val (.ref en), .val (.int (5 : Int32)), .val (.int (1 : Int32)), .val (.int (0 : Int32)), .val (.int (2 : Int32))] 29 (hb hby own_d31_27) rfl rfl ?_
    refine own_ic X2 hx (4 : Int32) 30 (hb hby own_d31_29) rfl rfl ?_
    refine own_iln X2 hx 31 (hb hby own_d31_30) rfl rfl ?_
    refine own_ic X2 hx (3 : Int32) 32 (hb hby own_d31_31) rfl rfl ?_
    refine own_idiv X2 hx 33 (hb hby own_d31_32) rfl (by decide) ?_
    rw [show ((5 : Int32) / (3 : Int32)) = (1 : Int32) from by decide]
    have Zn23 : n0 ≤ h0.size := (Nat.le_trans Z0 (Nat.le_refl _))
    refine own_cS X2 hx hZ (y := (⟨"java/lang/Math", "multiplyExact", "(II)I"⟩ : MethodName)) hown (hw _ (own_mi 125 rfl)) (hw _ (own_mi 126 rfl)) (hw _ (own_mi 127 rfl)) (hw _ (own_mi 128 rfl)) (by decide) (rmMX l Z a0 hw [] ((4 : Int32)) ((1 : Int32)) h0 n0 Zn23 (by decide)) e2 [(.int (4 : Int32)), (.int (1 : Int32))] [] rfl (by rw [hml]; rfl) (lenOf own_pd_28II29I rfl) rfl 0 (Nat.le_of_eq rfl) (by decide) (by decide) (by decide : 0 + 0 ≤ _) (by decide : 0 + 0 ≤ _) 36 (hb hby own_d31_33) rfl 0 0 rfl rfl ?_
    intro rv23 T23 Lc23 X23 hQ23
    obtain ⟨rfl, Nq23, eh23⟩ := hQ23
    have N23 := Fr.app N0 Nq23
    show own_Rn p e below _ (T23.setTop (mkF m 36 #[.val (.ref en), .val (.int (5 : Int32)), .val (.int (1 : Int32)), .val (.int (0 : Int32)), .val (.int (2 : Int32))] [(.int (((4 : Int32).toInt64 * (1 : Int32).toInt64).toInt32))]))
    rw [show (((4 : Int32).toInt64 * (1 : Int32).toInt64).toInt32) = (4 : Int32) from by decide]
    refine own_il X23 hx 38 (hb hby own_d31_36) rfl rfl ?_
    refine own_ifY X23 hx 45 (hb hby own_d31_38) ((if0 _ _).trans (feq (by decide : ¬ ((2 : Int32) = (0 : Int32)))).2) (by decide) (by decide) ?_
    refine own_il X23 hx 47 (hb hby own_d31_45) rfl rfl ?_
    refine own_ic X23 hx (1 : Int32) 48 (hb hby own_d31_47) rfl rfl ?_
    refine own_iadd X23 hx 49 (hb hby own_d31_48) rfl ?_
    rw [show ((2 : Int32) + (1 : Int32)) = (3 : Int32) from by decide]
    have Zn24 : n0 ≤ h0.size := (Nat.le_trans Z0 (Nat.le_refl _))
    refine own_cS X23 hx hZ (y := (⟨"java/lang/Math", "addExact", "(II)I"⟩ : MethodName)) hown (hw _ (own_mi 129 rfl)) (hw _ (own_mi 130 rfl)) (hw _ (own_mi 127 rfl)) (hw _ (own_mi 131 rfl)) (by decide) (rmAX l Z a0 hw [] ((4 : Int32)) ((3 : Int32)) h0 n0 Zn24 (by decide)) eh23 [(.int (4 : Int32)), (.int (3 : Int32))] [] rfl (by rw [hml]; rfl) (lenOf own_pd_28II29I rfl) rfl 0 (Nat.le_of_eq rfl) (by decide) (by decide) (by decide : 0 + 0 ≤ _) (by decide : 0 + 0 ≤ _) 52 (hb hby own_d31_49) rfl 0 0 rfl rfl ?_
    intro rv24 T24 Lc24 X24 hQ24
    obtain ⟨rfl, Nq24, eh24⟩ := hQ24
    have N24 := Fr.app N23 Nq24
    show own_Rn p e below _ (T24.setTop (mkF m 52 #[.val (.ref en), .val (.int (5 : Int32)), .val (.int (1 : Int32)), .val (.int (0 : Int32)), .val (.int (2 : Int32))] [(.int ((4 : Int32) + (3 : Int32)))]))
    rw [show ((4 : Int32) + (3 : Int32)) = (7 : Int32) from by decide]
    refine own_isn X24 hx #[.val (.ref en), .val (.int (5 : Int32)), .val (.int (1 : Int32)), .val (.int (7 : Int32)), .val (.int (2 : Int32))] 53 (hb hby own_d31_52) rfl rfl ?_
    refine own_aln X24 hx 54 (hb hby own_d31_53) rfl rfl rfl ?_
    have F25 : Fld Z h0 en "java/util/Base64$Encoder" "linemax" "I" (.int (-1 : Int32)) := ZE3.ext X00.2
    refine own_gF X24 hx hZ hown (host := "") (Or.inl (hw _ (own_mi 132 rfl))) Via.refl eh24 F25 57 (hb hby own_d31_54) rfl ?_
    intro T26 X26 e26
    refine own_ifY X26 hx 79 (hb hby own_d31_57) ((if0 _ _).trans (flt (by decide : ¬ ((0 : Int32) < (-1 : Int32)))).2.2.2) (by decide) (by decide) ?_
    refine own_gt X26 hx 100 (hb hby own_d31_79) (by decide) (by decide) ?_
    refine own_iln X26 hx 101 (hb hby own_d31_100) rfl rfl ?_
    exact own_ret X26 (v := some (.int (7 : Int32))) (fun h => by rw [Bd.returns] at h; cases h) (fun fs hr => retI X26 hx Bd.returns (hb hby own_d31_101) hr) (by rw [e26]; exact ⟨rfl, N24, rfl⟩) (by decide) (by decide)
  · exact absurd hL (by simp only [List.length_cons]; omega)
theorem own_ef_rmEB (m : MethodId) (en : Addr) (t : Addr) (kt : ClassId) (N : Int32) (rest : List Value) (q0 : Nat) (q1 : Nat) (q2 : Nat) (dd : Addr) (kd : ClassId) (M : Int32) (te : Addr) (ke : ClassId) : entryFrame m #[(.ref en), (.ref t), (.int (0 : Int32)), (.int (3 : Int32)), (.ref dd), (.int (0 : Int32)), (.int (1 : Int32))] 11 = mkF m 0 #[.val (.ref en), .val (.ref t), .val (.int (0 : Int32)), .val (.int (3 : Int32)), .val (.ref dd), .val (.int (0 : Int32)), .val (.int (1 : Int32)), .unset, .unset, .unset, .unset] [] := by first | (simp [entryFrame, mkF, argsToLocals, Value.category]; done) | rfl
theorem own_d22_0 : decode jdk_2452_method_9_code 0 = .ok (.iload 6, 2) := by decide +kernel
theorem own_d22_2 : decode jdk_2452_method_9_code 2 = .ok (.ifCond .eq 9, 3) := by decide +kernel
theorem own_d22_5 : decode jdk_2452_method_9_code 5 = .ok (.getstatic 111, 3) := by decide +kernel
theorem own_d22_8 : decode jdk_2452_method_9_code 8 = .ok (.goto 6, 3) := by decide +kernel
theorem own_d22_14 : decode jdk_2452_method_9_code 14 = .ok (.astore 7, 2) := by decide +kernel
theorem own_d22_16 : decode jdk_2452_method_9_code 16 = .ok (.iload_n 2, 1) := by decide +kernel
theorem own_d22_17 : decode jdk_2452_method_9_code 17 = .ok (.istore 8, 2) := by decide +kernel
theorem own_d22_19 : decode jdk_2452_method_9_code 19 = .ok (.iload 5, 2) := by decide +kernel
theorem own_d22_21 : decode jdk_2452_method_9_code 21 = .ok (.istore 9, 2) := by decide +kernel
theorem own_d22_23 : decode jdk_2452_method_9_code 23 = .ok (.iload 8, 2) := by decide +kernel
theorem own_d22_25 : decode jdk_2452_method_9_code 25 = .ok (.iload_n 3, 1) := by decide +kernel
theorem own_d22_26 : decode jdk_2452_method_9_code 26 = .ok (.if_icmp .ge 126, 3) := by decide +kernel
theorem own_d22_29 : decode jdk_2452_method_9_code 29 = .ok (.aload_n 1, 1) := by decide +kernel
theorem own_d22_30 : decode jdk_2452_method_9_code 30 = .ok (.iload 8, 2) := by decide +kernel
theorem own_d22_32 : decode jdk_2452_method_9_code 32 = .ok (.iinc 8 1, 3) := by decide +kernel
theorem own_d22_35 : decode jdk_2452_method_9_code 35 = .ok (.baload, 1) := by decide +kernel
theorem own_d22_36 : decode jdk_2452_method_9_code 36 = .ok (.sipush 255, 3) := by decide +kernel
theorem own_d22_39 : decode jdk_2452_method_9_code 39 = .ok (.iand, 1) := by decide +kernel
theorem own_d22_40 : decode jdk_2452_method_9_code 40 = .ok (.bipush 16, 2) := by decide +kernel
theorem own_d22_42 : decode jdk_2452_method_9_code 42 = .ok (.ishl, 1) := by decide +kernel
theorem own_d22_43 : decode jdk_2452_method_9_code 43 = .ok (.aload_n 1, 1) := by decide +kernel
theorem own_d22_44 : decode jdk_2452_method_9_code 44 = .ok (.iload 8, 2) := by decide +kernel
theorem own_d22_46 : decode jdk_2452_method_9_code 46 = .ok (.iinc 8 1, 3) := by decide +kernel
theorem own_d22_49 : decode jdk_2452_method_9_code 49 = .ok (.baload, 1) := by decide +kernel
theorem own_d22_50 : decode jdk_2452_method_9_code 50 = .ok (.sipush 255, 3) := by decide +kernel
theorem own_d22_53 : decode jdk_2452_method_9_code 53 = .ok (.iand, 1) := by decide +kernel
theorem own_d22_54 : decode jdk_2452_method_9_code 54 = .ok (.bipush 8, 2) := by decide +kernel
theorem own_d22_56 : decode jdk_2452_method_9_code 56 = .ok (.ishl, 1) := by decide +kernel
theorem own_d22_57 : decode jdk_2452_method_9_code 57 = .ok (.ior, 1) := by decide +kernel
theorem own_d22_58 : decode jdk_2452_method_9_code 58 = .ok (.aload_n 1, 1) := by decide +kernel
theorem own_d22_59 : decode jdk_2452_method_9_code 59 = .ok (.iload 8, 2) := by decide +kernel
theorem own_d22_61 : decode jdk_2452_method_9_code 61 = .ok (.iinc 8 1, 3) := by decide +kernel
theorem own_d22_64 : decode jdk_2452_method_9_code 64 = .ok (.baload, 1) := by decide +kernel
theorem own_d22_65 : decode jdk_2452_method_9_code 65 = .ok (.sipush 255, 3) := by decide +kernel
theorem own_d22_68 : decode jdk_2452_method_9_code 68 = .ok (.iand, 1) := by decide +kernel
theorem own_d22_69 : decode jdk_2452_method_9_code 69 = .ok (.ior, 1) := by decide +kernel
theorem own_d22_70 : decode jdk_2452_method_9_code 70 = .ok (.istore 10, 2) := by decide +kernel
theorem own_d22_72 : decode jdk_2452_method_9_code 72 = .ok (.aload 4, 2) := by decide +kernel
theorem own_d22_74 : decode jdk_2452_method_9_code 74 = .ok (.iload 9, 2) := by decide +kernel
theorem own_d22_76 : decode jdk_2452_method_9_code 76 = .ok (.iinc 9 1, 3) := by decide +kernel
theorem own_d22_79 : decode jdk_2452_method_9_code 79 = .ok (.aload 7, 2) := by decide +kernel
theorem own_d22_81 : decode jdk_2452_method_9_code 81 = .ok (.iload 10, 2) := by decide +kernel
theorem own_d22_83 : decode jdk_2452_method_9_code 83 = .ok (.bipush 18, 2) := by decide +kernel
theorem own_d22_85 : decode jdk_2452_method_9_code 85 = .ok (.iushr, 1) := by decide +kernel
theorem own_d22_86 : decode jdk_2452_method_9_code 86 = .ok (.bipush 63, 2) := by decide +kernel
theorem own_d22_88 : decode jdk_2452_method_9_code 88 = .ok (.iand, 1) := by decide +kernel
theorem own_d22_89 : decode jdk_2452_method_9_code 89 = .ok (.caload, 1) := by decide +kernel
theorem own_d22_90 : decode jdk_2452_method_9_code 90 = .ok (.i2b, 1) := by decide +kernel
theorem own_d22_91 : decode jdk_2452_method_9_code 91 = .ok (.bastore, 1) := by decide +kernel
theorem own_d22_92 : decode jdk_2452_method_9_code 92 = .ok (.aload 4, 2) := by decide +kernel
theorem own_d22_94 : decode jdk_2452_method_9_code 94 = .ok (.iload 9, 2) := by decide +kernel
theorem own_d22_96 : decode jdk_2452_method_9_code 96 = .ok (.iinc 9 1, 3) := by decide +kernel
theorem own_d22_99 : decode jdk_2452_method_9_code 99 = .ok (.aload 7, 2) := by decide +kernel
theorem own_d22_101 : decode jdk_2452_method_9_code 101 = .ok (.iload 10, 2) := by decide +kernel
theorem own_d22_103 : decode jdk_2452_method_9_code 103 = .ok (.bipush 12, 2) := by decide +kernel
theorem own_d22_105 : decode jdk_2452_method_9_code 105 = .ok (.iushr, 1) := by decide +kernel
theorem own_d22_106 : decode jdk_2452_method_9_code 106 = .ok (.bipush 63, 2) := by decide +kernel
theorem own_d22_108 : decode jdk_2452_method_9_code 108 = .ok (.iand, 1) := by decide +kernel
theorem own_d22_109 : decode jdk_2452_method_9_code 109 = .ok (.caload, 1) := by decide +kernel
theorem own_d22_110 : decode jdk_2452_method_9_code 110 = .ok (.i2b, 1) := by decide +kernel
theorem own_d22_111 : decode jdk_2452_method_9_code 111 = .ok (.bastore, 1) := by decide +kernel
theorem own_d22_112 : decode jdk_2452_method_9_code 112 = .ok (.aload 4, 2) := by decide +kernel
theorem own_d22_114 : decode jdk_2452_method_9_code 114 = .ok (.iload 9, 2) := by decide +kernel
theorem own_d22_116 : decode jdk_2452_method_9_code 116 = .ok (.iinc 9 1, 3) := by decide +kernel
theorem own_d22_119 : decode jdk_2452_method_9_code 119 = .ok (.aload 7, 2) := by decide +kernel
theorem own_d22_121 : decode jdk_2452_method_9_code 121 = .ok (.iload 10, 2) := by decide +kernel
theorem own_d22_123 : decode jdk_2452_method_9_code 123 = .ok (.bipush 6, 2) := by decide +kernel
theorem own_d22_125 : decode jdk_2452_method_9_code 125 = .ok (.iushr, 1) := by decide +kernel
theorem own_d22_126 : decode jdk_2452_method_9_code 126 = .ok (.bipush 63, 2) := by decide +kernel
theorem own_d22_128 : decode jdk_2452_method_9_code 128 = .ok (.iand, 1) := by decide +kernel
theorem own_d22_129 : decode jdk_2452_method_9_code 129 = .ok (.caload, 1) := by decide +kernel
theorem own_d22_130 : decode jdk_2452_method_9_code 130 = .ok (.i2b, 1) := by decide +kernel
theorem own_d22_131 : decode jdk_2452_method_9_code 131 = .ok (.bastore, 1) := by decide +kernel
theorem own_d22_132 : decode jdk_2452_method_9_code 132 = .ok (.aload 4, 2) := by decide +kernel
theorem own_d22_134 : decode jdk_2452_method_9_code 134 = .ok (.iload 9, 2) := by decide +kernel
theorem own_d22_136 : decode jdk_2452_method_9_code 136 = .ok (.iinc 9 1, 3) := by decide +kernel
theorem own_d22_139 : decode jdk_2452_method_9_code 139 = .ok (.aload 7, 2) := by decide +kernel
theorem own_d22_141 : decode jdk_2452_method_9_code 141 = .ok (.iload 10, 2) := by decide +kernel
theorem own_d22_143 : decode jdk_2452_method_9_code 143 = .ok (.bipush 63, 2) := by decide +kernel
theorem own_d22_145 : decode jdk_2452_method_9_code 145 = .ok (.iand, 1) := by decide +kernel
theorem own_d22_146 : decode jdk_2452_method_9_code 146 = .ok (.caload, 1) := by decide +kernel
theorem own_d22_147 : decode jdk_2452_method_9_code 147 = .ok (.i2b, 1) := by decide +kernel
theorem own_d22_148 : decode jdk_2452_method_9_code 148 = .ok (.bastore, 1) := by decide +kernel
theorem own_d22_149 : decode jdk_2452_method_9_code 149 = .ok (.goto (-126), 3) := by decide +kernel
theorem own_d22_152 : decode jdk_2452_method_9_code 152 = .ok (.return_, 1) := by decide +kernel
def Q_rmEB (Z : State) (en : Addr) (t : Addr) (kt : ClassId) (N : Int32) (rest : List Value) (q0 : Nat) (q1 : Nat) (q2 : Nat) (dd : Addr) (kd : ClassId) (M : Int32) (te : Addr) (ke : ClassId) (h0 : Heap) (n0 : Nat) (vq : Option Value) (hhq : Heap) (Lq : List Loc) : Prop := vq = none ∧ Fr n0 Lq ∧ Keep h0 hhq [dd] ∧ Arv Z hhq dd kd .byte M [(.int (own_cb (q0 / 4))), (.int (own_cb (q0 % 4 * 16 + q1 / 16))), (.int (own_cb (q1 % 16 * 4 + q2 / 64))), (.int (own_cb (q2 % 64)))] (.int 0)
set_option maxRecDepth 65536 in
set_option maxHeartbeats 40000000 in
theorem rmEB (l : Launch) (Z : State) (a0 : Array Value) (hw : ∀ d ∈ tables_1, d.before a0 Z = true) (ws : List Jvm.Cond) (en : Addr) (t : Addr) (kt : ClassId) (N : Int32) (rest : List Value) (q0 : Nat) (q1 : Nat) (q2 : Nat) (dd : Addr) (kd : ClassId) (M : Int32) (te : Addr) (ke : ClassId) (h0 : Heap) (n0 : Nat) (Z0 : n0 ≤ h0.size) (OT : Sta Z Z.heap "java/util/Base64$Encoder" "toBase64URL" "[C" (.ref te)) (ZT : Arv Z Z.heap te ke .char (64 : Int32) (own_T.map Value.int) (.int 0)) (Pm2 : Arv Z h0 t kt .byte N (Value.int (own_by q0) :: Value.int (own_by q1) :: Value.int (own_by q2) :: rest) (.int 0)) (hN : (N = 3 ∨ N = 4 ∨ N = 5)) (hq0 : (q0 < 256)) (hq1 : (q1 < 256)) (hq2 : (q2 < 256)) (Pm7 : Arv Z h0 dd kd .byte M ([] : List Value) (.int 0)) (hM : (M = 4 ∨ M = 6 ∨ M = 7)) (gdd : n0 ≤ dd) (ntd : (t ≠ dd)) (X00 : Old Z n0 h0) :
    MetFree l (⟨"java/util/Base64$Encoder", "encodeBlock", "([BII[BIZ)V"⟩ : MethodName) (head1 (Jvm.Cond.code (⟨"java/util/Base64$Encoder", "encodeBlock", "([BII[BIZ)V"⟩ : MethodName) jdk_2452_method_9_code 11 none :: ws) ({ frames := 0, cells := 0, slots := 0, locals := 0 } : Room)) (fun aq U => aq = #[(.ref en), (.ref t), (.int (0 : Int32)), (.int (3 : Int32)), (.ref dd), (.int (0 : Int32)), (.int (1 : Int32))] ∧ Z.Warmed39 U.vm ∧ U.heap = h0) (fun _ _ _ _ _ => True) (fun _ U oq U' => ∃ vq Lq, oq = .returned vq ∧ Q_rmEB Z en t kt N rest q0 q1 q2 dd kd M te ke h0 n0 vq U'.heap Lq ∧ FrameEnd U oq U' Lq ({ frames := 0, cells := 0, slots := 0, locals := 0 } : Room).cells ({ frames := 0, cells := 0, slots := 0, locals := 0 } : Room).slots) := by
  refine MetFree.of_bodySF (plainFor_of_name own_pn_java_util_Base64_Encoder) hisR ?_
  intro p e s m args below meth c s₁ Bd hml0 hP hK
  obtain ⟨rfl, hZ, hh⟩ := hP
  have hx := Bd.exec
  have hby := Bd.bytes
  have hml : c.maxLocals = 11 := hml0
  have hown : s.vm.findClass "java/util/Base64$Encoder" = some m.cls := findClass_of_methodNamed Bd.named
  have hnm := (name_of_methodNamed Bd.named Bd.method).1
  have X0 : Stand p l e ({ frames := 0, cells := 0, slots := 0, locals := 0 } : Room) s m #[(.ref en), (.ref t), (.int (0 : Int32)), (.int (3 : Int32)), (.ref dd), (.int (0 : Int32)), (.int (1 : Int32))] below meth c s₁ [] 0 0 := Stand.of_body Bd
  have e0 : s₁.heap = h0 := by rw [← hh, Bd.state]; rfl
  have N0 := Fr.nil n0
  have K0 : Keep h0 h0 [dd] := Keep.refl _ _
  refine own_go (S' := s₁.setTop (mkF m 0 #[.val (.ref en), .val (.ref t), .val (.int (0 : Int32)), .val (.int (3 : Int32)), .val (.ref dd), .val (.int (0 : Int32)), .val (.int (1 : Int32)), .unset, .unset, .unset, .unset] [])) (fun tq kq => castTop (own_ef_rmEB m en t kt N rest q0 q1 q2 dd kd M te ke) kq) ?_
  have lt1 : @LT.lt Nat _ t h0.size := Pm2.lt
  have lt2 : @LT.lt Nat _ dd h0.size := Pm7.lt
  have iN0 : (0 : Int32) < N := by rcases hN with rfl | rfl | rfl <;> decide
  have iN1 : (1 : Int32) < N := by rcases hN with rfl | rfl | rfl <;> decide
  have iN2 : (2 : Int32) < N := by rcases hN with rfl | rfl | rfl <;> decide
  have iM0 : (0 : Int32) < M := by rcases hM with rfl | rfl | rfl <;> decide
  have iM1 : (1 : Int32) < M := by rcases hM with rfl | rfl | rfl <;> decide
  have iM2 : (2 : Int32) < M := by rcases hM with rfl | rfl | rfl <;> decide
  have iM3 : (3 : Int32) < M := by rcases hM with rfl | rfl | rfl <;> decide
  have mM : 4 ≤ M.toNatClampNeg := by rcases hM with rfl | rfl | rfl <;> decide
  refine own_il X0 hx 2 (hb hby own_d22_0) rfl rfl ?_
  refine own_ifN X0 hx 5 (hb hby own_d22_2) rfl ((if0 _ _).trans (feq ((by decide : ¬ ((1 : Int32) = (0 : Int32))) : ¬ ((1 : Int32) = (0 : Int32)))).1) ?_
  refine own_gS X0 hx hZ hown (host := "") (Or.inl (hw _ (own_mi 141 rfl))) Via.refl e0 (OT.ext X00.2) 8 (hb hby own_d22_5) rfl ?_
  intro T3 X3 e3
  refine own_gt X3 hx 14 (hb hby own_d22_8) (by decide) (by decide) ?_
  refine own_as X3 hx #[.val (.ref en), .val (.ref t), .val (.int (0 : Int32)), .val (.int (3 : Int32)), .val (.ref dd), .val (.int (0 : Int32)), .val (.int (1 : Int32)), .val (.ref te), .unset, .unset, .unset] 16 (hb hby own_d22_14) rfl rfl rfl ?_
  refine own_iln X3 hx 17 (hb hby own_d22_16) rfl rfl ?_
  refine own_is X3 hx #[.val (.ref en), .val (.ref t), .val (.int (0 : Int32)), .val (.int (3 : Int32)), .val (.ref dd), .val (.int (0 : Int32)), .val (.int (1 : Int32)), .val (.ref te), .val (.int (0 : Int32)), .unset, .unset] 19 (hb hby own_d22_17) rfl rfl ?_
  refine own_il X3 hx 21 (hb hby own_d22_19) rfl rfl ?_
  refine own_is X3 hx #[.val (.ref en), .val (.ref t), .val (.int (0 : Int32)), .val (.int (3 : Int32)), .val (.ref dd), .val (.int (0 : Int32)), .val (.int (1 : Int32)), .val (.ref te), .val (.int (0 : Int32)), .val (.int (0 : Int32)), .unset] 23 (hb hby own_d22_21) rfl rfl ?_
  refine own_il X3 hx 25 (hb hby own_d22_23) rfl rfl ?_
  refine own_iln X3 hx 26 (hb hby own_d22_25) rfl rfl ?_
  refine own_icN X3 hx 29 (hb hby own_d22_26) rfl (tlt (by decide : (0 : Int32) < (3 : Int32))).2.1 ?_
  refine own_aln X3 hx 30 (hb hby own_d22_29) rfl rfl rfl ?_
  refine own_il X3 hx 32 (hb hby own_d22_30) rfl rfl ?_
  refine own_ii X3 hx #[.val (.ref en), .val (.ref t), .val (.int (0 : Int32)), .val (.int (3 : Int32)), .val (.ref dd), .val (.int (0 : Int32)), .val (.int (1 : Int32)), .val (.ref te), .val (.int ((0 : Int32) + (1 : Int32))), .val (.int (0 : Int32)), .unset] 35 (hb hby own_d22_32) rfl rfl rfl ?_
  rw [show ((0 : Int32) + (1 : Int32)) = (1 : Int32) from by decide]
  refine own_bal X3 hx hZ e3 Pm2 (own_by q0) 36 (hb hby own_d22_35) rfl ⟨by decide, iN0⟩ rfl ?_
  refine own_sp X3 hx (255 : Int32) 39 (hb hby own_d22_36) rfl rfl ?_
  refine own_iand X3 hx 40 (hb hby own_d22_39) rfl ?_
  rw [show ((own_by q0) &&& (255 : Int32)) = (Int32.ofNat q0) from own_bym q0 hq0]
  refine own_bp X3 hx (16 : Int32) 42 (hb hby own_d22_40) rfl rfl ?_
  refine own_ishl X3 hx 43 (hb hby own_d22_42) rfl ?_
  refine own_aln X3 hx 44 (hb hby own_d22_43) rfl rfl rfl ?_
  refine own_il X3 hx 46 (hb hby own_d22_44) rfl rfl ?_
  refine own_ii X3 hx #[.val (.ref en), .val (.ref t), .val (.int (0 : Int32)), .val (.int (3 : Int32)), .val (.ref dd), .val (.int (0 : Int32)), .val (.int (1 : Int32)), .val (.ref te), .val (.int ((1 : Int32) + (1 : Int32))), .val (.int (0 : Int32)), .unset] 49 (hb hby own_d22_46) rfl rfl rfl ?_
  rw [show ((1 : Int32) + (1 : Int32)) = (2 : Int32) from by decide]
  refine own_bal X3 hx hZ e3 Pm2 (own_by q1) 50 (hb hby own_d22_49) rfl ⟨by decide, iN1⟩ rfl ?_
  refine own_sp X3 hx (255 : Int32) 53 (hb hby own_d22_50) rfl rfl ?_
  refine own_iand X3 hx 54 (hb hby own_d22_53) rfl ?_
  rw [show ((own_by q1) &&& (255 : Int32)) = (Int32.ofNat q1) from own_bym q1 hq1]
  refine own_bp X3 hx (8 : Int32) 56 (hb hby own_d22_54) rfl rfl ?_
  refine own_ishl X3 hx 57 (hb hby own_d22_56) rfl ?_
  refine own_ior X3 hx 58 (hb hby own_d22_57) rfl ?_
  refine own_aln X3 hx 59 (hb hby own_d22_58) rfl rfl rfl ?_
  refine own_il X3 hx 61 (hb hby own_d22_59) rfl rfl ?_
  refine own_ii X3 hx #[.val (.ref en), .val (.ref t), .val (.int (0 : Int32)), .val (.int (3 : Int32)), .val (.ref dd), .val (.int (0 : Int32)), .val (.int (1 : Int32)), .val (.ref te), .val (.int ((2 : Int32) + (1 : Int32))), .val (.int (0 : Int32)), .unset] 64 (hb hby own_d22_61) rfl rfl rfl ?_
  rw [show ((2 : Int32) + (1 : Int32)) = (3 : Int32) from by decide]
  refine own_bal X3 hx hZ e3 Pm2 (own_by q2) 65 (hb hby own_d22_64) rfl ⟨by decide, iN2⟩ rfl ?_
  refine own_sp X3 hx (255 : Int32) 68 (hb hby own_d22_65) rfl rfl ?_
  refine own_iand X3 hx 69 (hb hby own_d22_68) rfl ?_
  rw [show ((own_by q2) &&& (255 : Int32)) = (Int32.ofNat q2) from own_bym q2 hq2]
  refine own_ior X3 hx 70 (hb hby own_d22_69) rfl ?_
  rw [show ((((Int32.ofNat q0) <<< ((16 : Int32) &&& 31)) ||| ((Int32.ofNat q1) <<< ((8 : Int32) &&& 31))) ||| (Int32.ofNat q2)) = (Int32.ofNat (q0 * 65536 + q1 * 256 + q2)) from own_asm3 q0 q1 q2 hq0 hq1 hq2]
  refine own_is X3 hx #[.val (.ref en), .val (.ref t), .val (.int (0 : Int32)), .val (.int (3 : Int32)), .val (.ref dd), .val (.int (0 : Int32)), .val (.int (1 : Int32)), .val (.ref te), .val (.int (3 : Int32)), .val (.int (0 : Int32)), .val (.int (Int32.ofNat (q0 * 65536 + q1 * 256 + q2)))] 72 (hb hby own_d22_70) rfl rfl ?_
  refine own_al X3 hx 74 (hb hby own_d22_72) rfl rfl rfl ?_
  refine own_il X3 hx 76 (hb hby own_d22_74) rfl rfl ?_
  refine own_ii X3 hx #[.val (.ref en), .val (.ref t), .val (.int (0 : Int32)), .val (.int (3 : Int32)), .val (.ref dd), .val (.int (0 : Int32)), .val (.int (1 : Int32)), .val (.ref te), .val (.int (3 : Int32)), .val (.int ((0 : Int32) + (1 : Int32))), .val (.int (Int32.ofNat (q0 * 65536 + q1 * 256 + q2)))] 79 (hb hby own_d22_76) rfl rfl rfl ?_
  refine own_al X3 hx 81 (hb hby own_d22_79) rfl rfl rfl ?_
  refine own_il X3 hx 83 (hb hby own_d22_81) rfl rfl ?_
  refine own_bp X3 hx (18 : Int32) 85 (hb hby own_d22_83) rfl rfl ?_
  refine own_iushr X3 hx 86 (hb hby own_d22_85) rfl ?_
  refine own_bp X3 hx (63 : Int32) 88 (hb hby own_d22_86) rfl rfl ?_
  refine own_iand X3 hx 89 (hb hby own_d22_88) rfl ?_
  rw [show ((0 : Int32) + (1 : Int32)) = (1 : Int32) from by decide]
  rw [show ((((Int32.ofNat (q0 * 65536 + q1 * 256 + q2)).toUInt32 >>> ((18 : Int32) &&& 31).toUInt32).toInt32) &&& (63 : Int32)) = (Int32.ofNat (q0 / 4)) from own_x18 (q0 * 65536 + q1 * 256 + q2) _ (by omega) (by omega)]
  have F4 : Arv Z h0 te ke .char (64 : Int32) (own_T.map Value.int) (.int 0) := ZT.ext X00.2
  refine own_cal X3 hx hZ e3 F4 (Int32.ofNat (own_ct (q0 / 4))) 90 (hb hby own_d22_89) rfl (own_Tin _ (by omega)) (own_Tat _ (by omega) _) ?_
  refine own_i2b X3 hx 91 (hb hby own_d22_90) rfl ?_
  show own_Rn p e below _ (T3.setTop (mkF m 91 #[.val (.ref en), .val (.ref t), .val (.int (0 : Int32)), .val (.int (3 : Int32)), .val (.ref dd), .val (.int (0 : Int32)), .val (.int (1 : Int32)), .val (.ref te), .val (.int (3 : Int32)), .val (.int (1 : Int32)), .val (.int (Int32.ofNat (q0 * 65536 + q1 * 256 + q2)))] [(.int (own_cb (q0 / 4))), (.int (0 : Int32)), (.ref dd)]))
  obtain ⟨cl5, Ar5, q5, Sz5, Nn5, Hs5, G5⟩ := id Pm7
  obtain ⟨T5, h5, X5, e5, W5, st5⟩ := stB X3 hx hZ e3 Ar5 (j := (0 : Int32)) (inb_of Sz5 ⟨by decide, iM0⟩) (g := (mkF m 91 #[.val (.ref en), .val (.ref t), .val (.int (0 : Int32)), .val (.int (3 : Int32)), .val (.ref dd), .val (.int (0 : Int32)), .val (.int (1 : Int32)), .val (.ref te), .val (.int (3 : Int32)), .val (.int (1 : Int32)), .val (.int (Int32.ofNat (q0 * 65536 + q1 * 256 + q2)))] [(.int (own_cb (q0 / 4))), (.int (0 : Int32)), (.ref dd)])) rfl rfl (hb hby own_d22_91)
  rw [own_narB] at W5
  refine own_go st5 ?_
  have V5 : Arv Z h5 dd kd .byte M (([] : List Value) ++ [(.int (own_cb (q0 / 4)))]) (.int 0) := own_store1 Pm7 (Nat.lt_of_lt_of_le (Nat.le_of_ble_eq_true rfl : ([] : List Value).length < 4) mM) (own_fitsB _) W5 (show (0 : Int32).toNatClampNeg = 0 from by decide)
  have N5 := Fr.snoc X5 N0 gdd
  have sz6 : h0.size ≤ h5.size := Nat.le_of_eq (Wr.size W5).symm
  have K6 := K0.wr W5 (Or.inl (List.mem_of_getElem? (i := 0) rfl))
  show own_Rn p e below _ (T5.setTop (mkF m 92 #[.val (.ref en), .val (.ref t), .val (.int (0 : Int32)), .val (.int (3 : Int32)), .val (.ref dd), .val (.int (0 : Int32)), .val (.int (1 : Int32)), .val (.ref te), .val (.int (3 : Int32)), .val (.int (1 : Int32)), .val (.int (Int32.ofNat (q0 * 65536 + q1 * 256 + q2)))] []))
  refine own_al X5 hx 94 (hb hby own_d22_92) rfl rfl rfl ?_
  refine own_il X5 hx 96 (hb hby own_d22_94) rfl rfl ?_
  refine own_ii X5 hx #[.val (.ref en), .val (.ref t), .val (.int (0 : Int32)), .val (.int (3 : Int32)), .val (.ref dd), .val (.int (0 : Int32)), .val (.int (1 : Int32)), .val (.ref te), .val (.int (3 : Int32)), .val (.int ((1 : Int32) + (1 : Int32))), .val (.int (Int32.ofNat (q0 * 65536 + q1 * 256 + q2)))] 99 (hb hby own_d22_96) rfl rfl rfl ?_
  refine own_al X5 hx 101 (hb hby own_d22_99) rfl rfl rfl ?_
  refine own_il X5 hx 103 (hb hby own_d22_101) rfl rfl ?_
  refine own_bp X5 hx (12 : Int32) 105 (hb hby own_d22_103) rfl rfl ?_
  refine own_iushr X5 hx 106 (hb hby own_d22_105) rfl ?_
  refine own_bp X5 hx (63 : Int32) 108 (hb hby own_d22_106) rfl rfl ?_
  refine own_iand X5 hx 109 (hb hby own_d22_108) rfl ?_
  rw [show ((1 : Int32) + (1 : Int32)) = (2 : Int32) from by decide]
  rw [show ((((Int32.ofNat (q0 * 65536 + q1 * 256 + q2)).toUInt32 >>> ((12 : Int32) &&& 31).toUInt32).toInt32) &&& (63 : Int32)) = (Int32.ofNat (q0 % 4 * 16 + q1 / 16)) from own_x12 (q0 * 65536 + q1 * 256 + q2) _ (by omega) (by omega)]
  have F8 : Old Z n0 h5 := (X00.wr W5 gdd)
  have F7 : Arv Z h5 te ke .char (64 : Int32) (own_T.map Value.int) (.int 0) := ZT.ext F8.2
  refine own_cal X5 hx hZ e5 F7 (Int32.ofNat (own_ct (q0 % 4 * 16 + q1 / 16))) 110 (hb hby own_d22_109) rfl (own_Tin _ (by omega)) (own_Tat _ (by omega) _) ?_
  refine own_i2b X5 hx 111 (hb hby own_d22_110) rfl ?_
  show own_Rn p e below _ (T5.setTop (mkF m 111 #[.val (.ref en), .val (.ref t), .val (.int (0 : Int32)), .val (.int (3 : Int32)), .val (.ref dd), .val (.int (0 : Int32)), .val (.int (1 : Int32)), .val (.ref te), .val (.int (3 : Int32)), .val (.int (2 : Int32)), .val (.int (Int32.ofNat (q0 * 65536 + q1 * 256 + q2)))] [(.int (own_cb (q0 % 4 * 16 + q1 / 16))), (.int (1 : Int32)), (.ref dd)]))
  obtain ⟨cl9, Ar9, q9, Sz9, Nn9, Hs9, G9⟩ := id V5
  obtain ⟨T9, h9, X9, e9, W9, st9⟩ := stB X5 hx hZ e5 Ar9 (j := (1 : Int32)) (inb_of Sz9 ⟨by decide, iM1⟩) (g := (mkF m 111 #[.val (.ref en), .val (.ref t), .val (.int (0 : Int32)), .val (.int (3 : Int32)), .val (.ref dd), .val (.int (0 : Int32)), .val (.int (1 : Int32)), .val (.ref te), .val (.int (3 : Int32)), .val (.int (2 : Int32)), .val (.int (Int32.ofNat (q0 * 65536 + q1 * 256 + q2)))] [(.int (own_cb (q0 % 4 * 16 + q1 / 16))), (.int (1 : Int32)), (.ref dd)])) rfl rfl (hb hby own_d22_111)
  rw [own_narB] at W9
  refine own_go st9 ?_
  have V9 : Arv Z h9 dd kd .byte M ((([] : List Value) ++ [Value.int (own_cb (q0 / 4))]) ++ [(.int (own_cb (q0 % 4 * 16 + q1 / 16)))]) (.int 0) := own_store1 V5 (Nat.lt_of_lt_of_le (Nat.le_of_ble_eq_true rfl : (([] : List Value) ++ [Value.int (own_cb (q0 / 4))]).length < 4) mM) (own_fitsB _) W9 (show (1 : Int32).toNatClampNeg = 1 from by decide)
  have N9 := Fr.snoc X9 N5 gdd
  have sz10 : h5.size ≤ h9.size := Nat.le_of_eq (Wr.size W9).symm
  have K10 := K6.wr W9 (Or.inl (List.mem_of_getElem? (i := 0) rfl))
  show own_Rn p e below _ (T9.setTop (mkF m 112 #[.val (.ref en), .val (.ref t), .val (.int (0 : Int32)), .val (.int (3 : Int32)), .val (.ref dd), .val (.int (0 : Int32)), .val (.int (1 : Int32)), .val (.ref te), .val (.int (3 : Int32)), .val (.int (2 : Int32)), .val (.int (Int32.ofNat (q0 * 65536 + q1 * 256 + q2)))] []))
  refine own_al X9 hx 114 (hb hby own_d22_112) rfl rfl rfl ?_
  refine own_il X9 hx 116 (hb hby own_d22_114) rfl rfl ?_
  refine own_ii X9 hx #[.val (.ref en), .val (.ref t), .val (.int (0 : Int32)), .val (.int (3 : Int32)), .val (.ref dd), .val (.int (0 : Int32)), .val (.int (1 : Int32)), .val (.ref te), .val (.int (3 : Int32)), .val (.int ((2 : Int32) + (1 : Int32))), .val (.int (Int32.ofNat (q0 * 65536 + q1 * 256 + q2)))] 119 (hb hby own_d22_116) rfl rfl rfl ?_
  refine own_al X9 hx 121 (hb hby own_d22_119) rfl rfl rfl ?_
  refine own_il X9 hx 123 (hb hby own_d22_121) rfl rfl ?_
  refine own_bp X9 hx (6 : Int32) 125 (hb hby own_d22_123) rfl rfl ?_
  refine own_iushr X9 hx 126 (hb hby own_d22_125) rfl ?_
  refine own_bp X9 hx (63 : Int32) 128 (hb hby own_d22_126) rfl rfl ?_
  refine own_iand X9 hx 129 (hb hby own_d22_128) rfl ?_
  rw [show ((2 : Int32) + (1 : Int32)) = (3 : Int32) from by decide]
  rw [show ((((Int32.ofNat (q0 * 65536 + q1 * 256 + q2)).toUInt32 >>> ((6 : Int32) &&& 31).toUInt32).toInt32) &&& (63 : Int32)) = (Int32.ofNat (q1 % 16 * 4 + q2 / 64)) from own_x6 (q0 * 65536 + q1 * 256 + q2) _ (by omega) (by omega)]
  have F12 : Old Z n0 h9 := (F8.wr W9 gdd)
  have F11 : Arv Z h9 te ke .char (64 : Int32) (own_T.map Value.int) (.int 0) := ZT.ext F12.2
  refine own_cal X9 hx hZ e9 F11 (Int32.ofNat (own_ct (q1 % 16 * 4 + q2 / 64))) 130 (hb hby own_d22_129) rfl (own_Tin _ (by omega)) (own_Tat _ (by omega) _) ?_
  refine own_i2b X9 hx 131 (hb hby own_d22_130) rfl ?_
  show own_Rn p e below _ (T9.setTop (mkF m 131 #[.val (.ref en), .val (.ref t), .val (.int (0 : Int32)), .val (.int (3 : Int32)), .val (.ref dd), .val (.int (0 : Int32)), .val (.int (1 : Int32)), .val (.ref te), .val (.int (3 : Int32)), .val (.int (3 : Int32)), .val (.int (Int32.ofNat (q0 * 65536 + q1 * 256 + q2)))] [(.int (own_cb (q1 % 16 * 4 + q2 / 64))), (.int (2 : Int32)), (.ref dd)]))
  obtain ⟨cl13, Ar13, q13, Sz13, Nn13, Hs13, G13⟩ := id V9
  obtain ⟨T13, h13, X13, e13, W13, st13⟩ := stB X9 hx hZ e9 Ar13 (j := (2 : Int32)) (inb_of Sz13 ⟨by decide, iM2⟩) (g := (mkF m 131 #[.val (.ref en), .val (.ref t), .val (.int (0 : Int32)), .val (.int (3 : Int32)), .val (.ref dd), .val (.int (0 : Int32)), .val (.int (1 : Int32)), .val (.ref te), .val (.int (3 : Int32)), .val (.int (3 : Int32)), .val (.int (Int32.ofNat (q0 * 65536 + q1 * 256 + q2)))] [(.int (own_cb (q1 % 16 * 4 + q2 / 64))), (.int (2 : Int32)), (.ref dd)])) rfl rfl (hb hby own_d22_131)
  rw [own_narB] at W13
  refine own_go st13 ?_
  have V13 : Arv Z h13 dd kd .byte M (((([] : List Value) ++ [Value.int (own_cb (q0 / 4))]) ++ [Value.int (own_cb (q0 % 4 * 16 + q1 / 16))]) ++ [(.int (own_cb (q1 % 16 * 4 + q2 / 64)))]) (.int 0) := own_store1 V9 (Nat.lt_of_lt_of_le (Nat.le_of_ble_eq_true rfl : ((([] : List Value) ++ [Value.int (own_cb (q0 / 4))]) ++ [Value.int (own_cb (q0 % 4 * 16 + q1 / 16))]).length < 4) mM) (own_fitsB _) W13 (show (2 : Int32).toNatClampNeg = 2 from by decide)
  have N13 := Fr.snoc X13 N9 gdd
  have sz14 : h9.size ≤ h13.size := Nat.le_of_eq (Wr.size W13).symm
  have K14 := K10.wr W13 (Or.inl (List.mem_of_getElem? (i := 0) rfl))
  show own_Rn p e below _ (T13.setTop (mkF m 132 #[.val (.ref en), .val (.ref t), .val (.int (0 : Int32)), .val (.int (3 : Int32)), .val (.ref dd), .val (.int (0 : Int32)), .val (.int (1 : Int32)), .val (.ref te), .val (.int (3 : Int32)), .val (.int (3 : Int32)), .val (.int (Int32.ofNat (q0 * 65536 + q1 * 256 + q2)))] []))
  refine own_al X13 hx 134 (hb hby own_d22_132) rfl rfl rfl ?_
  refine own_il X13 hx 136 (hb hby own_d22_134) rfl rfl ?_
  refine own_ii X13 hx #[.val (.ref en), .val (.ref t), .val (.int (0 : Int32)), .val (.int (3 : Int32)), .val (.ref dd), .val (.int (0 : Int32)), .val (.int (1 : Int32)), .val (.ref te), .val (.int (3 : Int32)), .val (.int ((3 : Int32) + (1 : Int32))), .val (.int (Int32.ofNat (q0 * 65536 + q1 * 256 + q2)))] 139 (hb hby own_d22_136) rfl rfl rfl ?_
  refine own_al X13 hx 141 (hb hby own_d22_139) rfl rfl rfl ?_
  refine own_il X13 hx 143 (hb hby own_d22_141) rfl rfl ?_
  refine own_bp X13 hx (63 : Int32) 145 (hb hby own_d22_143) rfl rfl ?_
  refine own_iand X13 hx 146 (hb hby own_d22_145) rfl ?_
  rw [show ((3 : Int32) + (1 : Int32)) = (4 : Int32) from by decide]
  rw [show ((Int32.ofNat (q0 * 65536 + q1 * 256 + q2)) &&& (63 : Int32)) = (Int32.ofNat (q2 % 64)) from own_x0 (q0 * 65536 + q1 * 256 + q2) _ (by omega) (by omega)]
  have F16 : Old Z n0 h13 := (F12.wr W13 gdd)
  have F15 : Arv Z h13 te ke .char (64 : Int32) (own_T.map Value.int) (.int 0) := ZT.ext F16.2
  refine own_cal X13 hx hZ e13 F15 (Int32.ofNat (own_ct (q2 % 64))) 147 (hb hby own_d22_146) rfl (own_Tin _ (by omega)) (own_Tat _ (by omega) _) ?_
  refine own_i2b X13 hx 148 (hb hby own_d22_147) rfl ?_
  show own_Rn p e below _ (T13.setTop (mkF m 148 #[.val (.ref en), .val (.ref t), .val (.int (0 : Int32)), .val (.int (3 : Int32)), .val (.ref dd), .val (.int (0 : Int32)), .val (.int (1 : Int32)), .val (.ref te), .val (.int (3 : Int32)), .val (.int (4 : Int32)), .val (.int (Int32.ofNat (q0 * 65536 + q1 * 256 + q2)))] [(.int (own_cb (q2 % 64))), (.int (3 : Int32)), (.ref dd)]))
  obtain ⟨cl17, Ar17, q17, Sz17, Nn17, Hs17, G17⟩ := id V13
  obtain ⟨T17, h17, X17, e17, W17, st17⟩ := stB X13 hx hZ e13 Ar17 (j := (3 : Int32)) (inb_of Sz17 ⟨by decide, iM3⟩) (g := (mkF m 148 #[.val (.ref en), .val (.ref t), .val (.int (0 : Int32)), .val (.int (3 : Int32)), .val (.ref dd), .val (.int (0 : Int32)), .val (.int (1 : Int32)), .val (.ref te), .val (.int (3 : Int32)), .val (.int (4 : Int32)), .val (.int (Int32.ofNat (q0 * 65536 + q1 * 256 + q2)))] [(.int (own_cb (q2 % 64))), (.int (3 : Int32)), (.ref dd)])) rfl rfl (hb hby own_d22_148)
  rw [own_narB] at W17
  refine own_go st17 ?_
  have V17 : Arv Z h17 dd kd .byte M ((((([] : List Value) ++ [Value.int (own_cb (q0 / 4))]) ++ [Value.int (own_cb (q0 % 4 * 16 + q1 / 16))]) ++ [Value.int (own_cb (q1 % 16 * 4 + q2 / 64))]) ++ [(.int (own_cb (q2 % 64)))]) (.int 0) := own_store1 V13 (Nat.lt_of_lt_of_le (Nat.le_of_ble_eq_true rfl : (((([] : List Value) ++ [Value.int (own_cb (q0 / 4))]) ++ [Value.int (own_cb (q0 % 4 * 16 + q1 / 16))]) ++ [Value.int (own_cb (q1 % 16 * 4 + q2 / 64))]).length < 4) mM) (own_fitsB _) W17 (show (3 : Int32).toNatClampNeg = 3 from by decide)
  have N17 := Fr.snoc X17 N13 gdd
  have sz18 : h13.size ≤ h17.size := Nat.le_of_eq (Wr.size W17).symm
  have K18 := K14.wr W17 (Or.inl (List.mem_of_getElem? (i := 0) rfl))
  show own_Rn p e below _ (T17.setTop (mkF m 149 #[.val (.ref en), .val (.ref t), .val (.int (0 : Int32)), .val (.int (3 : Int32)), .val (.ref dd), .val (.int (0 : Int32)), .val (.int (1 : Int32)), .val (.ref te), .val (.int (3 : Int32)), .val (.int (4 : Int32)), .val (.int (Int32.ofNat (q0 * 65536 + q1 * 256 + q2)))] []))
  refine own_gt X17 hx 23 (hb hby own_d22_149) (by decide) (by decide) ?_
  refine own_il X17 hx 25 (hb hby own_d22_23) rfl rfl ?_
  refine own_iln X17 hx 26 (hb hby own_d22_25) rfl rfl ?_
  refine own_icY X17 hx 152 (hb hby own_d22_26) (flt (by decide : ¬ ((3 : Int32) < (3 : Int32)))).2.1 (by decide) (by decide) ?_
  exact own_ret X17 (v := none) (fun _ => rfl) (fun fs hr => X17.returnOut hx Bd.returns (hb hby own_d22_152) hr) (by rw [e17]; exact ⟨rfl, N17, K18, V17⟩) (by decide) (by decide)
theorem own_ef_rmE0 (m : MethodId) (en : Addr) (t : Addr) (kt : ClassId) (bs : List Nat) (te : Addr) (ke : ClassId) (dd : Addr) (kd : ClassId) : entryFrame m #[(.ref en), (.ref t), (.int (0 : Int32)), (.int (Int32.ofNat bs.length)), (.ref dd)] 16 = mkF m 0 #[.val (.ref en), .val (.ref t), .val (.int (0 : Int32)), .val (.int (Int32.ofNat bs.length)), .val (.ref dd), .unset, .unset, .unset, .unset, .unset, .unset, .unset, .unset, .unset, .unset, .unset] [] := by first | (simp [entryFrame, mkF, argsToLocals, Value.category]; done) | rfl
theorem own_d20_0 : decode jdk_2452_method_10_code 0 = .ok (.aload_n 0, 1) := by decide +kernel
theorem own_d20_1 : decode jdk_2452_method_10_code 1 = .ok (.getfield 7, 3) := by decide +kernel
theorem own_d20_4 : decode jdk_2452_method_10_code 4 = .ok (.ifCond .eq 9, 3) := by decide +kernel
theorem own_d20_7 : decode jdk_2452_method_10_code 7 = .ok (.getstatic 111, 3) := by decide +kernel
theorem own_d20_10 : decode jdk_2452_method_10_code 10 = .ok (.goto 6, 3) := by decide +kernel
theorem own_d20_16 : decode jdk_2452_method_10_code 16 = .ok (.astore 5, 2) := by decide +kernel
theorem own_d20_18 : decode jdk_2452_method_10_code 18 = .ok (.iload_n 2, 1) := by decide +kernel
theorem own_d20_19 : decode jdk_2452_method_10_code 19 = .ok (.istore 6, 2) := by decide +kernel
theorem own_d20_21 : decode jdk_2452_method_10_code 21 = .ok (.iload_n 3, 1) := by decide +kernel
theorem own_d20_22 : decode jdk_2452_method_10_code 22 = .ok (.iload_n 2, 1) := by decide +kernel
theorem own_d20_23 : decode jdk_2452_method_10_code 23 = .ok (.isub, 1) := by decide +kernel
theorem own_d20_24 : decode jdk_2452_method_10_code 24 = .ok (.iconst 3, 1) := by decide +kernel
theorem own_d20_25 : decode jdk_2452_method_10_code 25 = .ok (.idiv, 1) := by decide +kernel
theorem own_d20_26 : decode jdk_2452_method_10_code 26 = .ok (.iconst 3, 1) := by decide +kernel
theorem own_d20_27 : decode jdk_2452_method_10_code 27 = .ok (.imul, 1) := by decide +kernel
theorem own_d20_28 : decode jdk_2452_method_10_code 28 = .ok (.istore 7, 2) := by decide +kernel
theorem own_d20_30 : decode jdk_2452_method_10_code 30 = .ok (.iload_n 2, 1) := by decide +kernel
theorem own_d20_31 : decode jdk_2452_method_10_code 31 = .ok (.iload 7, 2) := by decide +kernel
theorem own_d20_33 : decode jdk_2452_method_10_code 33 = .ok (.iadd, 1) := by decide +kernel
theorem own_d20_34 : decode jdk_2452_method_10_code 34 = .ok (.istore 8, 2) := by decide +kernel
theorem own_d20_36 : decode jdk_2452_method_10_code 36 = .ok (.aload_n 0, 1) := by decide +kernel
theorem own_d20_37 : decode jdk_2452_method_10_code 37 = .ok (.getfield 17, 3) := by decide +kernel
theorem own_d20_40 : decode jdk_2452_method_10_code 40 = .ok (.ifCond .le 26, 3) := by decide +kernel
theorem own_d20_66 : decode jdk_2452_method_10_code 66 = .ok (.iconst 0, 1) := by decide +kernel
theorem own_d20_67 : decode jdk_2452_method_10_code 67 = .ok (.istore 9, 2) := by decide +kernel
theorem own_d20_69 : decode jdk_2452_method_10_code 69 = .ok (.iload 6, 2) := by decide +kernel
theorem own_d20_71 : decode jdk_2452_method_10_code 71 = .ok (.iload 8, 2) := by decide +kernel
theorem own_d20_73 : decode jdk_2452_method_10_code 73 = .ok (.if_icmp .ge 116, 3) := by decide +kernel
theorem own_d20_189 : decode jdk_2452_method_10_code 189 = .ok (.iload 6, 2) := by decide +kernel
theorem own_d20_191 : decode jdk_2452_method_10_code 191 = .ok (.iload_n 3, 1) := by decide +kernel
theorem own_d20_192 : decode jdk_2452_method_10_code 192 = .ok (.if_icmp .ge 160, 3) := by decide +kernel
theorem own_d20_352 : decode jdk_2452_method_10_code 352 = .ok (.iload 9, 2) := by decide +kernel
theorem own_d20_354 : decode jdk_2452_method_10_code 354 = .ok (.ireturn, 1) := by decide +kernel
theorem own_d20_195 : decode jdk_2452_method_10_code 195 = .ok (.aload_n 1, 1) := by decide +kernel
theorem own_d20_196 : decode jdk_2452_method_10_code 196 = .ok (.iload 6, 2) := by decide +kernel
theorem own_d20_198 : decode jdk_2452_method_10_code 198 = .ok (.iinc 6 1, 3) := by decide +kernel
theorem own_d20_201 : decode jdk_2452_method_10_code 201 = .ok (.baload, 1) := by decide +kernel
theorem own_d20_202 : decode jdk_2452_method_10_code 202 = .ok (.sipush 255, 3) := by decide +kernel
theorem own_d20_205 : decode jdk_2452_method_10_code 205 = .ok (.iand, 1) := by decide +kernel
theorem own_d20_206 : decode jdk_2452_method_10_code 206 = .ok (.istore 10, 2) := by decide +kernel
theorem own_d20_208 : decode jdk_2452_method_10_code 208 = .ok (.aload 4, 2) := by decide +kernel
theorem own_d20_210 : decode jdk_2452_method_10_code 210 = .ok (.iload 9, 2) := by decide +kernel
theorem own_d20_212 : decode jdk_2452_method_10_code 212 = .ok (.iinc 9 1, 3) := by decide +kernel
theorem own_d20_215 : decode jdk_2452_method_10_code 215 = .ok (.aload 5, 2) := by decide +kernel
theorem own_d20_217 : decode jdk_2452_method_10_code 217 = .ok (.iload 10, 2) := by decide +kernel
theorem own_d20_219 : decode jdk_2452_method_10_code 219 = .ok (.iconst 2, 1) := by decide +kernel
theorem own_d20_220 : decode jdk_2452_method_10_code 220 = .ok (.ishr, 1) := by decide +kernel
theorem own_d20_221 : decode jdk_2452_method_10_code 221 = .ok (.caload, 1) := by decide +kernel
theorem own_d20_222 : decode jdk_2452_method_10_code 222 = .ok (.i2b, 1) := by decide +kernel
theorem own_d20_223 : decode jdk_2452_method_10_code 223 = .ok (.bastore, 1) := by decide +kernel
theorem own_d20_224 : decode jdk_2452_method_10_code 224 = .ok (.iload 6, 2) := by decide +kernel
theorem own_d20_226 : decode jdk_2452_method_10_code 226 = .ok (.iload_n 3, 1) := by decide +kernel
theorem own_d20_227 : decode jdk_2452_method_10_code 227 = .ok (.if_icmp .ne 52, 3) := by decide +kernel
theorem own_d20_230 : decode jdk_2452_method_10_code 230 = .ok (.aload 4, 2) := by decide +kernel
theorem own_d20_232 : decode jdk_2452_method_10_code 232 = .ok (.iload 9, 2) := by decide +kernel
theorem own_d20_234 : decode jdk_2452_method_10_code 234 = .ok (.iinc 9 1, 3) := by decide +kernel
theorem own_d20_237 : decode jdk_2452_method_10_code 237 = .ok (.aload 5, 2) := by decide +kernel
theorem own_d20_239 : decode jdk_2452_method_10_code 239 = .ok (.iload 10, 2) := by decide +kernel
theorem own_d20_241 : decode jdk_2452_method_10_code 241 = .ok (.iconst 4, 1) := by decide +kernel
theorem own_d20_242 : decode jdk_2452_method_10_code 242 = .ok (.ishl, 1) := by decide +kernel
theorem own_d20_243 : decode jdk_2452_method_10_code 243 = .ok (.bipush 63, 2) := by decide +kernel
theorem own_d20_245 : decode jdk_2452_method_10_code 245 = .ok (.iand, 1) := by decide +kernel
theorem own_d20_246 : decode jdk_2452_method_10_code 246 = .ok (.caload, 1) := by decide +kernel
theorem own_d20_247 : decode jdk_2452_method_10_code 247 = .ok (.i2b, 1) := by decide +kernel
theorem own_d20_248 : decode jdk_2452_method_10_code 248 = .ok (.bastore, 1) := by decide +kernel
theorem own_d20_249 : decode jdk_2452_method_10_code 249 = .ok (.aload_n 0, 1) := by decide +kernel
theorem own_d20_250 : decode jdk_2452_method_10_code 250 = .ok (.getfield 21, 3) := by decide +kernel
theorem own_d20_253 : decode jdk_2452_method_10_code 253 = .ok (.ifCond .eq 99, 3) := by decide +kernel
theorem own_d20_279 : decode jdk_2452_method_10_code 279 = .ok (.aload_n 1, 1) := by decide +kernel
theorem own_d20_280 : decode jdk_2452_method_10_code 280 = .ok (.iload 6, 2) := by decide +kernel
theorem own_d20_282 : decode jdk_2452_method_10_code 282 = .ok (.iinc 6 1, 3) := by decide +kernel
theorem own_d20_285 : decode jdk_2452_method_10_code 285 = .ok (.baload, 1) := by decide +kernel
theorem own_d20_286 : decode jdk_2452_method_10_code 286 = .ok (.sipush 255, 3) := by decide +kernel
theorem own_d20_289 : decode jdk_2452_method_10_code 289 = .ok (.iand, 1) := by decide +kernel
theorem own_d20_290 : decode jdk_2452_method_10_code 290 = .ok (.istore 11, 2) := by decide +kernel
theorem own_d20_292 : decode jdk_2452_method_10_code 292 = .ok (.aload 4, 2) := by decide +kernel
theorem own_d20_294 : decode jdk_2452_method_10_code 294 = .ok (.iload 9, 2) := by decide +kernel
theorem own_d20_296 : decode jdk_2452_method_10_code 296 = .ok (.iinc 9 1, 3) := by decide +kernel
theorem own_d20_299 : decode jdk_2452_method_10_code 299 = .ok (.aload 5, 2) := by decide +kernel
theorem own_d20_301 : decode jdk_2452_method_10_code 301 = .ok (.iload 10, 2) := by decide +kernel
theorem own_d20_303 : decode jdk_2452_method_10_code 303 = .ok (.iconst 4, 1) := by decide +kernel
theorem own_d20_304 : decode jdk_2452_method_10_code 304 = .ok (.ishl, 1) := by decide +kernel
theorem own_d20_305 : decode jdk_2452_method_10_code 305 = .ok (.bipush 63, 2) := by decide +kernel
theorem own_d20_307 : decode jdk_2452_method_10_code 307 = .ok (.iand, 1) := by decide +kernel
theorem own_d20_308 : decode jdk_2452_method_10_code 308 = .ok (.iload 11, 2) := by decide +kernel
theorem own_d20_310 : decode jdk_2452_method_10_code 310 = .ok (.iconst 4, 1) := by decide +kernel
theorem own_d20_311 : decode jdk_2452_method_10_code 311 = .ok (.ishr, 1) := by decide +kernel
theorem own_d20_312 : decode jdk_2452_method_10_code 312 = .ok (.ior, 1) := by decide +kernel
theorem own_d20_313 : decode jdk_2452_method_10_code 313 = .ok (.caload, 1) := by decide +kernel
theorem own_d20_314 : decode jdk_2452_method_10_code 314 = .ok (.i2b, 1) := by decide +kernel
theorem own_d20_315 : decode jdk_2452_method_10_code 315 = .ok (.bastore, 1) := by decide +kernel
theorem own_d20_316 : decode jdk_2452_method_10_code 316 = .ok (.aload 4, 2) := by decide +kernel
theorem own_d20_318 : decode jdk_2452_method_10_code 318 = .ok (.iload 9, 2) := by decide +kernel
theorem own_d20_320 : decode jdk_2452_method_10_code 320 = .ok (.iinc 9 1, 3) := by decide +kernel
theorem own_d20_323 : decode jdk_2452_method_10_code 323 = .ok (.aload 5, 2) := by decide +kernel
theorem own_d20_325 : decode jdk_2452_method_10_code 325 = .ok (.iload 11, 2) := by decide +kernel
theorem own_d20_327 : decode jdk_2452_method_10_code 327 = .ok (.iconst 2, 1) := by decide +kernel
theorem own_d20_328 : decode jdk_2452_method_10_code 328 = .ok (.ishl, 1) := by decide +kernel
theorem own_d20_329 : decode jdk_2452_method_10_code 329 = .ok (.bipush 63, 2) := by decide +kernel
theorem own_d20_331 : decode jdk_2452_method_10_code 331 = .ok (.iand, 1) := by decide +kernel
theorem own_d20_332 : decode jdk_2452_method_10_code 332 = .ok (.caload, 1) := by decide +kernel
theorem own_d20_333 : decode jdk_2452_method_10_code 333 = .ok (.i2b, 1) := by decide +kernel
theorem own_d20_334 : decode jdk_2452_method_10_code 334 = .ok (.bastore, 1) := by decide +kernel
theorem own_d20_335 : decode jdk_2452_method_10_code 335 = .ok (.aload_n 0, 1) := by decide +kernel
theorem own_d20_336 : decode jdk_2452_method_10_code 336 = .ok (.getfield 21, 3) := by decide +kernel
theorem own_d20_339 : decode jdk_2452_method_10_code 339 = .ok (.ifCond .eq 13, 3) := by decide +kernel
theorem own_d20_76 : decode jdk_2452_method_10_code 76 = .ok (.iload 6, 2) := by decide +kernel
theorem own_d20_78 : decode jdk_2452_method_10_code 78 = .ok (.iload 7, 2) := by decide +kernel
theorem own_d20_80 : decode jdk_2452_method_10_code 80 = .ok (.iadd, 1) := by decide +kernel
theorem own_d20_81 : decode jdk_2452_method_10_code 81 = .ok (.iload 8, 2) := by decide +kernel
theorem own_d20_83 : decode jdk_2452_method_10_code 83 = .ok (.invokestatic 124, 3) := by decide +kernel
theorem own_d20_86 : decode jdk_2452_method_10_code 86 = .ok (.istore 10, 2) := by decide +kernel
theorem own_d20_88 : decode jdk_2452_method_10_code 88 = .ok (.aload_n 0, 1) := by decide +kernel
theorem own_d20_89 : decode jdk_2452_method_10_code 89 = .ok (.aload_n 1, 1) := by decide +kernel
theorem own_d20_90 : decode jdk_2452_method_10_code 90 = .ok (.iload 6, 2) := by decide +kernel
theorem own_d20_92 : decode jdk_2452_method_10_code 92 = .ok (.iload 10, 2) := by decide +kernel
theorem own_d20_94 : decode jdk_2452_method_10_code 94 = .ok (.aload 4, 2) := by decide +kernel
theorem own_d20_96 : decode jdk_2452_method_10_code 96 = .ok (.iload 9, 2) := by decide +kernel
theorem own_d20_98 : decode jdk_2452_method_10_code 98 = .ok (.aload_n 0, 1) := by decide +kernel
theorem own_d20_99 : decode jdk_2452_method_10_code 99 = .ok (.getfield 7, 3) := by decide +kernel
theorem own_d20_102 : decode jdk_2452_method_10_code 102 = .ok (.invokevirtual 127, 3) := by decide +kernel
theorem own_pd_285bBII5bBIZ29V : parseMethodDescriptor "([BII[BIZ)V" = some ⟨[(.array .byte), .int, .int, (.array .byte), .int, .boolean], none⟩ := by decide +kernel
theorem own_d20_105 : decode jdk_2452_method_10_code 105 = .ok (.iload 10, 2) := by decide +kernel
theorem own_d20_107 : decode jdk_2452_method_10_code 107 = .ok (.iload 6, 2) := by decide +kernel
theorem own_d20_109 : decode jdk_2452_method_10_code 109 = .ok (.isub, 1) := by decide +kernel
theorem own_d20_110 : decode jdk_2452_method_10_code 110 = .ok (.iconst 3, 1) := by decide +kernel
theorem own_d20_111 : decode jdk_2452_method_10_code 111 = .ok (.idiv, 1) := by decide +kernel
theorem own_d20_112 : decode jdk_2452_method_10_code 112 = .ok (.iconst 4, 1) := by decide +kernel
theorem own_d20_113 : decode jdk_2452_method_10_code 113 = .ok (.imul, 1) := by decide +kernel
theorem own_d20_114 : decode jdk_2452_method_10_code 114 = .ok (.istore 11, 2) := by decide +kernel
theorem own_d20_116 : decode jdk_2452_method_10_code 116 = .ok (.iload 9, 2) := by decide +kernel
theorem own_d20_118 : decode jdk_2452_method_10_code 118 = .ok (.iload 11, 2) := by decide +kernel
theorem own_d20_120 : decode jdk_2452_method_10_code 120 = .ok (.iadd, 1) := by decide +kernel
theorem own_d20_121 : decode jdk_2452_method_10_code 121 = .ok (.istore 9, 2) := by decide +kernel
theorem own_d20_123 : decode jdk_2452_method_10_code 123 = .ok (.iload 10, 2) := by decide +kernel
theorem own_d20_125 : decode jdk_2452_method_10_code 125 = .ok (.istore 6, 2) := by decide +kernel
theorem own_d20_127 : decode jdk_2452_method_10_code 127 = .ok (.iload 11, 2) := by decide +kernel
theorem own_d20_129 : decode jdk_2452_method_10_code 129 = .ok (.aload_n 0, 1) := by decide +kernel
theorem own_d20_130 : decode jdk_2452_method_10_code 130 = .ok (.getfield 17, 3) := by decide +kernel
theorem own_d20_133 : decode jdk_2452_method_10_code 133 = .ok (.if_icmp .ne 53, 3) := by decide +kernel
theorem own_d20_186 : decode jdk_2452_method_10_code 186 = .ok (.goto (-117), 3) := by decide +kernel
def Q_rmE0 (Z : State) (en : Addr) (t : Addr) (kt : ClassId) (bs : List Nat) (te : Addr) (ke : ClassId) (dd : Addr) (kd : ClassId) (h0 : Heap) (n0 : Nat) (vq : Option Value) (hhq : Heap) (Lq : List Loc) : Prop := vq = some (.int (Int32.ofNat (own_cs bs).length)) ∧ Fr n0 Lq ∧ Keep h0 hhq [dd] ∧ Arv Z hhq dd kd .byte (Int32.ofNat (own_cs bs).length) (own_bs (own_cs bs)) (.int 0)
set_option maxRecDepth 65536 in
set_option maxHeartbeats 40000000 in
theorem rmE0 (l : Launch) (Z : State) (a0 : Array Value) (hw : ∀ d ∈ tables_1, d.before a0 Z = true) (ws : List Jvm.Cond) (en : Addr) (t : Addr) (kt : ClassId) (bs : List Nat) (te : Addr) (ke : ClassId) (dd : Addr) (kd : ClassId) (h0 : Heap) (n0 : Nat) (Z0 : n0 ≤ h0.size) (ZE : Exa Z Z.heap en "java/util/Base64$Encoder") (ZE1 : Fld Z Z.heap en "java/util/Base64$Encoder" "isURL" "Z" (.int (1 : Int32))) (ZE2 : Fld Z Z.heap en "java/util/Base64$Encoder" "doPadding" "Z" (.int (0 : Int32))) (ZE3 : Fld Z Z.heap en "java/util/Base64$Encoder" "linemax" "I" (.int (-1 : Int32))) (OT : Sta Z Z.heap "java/util/Base64$Encoder" "toBase64URL" "[C" (.ref te)) (ZT : Arv Z Z.heap te ke .char (64 : Int32) (own_T.map Value.int) (.int 0)) (Pm6 : Arv Z h0 t kt .byte (Int32.ofNat bs.length) (own_bs (own_ub bs)) (.int 0)) (hL : (bs.length ≤ 5)) (hB : (∀ b ∈ bs, b < 256)) (Pm9 : Arv Z h0 dd kd .byte (Int32.ofNat (own_cs bs).length) ([] : List Value) (.int 0)) (gdd : n0 ≤ dd) (ntd : (t ≠ dd)) (X00 : Old Z n0 h0) :
    MetFree l (⟨"java/util/Base64$Encoder", "encode0", "([BII[B)I"⟩ : MethodName) (head1 (Jvm.Cond.code (⟨"java/util/Base64$Encoder", "encode0", "([BII[B)I"⟩ : MethodName) jdk_2452_method_10_code 16 (some .int) :: ws) ({ frames := 1, cells := 0, slots := 0, locals := 22 } : Room)) (fun aq U => aq = #[(.ref en), (.ref t), (.int (0 : Int32)), (.int (Int32.ofNat bs.length)), (.ref dd)] ∧ Z.Warmed39 U.vm ∧ U.heap = h0) (fun _ _ _ _ _ => True) (fun _ U oq U' => ∃ vq Lq, oq = .returned vq ∧ Q_rmE0 Z en t kt bs te ke dd kd h0 n0 vq U'.heap Lq ∧ FrameEnd U oq U' Lq ({ frames := 1, cells := 0, slots := 0, locals := 22 } : Room).cells ({ frames := 1, cells := 0, slots := 0, locals := 22 } : Room).slots) := by
  refine MetFree.of_bodySF (plainFor_of_name own_pn_java_util_Base64_Encoder) hisR ?_
  intro p e s m args below meth c s₁ Bd hml0 hP hK
  obtain ⟨rfl, hZ, hh⟩ := hP
  have hx := Bd.exec
  have hby := Bd.bytes
  have hml : c.maxLocals = 16 := hml0
  have hown : s.vm.findClass "java/util/Base64$Encoder" = some m.cls := findClass_of_methodNamed Bd.named
  have hnm := (name_of_methodNamed Bd.named Bd.method).1
  have X0 : Stand p l e ({ frames := 1, cells := 0, slots := 0, locals := 22 } : Room) s m #[(.ref en), (.ref t), (.int (0 : Int32)), (.int (Int32.ofNat bs.length)), (.ref dd)] below meth c s₁ [] 0 0 := Stand.of_body Bd
  have e0 : s₁.heap = h0 := by rw [← hh, Bd.state]; rfl
  have N0 := Fr.nil n0
  have K0 : Keep h0 h0 [dd] := Keep.refl _ _
  refine own_go (S' := s₁.setTop (mkF m 0 #[.val (.ref en), .val (.ref t), .val (.int (0 : Int32)), .val (.int (Int32.ofNat bs.length)), .val (.ref dd), .unset, .unset, .unset, .unset, .unset, .unset, .unset, .unset, .unset, .unset, .unset] [])) (fun tq kq => castTop (own_ef_rmE0 m en t kt bs te ke dd kd) kq) ?_
  have lt1 : @LT.lt Nat _ t h0.size := Pm6.lt
  have lt2 : @LT.lt Nat _ dd h0.size := Pm9.lt
  refine own_aln X0 hx 1 (hb hby own_d20_0) rfl rfl rfl ?_
  have F3 : Fld Z h0 en "java/util/Base64$Encoder" "isURL" "Z" (.int (1 : Int32)) := ZE1.ext X00.2
  refine own_gF X0 hx hZ hown (host := "") (Or.inl (hw _ (own_mi 139 rfl))) Via.refl e0 F3 4 (hb hby own_d20_1) rfl ?_
  intro T4 X4 e4
  refine own_ifN X4 hx 7 (hb hby own_d20_4) rfl ((if0 _ _).trans (feq ((by decide : ¬ ((1 : Int32) = (0 : Int32))) : ¬ ((1 : Int32) = (0 : Int32)))).1) ?_
  refine own_gS X4 hx hZ hown (host := "") (Or.inl (hw _ (own_mi 141 rfl))) Via.refl e4 (OT.ext X00.2) 10 (hb hby own_d20_7) rfl ?_
  intro T5 X5 e5
  refine own_gt X5 hx 16 (hb hby own_d20_10) (by decide) (by decide) ?_
  refine own_as X5 hx #[.val (.ref en), .val (.ref t), .val (.int (0 : Int32)), .val (.int (Int32.ofNat bs.length)), .val (.ref dd), .val (.ref te), .unset, .unset, .unset, .unset, .unset, .unset, .unset, .unset, .unset, .unset] 18 (hb hby own_d20_16) rfl rfl rfl ?_
  rcases bs with _ | ⟨q0, _ | ⟨q1, _ | ⟨q2, _ | ⟨q3, _ | ⟨q4, _ | ⟨q5, rs⟩⟩⟩⟩⟩⟩
  · skip
    have V6 : Arv Z h0 t kt .byte (0 : Int32) [] (.int 0) := Pm6
    have V7 : Arv Z h0 dd kd .byte (0 : Int32) [] (.int 0) := Pm9
    show own_Rn p e below _ (T5.setTop (mkF m 18 #[.val (.ref en), .val (.ref t), .val (.int (0 : Int32)), .val (.int (0 : Int32)), .val (.ref dd), .val (.ref te), .unset, .unset, .unset, .unset, .unset, .unset, .unset, .unset, .unset, .unset] []))
    refine own_iln X5 hx 19 (hb hby own_d20_18) rfl rfl ?_
    refine own_is X5 hx #[.val (.ref en), .val (.ref t), .val (.int (0 : Int32)), .val (.int (0 : Int32)), .val (.ref dd), .val (.ref te), .val (.int (0 : Int32)), .unset, .unset, .unset, .unset, .unset, .unset, .unset, .unset, .unset] 21 (hb hby own_d20_19) rfl rfl ?_
    refine own_iln X5 hx 22 (hb hby own_d20_21) rfl rfl ?_
    refine own_iln X5 hx 23 (hb hby own_d20_22) rfl rfl ?_
    refine own_isub X5 hx 24 (hb hby own_d20_23) rfl ?_
    refine own_ic X5 hx (3 : Int32) 25 (hb hby own_d20_24) rfl rfl ?_
    refine own_idiv X5 hx 26 (hb hby own_d20_25) rfl (by decide) ?_
    refine own_ic X5 hx (3 : Int32) 27 (hb hby own_d20_26) rfl rfl ?_
    refine own_imul X5 hx 28 (hb hby own_d20_27) rfl ?_
    rw [show ((((0 : Int32) - (0 : Int32)) / (3 : Int32)) * (3 : Int32)) = (0 : Int32) from by decide]
    refine own_is X5 hx #[.val (.ref en), .val (.ref t), .val (.int (0 : Int32)), .val (.int (0 : Int32)), .val (.ref dd), .val (.ref te), .val (.int (0 : Int32)), .val (.int (0 : Int32)), .unset, .unset, .unset, .unset, .unset, .unset, .unset, .unset] 30 (hb hby own_d20_28) rfl rfl ?_
    refine own_iln X5 hx 31 (hb hby own_d20_30) rfl rfl ?_
    refine own_il X5 hx 33 (hb hby own_d20_31) rfl rfl ?_
    refine own_iadd X5 hx 34 (hb hby own_d20_33) rfl ?_
    rw [show ((0 : Int32) + (0 : Int32)) = (0 : Int32) from by decide]
    refine own_is X5 hx #[.val (.ref en), .val (.ref t), .val (.int (0 : Int32)), .val (.int (0 : Int32)), .val (.ref dd), .val (.ref te), .val (.int (0 : Int32)), .val (.int (0 : Int32)), .val (.int (0 : Int32)), .unset, .unset, .unset, .unset, .unset, .unset, .unset] 36 (hb hby own_d20_34) rfl rfl ?_
    refine own_aln X5 hx 37 (hb hby own_d20_36) rfl rfl rfl ?_
    have F8 : Fld Z h0 en "java/util/Base64$Encoder" "linemax" "I" (.int (-1 : Int32)) := ZE3.ext X00.2
    refine own_gF X5 hx hZ hown (host := "") (Or.inl (hw _ (own_mi 132 rfl))) Via.refl e5 F8 40 (hb hby own_d20_37) rfl ?_
    intro T9 X9 e9
    refine own_ifY X9 hx 66 (hb hby own_d20_40) ((if0 _ _).trans (flt (by decide : ¬ ((0 : Int32) < (-1 : Int32)))).2.2.2) (by decide) (by decide) ?_
    refine own_ic X9 hx (0 : Int32) 67 (hb hby own_d20_66) rfl rfl ?_
    refine own_is X9 hx #[.val (.ref en), .val (.ref t), .val (.int (0 : Int32)), .val (.int (0 : Int32)), .val (.ref dd), .val (.ref te), .val (.int (0 : Int32)), .val (.int (0 : Int32)), .val (.int (0 : Int32)), .val (.int (0 : Int32)), .unset, .unset, .unset, .unset, .unset, .unset] 69 (hb hby own_d20_67) rfl rfl ?_
    refine own_il X9 hx 71 (hb hby own_d20_69) rfl rfl ?_
    refine own_il X9 hx 73 (hb hby own_d20_71) rfl rfl ?_
    refine own_icY X9 hx 189 (hb hby own_d20_73) (flt (by decide : ¬ ((0 : Int32) < (0 : Int32)))).2.1 (by decide) (by decide) ?_
    refine own_il X9 hx 191 (hb hby own_d20_189) rfl rfl ?_
    refine own_iln X9 hx 192 (hb hby own_d20_191) rfl rfl ?_
    refine own_icY X9 hx 352 (hb hby own_d20_192) (flt (by decide : ¬ ((0 : Int32) < (0 : Int32)))).2.1 (by decide) (by decide) ?_
    refine own_il X9 hx 354 (hb hby own_d20_352) rfl rfl ?_
    exact own_ret X9 (v := some (.int (0 : Int32))) (fun h => by rw [Bd.returns] at h; cases h) (fun fs hr => retI X9 hx Bd.returns (hb hby own_d20_354) hr) (by rw [e9]; exact ⟨rfl, N0, K0, V7⟩) (by decide) (by decide)
  · skip
    have hq0 : q0 < 256 := hB q0 (by simp)
    have V10 : Arv Z h0 t kt .byte (1 : Int32) [(.int (own_by q0))] (.int 0) := Pm6
    have V11 : Arv Z h0 dd kd .byte (2 : Int32) [] (.int 0) := Pm9
    show own_Rn p e below _ (T5.setTop (mkF m 18 #[.val (.ref en), .val (.ref t), .val (.int (0 : Int32)), .val (.int (1 : Int32)), .val (.ref dd), .val (.ref te), .unset, .unset, .unset, .unset, .unset, .unset, .unset, .unset, .unset, .unset] []))
    refine own_iln X5 hx 19 (hb hby own_d20_18) rfl rfl ?_
    refine own_is X5 hx #[.val (.ref en), .val (.ref t), .val (.int (0 : Int32)), .val (.int (1 : Int32)), .val (.ref dd), .val (.ref te), .val (.int (0 : Int32)), .unset, .unset, .unset, .unset, .unset, .unset, .unset, .unset, .unset] 21 (hb hby own_d20_19) rfl rfl ?_
    refine own_iln X5 hx 22 (hb hby own_d20_21) rfl rfl ?_
    refine own_iln X5 hx 23 (hb hby own_d20_22) rfl rfl ?_
    refine own_isub X5 hx 24 (hb hby own_d20_23) rfl ?_
    refine own_ic X5 hx (3 : Int32) 25 (hb hby own_d20_24) rfl rfl ?_
    refine own_idiv X5 hx 26 (hb hby own_d20_25) rfl (by decide) ?_
    refine own_ic X5 hx (3 : Int32) 27 (hb hby own_d20_26) rfl rfl ?_
    refine own_imul X5 hx 28 (hb hby own_d20_27) rfl ?_
    rw [show ((((1 : Int32) - (0 : Int32)) / (3 : Int32)) * (3 : Int32)) = (0 : Int32) from by decide]
    refine own_is X5 hx #[.val (.ref en), .val (.ref t), .val (.int (0 : Int32)), .val (.int (1 : Int32)), .val (.ref dd), .val (.ref te), .val (.int (0 : Int32)), .val (.int (0 : Int32)), .unset, .unset, .unset, .unset, .unset, .unset, .unset, .unset] 30 (hb hby own_d20_28) rfl rfl ?_
    refine own_iln X5 hx 31 (hb hby own_d20_30) rfl rfl ?_
    refine own_il X5 hx 33 (hb hby own_d20_31) rfl rfl ?_
    refine own_iadd X5 hx 34 (hb hby own_d20_33) rfl ?_
    rw [show ((0 : Int32) + (0 : Int32)) = (0 : Int32) from by decide]
    refine own_is X5 hx #[.val (.ref en), .val (.ref t), .val (.int (0 : Int32)), .val (.int (1 : Int32)), .val (.ref dd), .val (.ref te), .val (.int (0 : Int32)), .val (.int (0 : Int32)), .val (.int (0 : Int32)), .unset, .unset, .unset, .unset, .unset, .unset, .unset] 36 (hb hby own_d20_34) rfl rfl ?_
    refine own_aln X5 hx 37 (hb hby own_d20_36) rfl rfl rfl ?_
    have F12 : Fld Z h0 en "java/util/Base64$Encoder" "linemax" "I" (.int (-1 : Int32)) := ZE3.ext X00.2
    refine own_gF X5 hx hZ hown (host := "") (Or.inl (hw _ (own_mi 132 rfl))) Via.refl e5 F12 40 (hb hby own_d20_37) rfl ?_
    intro T13 X13 e13
    refine own_ifY X13 hx 66 (hb hby own_d20_40) ((if0 _ _).trans (flt (by decide : ¬ ((0 : Int32) < (-1 : Int32)))).2.2.2) (by decide) (by decide) ?_
    refine own_ic X13 hx (0 : Int32) 67 (hb hby own_d20_66) rfl rfl ?_
    refine own_is X13 hx #[.val (.ref en), .val (.ref t), .val (.int (0 : Int32)), .val (.int (1 : Int32)), .val (.ref dd), .val (.ref te), .val (.int (0 : Int32)), .val (.int (0 : Int32)), .val (.int (0 : Int32)), .val (.int (0 : Int32)), .unset, .unset, .unset, .unset, .unset, .unset] 69 (hb hby own_d20_67) rfl rfl ?_
    refine own_il X13 hx 71 (hb hby own_d20_69) rfl rfl ?_
    refine own_il X13 hx 73 (hb hby own_d20_71) rfl rfl ?_
    refine own_icY X13 hx 189 (hb hby own_d20_73) (flt (by decide : ¬ ((0 : Int32) < (0 : Int32)))).2.1 (by decide) (by decide) ?_
    refine own_il X13 hx 191 (hb hby own_d20_189) rfl rfl ?_
    refine own_iln X13 hx 192 (hb hby own_d20_191) rfl rfl ?_
    refine own_icN X13 hx 195 (hb hby own_d20_192) rfl (tlt (by decide : (0 : Int32) < (1 : Int32))).2.1 ?_
    refine own_aln X13 hx 196 (hb hby own_d20_195) rfl rfl rfl ?_
    refine own_il X13 hx 198 (hb hby own_d20_196) rfl rfl ?_
    refine own_ii X13 hx #[.val (.ref en), .val (.ref t), .val (.int (0 : Int32)), .val (.int (1 : Int32)), .val (.ref dd), .val (.ref te), .val (.int ((0 : Int32) + (1 : Int32))), .val (.int (0 : Int32)), .val (.int (0 : Int32)), .val (.int (0 : Int32)), .unset, .unset, .unset, .unset, .unset, .unset] 201 (hb hby own_d20_198) rfl rfl rfl ?_
    rw [show ((0 : Int32) + (1 : Int32)) = (1 : Int32) from by decide]
    refine own_bal X13 hx hZ e13 V10 (own_by q0) 202 (hb hby own_d20_201) rfl ⟨by decide, by decide⟩ rfl ?_
    refine own_sp X13 hx (255 : Int32) 205 (hb hby own_d20_202) rfl rfl ?_
    refine own_iand X13 hx 206 (hb hby own_d20_205) rfl ?_
    rw [show ((own_by q0) &&& (255 : Int32)) = (Int32.ofNat q0) from own_bym q0 hq0]
    refine own_is X13 hx #[.val (.ref en), .val (.ref t), .val (.int (0 : Int32)), .val (.int (1 : Int32)), .val (.ref dd), .val (.ref te), .val (.int (1 : Int32)), .val (.int (0 : Int32)), .val (.int (0 : Int32)), .val (.int (0 : Int32)), .val (.int (Int32.ofNat q0)), .unset, .unset, .unset, .unset, .unset] 208 (hb hby own_d20_206) rfl rfl ?_
    refine own_al X13 hx 210 (hb hby own_d20_208) rfl rfl rfl ?_
    refine own_il X13 hx 212 (hb hby own_d20_210) rfl rfl ?_
    refine own_ii X13 hx #[.val (.ref en), .val (.ref t), .val (.int (0 : Int32)), .val (.int (1 : Int32)), .val (.ref dd), .val (.ref te), .val (.int (1 : Int32)), .val (.int (0 : Int32)), .val (.int (0 : Int32)), .val (.int ((0 : Int32) + (1 : Int32))), .val (.int (Int32.ofNat q0)), .unset, .unset, .unset, .unset, .unset] 215 (hb hby own_d20_212) rfl rfl rfl ?_
    refine own_al X13 hx 217 (hb hby own_d20_215) rfl rfl rfl ?_
    refine own_il X13 hx 219 (hb hby own_d20_217) rfl rfl ?_
    refine own_ic X13 hx (2 : Int32) 220 (hb hby own_d20_219) rfl rfl ?_
    refine own_ishr X13 hx 221 (hb hby own_d20_220) rfl ?_
    rw [show ((0 : Int32) + (1 : Int32)) = (1 : Int32) from by decide]
    rw [show ((Int32.ofNat q0) >>> ((2 : Int32) &&& 31)) = (Int32.ofNat (q0 / 4)) from own_shr2 q0 hq0]
    have F14 : Arv Z h0 te ke .char (64 : Int32) (own_T.map Value.int) (.int 0) := ZT.ext X00.2
    refine own_cal X13 hx hZ e13 F14 (Int32.ofNat (own_ct (q0 / 4))) 222 (hb hby own_d20_221) rfl (own_Tin _ (by omega)) (own_Tat _ (by omega) _) ?_
    refine own_i2b X13 hx 223 (hb hby own_d20_222) rfl ?_
    show own_Rn p e below _ (T13.setTop (mkF m 223 #[.val (.ref en), .val (.ref t), .val (.int (0 : Int32)), .val (.int (1 : Int32)), .val (.ref dd), .val (.ref te), .val (.int (1 : Int32)), .val (.int (0 : Int32)), .val (.int (0 : Int32)), .val (.int (1 : Int32)), .val (.int (Int32.ofNat q0)), .unset, .unset, .unset, .unset, .unset] [(.int (own_cb (q0 / 4))), (.int (0 : Int32)), (.ref dd)]))
    obtain ⟨cl15, Ar15, q15, Sz15, Nn15, Hs15, G15⟩ := id V11
    obtain ⟨T15, h15, X15, e15, W15, st15⟩ := stB X13 hx hZ e13 Ar15 (j := (0 : Int32)) (inb_of Sz15 ⟨by decide, by decide⟩) (g := (mkF m 223 #[.val (.ref en), .val (.ref t), .val (.int (0 : Int32)), .val (.int (1 : Int32)), .val (.ref dd), .val (.ref te), .val (.int (1 : Int32)), .val (.int (0 : Int32)), .val (.int (0 : Int32)), .val (.int (1 : Int32)), .val (.int (Int32.ofNat q0)), .unset, .unset, .unset, .unset, .unset] [(.int (own_cb (q0 / 4))), (.int (0 : Int32)), (.ref dd)])) rfl rfl (hb hby own_d20_223)
    rw [own_narB] at W15
    refine own_go st15 ?_
    have V15 : Arv Z h15 dd kd .byte (2 : Int32) (([] : List Value) ++ [(.int (own_cb (q0 / 4)))]) (.int 0) := own_store1 V11 (by rw [show ((2 : Int32).toNatClampNeg = 2) from by decide]; exact Nat.le_of_ble_eq_true rfl) (own_fitsB _) W15 (show (0 : Int32).toNatClampNeg = 0 from by decide)
    have N15 := Fr.snoc X15 N0 gdd
    have sz16 : h0.size ≤ h15.size := Nat.le_of_eq (Wr.size W15).symm
    have K16 := K0.wr W15 (Or.inl (List.mem_of_getElem? (i := 0) rfl))
    show own_Rn p e below _ (T15.setTop (mkF m 224 #[.val (.ref en), .val (.ref t), .val (.int (0 : Int32)), .val (.int (1 : Int32)), .val (.ref dd), .val (.ref te), .val (.int (1 : Int32)), .val (.int (0 : Int32)), .val (.int (0 : Int32)), .val (.int (1 : Int32)), .val (.int (Int32.ofNat q0)), .unset, .unset, .unset, .unset, .unset] []))
    refine own_il X15 hx 226 (hb hby own_d20_224) rfl rfl ?_
    refine own_iln X15 hx 227 (hb hby own_d20_226) rfl rfl ?_
    refine own_icN X15 hx 230 (hb hby own_d20_227) rfl (teq (by decide : (1 : Int32) = (1 : Int32))).2 ?_
    refine own_al X15 hx 232 (hb hby own_d20_230) rfl rfl rfl ?_
    refine own_il X15 hx 234 (hb hby own_d20_232) rfl rfl ?_
    refine own_ii X15 hx #[.val (.ref en), .val (.ref t), .val (.int (0 : Int32)), .val (.int (1 : Int32)), .val (.ref dd), .val (.ref te), .val (.int (1 : Int32)), .val (.int (0 : Int32)), .val (.int (0 : Int32)), .val (.int ((1 : Int32) + (1 : Int32))), .val (.int (Int32.ofNat q0)), .unset, .unset, .unset, .unset, .unset] 237 (hb hby own_d20_234) rfl rfl rfl ?_
    refine own_al X15 hx 239 (hb hby own_d20_237) rfl rfl rfl ?_
    refine own_il X15 hx 241 (hb hby own_d20_239) rfl rfl ?_
    refine own_ic X15 hx (4 : Int32) 242 (hb hby own_d20_241) rfl rfl ?_
    refine own_ishl X15 hx 243 (hb hby own_d20_242) rfl ?_
    refine own_bp X15 hx (63 : Int32) 245 (hb hby own_d20_243) rfl rfl ?_
    refine own_iand X15 hx 246 (hb hby own_d20_245) rfl ?_
    rw [show ((1 : Int32) + (1 : Int32)) = (2 : Int32) from by decide]
    rw [show (((Int32.ofNat q0) <<< ((4 : Int32) &&& 31)) &&& (63 : Int32)) = (Int32.ofNat (q0 % 4 * 16 + 0 / 16)) from own_t1 q0 hq0]
    have F18 : Old Z n0 h15 := (X00.wr W15 gdd)
    have F17 : Arv Z h15 te ke .char (64 : Int32) (own_T.map Value.int) (.int 0) := ZT.ext F18.2
    refine own_cal X15 hx hZ e15 F17 (Int32.ofNat (own_ct (q0 % 4 * 16 + 0 / 16))) 247 (hb hby own_d20_246) rfl (own_Tin _ (by omega)) (own_Tat _ (by omega) _) ?_
    refine own_i2b X15 hx 248 (hb hby own_d20_247) rfl ?_
    show own_Rn p e below _ (T15.setTop (mkF m 248 #[.val (.ref en), .val (.ref t), .val (.int (0 : Int32)), .val (.int (1 : Int32)), .val (.ref dd), .val (.ref te), .val (.int (1 : Int32)), .val (.int (0 : Int32)), .val (.int (0 : Int32)), .val (.int (2 : Int32)), .val (.int (Int32.ofNat q0)), .unset, .unset, .unset, .unset, .unset] [(.int (own_cb (q0 % 4 * 16 + 0 / 16))), (.int (1 : Int32)), (.ref dd)]))
    obtain ⟨cl19, Ar19, q19, Sz19, Nn19, Hs19, G19⟩ := id V15
    obtain ⟨T19, h19, X19, e19, W19, st19⟩ := stB X15 hx hZ e15 Ar19 (j := (1 : Int32)) (inb_of Sz19 ⟨by decide, by decide⟩) (g := (mkF m 248 #[.val (.ref en), .val (.ref t), .val (.int (0 : Int32)), .val (.int (1 : Int32)), .val (.ref dd), .val (.ref te), .val (.int (1 : Int32)), .val (.int (0 : Int32)), .val (.int (0 : Int32)), .val (.int (2 : Int32)), .val (.int (Int32.ofNat q0)), .unset, .unset, .unset, .unset, .unset] [(.int (own_cb (q0 % 4 * 16 + 0 / 16))), (.int (1 : Int32)), (.ref dd)])) rfl rfl (hb hby own_d20_248)
    rw [own_narB] at W19
    refine own_go st19 ?_
    have V19 : Arv Z h19 dd kd .byte (2 : Int32) ((([] : List Value) ++ [Value.int (own_cb (q0 / 4))]) ++ [(.int (own_cb (q0 % 4 * 16 + 0 / 16)))]) (.int 0) := own_store1 V15 (by rw [show ((2 : Int32).toNatClampNeg = 2) from by decide]; exact Nat.le_of_ble_eq_true rfl) (own_fitsB _) W19 (show (1 : Int32).toNatClampNeg = 1 from by decide)
    have N19 := Fr.snoc X19 N15 gdd
    have sz20 : h15.size ≤ h19.size := Nat.le_of_eq (Wr.size W19).symm
    have K20 := K16.wr W19 (Or.inl (List.mem_of_getElem? (i := 0) rfl))
    show own_Rn p e below _ (T19.setTop (mkF m 249 #[.val (.ref en), .val (.ref t), .val (.int (0 : Int32)), .val (.int (1 : Int32)), .val (.ref dd), .val (.ref te), .val (.int (1 : Int32)), .val (.int (0 : Int32)), .val (.int (0 : Int32)), .val (.int (2 : Int32)), .val (.int (Int32.ofNat q0)), .unset, .unset, .unset, .unset, .unset] []))
    refine own_aln X19 hx 250 (hb hby own_d20_249) rfl rfl rfl ?_
    have F22 : Old Z n0 h19 := (F18.wr W19 gdd)
    have F21 : Fld Z h19 en "java/util/Base64$Encoder" "doPadding" "Z" (.int (0 : Int32)) := ZE2.ext F22.2
    refine own_gF X19 hx hZ hown (host := "") (Or.inl (hw _ (own_mi 123 rfl))) Via.refl e19 F21 253 (hb hby own_d20_250) rfl ?_
    intro T23 X23 e23
    refine own_ifY X23 hx 352 (hb hby own_d20_253) ((if0 _ _).trans (teq ((by decide : (0 : Int32) = (0 : Int32)) : (0 : Int32) = (0 : Int32))).1) (by decide) (by decide) ?_
    refine own_il X23 hx 354 (hb hby own_d20_352) rfl rfl ?_
    exact own_ret X23 (v := some (.int (2 : Int32))) (fun h => by rw [Bd.returns] at h; cases h) (fun fs hr => retI X23 hx Bd.returns (hb hby own_d20_354) hr) (by rw [e23]; exact ⟨rfl, N19, K20, V19⟩) (by decide) (by decide)
  · skip
    have hq0 : q0 < 256 := hB q0 (by simp)
    have hq1 : q1 < 256 := hB q1 (by simp)
    have V24 : Arv Z h0 t kt .byte (2 : Int32) [(.int (own_by q0)), (.int (own_by q1))] (.int 0) := Pm6
    have V25 : Arv Z h0 dd kd .byte (3 : Int32) [] (.int 0) := Pm9
    show own_Rn p e below _ (T5.setTop (mkF m 18 #[.val (.ref en), .val (.ref t), .val (.int (0 : Int32)), .val (.int (2 : Int32)), .val (.ref dd), .val (.ref te), .unset, .unset, .unset, .unset, .unset, .unset, .unset, .unset, .unset, .unset] []))
    refine own_iln X5 hx 19 (hb hby own_d20_18) rfl rfl ?_
    refine own_is X5 hx #[.val (.ref en), .val (.ref t), .val (.int (0 : Int32)), .val (.int (2 : Int32)), .val (.ref dd), .val (.ref te), .val (.int (0 : Int32)), .unset, .unset, .unset, .unset, .unset, .unset, .unset, .unset, .unset] 21 (hb hby own_d20_19) rfl rfl ?_
    refine own_iln X5 hx 22 (hb hby own_d20_21) rfl rfl ?_
    refine own_iln X5 hx 23 (hb hby own_d20_22) rfl rfl ?_
    refine own_isub X5 hx 24 (hb hby own_d20_23) rfl ?_
    refine own_ic X5 hx (3 : Int32) 25 (hb hby own_d20_24) rfl rfl ?_
    refine own_idiv X5 hx 26 (hb hby own_d20_25) rfl (by decide) ?_
    refine own_ic X5 hx (3 : Int32) 27 (hb hby own_d20_26) rfl rfl ?_
    refine own_imul X5 hx 28 (hb hby own_d20_27) rfl ?_
    rw [show ((((2 : Int32) - (0 : Int32)) / (3 : Int32)) * (3 : Int32)) = (0 : Int32) from by decide]
    refine own_is X5 hx #[.val (.ref en), .val (.ref t), .val (.int (0 : Int32)), .val (.int (2 : Int32)), .val (.ref dd), .val (.ref te), .val (.int (0 : Int32)), .val (.int (0 : Int32)), .unset, .unset, .unset, .unset, .unset, .unset, .unset, .unset] 30 (hb hby own_d20_28) rfl rfl ?_
    refine own_iln X5 hx 31 (hb hby own_d20_30) rfl rfl ?_
    refine own_il X5 hx 33 (hb hby own_d20_31) rfl rfl ?_
    refine own_iadd X5 hx 34 (hb hby own_d20_33) rfl ?_
    rw [show ((0 : Int32) + (0 : Int32)) = (0 : Int32) from by decide]
    refine own_is X5 hx #[.val (.ref en), .val (.ref t), .val (.int (0 : Int32)), .val (.int (2 : Int32)), .val (.ref dd), .val (.ref te), .val (.int (0 : Int32)), .val (.int (0 : Int32)), .val (.int (0 : Int32)), .unset, .unset, .unset, .unset, .unset, .unset, .unset] 36 (hb hby own_d20_34) rfl rfl ?_
    refine own_aln X5 hx 37 (hb hby own_d20_36) rfl rfl rfl ?_
    have F26 : Fld Z h0 en "java/util/Base64$Encoder" "linemax" "I" (.int (-1 : Int32)) := ZE3.ext X00.2
    refine own_gF X5 hx hZ hown (host := "") (Or.inl (hw _ (own_mi 132 rfl))) Via.refl e5 F26 40 (hb hby own_d20_37) rfl ?_
    intro T27 X27 e27
    refine own_ifY X27 hx 66 (hb hby own_d20_40) ((if0 _ _).trans (flt (by decide : ¬ ((0 : Int32) < (-1 : Int32)))).2.2.2) (by decide) (by decide) ?_
    refine own_ic X27 hx (0 : Int32) 67 (hb hby own_d20_66) rfl rfl ?_
    refine own_is X27 hx #[.val (.ref en), .val (.ref t), .val (.int (0 : Int32)), .val (.int (2 : Int32)), .val (.ref dd), .val (.ref te), .val (.int (0 : Int32)), .val (.int (0 : Int32)), .val (.int (0 : Int32)), .val (.int (0 : Int32)), .unset, .unset, .unset, .unset, .unset, .unset] 69 (hb hby own_d20_67) rfl rfl ?_
    refine own_il X27 hx 71 (hb hby own_d20_69) rfl rfl ?_
    refine own_il X27 hx 73 (hb hby own_d20_71) rfl rfl ?_
    refine own_icY X27 hx 189 (hb hby own_d20_73) (flt (by decide : ¬ ((0 : Int32) < (0 : Int32)))).2.1 (by decide) (by decide) ?_
    refine own_il X27 hx 191 (hb hby own_d20_189) rfl rfl ?_
    refine own_iln X27 hx 192 (hb hby own_d20_191) rfl rfl ?_
    refine own_icN X27 hx 195 (hb hby own_d20_192) rfl (tlt (by decide : (0 : Int32) < (2 : Int32))).2.1 ?_
    refine own_aln X27 hx 196 (hb hby own_d20_195) rfl rfl rfl ?_
    refine own_il X27 hx 198 (hb hby own_d20_196) rfl rfl ?_
    refine own_ii X27 hx #[.val (.ref en), .val (.ref t), .val (.int (0 : Int32)), .val (.int (2 : Int32)), .val (.ref dd), .val (.ref te), .val (.int ((0 : Int32) + (1 : Int32))), .val (.int (0 : Int32)), .val (.int (0 : Int32)), .val (.int (0 : Int32)), .unset, .unset, .unset, .unset, .unset, .unset] 201 (hb hby own_d20_198) rfl rfl rfl ?_
    rw [show ((0 : Int32) + (1 : Int32)) = (1 : Int32) from by decide]
    refine own_bal X27 hx hZ e27 V24 (own_by q0) 202 (hb hby own_d20_201) rfl ⟨by decide, by decide⟩ rfl ?_
    refine own_sp X27 hx (255 : Int32) 205 (hb hby own_d20_202) rfl rfl ?_
    refine own_iand X27 hx 206 (hb hby own_d20_205) rfl ?_
    rw [show ((own_by q0) &&& (255 : Int32)) = (Int32.ofNat q0) from own_bym q0 hq0]
    refine own_is X27 hx #[.val (.ref en), .val (.ref t), .val (.int (0 : Int32)), .val (.int (2 : Int32)), .val (.ref dd), .val (.ref te), .val (.int (1 : Int32)), .val (.int (0 : Int32)), .val (.int (0 : Int32)), .val (.int (0 : Int32)), .val (.int (Int32.ofNat q0)), .unset, .unset, .unset, .unset, .unset] 208 (hb hby own_d20_206) rfl rfl ?_
    refine own_al X27 hx 210 (hb hby own_d20_208) rfl rfl rfl ?_
    refine own_il X27 hx 212 (hb hby own_d20_210) rfl rfl ?_
    refine own_ii X27 hx #[.val (.ref en), .val (.ref t), .val (.int (0 : Int32)), .val (.int (2 : Int32)), .val (.ref dd), .val (.ref te), .val (.int (1 : Int32)), .val (.int (0 : Int32)), .val (.int (0 : Int32)), .val (.int ((0 : Int32) + (1 : Int32))), .val (.int (Int32.ofNat q0)), .unset, .unset, .unset, .unset, .unset] 215 (hb hby own_d20_212) rfl rfl rfl ?_
    refine own_al X27 hx 217 (hb hby own_d20_215) rfl rfl rfl ?_
    refine own_il X27 hx 219 (hb hby own_d20_217) rfl rfl ?_
    refine own_ic X27 hx (2 : Int32) 220 (hb hby own_d20_219) rfl rfl ?_
    refine own_ishr X27 hx 221 (hb hby own_d20_220) rfl ?_
    rw [show ((0 : Int32) + (1 : Int32)) = (1 : Int32) from by decide]
    rw [show ((Int32.ofNat q0) >>> ((2 : Int32) &&& 31)) = (Int32.ofNat (q0 / 4)) from own_shr2 q0 hq0]
    have F28 : Arv Z h0 te ke .char (64 : Int32) (own_T.map Value.int) (.int 0) := ZT.ext X00.2
    refine own_cal X27 hx hZ e27 F28 (Int32.ofNat (own_ct (q0 / 4))) 222 (hb hby own_d20_221) rfl (own_Tin _ (by omega)) (own_Tat _ (by omega) _) ?_
    refine own_i2b X27 hx 223 (hb hby own_d20_222) rfl ?_
    show own_Rn p e below _ (T27.setTop (mkF m 223 #[.val (.ref en), .val (.ref t), .val (.int (0 : Int32)), .val (.int (2 : Int32)), .val (.ref dd), .val (.ref te), .val (.int (1 : Int32)), .val (.int (0 : Int32)), .val (.int (0 : Int32)), .val (.int (1 : Int32)), .val (.int (Int32.ofNat q0)), .unset, .unset, .unset, .unset, .unset] [(.int (own_cb (q0 / 4))), (.int (0 : Int32)), (.ref dd)]))
    obtain ⟨cl29, Ar29, q29, Sz29, Nn29, Hs29, G29⟩ := id V25
    obtain ⟨T29, h29, X29, e29, W29, st29⟩ := stB X27 hx hZ e27 Ar29 (j := (0 : Int32)) (inb_of Sz29 ⟨by decide, by decide⟩) (g := (mkF m 223 #[.val (.ref en), .val (.ref t), .val (.int (0 : Int32)), .val (.int (2 : Int32)), .val (.ref dd), .val (.ref te), .val (.int (1 : Int32)), .val (.int (0 : Int32)), .val (.int (0 : Int32)), .val (.int (1 : Int32)), .val (.int (Int32.ofNat q0)), .unset, .unset, .unset, .unset, .unset] [(.int (own_cb (q0 / 4))), (.int (0 : Int32)), (.ref dd)])) rfl rfl (hb hby own_d20_223)
    rw [own_narB] at W29
    refine own_go st29 ?_
    have V29 : Arv Z h29 dd kd .byte (3 : Int32) (([] : List Value) ++ [(.int (own_cb (q0 / 4)))]) (.int 0) := own_store1 V25 (by rw [show ((3 : Int32).toNatClampNeg = 3) from by decide]; exact Nat.le_of_ble_eq_true rfl) (own_fitsB _) W29 (show (0 : Int32).toNatClampNeg = 0 from by decide)
    have N29 := Fr.snoc X29 N0 gdd
    have sz30 : h0.size ≤ h29.size := Nat.le_of_eq (Wr.size W29).symm
    have K30 := K0.wr W29 (Or.inl (List.mem_of_getElem? (i := 0) rfl))
    show own_Rn p e below _ (T29.setTop (mkF m 224 #[.val (.ref en), .val (.ref t), .val (.int (0 : Int32)), .val (.int (2 : Int32)), .val (.ref dd), .val (.ref te), .val (.int (1 : Int32)), .val (.int (0 : Int32)), .val (.int (0 : Int32)), .val (.int (1 : Int32)), .val (.int (Int32.ofNat q0)), .unset, .unset, .unset, .unset, .unset] []))
    refine own_il X29 hx 226 (hb hby own_d20_224) rfl rfl ?_
    refine own_iln X29 hx 227 (hb hby own_d20_226) rfl rfl ?_
    refine own_icY X29 hx 279 (hb hby own_d20_227) (feq (by decide : ¬ ((1 : Int32) = (2 : Int32)))).2 (by decide) (by decide) ?_
    refine own_aln X29 hx 280 (hb hby own_d20_279) rfl rfl rfl ?_
    refine own_il X29 hx 282 (hb hby own_d20_280) rfl rfl ?_
    refine own_ii X29 hx #[.val (.ref en), .val (.ref t), .val (.int (0 : Int32)), .val (.int (2 : Int32)), .val (.ref dd), .val (.ref te), .val (.int ((1 : Int32) + (1 : Int32))), .val (.int (0 : Int32)), .val (.int (0 : Int32)), .val (.int (1 : Int32)), .val (.int (Int32.ofNat q0)), .unset, .unset, .unset, .unset, .unset] 285 (hb hby own_d20_282) rfl rfl rfl ?_
    rw [show ((1 : Int32) + (1 : Int32)) = (2 : Int32) from by decide]
    have F31 : Arv Z h29 t kt .byte (2 : Int32) [(.int (own_by q0)), (.int (own_by q1))] (.int 0) := (V24.other W29 ntd)
    refine own_bal X29 hx hZ e29 F31 (own_by q1) 286 (hb hby own_d20_285) rfl ⟨by decide, by decide⟩ rfl ?_
    refine own_sp X29 hx (255 : Int32) 289 (hb hby own_d20_286) rfl rfl ?_
    refine own_iand X29 hx 290 (hb hby own_d20_289) rfl ?_
    rw [show ((own_by q1) &&& (255 : Int32)) = (Int32.ofNat q1) from own_bym q1 hq1]
    refine own_is X29 hx #[.val (.ref en), .val (.ref t), .val (.int (0 : Int32)), .val (.int (2 : Int32)), .val (.ref dd), .val (.ref te), .val (.int (2 : Int32)), .val (.int (0 : Int32)), .val (.int (0 : Int32)), .val (.int (1 : Int32)), .val (.int (Int32.ofNat q0)), .val (.int (Int32.ofNat q1)), .unset, .unset, .unset, .unset] 292 (hb hby own_d20_290) rfl rfl ?_
    refine own_al X29 hx 294 (hb hby own_d20_292) rfl rfl rfl ?_
    refine own_il X29 hx 296 (hb hby own_d20_294) rfl rfl ?_
    refine own_ii X29 hx #[.val (.ref en), .val (.ref t), .val (.int (0 : Int32)), .val (.int (2 : Int32)), .val (.ref dd), .val (.ref te), .val (.int (2 : Int32)), .val (.int (0 : Int32)), .val (.int (0 : Int32)), .val (.int ((1 : Int32) + (1 : Int32))), .val (.int (Int32.ofNat q0)), .val (.int (Int32.ofNat q1)), .unset, .unset, .unset, .unset] 299 (hb hby own_d20_296) rfl rfl rfl ?_
    refine own_al X29 hx 301 (hb hby own_d20_299) rfl rfl rfl ?_
    refine own_il X29 hx 303 (hb hby own_d20_301) rfl rfl ?_
    refine own_ic X29 hx (4 : Int32) 304 (hb hby own_d20_303) rfl rfl ?_
    refine own_ishl X29 hx 305 (hb hby own_d20_304) rfl ?_
    refine own_bp X29 hx (63 : Int32) 307 (hb hby own_d20_305) rfl rfl ?_
    refine own_iand X29 hx 308 (hb hby own_d20_307) rfl ?_
    refine own_il X29 hx 310 (hb hby own_d20_308) rfl rfl ?_
    refine own_ic X29 hx (4 : Int32) 311 (hb hby own_d20_310) rfl rfl ?_
    refine own_ishr X29 hx 312 (hb hby own_d20_311) rfl ?_
    refine own_ior X29 hx 313 (hb hby own_d20_312) rfl ?_
    rw [show ((1 : Int32) + (1 : Int32)) = (2 : Int32) from by decide]
    rw [show ((((Int32.ofNat q0) <<< ((4 : Int32) &&& 31)) &&& (63 : Int32)) ||| ((Int32.ofNat q1) >>> ((4 : Int32) &&& 31))) = (Int32.ofNat (q0 % 4 * 16 + q1 / 16)) from own_t2 q0 q1 hq0 hq1]
    have F33 : Old Z n0 h29 := (X00.wr W29 gdd)
    have F32 : Arv Z h29 te ke .char (64 : Int32) (own_T.map Value.int) (.int 0) := ZT.ext F33.2
    refine own_cal X29 hx hZ e29 F32 (Int32.ofNat (own_ct (q0 % 4 * 16 + q1 / 16))) 314 (hb hby own_d20_313) rfl (own_Tin _ (by omega)) (own_Tat _ (by omega) _) ?_
    refine own_i2b X29 hx 315 (hb hby own_d20_314) rfl ?_
    show own_Rn p e below _ (T29.setTop (mkF m 315 #[.val (.ref en), .val (.ref t), .val (.int (0 : Int32)), .val (.int (2 : Int32)), .val (.ref dd), .val (.ref te), .val (.int (2 : Int32)), .val (.int (0 : Int32)), .val (.int (0 : Int32)), .val (.int (2 : Int32)), .val (.int (Int32.ofNat q0)), .val (.int (Int32.ofNat q1)), .unset, .unset, .unset, .unset] [(.int (own_cb (q0 % 4 * 16 + q1 / 16))), (.int (1 : Int32)), (.ref dd)]))
    obtain ⟨cl34, Ar34, q34, Sz34, Nn34, Hs34, G34⟩ := id V29
    obtain ⟨T34, h34, X34, e34, W34, st34⟩ := stB X29 hx hZ e29 Ar34 (j := (1 : Int32)) (inb_of Sz34 ⟨by decide, by decide⟩) (g := (mkF m 315 #[.val (.ref en), .val (.ref t), .val (.int (0 : Int32)), .val (.int (2 : Int32)), .val (.ref dd), .val (.ref te), .val (.int (2 : Int32)), .val (.int (0 : Int32)), .val (.int (0 : Int32)), .val (.int (2 : Int32)), .val (.int (Int32.ofNat q0)), .val (.int (Int32.ofNat q1)), .unset, .unset, .unset, .unset] [(.int (own_cb (q0 % 4 * 16 + q1 / 16))), (.int (1 : Int32)), (.ref dd)])) rfl rfl (hb hby own_d20_315)
    rw [own_narB] at W34
    refine own_go st34 ?_
    have V34 : Arv Z h34 dd kd .byte (3 : Int32) ((([] : List Value) ++ [Value.int (own_cb (q0 / 4))]) ++ [(.int (own_cb (q0 % 4 * 16 + q1 / 16)))]) (.int 0) := own_store1 V29 (by rw [show ((3 : Int32).toNatClampNeg = 3) from by decide]; exact Nat.le_of_ble_eq_true rfl) (own_fitsB _) W34 (show (1 : Int32).toNatClampNeg = 1 from by decide)
    have N34 := Fr.snoc X34 N29 gdd
    have sz35 : h29.size ≤ h34.size := Nat.le_of_eq (Wr.size W34).symm
    have K35 := K30.wr W34 (Or.inl (List.mem_of_getElem? (i := 0) rfl))
    show own_Rn p e below _ (T34.setTop (mkF m 316 #[.val (.ref en), .val (.ref t), .val (.int (0 : Int32)), .val (.int (2 : Int32)), .val (.ref dd), .val (.ref te), .val (.int (2 : Int32)), .val (.int (0 : Int32)), .val (.int (0 : Int32)), .val (.int (2 : Int32)), .val (.int (Int32.ofNat q0)), .val (.int (Int32.ofNat q1)), .unset, .unset, .unset, .unset] []))
    refine own_al X34 hx 318 (hb hby own_d20_316) rfl rfl rfl ?_
    refine own_il X34 hx 320 (hb hby own_d20_318) rfl rfl ?_
    refine own_ii X34 hx #[.val (.ref en), .val (.ref t), .val (.int (0 : Int32)), .val (.int (2 : Int32)), .val (.ref dd), .val (.ref te), .val (.int (2 : Int32)), .val (.int (0 : Int32)), .val (.int (0 : Int32)), .val (.int ((2 : Int32) + (1 : Int32))), .val (.int (Int32.ofNat q0)), .val (.int (Int32.ofNat q1)), .unset, .unset, .unset, .unset] 323 (hb hby own_d20_320) rfl rfl rfl ?_
    refine own_al X34 hx 325 (hb hby own_d20_323) rfl rfl rfl ?_
    refine own_il X34 hx 327 (hb hby own_d20_325) rfl rfl ?_
    refine own_ic X34 hx (2 : Int32) 328 (hb hby own_d20_327) rfl rfl ?_
    refine own_ishl X34 hx 329 (hb hby own_d20_328) rfl ?_
    refine own_bp X34 hx (63 : Int32) 331 (hb hby own_d20_329) rfl rfl ?_
    refine own_iand X34 hx 332 (hb hby own_d20_331) rfl ?_
    rw [show ((2 : Int32) + (1 : Int32)) = (3 : Int32) from by decide]
    rw [show (((Int32.ofNat q1) <<< ((2 : Int32) &&& 31)) &&& (63 : Int32)) = (Int32.ofNat (q1 % 16 * 4 + 0 / 64)) from own_t3 q1 hq1]
    have F37 : Old Z n0 h34 := (F33.wr W34 gdd)
    have F36 : Arv Z h34 te ke .char (64 : Int32) (own_T.map Value.int) (.int 0) := ZT.ext F37.2
    refine own_cal X34 hx hZ e34 F36 (Int32.ofNat (own_ct (q1 % 16 * 4 + 0 / 64))) 333 (hb hby own_d20_332) rfl (own_Tin _ (by omega)) (own_Tat _ (by omega) _) ?_
    refine own_i2b X34 hx 334 (hb hby own_d20_333) rfl ?_
    show own_Rn p e below _ (T34.setTop (mkF m 334 #[.val (.ref en), .val (.ref t), .val (.int (0 : Int32)), .val (.int (2 : Int32)), .val (.ref dd), .val (.ref te), .val (.int (2 : Int32)), .val (.int (0 : Int32)), .val (.int (0 : Int32)), .val (.int (3 : Int32)), .val (.int (Int32.ofNat q0)), .val (.int (Int32.ofNat q1)), .unset, .unset, .unset, .unset] [(.int (own_cb (q1 % 16 * 4 + 0 / 64))), (.int (2 : Int32)), (.ref dd)]))
    obtain ⟨cl38, Ar38, q38, Sz38, Nn38, Hs38, G38⟩ := id V34
    obtain ⟨T38, h38, X38, e38, W38, st38⟩ := stB X34 hx hZ e34 Ar38 (j := (2 : Int32)) (inb_of Sz38 ⟨by decide, by decide⟩) (g := (mkF m 334 #[.val (.ref en), .val (.ref t), .val (.int (0 : Int32)), .val (.int (2 : Int32)), .val (.ref dd), .val (.ref te), .val (.int (2 : Int32)), .val (.int (0 : Int32)), .val (.int (0 : Int32)), .val (.int (3 : Int32)), .val (.int (Int32.ofNat q0)), .val (.int (Int32.ofNat q1)), .unset, .unset, .unset, .unset] [(.int (own_cb (q1 % 16 * 4 + 0 / 64))), (.int (2 : Int32)), (.ref dd)])) rfl rfl (hb hby own_d20_334)
    rw [own_narB] at W38
    refine own_go st38 ?_
    have V38 : Arv Z h38 dd kd .byte (3 : Int32) (((([] : List Value) ++ [Value.int (own_cb (q0 / 4))]) ++ [Value.int (own_cb (q0 % 4 * 16 + q1 / 16))]) ++ [(.int (own_cb (q1 % 16 * 4 + 0 / 64)))]) (.int 0) := own_store1 V34 (by rw [show ((3 : Int32).toNatClampNeg = 3) from by decide]; exact Nat.le_of_ble_eq_true rfl) (own_fitsB _) W38 (show (2 : Int32).toNatClampNeg = 2 from by decide)
    have N38 := Fr.snoc X38 N34 gdd
    have sz39 : h34.size ≤ h38.size := Nat.le_of_eq (Wr.size W38).symm
    have K39 := K35.wr W38 (Or.inl (List.mem_of_getElem? (i := 0) rfl))
    show own_Rn p e below _ (T38.setTop (mkF m 335 #[.val (.ref en), .val (.ref t), .val (.int (0 : Int32)), .val (.int (2 : Int32)), .val (.ref dd), .val (.ref te), .val (.int (2 : Int32)), .val (.int (0 : Int32)), .val (.int (0 : Int32)), .val (.int (3 : Int32)), .val (.int (Int32.ofNat q0)), .val (.int (Int32.ofNat q1)), .unset, .unset, .unset, .unset] []))
    refine own_aln X38 hx 336 (hb hby own_d20_335) rfl rfl rfl ?_
    have F41 : Old Z n0 h38 := (F37.wr W38 gdd)
    have F40 : Fld Z h38 en "java/util/Base64$Encoder" "doPadding" "Z" (.int (0 : Int32)) := ZE2.ext F41.2
    refine own_gF X38 hx hZ hown (host := "") (Or.inl (hw _ (own_mi 123 rfl))) Via.refl e38 F40 339 (hb hby own_d20_336) rfl ?_
    intro T42 X42 e42
    refine own_ifY X42 hx 352 (hb hby own_d20_339) ((if0 _ _).trans (teq ((by decide : (0 : Int32) = (0 : Int32)) : (0 : Int32) = (0 : Int32))).1) (by decide) (by decide) ?_
    refine own_il X42 hx 354 (hb hby own_d20_352) rfl rfl ?_
    exact own_ret X42 (v := some (.int (3 : Int32))) (fun h => by rw [Bd.returns] at h; cases h) (fun fs hr => retI X42 hx Bd.returns (hb hby own_d20_354) hr) (by rw [e42]; exact ⟨rfl, N38, K39, V38⟩) (by decide) (by decide)
  · skip
    have hq0 : q0 < 256 := hB q0 (by simp)
    have hq1 : q1 < 256 := hB q1 (by simp)
    have hq2 : q2 < 256 := hB q2 (by simp)
    have V43 : Arv Z h0 t kt .byte (3 : Int32) [(.int (own_by q0)), (.int (own_by q1)), (.int (own_by q2))] (.int 0) := Pm6
    have V44 : Arv Z h0 dd kd .byte (4 : Int32) [] (.int 0) := Pm9
    show own_Rn p e below _ (T5.setTop (mkF m 18 #[.val (.ref en), .val (.ref t), .val (.int (0 : Int32)), .val (.int (3 : Int32)), .val (.ref dd), .val (.ref te), .unset, .unset, .unset, .unset, .unset, .unset, .unset, .unset, .unset, .unset] []))
    refine own_iln X5 hx 19 (hb hby own_d20_18) rfl rfl ?_
    refine own_is X5 hx #[.val (.ref en), .val (.ref t), .val (.int (0 : Int32)), .val (.int (3 : Int32)), .val (.ref dd), .val (.ref te), .val (.int (0 : Int32)), .unset, .unset, .unset, .unset, .unset, .unset, .unset, .unset, .unset] 21 (hb hby own_d20_19) rfl rfl ?_
    refine own_iln X5 hx 22 (hb hby own_d20_21) rfl rfl ?_
    refine own_iln X5 hx 23 (hb hby own_d20_22) rfl rfl ?_
    refine own_isub X5 hx 24 (hb hby own_d20_23) rfl ?_
    refine own_ic X5 hx (3 : Int32) 25 (hb hby own_d20_24) rfl rfl ?_
    refine own_idiv X5 hx 26 (hb hby own_d20_25) rfl (by decide) ?_
    refine own_ic X5 hx (3 : Int32) 27 (hb hby own_d20_26) rfl rfl ?_
    refine own_imul X5 hx 28 (hb hby own_d20_27) rfl ?_
    rw [show ((((3 : Int32) - (0 : Int32)) / (3 : Int32)) * (3 : Int32)) = (3 : Int32) from by decide]
    refine own_is X5 hx #[.val (.ref en), .val (.ref t), .val (.int (0 : Int32)), .val (.int (3 : Int32)), .val (.ref dd), .val (.ref te), .val (.int (0 : Int32)), .val (.int (3 : Int32)), .unset, .unset, .unset, .unset, .unset, .unset, .unset, .unset] 30 (hb hby own_d20_28) rfl rfl ?_
    refine own_iln X5 hx 31 (hb hby own_d20_30) rfl rfl ?_
    refine own_il X5 hx 33 (hb hby own_d20_31) rfl rfl ?_
    refine own_iadd X5 hx 34 (hb hby own_d20_33) rfl ?_
    rw [show ((0 : Int32) + (3 : Int32)) = (3 : Int32) from by decide]
    refine own_is X5 hx #[.val (.ref en), .val (.ref t), .val (.int (0 : Int32)), .val (.int (3 : Int32)), .val (.ref dd), .val (.ref te), .val (.int (0 : Int32)), .val (.int (3 : Int32)), .val (.int (3 : Int32)), .unset, .unset, .unset, .unset, .unset, .unset, .unset] 36 (hb hby own_d20_34) rfl rfl ?_
    refine own_aln X5 hx 37 (hb hby own_d20_36) rfl rfl rfl ?_
    have F45 : Fld Z h0 en "java/util/Base64$Encoder" "linemax" "I" (.int (-1 : Int32)) := ZE3.ext X00.2
    refine own_gF X5 hx hZ hown (host := "") (Or.inl (hw _ (own_mi 132 rfl))) Via.refl e5 F45 40 (hb hby own_d20_37) rfl ?_
    intro T46 X46 e46
    refine own_ifY X46 hx 66 (hb hby own_d20_40) ((if0 _ _).trans (flt (by decide : ¬ ((0 : Int32) < (-1 : Int32)))).2.2.2) (by decide) (by decide) ?_
    refine own_ic X46 hx (0 : Int32) 67 (hb hby own_d20_66) rfl rfl ?_
    refine own_is X46 hx #[.val (.ref en), .val (.ref t), .val (.int (0 : Int32)), .val (.int (3 : Int32)), .val (.ref dd), .val (.ref te), .val (.int (0 : Int32)), .val (.int (3 : Int32)), .val (.int (3 : Int32)), .val (.int (0 : Int32)), .unset, .unset, .unset, .unset, .unset, .unset] 69 (hb hby own_d20_67) rfl rfl ?_
    refine own_il X46 hx 71 (hb hby own_d20_69) rfl rfl ?_
    refine own_il X46 hx 73 (hb hby own_d20_71) rfl rfl ?_
    refine own_icN X46 hx 76 (hb hby own_d20_73) rfl (tlt (by decide : (0 : Int32) < (3 : Int32))).2.1 ?_
    refine own_il X46 hx 78 (hb hby own_d20_76) rfl rfl ?_
    refine own_il X46 hx 80 (hb hby own_d20_78) rfl rfl ?_
    refine own_iadd X46 hx 81 (hb hby own_d20_80) rfl ?_
    rw [show ((0 : Int32) + (3 : Int32)) = (3 : Int32) from by decide]
    refine own_il X46 hx 83 (hb hby own_d20_81) rfl rfl ?_
    have Zn47 : n0 ≤ h0.size := (Nat.le_trans Z0 (Nat.le_refl _))
    refine own_cS X46 hx hZ (y := (⟨"java/lang/Math", "min", "(II)I"⟩ : MethodName)) hown (hw _ (own_mi 142 rfl)) (hw _ (own_mi 143 rfl)) (hw _ (own_mi 127 rfl)) (hw _ (own_mi 144 rfl)) (by decide) (rmMin l Z a0 hw [] ((3 : Int32)) ((3 : Int32)) h0 n0 Zn47 (by decide)) e46 [(.int (3 : Int32)), (.int (3 : Int32))] [] rfl (by rw [hml]; rfl) (lenOf own_pd_28II29I rfl) rfl 0 (Nat.le_of_eq rfl) (by decide) (by decide) (by decide : 0 + 0 ≤ _) (by decide : 0 + 0 ≤ _) 86 (hb hby own_d20_83) rfl 0 0 rfl rfl ?_
    intro rv47 T47 Lc47 X47 hQ47
    obtain ⟨rfl, Nq47, eh47⟩ := hQ47
    have N47 := Fr.app N0 Nq47
    show own_Rn p e below _ (T47.setTop (mkF m 86 #[.val (.ref en), .val (.ref t), .val (.int (0 : Int32)), .val (.int (3 : Int32)), .val (.ref dd), .val (.ref te), .val (.int (0 : Int32)), .val (.int (3 : Int32)), .val (.int (3 : Int32)), .val (.int (0 : Int32)), .unset, .unset, .unset, .unset, .unset, .unset] [(.int (3 : Int32))]))
    refine own_is X47 hx #[.val (.ref en), .val (.ref t), .val (.int (0 : Int32)), .val (.int (3 : Int32)), .val (.ref dd), .val (.ref te), .val (.int (0 : Int32)), .val (.int (3 : Int32)), .val (.int (3 : Int32)), .val (.int (0 : Int32)), .val (.int (3 : Int32)), .unset, .unset, .unset, .unset, .unset] 88 (hb hby own_d20_86) rfl rfl ?_
    refine own_aln X47 hx 89 (hb hby own_d20_88) rfl rfl rfl ?_
    refine own_aln X47 hx 90 (hb hby own_d20_89) rfl rfl rfl ?_
    refine own_il X47 hx 92 (hb hby own_d20_90) rfl rfl ?_
    refine own_il X47 hx 94 (hb hby own_d20_92) rfl rfl ?_
    refine own_al X47 hx 96 (hb hby own_d20_94) rfl rfl rfl ?_
    refine own_il X47 hx 98 (hb hby own_d20_96) rfl rfl ?_
    refine own_aln X47 hx 99 (hb hby own_d20_98) rfl rfl rfl ?_
    refine own_gF X47 hx hZ hown (host := "") (Or.inl (hw _ (own_mi 139 rfl))) Via.refl eh47 F3 102 (hb hby own_d20_99) rfl ?_
    intro T48 X48 e48
    have Zn49 : n0 ≤ h0.size := (Nat.le_trans Z0 (Nat.le_refl _))
    have F50 : Exa Z h0 en "java/util/Base64$Encoder" := ZE.ext X00.2
    refine own_cP X48 hx hZ (y := (⟨"java/util/Base64$Encoder", "encodeBlock", "([BII[BIZ)V"⟩ : MethodName)) hown (hw _ (own_mi 145 rfl)) (hw _ (own_mi 146 rfl)) (hw _ (own_mi 148 rfl)) (hw _ (own_mi 147 rfl)) (hw _ (own_mi 149 rfl)) (hw _ (own_mi 111 rfl)) (by decide) (rmEB l Z a0 hw [] (en) (t) (kt) ((3 : Int32)) ([]) (q0) (q1) (q2) (dd) (kd) ((4 : Int32)) (te) (ke) h0 n0 Zn49 (OT) ZT V43 (Or.inl rfl) (hq0) (hq1) (hq2) V44 (Or.inl rfl) gdd (ntd) X00) F50 e48 [(.ref t), (.int (0 : Int32)), (.int (3 : Int32)), (.ref dd), (.int (0 : Int32)), (.int (1 : Int32))] [] rfl (by rw [hml]; rfl) (lenOf own_pd_285bBII5bBIZ29V rfl) rfl 0 (Nat.le_of_eq rfl) (by decide) (by decide) (by decide : 0 + 0 ≤ _) (by decide : 0 + 0 ≤ _) 105 (hb hby own_d20_102) rfl 0 0 rfl rfl ?_
    intro rv49 T49 Lc49 X49 hQ49
    obtain ⟨rfl, Nq49, Kq49, G0_49⟩ := hQ49
    have N49 := Fr.app N47 Nq49
    have sz51 : h0.size ≤ T49.heap.size := Kq49.1
    have K51 := K0.trans Kq49 (allS (Or.inl (List.mem_of_getElem? (i := 0) rfl)) all0)
    show own_Rn p e below _ (T49.setTop (mkF m 105 #[.val (.ref en), .val (.ref t), .val (.int (0 : Int32)), .val (.int (3 : Int32)), .val (.ref dd), .val (.ref te), .val (.int (0 : Int32)), .val (.int (3 : Int32)), .val (.int (3 : Int32)), .val (.int (0 : Int32)), .val (.int (3 : Int32)), .unset, .unset, .unset, .unset, .unset] []))
    refine own_il X49 hx 107 (hb hby own_d20_105) rfl rfl ?_
    refine own_il X49 hx 109 (hb hby own_d20_107) rfl rfl ?_
    refine own_isub X49 hx 110 (hb hby own_d20_109) rfl ?_
    refine own_ic X49 hx (3 : Int32) 111 (hb hby own_d20_110) rfl rfl ?_
    refine own_idiv X49 hx 112 (hb hby own_d20_111) rfl (by decide) ?_
    refine own_ic X49 hx (4 : Int32) 113 (hb hby own_d20_112) rfl rfl ?_
    refine own_imul X49 hx 114 (hb hby own_d20_113) rfl ?_
    rw [show ((((3 : Int32) - (0 : Int32)) / (3 : Int32)) * (4 : Int32)) = (4 : Int32) from by decide]
    refine own_is X49 hx #[.val (.ref en), .val (.ref t), .val (.int (0 : Int32)), .val (.int (3 : Int32)), .val (.ref dd), .val (.ref te), .val (.int (0 : Int32)), .val (.int (3 : Int32)), .val (.int (3 : Int32)), .val (.int (0 : Int32)), .val (.int (3 : Int32)), .val (.int (4 : Int32)), .unset, .unset, .unset, .unset] 116 (hb hby own_d20_114) rfl rfl ?_
    refine own_il X49 hx 118 (hb hby own_d20_116) rfl rfl ?_
    refine own_il X49 hx 120 (hb hby own_d20_118) rfl rfl ?_
    refine own_iadd X49 hx 121 (hb hby own_d20_120) rfl ?_
    rw [show ((0 : Int32) + (4 : Int32)) = (4 : Int32) from by decide]
    refine own_is X49 hx #[.val (.ref en), .val (.ref t), .val (.int (0 : Int32)), .val (.int (3 : Int32)), .val (.ref dd), .val (.ref te), .val (.int (0 : Int32)), .val (.int (3 : Int32)), .val (.int (3 : Int32)), .val (.int (4 : Int32)), .val (.int (3 : Int32)), .val (.int (4 : Int32)), .unset, .unset, .unset, .unset] 123 (hb hby own_d20_121) rfl rfl ?_
    refine own_il X49 hx 125 (hb hby own_d20_123) rfl rfl ?_
    refine own_is X49 hx #[.val (.ref en), .val (.ref t), .val (.int (0 : Int32)), .val (.int (3 : Int32)), .val (.ref dd), .val (.ref te), .val (.int (3 : Int32)), .val (.int (3 : Int32)), .val (.int (3 : Int32)), .val (.int (4 : Int32)), .val (.int (3 : Int32)), .val (.int (4 : Int32)), .unset, .unset, .unset, .unset] 127 (hb hby own_d20_125) rfl rfl ?_
    refine own_il X49 hx 129 (hb hby own_d20_127) rfl rfl ?_
    refine own_aln X49 hx 130 (hb hby own_d20_129) rfl rfl rfl ?_
    have F53 : Old Z n0 T49.heap := (X00.keep Kq49 (allS gdd all0))
    have F52 : Fld Z T49.heap en "java/util/Base64$Encoder" "linemax" "I" (.int (-1 : Int32)) := ZE3.ext F53.2
    refine own_gF X49 hx hZ hown (host := "") (Or.inl (hw _ (own_mi 132 rfl))) Via.refl rfl F52 133 (hb hby own_d20_130) rfl ?_
    intro T54 X54 e54
    refine own_icY X54 hx 186 (hb hby own_d20_133) (feq (by decide : ¬ ((4 : Int32) = (-1 : Int32)))).2 (by decide) (by decide) ?_
    refine own_gt X54 hx 69 (hb hby own_d20_186) (by decide) (by decide) ?_
    refine own_il X54 hx 71 (hb hby own_d20_69) rfl rfl ?_
    refine own_il X54 hx 73 (hb hby own_d20_71) rfl rfl ?_
    refine own_icY X54 hx 189 (hb hby own_d20_73) (flt (by decide : ¬ ((3 : Int32) < (3 : Int32)))).2.1 (by decide) (by decide) ?_
    refine own_il X54 hx 191 (hb hby own_d20_189) rfl rfl ?_
    refine own_iln X54 hx 192 (hb hby own_d20_191) rfl rfl ?_
    refine own_icY X54 hx 352 (hb hby own_d20_192) (flt (by decide : ¬ ((3 : Int32) < (3 : Int32)))).2.1 (by decide) (by decide) ?_
    refine own_il X54 hx 354 (hb hby own_d20_352) rfl rfl ?_
    exact own_ret X54 (v := some (.int (4 : Int32))) (fun h => by rw [Bd.returns] at h; cases h) (fun fs hr => retI X54 hx Bd.returns (hb hby own_d20_354) hr) (by rw [e54]; exact ⟨rfl, N49, K51, G0_49⟩) (by decide) (by decide)
  · skip
    have hq0 : q0 < 256 := hB q0 (by simp)
    have hq1 : q1 < 256 := hB q1 (by simp)
    have hq2 : q2 < 256 := hB q2 (by simp)
    have hq3 : q3 < 256 := hB q3 (by simp)
    have V55 : Arv Z h0 t kt .byte (4 : Int32) [(.int (own_by q0)), (.int (own_by q1)), (.int (own_by q2)), (.int (own_by q3))] (.int 0) := Pm6
    have V56 : Arv Z h0 dd kd .byte (6 : Int32) [] (.int 0) := Pm9
    show own_Rn p e below _ (T5.setTop (mkF m 18 #[.val (.ref en), .val (.ref t), .val (.int (0 : Int32)), .val (.int (4 : Int32)), .val (.ref dd), .val (.ref te), .unset, .unset, .unset, .unset, .unset, .unset, .unset, .unset, .unset, .unset] []))
    refine own_iln X5 hx 19 (hb hby own_d20_18) rfl rfl ?_
    refine own_is X5 hx #[.val (.ref en), .val (.ref t), .val (.int (0 : Int32)), .val (.int (4 : Int32)), .val (.ref dd), .val (.ref te), .val (.int (0 : Int32)), .unset, .unset, .unset, .unset, .unset, .unset, .unset, .unset, .unset] 21 (hb hby own_d20_19) rfl rfl ?_
    refine own_iln X5 hx 22 (hb hby own_d20_21) rfl rfl ?_
    refine own_iln X5 hx 23 (hb hby own_d20_22) rfl rfl ?_
    refine own_isub X5 hx 24 (hb hby own_d20_23) rfl ?_
    refine own_ic X5 hx (3 : Int32) 25 (hb hby own_d20_24) rfl rfl ?_
    refine own_idiv X5 hx 26 (hb hby own_d20_25) rfl (by decide) ?_
    refine own_ic X5 hx (3 : Int32) 27 (hb hby own_d20_26) rfl rfl ?_
    refine own_imul X5 hx 28 (hb hby own_d20_27) rfl ?_
    rw [show ((((4 : Int32) - (0 : Int32)) / (3 : Int32)) * (3 : Int32)) = (3 : Int32) from by decide]
    refine own_is X5 hx #[.val (.ref en), .val (.ref t), .val (.int (0 : Int32)), .val (.int (4 : Int32)), .val (.ref dd), .val (.ref te), .val (.int (0 : Int32)), .val (.int (3 : Int32)), .unset, .unset, .unset, .unset, .unset, .unset, .unset, .unset] 30 (hb hby own_d20_28) rfl rfl ?_
    refine own_iln X5 hx 31 (hb hby own_d20_30) rfl rfl ?_
    refine own_il X5 hx 33 (hb hby own_d20_31) rfl rfl ?_
    refine own_iadd X5 hx 34 (hb hby own_d20_33) rfl ?_
    rw [show ((0 : Int32) + (3 : Int32)) = (3 : Int32) from by decide]
    refine own_is X5 hx #[.val (.ref en), .val (.ref t), .val (.int (0 : Int32)), .val (.int (4 : Int32)), .val (.ref dd), .val (.ref te), .val (.int (0 : Int32)), .val (.int (3 : Int32)), .val (.int (3 : Int32)), .unset, .unset, .unset, .unset, .unset, .unset, .unset] 36 (hb hby own_d20_34) rfl rfl ?_
    refine own_aln X5 hx 37 (hb hby own_d20_36) rfl rfl rfl ?_
    have F57 : Fld Z h0 en "java/util/Base64$Encoder" "linemax" "I" (.int (-1 : Int32)) := ZE3.ext X00.2
    refine own_gF X5 hx hZ hown (host := "") (Or.inl (hw _ (own_mi 132 rfl))) Via.refl e5 F57 40 (hb hby own_d20_37) rfl ?_
    intro T58 X58 e58
    refine own_ifY X58 hx 66 (hb hby own_d20_40) ((if0 _ _).trans (flt (by decide : ¬ ((0 : Int32) < (-1 : Int32)))).2.2.2) (by decide) (by decide) ?_
    refine own_ic X58 hx (0 : Int32) 67 (hb hby own_d20_66) rfl rfl ?_
    refine own_is X58 hx #[.val (.ref en), .val (.ref t), .val (.int (0 : Int32)), .val (.int (4 : Int32)), .val (.ref dd), .val (.ref te), .val (.int (0 : Int32)), .val (.int (3 : Int32)), .val (.int (3 : Int32)), .val (.int (0 : Int32)), .unset, .unset, .unset, .unset, .unset, .unset] 69 (hb hby own_d20_67) rfl rfl ?_
    refine own_il X58 hx 71 (hb hby own_d20_69) rfl rfl ?_
    refine own_il X58 hx 73 (hb hby own_d20_71) rfl rfl ?_
    refine own_icN X58 hx 76 (hb hby own_d20_73) rfl (tlt (by decide : (0 : Int32) < (3 : Int32))).2.1 ?_
    refine own_il X58 hx 78 (hb hby own_d20_76) rfl rfl ?_
    refine own_il X58 hx 80 (hb hby own_d20_78) rfl rfl ?_
    refine own_iadd X58 hx 81 (hb hby own_d20_80) rfl ?_
    rw [show ((0 : Int32) + (3 : Int32)) = (3 : Int32) from by decide]
    refine own_il X58 hx 83 (hb hby own_d20_81) rfl rfl ?_
    have Zn59 : n0 ≤ h0.size := (Nat.le_trans Z0 (Nat.le_refl _))
    refine own_cS X58 hx hZ (y := (⟨"java/lang/Math", "min", "(II)I"⟩ : MethodName)) hown (hw _ (own_mi 142 rfl)) (hw _ (own_mi 143 rfl)) (hw _ (own_mi 127 rfl)) (hw _ (own_mi 144 rfl)) (by decide) (rmMin l Z a0 hw [] ((3 : Int32)) ((3 : Int32)) h0 n0 Zn59 (by decide)) e58 [(.int (3 : Int32)), (.int (3 : Int32))] [] rfl (by rw [hml]; rfl) (lenOf own_pd_28II29I rfl) rfl 0 (Nat.le_of_eq rfl) (by decide) (by decide) (by decide : 0 + 0 ≤ _) (by decide : 0 + 0 ≤ _) 86 (hb hby own_d20_83) rfl 0 0 rfl rfl ?_
    intro rv59 T59 Lc59 X59 hQ59
    obtain ⟨rfl, Nq59, eh59⟩ := hQ59
    have N59 := Fr.app N0 Nq59
    show own_Rn p e below _ (T59.setTop (mkF m 86 #[.val (.ref en), .val (.ref t), .val (.int (0 : Int32)), .val (.int (4 : Int32)), .val (.ref dd), .val (.ref te), .val (.int (0 : Int32)), .val (.int (3 : Int32)), .val (.int (3 : Int32)), .val (.int (0 : Int32)), .unset, .unset, .unset, .unset, .unset, .unset] [(.int (3 : Int32))]))
    refine own_is X59 hx #[.val (.ref en), .val (.ref t), .val (.int (0 : Int32)), .val (.int (4 : Int32)), .val (.ref dd), .val (.ref te), .val (.int (0 : Int32)), .val (.int (3 : Int32)), .val (.int (3 : Int32)), .val (.int (0 : Int32)), .val (.int (3 : Int32)), .unset, .unset, .unset, .unset, .unset] 88 (hb hby own_d20_86) rfl rfl ?_
    refine own_aln X59 hx 89 (hb hby own_d20_88) rfl rfl rfl ?_
    refine own_aln X59 hx 90 (hb hby own_d20_89) rfl rfl rfl ?_
    refine own_il X59 hx 92 (hb hby own_d20_90) rfl rfl ?_
    refine own_il X59 hx 94 (hb hby own_d20_92) rfl rfl ?_
    refine own_al X59 hx 96 (hb hby own_d20_94) rfl rfl rfl ?_
    refine own_il X59 hx 98 (hb hby own_d20_96) rfl rfl ?_
    refine own_aln X59 hx 99 (hb hby own_d20_98) rfl rfl rfl ?_
    refine own_gF X59 hx hZ hown (host := "") (Or.inl (hw _ (own_mi 139 rfl))) Via.refl eh59 F3 102 (hb hby own_d20_99) rfl ?_
    intro T60 X60 e60
    have Zn61 : n0 ≤ h0.size := (Nat.le_trans Z0 (Nat.le_refl _))
    have F62 : Exa Z h0 en "java/util/Base64$Encoder" := ZE.ext X00.2
    refine own_cP X60 hx hZ (y := (⟨"java/util/Base64$Encoder", "encodeBlock", "([BII[BIZ)V"⟩ : MethodName)) hown (hw _ (own_mi 145 rfl)) (hw _ (own_mi 146 rfl)) (hw _ (own_mi 148 rfl)) (hw _ (own_mi 147 rfl)) (hw _ (own_mi 149 rfl)) (hw _ (own_mi 111 rfl)) (by decide) (rmEB l Z a0 hw [] (en) (t) (kt) ((4 : Int32)) ([(.int (own_by q3))]) (q0) (q1) (q2) (dd) (kd) ((6 : Int32)) (te) (ke) h0 n0 Zn61 (OT) ZT V55 (Or.inr (Or.inl rfl)) (hq0) (hq1) (hq2) V56 (Or.inr (Or.inl rfl)) gdd (ntd) X00) F62 e60 [(.ref t), (.int (0 : Int32)), (.int (3 : Int32)), (.ref dd), (.int (0 : Int32)), (.int (1 : Int32))] [] rfl (by rw [hml]; rfl) (lenOf own_pd_285bBII5bBIZ29V rfl) rfl 0 (Nat.le_of_eq rfl) (by decide) (by decide) (by decide : 0 + 0 ≤ _) (by decide : 0 + 0 ≤ _) 105 (hb hby own_d20_102) rfl 0 0 rfl rfl ?_
    intro rv61 T61 Lc61 X61 hQ61
    obtain ⟨rfl, Nq61, Kq61, G0_61⟩ := hQ61
    have N61 := Fr.app N59 Nq61
    have sz63 : h0.size ≤ T61.heap.size := Kq61.1
    have K63 := K0.trans Kq61 (allS (Or.inl (List.mem_of_getElem? (i := 0) rfl)) all0)
    show own_Rn p e below _ (T61.setTop (mkF m 105 #[.val (.ref en), .val (.ref t), .val (.int (0 : Int32)), .val (.int (4 : Int32)), .val (.ref dd), .val (.ref te), .val (.int (0 : Int32)), .val (.int (3 : Int32)), .val (.int (3 : Int32)), .val (.int (0 : Int32)), .val (.int (3 : Int32)), .unset, .unset, .unset, .unset, .unset] []))
    refine own_il X61 hx 107 (hb hby own_d20_105) rfl rfl ?_
    refine own_il X61 hx 109 (hb hby own_d20_107) rfl rfl ?_
    refine own_isub X61 hx 110 (hb hby own_d20_109) rfl ?_
    refine own_ic X61 hx (3 : Int32) 111 (hb hby own_d20_110) rfl rfl ?_
    refine own_idiv X61 hx 112 (hb hby own_d20_111) rfl (by decide) ?_
    refine own_ic X61 hx (4 : Int32) 113 (hb hby own_d20_112) rfl rfl ?_
    refine own_imul X61 hx 114 (hb hby own_d20_113) rfl ?_
    rw [show ((((3 : Int32) - (0 : Int32)) / (3 : Int32)) * (4 : Int32)) = (4 : Int32) from by decide]
    refine own_is X61 hx #[.val (.ref en), .val (.ref t), .val (.int (0 : Int32)), .val (.int (4 : Int32)), .val (.ref dd), .val (.ref te), .val (.int (0 : Int32)), .val (.int (3 : Int32)), .val (.int (3 : Int32)), .val (.int (0 : Int32)), .val (.int (3 : Int32)), .val (.int (4 : Int32)), .unset, .unset, .unset, .unset] 116 (hb hby own_d20_114) rfl rfl ?_
    refine own_il X61 hx 118 (hb hby own_d20_116) rfl rfl ?_
    refine own_il X61 hx 120 (hb hby own_d20_118) rfl rfl ?_
    refine own_iadd X61 hx 121 (hb hby own_d20_120) rfl ?_
    rw [show ((0 : Int32) + (4 : Int32)) = (4 : Int32) from by decide]
    refine own_is X61 hx #[.val (.ref en), .val (.ref t), .val (.int (0 : Int32)), .val (.int (4 : Int32)), .val (.ref dd), .val (.ref te), .val (.int (0 : Int32)), .val (.int (3 : Int32)), .val (.int (3 : Int32)), .val (.int (4 : Int32)), .val (.int (3 : Int32)), .val (.int (4 : Int32)), .unset, .unset, .unset, .unset] 123 (hb hby own_d20_121) rfl rfl ?_
    refine own_il X61 hx 125 (hb hby own_d20_123) rfl rfl ?_
    refine own_is X61 hx #[.val (.ref en), .val (.ref t), .val (.int (0 : Int32)), .val (.int (4 : Int32)), .val (.ref dd), .val (.ref te), .val (.int (3 : Int32)), .val (.int (3 : Int32)), .val (.int (3 : Int32)), .val (.int (4 : Int32)), .val (.int (3 : Int32)), .val (.int (4 : Int32)), .unset, .unset, .unset, .unset] 127 (hb hby own_d20_125) rfl rfl ?_
    refine own_il X61 hx 129 (hb hby own_d20_127) rfl rfl ?_
    refine own_aln X61 hx 130 (hb hby own_d20_129) rfl rfl rfl ?_
    have F65 : Old Z n0 T61.heap := (X00.keep Kq61 (allS gdd all0))
    have F64 : Fld Z T61.heap en "java/util/Base64$Encoder" "linemax" "I" (.int (-1 : Int32)) := ZE3.ext F65.2
    refine own_gF X61 hx hZ hown (host := "") (Or.inl (hw _ (own_mi 132 rfl))) Via.refl rfl F64 133 (hb hby own_d20_130) rfl ?_
    intro T66 X66 e66
    refine own_icY X66 hx 186 (hb hby own_d20_133) (feq (by decide : ¬ ((4 : Int32) = (-1 : Int32)))).2 (by decide) (by decide) ?_
    refine own_gt X66 hx 69 (hb hby own_d20_186) (by decide) (by decide) ?_
    refine own_il X66 hx 71 (hb hby own_d20_69) rfl rfl ?_
    refine own_il X66 hx 73 (hb hby own_d20_71) rfl rfl ?_
    refine own_icY X66 hx 189 (hb hby own_d20_73) (flt (by decide : ¬ ((3 : Int32) < (3 : Int32)))).2.1 (by decide) (by decide) ?_
    refine own_il X66 hx 191 (hb hby own_d20_189) rfl rfl ?_
    refine own_iln X66 hx 192 (hb hby own_d20_191) rfl rfl ?_
    refine own_icN X66 hx 195 (hb hby own_d20_192) rfl (tlt (by decide : (3 : Int32) < (4 : Int32))).2.1 ?_
    refine own_aln X66 hx 196 (hb hby own_d20_195) rfl rfl rfl ?_
    refine own_il X66 hx 198 (hb hby own_d20_196) rfl rfl ?_
    refine own_ii X66 hx #[.val (.ref en), .val (.ref t), .val (.int (0 : Int32)), .val (.int (4 : Int32)), .val (.ref dd), .val (.ref te), .val (.int ((3 : Int32) + (1 : Int32))), .val (.int (3 : Int32)), .val (.int (3 : Int32)), .val (.int (4 : Int32)), .val (.int (3 : Int32)), .val (.int (4 : Int32)), .unset, .unset, .unset, .unset] 201 (hb hby own_d20_198) rfl rfl rfl ?_
    rw [show ((3 : Int32) + (1 : Int32)) = (4 : Int32) from by decide]
    have F67 : Arv Z T61.heap t kt .byte (4 : Int32) [(.int (own_by q0)), (.int (own_by q1)), (.int (own_by q2)), (.int (own_by q3))] (.int 0) := (V55.keep Kq61 (ninS ntd nin0))
    refine own_bal X66 hx hZ e66 F67 (own_by q3) 202 (hb hby own_d20_201) rfl ⟨by decide, by decide⟩ rfl ?_
    refine own_sp X66 hx (255 : Int32) 205 (hb hby own_d20_202) rfl rfl ?_
    refine own_iand X66 hx 206 (hb hby own_d20_205) rfl ?_
    rw [show ((own_by q3) &&& (255 : Int32)) = (Int32.ofNat q3) from own_bym q3 hq3]
    refine own_is X66 hx #[.val (.ref en), .val (.ref t), .val (.int (0 : Int32)), .val (.int (4 : Int32)), .val (.ref dd), .val (.ref te), .val (.int (4 : Int32)), .val (.int (3 : Int32)), .val (.int (3 : Int32)), .val (.int (4 : Int32)), .val (.int (Int32.ofNat q3)), .val (.int (4 : Int32)), .unset, .unset, .unset, .unset] 208 (hb hby own_d20_206) rfl rfl ?_
    refine own_al X66 hx 210 (hb hby own_d20_208) rfl rfl rfl ?_
    refine own_il X66 hx 212 (hb hby own_d20_210) rfl rfl ?_
    refine own_ii X66 hx #[.val (.ref en), .val (.ref t), .val (.int (0 : Int32)), .val (.int (4 : Int32)), .val (.ref dd), .val (.ref te), .val (.int (4 : Int32)), .val (.int (3 : Int32)), .val (.int (3 : Int32)), .val (.int ((4 : Int32) + (1 : Int32))), .val (.int (Int32.ofNat q3)), .val (.int (4 : Int32)), .unset, .unset, .unset, .unset] 215 (hb hby own_d20_212) rfl rfl rfl ?_
    refine own_al X66 hx 217 (hb hby own_d20_215) rfl rfl rfl ?_
    refine own_il X66 hx 219 (hb hby own_d20_217) rfl rfl ?_
    refine own_ic X66 hx (2 : Int32) 220 (hb hby own_d20_219) rfl rfl ?_
    refine own_ishr X66 hx 221 (hb hby own_d20_220) rfl ?_
    rw [show ((4 : Int32) + (1 : Int32)) = (5 : Int32) from by decide]
    rw [show ((Int32.ofNat q3) >>> ((2 : Int32) &&& 31)) = (Int32.ofNat (q3 / 4)) from own_shr2 q3 hq3]
    have F68 : Arv Z T61.heap te ke .char (64 : Int32) (own_T.map Value.int) (.int 0) := ZT.ext F65.2
    refine own_cal X66 hx hZ e66 F68 (Int32.ofNat (own_ct (q3 / 4))) 222 (hb hby own_d20_221) rfl (own_Tin _ (by omega)) (own_Tat _ (by omega) _) ?_
    refine own_i2b X66 hx 223 (hb hby own_d20_222) rfl ?_
    show own_Rn p e below _ (T66.setTop (mkF m 223 #[.val (.ref en), .val (.ref t), .val (.int (0 : Int32)), .val (.int (4 : Int32)), .val (.ref dd), .val (.ref te), .val (.int (4 : Int32)), .val (.int (3 : Int32)), .val (.int (3 : Int32)), .val (.int (5 : Int32)), .val (.int (Int32.ofNat q3)), .val (.int (4 : Int32)), .unset, .unset, .unset, .unset] [(.int (own_cb (q3 / 4))), (.int (4 : Int32)), (.ref dd)]))
    obtain ⟨cl69, Ar69, q69, Sz69, Nn69, Hs69, G69⟩ := id G0_61
    obtain ⟨T69, h69, X69, e69, W69, st69⟩ := stB X66 hx hZ e66 Ar69 (j := (4 : Int32)) (inb_of Sz69 ⟨by decide, by decide⟩) (g := (mkF m 223 #[.val (.ref en), .val (.ref t), .val (.int (0 : Int32)), .val (.int (4 : Int32)), .val (.ref dd), .val (.ref te), .val (.int (4 : Int32)), .val (.int (3 : Int32)), .val (.int (3 : Int32)), .val (.int (5 : Int32)), .val (.int (Int32.ofNat q3)), .val (.int (4 : Int32)), .unset, .unset, .unset, .unset] [(.int (own_cb (q3 / 4))), (.int (4 : Int32)), (.ref dd)])) rfl rfl (hb hby own_d20_223)
    rw [own_narB] at W69
    refine own_go st69 ?_
    have V69 : Arv Z h69 dd kd .byte (6 : Int32) (([(.int (own_cb (q0 / 4))), (.int (own_cb (q0 % 4 * 16 + q1 / 16))), (.int (own_cb (q1 % 16 * 4 + q2 / 64))), (.int (own_cb (q2 % 64)))] : List Value) ++ [(.int (own_cb (q3 / 4)))]) (.int 0) := own_store1 G0_61 (by rw [show ((6 : Int32).toNatClampNeg = 6) from by decide]; exact Nat.le_of_ble_eq_true rfl) (own_fitsB _) W69 (show (4 : Int32).toNatClampNeg = 4 from by decide)
    have N69 := Fr.snoc X69 N61 gdd
    have sz70 : T61.heap.size ≤ h69.size := Nat.le_of_eq (Wr.size W69).symm
    have K70 := K63.wr W69 (Or.inl (List.mem_of_getElem? (i := 0) rfl))
    show own_Rn p e below _ (T69.setTop (mkF m 224 #[.val (.ref en), .val (.ref t), .val (.int (0 : Int32)), .val (.int (4 : Int32)), .val (.ref dd), .val (.ref te), .val (.int (4 : Int32)), .val (.int (3 : Int32)), .val (.int (3 : Int32)), .val (.int (5 : Int32)), .val (.int (Int32.ofNat q3)), .val (.int (4 : Int32)), .unset, .unset, .unset, .unset] []))
    refine own_il X69 hx 226 (hb hby own_d20_224) rfl rfl ?_
    refine own_iln X69 hx 227 (hb hby own_d20_226) rfl rfl ?_
    refine own_icN X69 hx 230 (hb hby own_d20_227) rfl (teq (by decide : (4 : Int32) = (4 : Int32))).2 ?_
    refine own_al X69 hx 232 (hb hby own_d20_230) rfl rfl rfl ?_
    refine own_il X69 hx 234 (hb hby own_d20_232) rfl rfl ?_
    refine own_ii X69 hx #[.val (.ref en), .val (.ref t), .val (.int (0 : Int32)), .val (.int (4 : Int32)), .val (.ref dd), .val (.ref te), .val (.int (4 : Int32)), .val (.int (3 : Int32)), .val (.int (3 : Int32)), .val (.int ((5 : Int32) + (1 : Int32))), .val (.int (Int32.ofNat q3)), .val (.int (4 : Int32)), .unset, .unset, .unset, .unset] 237 (hb hby own_d20_234) rfl rfl rfl ?_
    refine own_al X69 hx 239 (hb hby own_d20_237) rfl rfl rfl ?_
    refine own_il X69 hx 241 (hb hby own_d20_239) rfl rfl ?_
    refine own_ic X69 hx (4 : Int32) 242 (hb hby own_d20_241) rfl rfl ?_
    refine own_ishl X69 hx 243 (hb hby own_d20_242) rfl ?_
    refine own_bp X69 hx (63 : Int32) 245 (hb hby own_d20_243) rfl rfl ?_
    refine own_iand X69 hx 246 (hb hby own_d20_245) rfl ?_
    rw [show ((5 : Int32) + (1 : Int32)) = (6 : Int32) from by decide]
    rw [show (((Int32.ofNat q3) <<< ((4 : Int32) &&& 31)) &&& (63 : Int32)) = (Int32.ofNat (q3 % 4 * 16 + 0 / 16)) from own_t1 q3 hq3]
    have F72 : Old Z n0 h69 := (F65.wr W69 gdd)
    have F71 : Arv Z h69 te ke .char (64 : Int32) (own_T.map Value.int) (.int 0) := ZT.ext F72.2
    refine own_cal X69 hx hZ e69 F71 (Int32.ofNat (own_ct (q3 % 4 * 16 + 0 / 16))) 247 (hb hby own_d20_246) rfl (own_Tin _ (by omega)) (own_Tat _ (by omega) _) ?_
    refine own_i2b X69 hx 248 (hb hby own_d20_247) rfl ?_
    show own_Rn p e below _ (T69.setTop (mkF m 248 #[.val (.ref en), .val (.ref t), .val (.int (0 : Int32)), .val (.int (4 : Int32)), .val (.ref dd), .val (.ref te), .val (.int (4 : Int32)), .val (.int (3 : Int32)), .val (.int (3 : Int32)), .val (.int (6 : Int32)), .val (.int (Int32.ofNat q3)), .val (.int (4 : Int32)), .unset, .unset, .unset, .unset] [(.int (own_cb (q3 % 4 * 16 + 0 / 16))), (.int (5 : Int32)), (.ref dd)]))
    obtain ⟨cl73, Ar73, q73, Sz73, Nn73, Hs73, G73⟩ := id V69
    obtain ⟨T73, h73, X73, e73, W73, st73⟩ := stB X69 hx hZ e69 Ar73 (j := (5 : Int32)) (inb_of Sz73 ⟨by decide, by decide⟩) (g := (mkF m 248 #[.val (.ref en), .val (.ref t), .val (.int (0 : Int32)), .val (.int (4 : Int32)), .val (.ref dd), .val (.ref te), .val (.int (4 : Int32)), .val (.int (3 : Int32)), .val (.int (3 : Int32)), .val (.int (6 : Int32)), .val (.int (Int32.ofNat q3)), .val (.int (4 : Int32)), .unset, .unset, .unset, .unset] [(.int (own_cb (q3 % 4 * 16 + 0 / 16))), (.int (5 : Int32)), (.ref dd)])) rfl rfl (hb hby own_d20_248)
    rw [own_narB] at W73
    refine own_go st73 ?_
    have V73 : Arv Z h73 dd kd .byte (6 : Int32) ((([(.int (own_cb (q0 / 4))), (.int (own_cb (q0 % 4 * 16 + q1 / 16))), (.int (own_cb (q1 % 16 * 4 + q2 / 64))), (.int (own_cb (q2 % 64)))] : List Value) ++ [Value.int (own_cb (q3 / 4))]) ++ [(.int (own_cb (q3 % 4 * 16 + 0 / 16)))]) (.int 0) := own_store1 V69 (by rw [show ((6 : Int32).toNatClampNeg = 6) from by decide]; exact Nat.le_of_ble_eq_true rfl) (own_fitsB _) W73 (show (5 : Int32).toNatClampNeg = 5 from by decide)
    have N73 := Fr.snoc X73 N69 gdd
    have sz74 : h69.size ≤ h73.size := Nat.le_of_eq (Wr.size W73).symm
    have K74 := K70.wr W73 (Or.inl (List.mem_of_getElem? (i := 0) rfl))
    show own_Rn p e below _ (T73.setTop (mkF m 249 #[.val (.ref en), .val (.ref t), .val (.int (0 : Int32)), .val (.int (4 : Int32)), .val (.ref dd), .val (.ref te), .val (.int (4 : Int32)), .val (.int (3 : Int32)), .val (.int (3 : Int32)), .val (.int (6 : Int32)), .val (.int (Int32.ofNat q3)), .val (.int (4 : Int32)), .unset, .unset, .unset, .unset] []))
    refine own_aln X73 hx 250 (hb hby own_d20_249) rfl rfl rfl ?_
    have F76 : Old Z n0 h73 := (F72.wr W73 gdd)
    have F75 : Fld Z h73 en "java/util/Base64$Encoder" "doPadding" "Z" (.int (0 : Int32)) := ZE2.ext F76.2
    refine own_gF X73 hx hZ hown (host := "") (Or.inl (hw _ (own_mi 123 rfl))) Via.refl e73 F75 253 (hb hby own_d20_250) rfl ?_
    intro T77 X77 e77
    refine own_ifY X77 hx 352 (hb hby own_d20_253) ((if0 _ _).trans (teq ((by decide : (0 : Int32) = (0 : Int32)) : (0 : Int32) = (0 : Int32))).1) (by decide) (by decide) ?_
    refine own_il X77 hx 354 (hb hby own_d20_352) rfl rfl ?_
    exact own_ret X77 (v := some (.int (6 : Int32))) (fun h => by rw [Bd.returns] at h; cases h) (fun fs hr => retI X77 hx Bd.returns (hb hby own_d20_354) hr) (by rw [e77]; exact ⟨rfl, N73, K74, V73⟩) (by decide) (by decide)
  · skip
    have hq0 : q0 < 256 := hB q0 (by simp)
    have hq1 : q1 < 256 := hB q1 (by simp)
    have hq2 : q2 < 256 := hB q2 (by simp)
    have hq3 : q3 < 256 := hB q3 (by simp)
    have hq4 : q4 < 256 := hB q4 (by simp)
    have V78 : Arv Z h0 t kt .byte (5 : Int32) [(.int (own_by q0)), (.int (own_by q1)), (.int (own_by q2)), (.int (own_by q3)), (.int (own_by q4))] (.int 0) := Pm6
    have V79 : Arv Z h0 dd kd .byte (7 : Int32) [] (.int 0) := Pm9
    show own_Rn p e below _ (T5.setTop (mkF m 18 #[.val (.ref en), .val (.ref t), .val (.int (0 : Int32)), .val (.int (5 : Int32)), .val (.ref dd), .val (.ref te), .unset, .unset, .unset, .unset, .unset, .unset, .unset, .unset, .unset, .unset] []))
    refine own_iln X5 hx 19 (hb hby own_d20_18) rfl rfl ?_
    refine own_is X5 hx #[.val (.ref en), .val (.ref t), .val (.int (0 : Int32)), .val (.int (5 : Int32)), .val (.ref dd), .val (.ref te), .val (.int (0 : Int32)), .unset, .unset, .unset, .unset, .unset, .unset, .unset, .unset, .unset] 21 (hb hby own_d20_19) rfl rfl ?_
    refine own_iln X5 hx 22 (hb hby own_d20_21) rfl rfl ?_
    refine own_iln X5 hx 23 (hb hby own_d20_22) rfl rfl ?_
    refine own_isub X5 hx 24 (hb hby own_d20_23) rfl ?_
    refine own_ic X5 hx (3 : Int32) 25 (hb hby own_d20_24) rfl rfl ?_
    refine own_idiv X5 hx 26 (hb hby own_d20_25) rfl (by decide) ?_
    refine own_ic X5 hx (3 : Int32) 27 (hb hby own_d20_26) rfl rfl ?_
    refine own_imul X5 hx 28 (hb hby own_d20_27) rfl ?_
    rw [show ((((5 : Int32) - (0 : Int32)) / (3 : Int32)) * (3 : Int32)) = (3 : Int32) from by decide]
    refine own_is X5 hx #[.val (.ref en), .val (.ref t), .val (.int (0 : Int32)), .val (.int (5 : Int32)), .val (.ref dd), .val (.ref te), .val (.int (0 : Int32)), .val (.int (3 : Int32)), .unset, .unset, .unset, .unset, .unset, .unset, .unset, .unset] 30 (hb hby own_d20_28) rfl rfl ?_
    refine own_iln X5 hx 31 (hb hby own_d20_30) rfl rfl ?_
    refine own_il X5 hx 33 (hb hby own_d20_31) rfl rfl ?_
    refine own_iadd X5 hx 34 (hb hby own_d20_33) rfl ?_
    rw [show ((0 : Int32) + (3 : Int32)) = (3 : Int32) from by decide]
    refine own_is X5 hx #[.val (.ref en), .val (.ref t), .val (.int (0 : Int32)), .val (.int (5 : Int32)), .val (.ref dd), .val (.ref te), .val (.int (0 : Int32)), .val (.int (3 : Int32)), .val (.int (3 : Int32)), .unset, .unset, .unset, .unset, .unset, .unset, .unset] 36 (hb hby own_d20_34) rfl rfl ?_
    refine own_aln X5 hx 37 (hb hby own_d20_36) rfl rfl rfl ?_
    have F80 : Fld Z h0 en "java/util/Base64$Encoder" "linemax" "I" (.int (-1 : Int32)) := ZE3.ext X00.2
    refine own_gF X5 hx hZ hown (host := "") (Or.inl (hw _ (own_mi 132 rfl))) Via.refl e5 F80 40 (hb hby own_d20_37) rfl ?_
    intro T81 X81 e81
    refine own_ifY X81 hx 66 (hb hby own_d20_40) ((if0 _ _).trans (flt (by decide : ¬ ((0 : Int32) < (-1 : Int32)))).2.2.2) (by decide) (by decide) ?_
    refine own_ic X81 hx (0 : Int32) 67 (hb hby own_d20_66) rfl rfl ?_
    refine own_is X81 hx #[.val (.ref en), .val (.ref t), .val (.int (0 : Int32)), .val (.int (5 : Int32)), .val (.ref dd), .val (.ref te), .val (.int (0 : Int32)), .val (.int (3 : Int32)), .val (.int (3 : Int32)), .val (.int (0 : Int32)), .unset, .unset, .unset, .unset, .unset, .unset] 69 (hb hby own_d20_67) rfl rfl ?_
    refine own_il X81 hx 71 (hb hby own_d20_69) rfl rfl ?_
    refine own_il X81 hx 73 (hb hby own_d20_71) rfl rfl ?_
    refine own_icN X81 hx 76 (hb hby own_d20_73) rfl (tlt (by decide : (0 : Int32) < (3 : Int32))).2.1 ?_
    refine own_il X81 hx 78 (hb hby own_d20_76) rfl rfl ?_
    refine own_il X81 hx 80 (hb hby own_d20_78) rfl rfl ?_
    refine own_iadd X81 hx 81 (hb hby own_d20_80) rfl ?_
    rw [show ((0 : Int32) + (3 : Int32)) = (3 : Int32) from by decide]
    refine own_il X81 hx 83 (hb hby own_d20_81) rfl rfl ?_
    have Zn82 : n0 ≤ h0.size := (Nat.le_trans Z0 (Nat.le_refl _))
    refine own_cS X81 hx hZ (y := (⟨"java/lang/Math", "min", "(II)I"⟩ : MethodName)) hown (hw _ (own_mi 142 rfl)) (hw _ (own_mi 143 rfl)) (hw _ (own_mi 127 rfl)) (hw _ (own_mi 144 rfl)) (by decide) (rmMin l Z a0 hw [] ((3 : Int32)) ((3 : Int32)) h0 n0 Zn82 (by decide)) e81 [(.int (3 : Int32)), (.int (3 : Int32))] [] rfl (by rw [hml]; rfl) (lenOf own_pd_28II29I rfl) rfl 0 (Nat.le_of_eq rfl) (by decide) (by decide) (by decide : 0 + 0 ≤ _) (by decide : 0 + 0 ≤ _) 86 (hb hby own_d20_83) rfl 0 0 rfl rfl ?_
    intro rv82 T82 Lc82 X82 hQ82
    obtain ⟨rfl, Nq82, eh82⟩ := hQ82
    have N82 := Fr.app N0 Nq82
    show own_Rn p e below _ (T82.setTop (mkF m 86 #[.val (.ref en), .val (.ref t), .val (.int (0 : Int32)), .val (.int (5 : Int32)), .val (.ref dd), .val (.ref te), .val (.int (0 : Int32)), .val (.int (3 : Int32)), .val (.int (3 : Int32)), .val (.int (0 : Int32)), .unset, .unset, .unset, .unset, .unset, .unset] [(.int (3 : Int32))]))
    refine own_is X82 hx #[.val (.ref en), .val (.ref t), .val (.int (0 : Int32)), .val (.int (5 : Int32)), .val (.ref dd), .val (.ref te), .val (.int (0 : Int32)), .val (.int (3 : Int32)), .val (.int (3 : Int32)), .val (.int (0 : Int32)), .val (.int (3 : Int32)), .unset, .unset, .unset, .unset, .unset] 88 (hb hby own_d20_86) rfl rfl ?_
    refine own_aln X82 hx 89 (hb hby own_d20_88) rfl rfl rfl ?_
    refine own_aln X82 hx 90 (hb hby own_d20_89) rfl rfl rfl ?_
    refine own_il X82 hx 92 (hb hby own_d20_90) rfl rfl ?_
    refine own_il X82 hx 94 (hb hby own_d20_92) rfl rfl ?_
    refine own_al X82 hx 96 (hb hby own_d20_94) rfl rfl rfl ?_
    refine own_il X82 hx 98 (hb hby own_d20_96) rfl rfl ?_
    refine own_aln X82 hx 99 (hb hby own_d20_98) rfl rfl rfl ?_
    refine own_gF X82 hx hZ hown (host := "") (Or.inl (hw _ (own_mi 139 rfl))) Via.refl eh82 F3 102 (hb hby own_d20_99) rfl ?_
    intro T83 X83 e83
    have Zn84 : n0 ≤ h0.size := (Nat.le_trans Z0 (Nat.le_refl _))
    have F85 : Exa Z h0 en "java/util/Base64$Encoder" := ZE.ext X00.2
    refine own_cP X83 hx hZ (y := (⟨"java/util/Base64$Encoder", "encodeBlock", "([BII[BIZ)V"⟩ : MethodName)) hown (hw _ (own_mi 145 rfl)) (hw _ (own_mi 146 rfl)) (hw _ (own_mi 148 rfl)) (hw _ (own_mi 147 rfl)) (hw _ (own_mi 149 rfl)) (hw _ (own_mi 111 rfl)) (by decide) (rmEB l Z a0 hw [] (en) (t) (kt) ((5 : Int32)) ([(.int (own_by q3)), (.int (own_by q4))]) (q0) (q1) (q2) (dd) (kd) ((7 : Int32)) (te) (ke) h0 n0 Zn84 (OT) ZT V78 (Or.inr (Or.inr rfl)) (hq0) (hq1) (hq2) V79 (Or.inr (Or.inr rfl)) gdd (ntd) X00) F85 e83 [(.ref t), (.int (0 : Int32)), (.int (3 : Int32)), (.ref dd), (.int (0 : Int32)), (.int (1 : Int32))] [] rfl (by rw [hml]; rfl) (lenOf own_pd_285bBII5bBIZ29V rfl) rfl 0 (Nat.le_of_eq rfl) (by decide) (by decide) (by decide : 0 + 0 ≤ _) (by decide : 0 + 0 ≤ _) 105 (hb hby own_d20_102) rfl 0 0 rfl rfl ?_
    intro rv84 T84 Lc84 X84 hQ84
    obtain ⟨rfl, Nq84, Kq84, G0_84⟩ := hQ84
    have N84 := Fr.app N82 Nq84
    have sz86 : h0.size ≤ T84.heap.size := Kq84.1
    have K86 := K0.trans Kq84 (allS (Or.inl (List.mem_of_getElem? (i := 0) rfl)) all0)
    show own_Rn p e below _ (T84.setTop (mkF m 105 #[.val (.ref en), .val (.ref t), .val (.int (0 : Int32)), .val (.int (5 : Int32)), .val (.ref dd), .val (.ref te), .val (.int (0 : Int32)), .val (.int (3 : Int32)), .val (.int (3 : Int32)), .val (.int (0 : Int32)), .val (.int (3 : Int32)), .unset, .unset, .unset, .unset, .unset] []))
    refine own_il X84 hx 107 (hb hby own_d20_105) rfl rfl ?_
    refine own_il X84 hx 109 (hb hby own_d20_107) rfl rfl ?_
    refine own_isub X84 hx 110 (hb hby own_d20_109) rfl ?_
    refine own_ic X84 hx (3 : Int32) 111 (hb hby own_d20_110) rfl rfl ?_
    refine own_idiv X84 hx 112 (hb hby own_d20_111) rfl (by decide) ?_
    refine own_ic X84 hx (4 : Int32) 113 (hb hby own_d20_112) rfl rfl ?_
    refine own_imul X84 hx 114 (hb hby own_d20_113) rfl ?_
    rw [show ((((3 : Int32) - (0 : Int32)) / (3 : Int32)) * (4 : Int32)) = (4 : Int32) from by decide]
    refine own_is X84 hx #[.val (.ref en), .val (.ref t), .val (.int (0 : Int32)), .val (.int (5 : Int32)), .val (.ref dd), .val (.ref te), .val (.int (0 : Int32)), .val (.int (3 : Int32)), .val (.int (3 : Int32)), .val (.int (0 : Int32)), .val (.int (3 : Int32)), .val (.int (4 : Int32)), .unset, .unset, .unset, .unset] 116 (hb hby own_d20_114) rfl rfl ?_
    refine own_il X84 hx 118 (hb hby own_d20_116) rfl rfl ?_
    refine own_il X84 hx 120 (hb hby own_d20_118) rfl rfl ?_
    refine own_iadd X84 hx 121 (hb hby own_d20_120) rfl ?_
    rw [show ((0 : Int32) + (4 : Int32)) = (4 : Int32) from by decide]
    refine own_is X84 hx #[.val (.ref en), .val (.ref t), .val (.int (0 : Int32)), .val (.int (5 : Int32)), .val (.ref dd), .val (.ref te), .val (.int (0 : Int32)), .val (.int (3 : Int32)), .val (.int (3 : Int32)), .val (.int (4 : Int32)), .val (.int (3 : Int32)), .val (.int (4 : Int32)), .unset, .unset, .unset, .unset] 123 (hb hby own_d20_121) rfl rfl ?_
    refine own_il X84 hx 125 (hb hby own_d20_123) rfl rfl ?_
    refine own_is X84 hx #[.val (.ref en), .val (.ref t), .val (.int (0 : Int32)), .val (.int (5 : Int32)), .val (.ref dd), .val (.ref te), .val (.int (3 : Int32)), .val (.int (3 : Int32)), .val (.int (3 : Int32)), .val (.int (4 : Int32)), .val (.int (3 : Int32)), .val (.int (4 : Int32)), .unset, .unset, .unset, .unset] 127 (hb hby own_d20_125) rfl rfl ?_
    refine own_il X84 hx 129 (hb hby own_d20_127) rfl rfl ?_
    refine own_aln X84 hx 130 (hb hby own_d20_129) rfl rfl rfl ?_
    have F88 : Old Z n0 T84.heap := (X00.keep Kq84 (allS gdd all0))
    have F87 : Fld Z T84.heap en "java/util/Base64$Encoder" "linemax" "I" (.int (-1 : Int32)) := ZE3.ext F88.2
    refine own_gF X84 hx hZ hown (host := "") (Or.inl (hw _ (own_mi 132 rfl))) Via.refl rfl F87 133 (hb hby own_d20_130) rfl ?_
    intro T89 X89 e89
    refine own_icY X89 hx 186 (hb hby own_d20_133) (feq (by decide : ¬ ((4 : Int32) = (-1 : Int32)))).2 (by decide) (by decide) ?_
    refine own_gt X89 hx 69 (hb hby own_d20_186) (by decide) (by decide) ?_
    refine own_il X89 hx 71 (hb hby own_d20_69) rfl rfl ?_
    refine own_il X89 hx 73 (hb hby own_d20_71) rfl rfl ?_
    refine own_icY X89 hx 189 (hb hby own_d20_73) (flt (by decide : ¬ ((3 : Int32) < (3 : Int32)))).2.1 (by decide) (by decide) ?_
    refine own_il X89 hx 191 (hb hby own_d20_189) rfl rfl ?_
    refine own_iln X89 hx 192 (hb hby own_d20_191) rfl rfl ?_
    refine own_icN X89 hx 195 (hb hby own_d20_192) rfl (tlt (by decide : (3 : Int32) < (5 : Int32))).2.1 ?_
    refine own_aln X89 hx 196 (hb hby own_d20_195) rfl rfl rfl ?_
    refine own_il X89 hx 198 (hb hby own_d20_196) rfl rfl ?_
    refine own_ii X89 hx #[.val (.ref en), .val (.ref t), .val (.int (0 : Int32)), .val (.int (5 : Int32)), .val (.ref dd), .val (.ref te), .val (.int ((3 : Int32) + (1 : Int32))), .val (.int (3 : Int32)), .val (.int (3 : Int32)), .val (.int (4 : Int32)), .val (.int (3 : Int32)), .val (.int (4 : Int32)), .unset, .unset, .unset, .unset] 201 (hb hby own_d20_198) rfl rfl rfl ?_
    rw [show ((3 : Int32) + (1 : Int32)) = (4 : Int32) from by decide]
    have F90 : Arv Z T84.heap t kt .byte (5 : Int32) [(.int (own_by q0)), (.int (own_by q1)), (.int (own_by q2)), (.int (own_by q3)), (.int (own_by q4))] (.int 0) := (V78.keep Kq84 (ninS ntd nin0))
    refine own_bal X89 hx hZ e89 F90 (own_by q3) 202 (hb hby own_d20_201) rfl ⟨by decide, by decide⟩ rfl ?_
    refine own_sp X89 hx (255 : Int32) 205 (hb hby own_d20_202) rfl rfl ?_
    refine own_iand X89 hx 206 (hb hby own_d20_205) rfl ?_
    rw [show ((own_by q3) &&& (255 : Int32)) = (Int32.ofNat q3) from own_bym q3 hq3]
    refine own_is X89 hx #[.val (.ref en), .val (.ref t), .val (.int (0 : Int32)), .val (.int (5 : Int32)), .val (.ref dd), .val (.ref te), .val (.int (4 : Int32)), .val (.int (3 : Int32)), .val (.int (3 : Int32)), .val (.int (4 : Int32)), .val (.int (Int32.ofNat q3)), .val (.int (4 : Int32)), .unset, .unset, .unset, .unset] 208 (hb hby own_d20_206) rfl rfl ?_
    refine own_al X89 hx 210 (hb hby own_d20_208) rfl rfl rfl ?_
    refine own_il X89 hx 212 (hb hby own_d20_210) rfl rfl ?_
    refine own_ii X89 hx #[.val (.ref en), .val (.ref t), .val (.int (0 : Int32)), .val (.int (5 : Int32)), .val (.ref dd), .val (.ref te), .val (.int (4 : Int32)), .val (.int (3 : Int32)), .val (.int (3 : Int32)), .val (.int ((4 : Int32) + (1 : Int32))), .val (.int (Int32.ofNat q3)), .val (.int (4 : Int32)), .unset, .unset, .unset, .unset] 215 (hb hby own_d20_212) rfl rfl rfl ?_
    refine own_al X89 hx 217 (hb hby own_d20_215) rfl rfl rfl ?_
    refine own_il X89 hx 219 (hb hby own_d20_217) rfl rfl ?_
    refine own_ic X89 hx (2 : Int32) 220 (hb hby own_d20_219) rfl rfl ?_
    refine own_ishr X89 hx 221 (hb hby own_d20_220) rfl ?_
    rw [show ((4 : Int32) + (1 : Int32)) = (5 : Int32) from by decide]
    rw [show ((Int32.ofNat q3) >>> ((2 : Int32) &&& 31)) = (Int32.ofNat (q3 / 4)) from own_shr2 q3 hq3]
    have F91 : Arv Z T84.heap te ke .char (64 : Int32) (own_T.map Value.int) (.int 0) := ZT.ext F88.2
    refine own_cal X89 hx hZ e89 F91 (Int32.ofNat (own_ct (q3 / 4))) 222 (hb hby own_d20_221) rfl (own_Tin _ (by omega)) (own_Tat _ (by omega) _) ?_
    refine own_i2b X89 hx 223 (hb hby own_d20_222) rfl ?_
    show own_Rn p e below _ (T89.setTop (mkF m 223 #[.val (.ref en), .val (.ref t), .val (.int (0 : Int32)), .val (.int (5 : Int32)), .val (.ref dd), .val (.ref te), .val (.int (4 : Int32)), .val (.int (3 : Int32)), .val (.int (3 : Int32)), .val (.int (5 : Int32)), .val (.int (Int32.ofNat q3)), .val (.int (4 : Int32)), .unset, .unset, .unset, .unset] [(.int (own_cb (q3 / 4))), (.int (4 : Int32)), (.ref dd)]))
    obtain ⟨cl92, Ar92, q92, Sz92, Nn92, Hs92, G92⟩ := id G0_84
    obtain ⟨T92, h92, X92, e92, W92, st92⟩ := stB X89 hx hZ e89 Ar92 (j := (4 : Int32)) (inb_of Sz92 ⟨by decide, by decide⟩) (g := (mkF m 223 #[.val (.ref en), .val (.ref t), .val (.int (0 : Int32)), .val (.int (5 : Int32)), .val (.ref dd), .val (.ref te), .val (.int (4 : Int32)), .val (.int (3 : Int32)), .val (.int (3 : Int32)), .val (.int (5 : Int32)), .val (.int (Int32.ofNat q3)), .val (.int (4 : Int32)), .unset, .unset, .unset, .unset] [(.int (own_cb (q3 / 4))), (.int (4 : Int32)), (.ref dd)])) rfl rfl (hb hby own_d20_223)
    rw [own_narB] at W92
    refine own_go st92 ?_
    have V92 : Arv Z h92 dd kd .byte (7 : Int32) (([(.int (own_cb (q0 / 4))), (.int (own_cb (q0 % 4 * 16 + q1 / 16))), (.int (own_cb (q1 % 16 * 4 + q2 / 64))), (.int (own_cb (q2 % 64)))] : List Value) ++ [(.int (own_cb (q3 / 4)))]) (.int 0) := own_store1 G0_84 (by rw [show ((7 : Int32).toNatClampNeg = 7) from by decide]; exact Nat.le_of_ble_eq_true rfl) (own_fitsB _) W92 (show (4 : Int32).toNatClampNeg = 4 from by decide)
    have N92 := Fr.snoc X92 N84 gdd
    have sz93 : T84.heap.size ≤ h92.size := Nat.le_of_eq (Wr.size W92).symm
    have K93 := K86.wr W92 (Or.inl (List.mem_of_getElem? (i := 0) rfl))
    show own_Rn p e below _ (T92.setTop (mkF m 224 #[.val (.ref en), .val (.ref t), .val (.int (0 : Int32)), .val (.int (5 : Int32)), .val (.ref dd), .val (.ref te), .val (.int (4 : Int32)), .val (.int (3 : Int32)), .val (.int (3 : Int32)), .val (.int (5 : Int32)), .val (.int (Int32.ofNat q3)), .val (.int (4 : Int32)), .unset, .unset, .unset, .unset] []))
    refine own_il X92 hx 226 (hb hby own_d20_224) rfl rfl ?_
    refine own_iln X92 hx 227 (hb hby own_d20_226) rfl rfl ?_
    refine own_icY X92 hx 279 (hb hby own_d20_227) (feq (by decide : ¬ ((4 : Int32) = (5 : Int32)))).2 (by decide) (by decide) ?_
    refine own_aln X92 hx 280 (hb hby own_d20_279) rfl rfl rfl ?_
    refine own_il X92 hx 282 (hb hby own_d20_280) rfl rfl ?_
    refine own_ii X92 hx #[.val (.ref en), .val (.ref t), .val (.int (0 : Int32)), .val (.int (5 : Int32)), .val (.ref dd), .val (.ref te), .val (.int ((4 : Int32) + (1 : Int32))), .val (.int (3 : Int32)), .val (.int (3 : Int32)), .val (.int (5 : Int32)), .val (.int (Int32.ofNat q3)), .val (.int (4 : Int32)), .unset, .unset, .unset, .unset] 285 (hb hby own_d20_282) rfl rfl rfl ?_
    rw [show ((4 : Int32) + (1 : Int32)) = (5 : Int32) from by decide]
    have F94 : Arv Z h92 t kt .byte (5 : Int32) [(.int (own_by q0)), (.int (own_by q1)), (.int (own_by q2)), (.int (own_by q3)), (.int (own_by q4))] (.int 0) := (F90.other W92 ntd)
    refine own_bal X92 hx hZ e92 F94 (own_by q4) 286 (hb hby own_d20_285) rfl ⟨by decide, by decide⟩ rfl ?_
    refine own_sp X92 hx (255 : Int32) 289 (hb hby own_d20_286) rfl rfl ?_
    refine own_iand X92 hx 290 (hb hby own_d20_289) rfl ?_
    rw [show ((own_by q4) &&& (255 : Int32)) = (Int32.ofNat q4) from own_bym q4 hq4]
    refine own_is X92 hx #[.val (.ref en), .val (.ref t), .val (.int (0 : Int32)), .val (.int (5 : Int32)), .val (.ref dd), .val (.ref te), .val (.int (5 : Int32)), .val (.int (3 : Int32)), .val (.int (3 : Int32)), .val (.int (5 : Int32)), .val (.int (Int32.ofNat q3)), .val (.int (Int32.ofNat q4)), .unset, .unset, .unset, .unset] 292 (hb hby own_d20_290) rfl rfl ?_
    refine own_al X92 hx 294 (hb hby own_d20_292) rfl rfl rfl ?_
    refine own_il X92 hx 296 (hb hby own_d20_294) rfl rfl ?_
    refine own_ii X92 hx #[.val (.ref en), .val (.ref t), .val (.int (0 : Int32)), .val (.int (5 : Int32)), .val (.ref dd), .val (.ref te), .val (.int (5 : Int32)), .val (.int (3 : Int32)), .val (.int (3 : Int32)), .val (.int ((5 : Int32) + (1 : Int32))), .val (.int (Int32.ofNat q3)), .val (.int (Int32.ofNat q4)), .unset, .unset, .unset, .unset] 299 (hb hby own_d20_296) rfl rfl rfl ?_
    refine own_al X92 hx 301 (hb hby own_d20_299) rfl rfl rfl ?_
    refine own_il X92 hx 303 (hb hby own_d20_301) rfl rfl ?_
    refine own_ic X92 hx (4 : Int32) 304 (hb hby own_d20_303) rfl rfl ?_
    refine own_ishl X92 hx 305 (hb hby own_d20_304) rfl ?_
    refine own_bp X92 hx (63 : Int32) 307 (hb hby own_d20_305) rfl rfl ?_
    refine own_iand X92 hx 308 (hb hby own_d20_307) rfl ?_
    refine own_il X92 hx 310 (hb hby own_d20_308) rfl rfl ?_
    refine own_ic X92 hx (4 : Int32) 311 (hb hby own_d20_310) rfl rfl ?_
    refine own_ishr X92 hx 312 (hb hby own_d20_311) rfl ?_
    refine own_ior X92 hx 313 (hb hby own_d20_312) rfl ?_
    rw [show ((5 : Int32) + (1 : Int32)) = (6 : Int32) from by decide]
    rw [show ((((Int32.ofNat q3) <<< ((4 : Int32) &&& 31)) &&& (63 : Int32)) ||| ((Int32.ofNat q4) >>> ((4 : Int32) &&& 31))) = (Int32.ofNat (q3 % 4 * 16 + q4 / 16)) from own_t2 q3 q4 hq3 hq4]
    have F96 : Old Z n0 h92 := (F88.wr W92 gdd)
    have F95 : Arv Z h92 te ke .char (64 : Int32) (own_T.map Value.int) (.int 0) := ZT.ext F96.2
    refine own_cal X92 hx hZ e92 F95 (Int32.ofNat (own_ct (q3 % 4 * 16 + q4 / 16))) 314 (hb hby own_d20_313) rfl (own_Tin _ (by omega)) (own_Tat _ (by omega) _) ?_
    refine own_i2b X92 hx 315 (hb hby own_d20_314) rfl ?_
    show own_Rn p e below _ (T92.setTop (mkF m 315 #[.val (.ref en), .val (.ref t), .val (.int (0 : Int32)), .val (.int (5 : Int32)), .val (.ref dd), .val (.ref te), .val (.int (5 : Int32)), .val (.int (3 : Int32)), .val (.int (3 : Int32)), .val (.int (6 : Int32)), .val (.int (Int32.ofNat q3)), .val (.int (Int32.ofNat q4)), .unset, .unset, .unset, .unset] [(.int (own_cb (q3 % 4 * 16 + q4 / 16))), (.int (5 : Int32)), (.ref dd)]))
    obtain ⟨cl97, Ar97, q97, Sz97, Nn97, Hs97, G97⟩ := id V92
    obtain ⟨T97, h97, X97, e97, W97, st97⟩ := stB X92 hx hZ e92 Ar97 (j := (5 : Int32)) (inb_of Sz97 ⟨by decide, by decide⟩) (g := (mkF m 315 #[.val (.ref en), .val (.ref t), .val (.int (0 : Int32)), .val (.int (5 : Int32)), .val (.ref dd), .val (.ref te), .val (.int (5 : Int32)), .val (.int (3 : Int32)), .val (.int (3 : Int32)), .val (.int (6 : Int32)), .val (.int (Int32.ofNat q3)), .val (.int (Int32.ofNat q4)), .unset, .unset, .unset, .unset] [(.int (own_cb (q3 % 4 * 16 + q4 / 16))), (.int (5 : Int32)), (.ref dd)])) rfl rfl (hb hby own_d20_315)
    rw [own_narB] at W97
    refine own_go st97 ?_
    have V97 : Arv Z h97 dd kd .byte (7 : Int32) ((([(.int (own_cb (q0 / 4))), (.int (own_cb (q0 % 4 * 16 + q1 / 16))), (.int (own_cb (q1 % 16 * 4 + q2 / 64))), (.int (own_cb (q2 % 64)))] : List Value) ++ [Value.int (own_cb (q3 / 4))]) ++ [(.int (own_cb (q3 % 4 * 16 + q4 / 16)))]) (.int 0) := own_store1 V92 (by rw [show ((7 : Int32).toNatClampNeg = 7) from by decide]; exact Nat.le_of_ble_eq_true rfl) (own_fitsB _) W97 (show (5 : Int32).toNatClampNeg = 5 from by decide)
    have N97 := Fr.snoc X97 N92 gdd
    have sz98 : h92.size ≤ h97.size := Nat.le_of_eq (Wr.size W97).symm
    have K98 := K93.wr W97 (Or.inl (List.mem_of_getElem? (i := 0) rfl))
    show own_Rn p e below _ (T97.setTop (mkF m 316 #[.val (.ref en), .val (.ref t), .val (.int (0 : Int32)), .val (.int (5 : Int32)), .val (.ref dd), .val (.ref te), .val (.int (5 : Int32)), .val (.int (3 : Int32)), .val (.int (3 : Int32)), .val (.int (6 : Int32)), .val (.int (Int32.ofNat q3)), .val (.int (Int32.ofNat q4)), .unset, .unset, .unset, .unset] []))
    refine own_al X97 hx 318 (hb hby own_d20_316) rfl rfl rfl ?_
    refine own_il X97 hx 320 (hb hby own_d20_318) rfl rfl ?_
    refine own_ii X97 hx #[.val (.ref en), .val (.ref t), .val (.int (0 : Int32)), .val (.int (5 : Int32)), .val (.ref dd), .val (.ref te), .val (.int (5 : Int32)), .val (.int (3 : Int32)), .val (.int (3 : Int32)), .val (.int ((6 : Int32) + (1 : Int32))), .val (.int (Int32.ofNat q3)), .val (.int (Int32.ofNat q4)), .unset, .unset, .unset, .unset] 323 (hb hby own_d20_320) rfl rfl rfl ?_
    refine own_al X97 hx 325 (hb hby own_d20_323) rfl rfl rfl ?_
    refine own_il X97 hx 327 (hb hby own_d20_325) rfl rfl ?_
    refine own_ic X97 hx (2 : Int32) 328 (hb hby own_d20_327) rfl rfl ?_
    refine own_ishl X97 hx 329 (hb hby own_d20_328) rfl ?_
    refine own_bp X97 hx (63 : Int32) 331 (hb hby own_d20_329) rfl rfl ?_
    refine own_iand X97 hx 332 (hb hby own_d20_331) rfl ?_
    rw [show ((6 : Int32) + (1 : Int32)) = (7 : Int32) from by decide]
    rw [show (((Int32.ofNat q4) <<< ((2 : Int32) &&& 31)) &&& (63 : Int32)) = (Int32.ofNat (q4 % 16 * 4 + 0 / 64)) from own_t3 q4 hq4]
    have F100 : Old Z n0 h97 := (F96.wr W97 gdd)
    have F99 : Arv Z h97 te ke .char (64 : Int32) (own_T.map Value.int) (.int 0) := ZT.ext F100.2
    refine own_cal X97 hx hZ e97 F99 (Int32.ofNat (own_ct (q4 % 16 * 4 + 0 / 64))) 333 (hb hby own_d20_332) rfl (own_Tin _ (by omega)) (own_Tat _ (by omega) _) ?_
    refine own_i2b X97 hx 334 (hb hby own_d20_333) rfl ?_
    show own_Rn p e below _ (T97.setTop (mkF m 334 #[.val (.ref en), .val (.ref t), .val (.int (0 : Int32)), .val (.int (5 : Int32)), .val (.ref dd), .val (.ref te), .val (.int (5 : Int32)), .val (.int (3 : Int32)), .val (.int (3 : Int32)), .val (.int (7 : Int32)), .val (.int (Int32.ofNat q3)), .val (.int (Int32.ofNat q4)), .unset, .unset, .unset, .unset] [(.int (own_cb (q4 % 16 * 4 + 0 / 64))), (.int (6 : Int32)), (.ref dd)]))
    obtain ⟨cl101, Ar101, q101, Sz101, Nn101, Hs101, G101⟩ := id V97
    obtain ⟨T101, h101, X101, e101, W101, st101⟩ := stB X97 hx hZ e97 Ar101 (j := (6 : Int32)) (inb_of Sz101 ⟨by decide, by decide⟩) (g := (mkF m 334 #[.val (.ref en), .val (.ref t), .val (.int (0 : Int32)), .val (.int (5 : Int32)), .val (.ref dd), .val (.ref te), .val (.int (5 : Int32)), .val (.int (3 : Int32)), .val (.int (3 : Int32)), .val (.int (7 : Int32)), .val (.int (Int32.ofNat q3)), .val (.int (Int32.ofNat q4)), .unset, .unset, .unset, .unset] [(.int (own_cb (q4 % 16 * 4 + 0 / 64))), (.int (6 : Int32)), (.ref dd)])) rfl rfl (hb hby own_d20_334)
    rw [own_narB] at W101
    refine own_go st101 ?_
    have V101 : Arv Z h101 dd kd .byte (7 : Int32) (((([(.int (own_cb (q0 / 4))), (.int (own_cb (q0 % 4 * 16 + q1 / 16))), (.int (own_cb (q1 % 16 * 4 + q2 / 64))), (.int (own_cb (q2 % 64)))] : List Value) ++ [Value.int (own_cb (q3 / 4))]) ++ [Value.int (own_cb (q3 % 4 * 16 + q4 / 16))]) ++ [(.int (own_cb (q4 % 16 * 4 + 0 / 64)))]) (.int 0) := own_store1 V97 (by rw [show ((7 : Int32).toNatClampNeg = 7) from by decide]; exact Nat.le_of_ble_eq_true rfl) (own_fitsB _) W101 (show (6 : Int32).toNatClampNeg = 6 from by decide)
    have N101 := Fr.snoc X101 N97 gdd
    have sz102 : h97.size ≤ h101.size := Nat.le_of_eq (Wr.size W101).symm
    have K102 := K98.wr W101 (Or.inl (List.mem_of_getElem? (i := 0) rfl))
    show own_Rn p e below _ (T101.setTop (mkF m 335 #[.val (.ref en), .val (.ref t), .val (.int (0 : Int32)), .val (.int (5 : Int32)), .val (.ref dd), .val (.ref te), .val (.int (5 : Int32)), .val (.int (3 : Int32)), .val (.int (3 : Int32)), .val (.int (7 : Int32)), .val (.int (Int32.ofNat q3)), .val (.int (Int32.ofNat q4)), .unset, .unset, .unset, .unset] []))
    refine own_aln X101 hx 336 (hb hby own_d20_335) rfl rfl rfl ?_
    have F104 : Old Z n0 h101 := (F100.wr W101 gdd)
    have F103 : Fld Z h101 en "java/util/Base64$Encoder" "doPadding" "Z" (.int (0 : Int32)) := ZE2.ext F104.2
    refine own_gF X101 hx hZ hown (host := "") (Or.inl (hw _ (own_mi 123 rfl))) Via.refl e101 F103 339 (hb hby own_d20_336) rfl ?_
    intro T105 X105 e105
    refine own_ifY X105 hx 352 (hb hby own_d20_339) ((if0 _ _).trans (teq ((by decide : (0 : Int32) = (0 : Int32)) : (0 : Int32) = (0 : Int32))).1) (by decide) (by decide) ?_
    refine own_il X105 hx 354 (hb hby own_d20_352) rfl rfl ?_
    exact own_ret X105 (v := some (.int (7 : Int32))) (fun h => by rw [Bd.returns] at h; cases h) (fun fs hr => retI X105 hx Bd.returns (hb hby own_d20_354) hr) (by rw [e105]; exact ⟨rfl, N101, K102, V101⟩) (by decide) (by decide)
  · exact absurd hL (by simp only [List.length_cons]; omega)
theorem own_ef_rmEn (m : MethodId) (en : Addr) (t : Addr) (kt : ClassId) (bs : List Nat) (te : Addr) (ke : ClassId) : entryFrame m #[(.ref en), (.ref t)] 5 = mkF m 0 #[.val (.ref en), .val (.ref t), .unset, .unset, .unset] [] := by first | (simp [entryFrame, mkF, argsToLocals, Value.category]; done) | rfl
theorem own_d17_0 : decode jdk_2452_method_3_code 0 = .ok (.aload_n 0, 1) := by decide +kernel
theorem own_d17_1 : decode jdk_2452_method_3_code 1 = .ok (.aload_n 1, 1) := by decide +kernel
theorem own_d17_2 : decode jdk_2452_method_3_code 2 = .ok (.arraylength, 1) := by decide +kernel
theorem own_d17_3 : decode jdk_2452_method_3_code 3 = .ok (.iconst 1, 1) := by decide +kernel
theorem own_d17_4 : decode jdk_2452_method_3_code 4 = .ok (.invokevirtual 42, 3) := by decide +kernel
theorem own_pd_28IZ29I : parseMethodDescriptor "(IZ)I" = some ⟨[.int, .boolean], some .int⟩ := by decide +kernel
theorem own_d17_7 : decode jdk_2452_method_3_code 7 = .ok (.istore_n 2, 1) := by decide +kernel
theorem own_d17_8 : decode jdk_2452_method_3_code 8 = .ok (.iload_n 2, 1) := by decide +kernel
theorem own_d17_9 : decode jdk_2452_method_3_code 9 = .ok (.newarray .byte, 2) := by decide +kernel
theorem own_d17_11 : decode jdk_2452_method_3_code 11 = .ok (.astore_n 3, 1) := by decide +kernel
theorem own_d17_12 : decode jdk_2452_method_3_code 12 = .ok (.aload_n 0, 1) := by decide +kernel
theorem own_d17_13 : decode jdk_2452_method_3_code 13 = .ok (.aload_n 1, 1) := by decide +kernel
theorem own_d17_14 : decode jdk_2452_method_3_code 14 = .ok (.iconst 0, 1) := by decide +kernel
theorem own_d17_15 : decode jdk_2452_method_3_code 15 = .ok (.aload_n 1, 1) := by decide +kernel
theorem own_d17_16 : decode jdk_2452_method_3_code 16 = .ok (.arraylength, 1) := by decide +kernel
theorem own_d17_17 : decode jdk_2452_method_3_code 17 = .ok (.aload_n 3, 1) := by decide +kernel
theorem own_d17_18 : decode jdk_2452_method_3_code 18 = .ok (.invokevirtual 46, 3) := by decide +kernel
theorem own_d17_21 : decode jdk_2452_method_3_code 21 = .ok (.istore 4, 2) := by decide +kernel
theorem own_d17_23 : decode jdk_2452_method_3_code 23 = .ok (.iload 4, 2) := by decide +kernel
theorem own_d17_25 : decode jdk_2452_method_3_code 25 = .ok (.aload_n 3, 1) := by decide +kernel
theorem own_d17_26 : decode jdk_2452_method_3_code 26 = .ok (.arraylength, 1) := by decide +kernel
theorem own_d17_27 : decode jdk_2452_method_3_code 27 = .ok (.if_icmp .eq 10, 3) := by decide +kernel
theorem own_d17_37 : decode jdk_2452_method_3_code 37 = .ok (.aload_n 3, 1) := by decide +kernel
theorem own_d17_38 : decode jdk_2452_method_3_code 38 = .ok (.areturn, 1) := by decide +kernel
def Q_rmEn (Z : State) (en : Addr) (t : Addr) (kt : ClassId) (bs : List Nat) (te : Addr) (ke : ClassId) (h0 : Heap) (n0 : Nat) (vq : Option Value) (hhq : Heap) (Lq : List Loc) : Prop := ∃ (v : Addr), ∃ (kv : ClassId), vq = some (.ref v) ∧ Fr n0 Lq ∧ Keep h0 hhq [] ∧ h0.size ≤ v ∧ n0 ≤ v ∧ Arv Z hhq v kv .byte (Int32.ofNat (own_cs bs).length) (own_bs (own_cs bs)) (.int 0) ∧ Exa Z hhq v "[B"
set_option maxRecDepth 65536 in
set_option maxHeartbeats 40000000 in
theorem rmEn (l : Launch) (Z : State) (a0 : Array Value) (hw : ∀ d ∈ tables_1, d.before a0 Z = true) (ws : List Jvm.Cond) (en : Addr) (t : Addr) (kt : ClassId) (bs : List Nat) (te : Addr) (ke : ClassId) (h0 : Heap) (n0 : Nat) (Z0 : n0 ≤ h0.size) (ZE : Exa Z Z.heap en "java/util/Base64$Encoder") (ZE1 : Fld Z Z.heap en "java/util/Base64$Encoder" "isURL" "Z" (.int (1 : Int32))) (ZE2 : Fld Z Z.heap en "java/util/Base64$Encoder" "doPadding" "Z" (.int (0 : Int32))) (ZE3 : Fld Z Z.heap en "java/util/Base64$Encoder" "linemax" "I" (.int (-1 : Int32))) (OT : Sta Z Z.heap "java/util/Base64$Encoder" "toBase64URL" "[C" (.ref te)) (ZT : Arv Z Z.heap te ke .char (64 : Int32) (own_T.map Value.int) (.int 0)) (Pm6 : Arv Z h0 t kt .byte (Int32.ofNat bs.length) (own_bs (own_ub bs)) (.int 0)) (hL : (bs.length ≤ 5)) (hB : (∀ b ∈ bs, b < 256)) (X00 : Old Z n0 h0) :
    MetFree l (⟨"java/util/Base64$Encoder", "encode", "([B)[B"⟩ : MethodName) (head1 (Jvm.Cond.code (⟨"java/util/Base64$Encoder", "encode", "([B)[B"⟩ : MethodName) jdk_2452_method_3_code 5 (some (.array .byte)) :: ws) ({ frames := 2, cells := 1, slots := 7, locals := 49 } : Room)) (fun aq U => aq = #[(.ref en), (.ref t)] ∧ Z.Warmed39 U.vm ∧ U.heap = h0) (fun _ _ _ _ _ => True) (fun _ U oq U' => ∃ vq Lq, oq = .returned vq ∧ Q_rmEn Z en t kt bs te ke h0 n0 vq U'.heap Lq ∧ FrameEnd U oq U' Lq ({ frames := 2, cells := 1, slots := 7, locals := 49 } : Room).cells ({ frames := 2, cells := 1, slots := 7, locals := 49 } : Room).slots) := by
  refine MetFree.of_bodySF (plainFor_of_name own_pn_java_util_Base64_Encoder) hisR ?_
  intro p e s m args below meth c s₁ Bd hml0 hP hK
  obtain ⟨rfl, hZ, hh⟩ := hP
  have hx := Bd.exec
  have hby := Bd.bytes
  have hml : c.maxLocals = 5 := hml0
  have hown : s.vm.findClass "java/util/Base64$Encoder" = some m.cls := findClass_of_methodNamed Bd.named
  have hnm := (name_of_methodNamed Bd.named Bd.method).1
  have X0 : Stand p l e ({ frames := 2, cells := 1, slots := 7, locals := 49 } : Room) s m #[(.ref en), (.ref t)] below meth c s₁ [] 0 0 := Stand.of_body Bd
  have e0 : s₁.heap = h0 := by rw [← hh, Bd.state]; rfl
  have N0 := Fr.nil n0
  have K0 : Keep h0 h0 [] := Keep.refl _ _
  refine own_go (S' := s₁.setTop (mkF m 0 #[.val (.ref en), .val (.ref t), .unset, .unset, .unset] [])) (fun tq kq => castTop (own_ef_rmEn m en t kt bs te ke) kq) ?_
  have lt1 : @LT.lt Nat _ t h0.size := Pm6.lt
  have h7 := own_cs_len bs hB
  refine own_aln X0 hx 1 (hb hby own_d17_0) rfl rfl rfl ?_
  refine own_aln X0 hx 2 (hb hby own_d17_1) rfl rfl rfl ?_
  refine own_alen X0 hx hZ e0 Pm6 3 (hb hby own_d17_2) rfl ?_
  refine own_ic X0 hx (1 : Int32) 4 (hb hby own_d17_3) rfl rfl ?_
  have Zn2 : n0 ≤ h0.size := (Nat.le_trans Z0 (Nat.le_refl _))
  have F3 : Exa Z h0 en "java/util/Base64$Encoder" := ZE.ext X00.2
  refine own_cVW X0 hx hZ (y := (⟨"java/util/Base64$Encoder", "encodedOutLength", "(IZ)I"⟩ : MethodName)) (z := (⟨"java/util/Base64$Encoder", "encodedOutLength", "(IZ)I"⟩ : MethodName)) hown (hw _ (own_mi 118 rfl)) (own_decl (hw _ (own_mi 119 rfl)) (hw _ (own_mi 122 rfl))) (notFace_of_selects (args := #[]) (mvT hZ (hw _ (own_mi 121 rfl)))) (hw _ (own_mi 121 rfl)) (hw _ (own_mi 119 rfl)) (hw _ (own_mi 122 rfl)) (hw _ (own_mi 111 rfl)) (by decide) (rmEO l Z a0 hw [] (en) (bs) h0 n0 Zn2 ZE ZE1 ZE2 ZE3 (hL) (hB) X00) F3 e0 [(.int (Int32.ofNat bs.length)), (.int (1 : Int32))] [] rfl (by rw [hml]; rfl) (lenOf own_pd_28IZ29I rfl) rfl 0 (Nat.le_of_eq rfl) (by decide) (by decide) (by decide : 0 + 0 ≤ _) (by decide : 0 + 0 ≤ _) 7 (hb hby own_d17_4) rfl 0 0 rfl rfl ?_
  intro rv2 T2 Lc2 X2 hQ2
  obtain ⟨rfl, Nq2, eh2⟩ := hQ2
  have N2 := Fr.app N0 Nq2
  show own_Rn p e below _ (T2.setTop (mkF m 7 #[.val (.ref en), .val (.ref t), .unset, .unset, .unset] [(.int (Int32.ofNat (own_cs bs).length))]))
  refine own_isn X2 hx #[.val (.ref en), .val (.ref t), .val (.int (Int32.ofNat (own_cs bs).length)), .unset, .unset] 8 (hb hby own_d17_7) rfl rfl ?_
  refine own_iln X2 hx 9 (hb hby own_d17_8) rfl rfl ?_
  obtain ⟨T4, h4, k4, X4, e4, E4, A4, B4, st4⟩ := own_newP X2 hx hZ (hw _ (own_mi 24 rfl)) eh2 (g := (mkF m 9 #[.val (.ref en), .val (.ref t), .val (.int (Int32.ofNat (own_cs bs).length)), .unset, .unset] [(.int (Int32.ofNat (own_cs bs).length))])) rfl (hb hby own_d17_9) rfl (own_nneg (by omega)) (cap := 7) (by rw [own_clampN (by omega)]; exact h7) (by decide) (by decide) (by decide)
  obtain ⟨b4, g4⟩ : ∃ z, z = h0.size := ⟨_, rfl⟩
  rw [← g4] at A4 B4 st4
  refine own_go st4 ?_
  have sz5 : h0.size ≤ h4.size := E4.1
  have K5 := K0.ext E4
  have gn4 : n0 ≤ b4 := (Nat.le_trans (Nat.le_trans Z0 (Nat.le_refl _)) (Nat.le_of_eq g4.symm))
  have V4 : Arv Z h4 b4 k4 .byte (Int32.ofNat (own_cs bs).length) [] (.int (0 : Int32)) := Arv.new A4 (own_nneg (by omega))
  have BX4 : Exa Z h4 b4 "[B" := own_isB B4
  have lt6 : @LT.lt Nat _ b4 h4.size := BX4.lt
  show own_Rn p e below _ (T4.setTop (mkF m 11 #[.val (.ref en), .val (.ref t), .val (.int (Int32.ofNat (own_cs bs).length)), .unset, .unset] [(.ref b4)]))
  refine own_asn X4 hx #[.val (.ref en), .val (.ref t), .val (.int (Int32.ofNat (own_cs bs).length)), .val (.ref b4), .unset] 12 (hb hby own_d17_11) rfl rfl rfl ?_
  refine own_aln X4 hx 13 (hb hby own_d17_12) rfl rfl rfl ?_
  refine own_aln X4 hx 14 (hb hby own_d17_13) rfl rfl rfl ?_
  refine own_ic X4 hx (0 : Int32) 15 (hb hby own_d17_14) rfl rfl ?_
  refine own_aln X4 hx 16 (hb hby own_d17_15) rfl rfl rfl ?_
  have F7 : Arv Z h4 t kt .byte (Int32.ofNat bs.length) (own_bs (own_ub bs)) (.int 0) := (Pm6.ext E4)
  refine own_alen X4 hx hZ e4 F7 17 (hb hby own_d17_16) rfl ?_
  refine own_aln X4 hx 18 (hb hby own_d17_17) rfl rfl rfl ?_
  have ne8 : t ≠ b4 := own_nea (Or.inl (Nat.lt_of_lt_of_le lt1 (Nat.le_trans (Nat.le_refl _) (Nat.le_of_eq g4.symm))))
  have Zn9 : n0 ≤ h4.size := (Nat.le_trans Z0 sz5)
  have F10 : Old Z n0 h4 := (X00.ext E4)
  have F11 : Exa Z h4 en "java/util/Base64$Encoder" := ZE.ext F10.2
  refine own_cP X4 hx hZ (y := (⟨"java/util/Base64$Encoder", "encode0", "([BII[B)I"⟩ : MethodName)) hown (hw _ (own_mi 134 rfl)) (hw _ (own_mi 135 rfl)) (hw _ (own_mi 137 rfl)) (hw _ (own_mi 136 rfl)) (hw _ (own_mi 138 rfl)) (hw _ (own_mi 111 rfl)) (by decide) (rmE0 l Z a0 hw [] (en) (t) (kt) (bs) (te) (ke) (b4) (k4) h4 n0 Zn9 ZE ZE1 ZE2 ZE3 (OT) ZT F7 (hL) (hB) V4 gn4 (ne8) F10) F11 e4 [(.ref t), (.int (0 : Int32)), (.int (Int32.ofNat bs.length)), (.ref b4)] [] rfl (by rw [hml]; rfl) (lenOf own_pd_285bBII5bB29I rfl) rfl 0 (Nat.le_of_eq rfl) (by decide) (by decide) (by decide : 1 + 0 ≤ _) (by decide : 7 + 0 ≤ _) 21 (hb hby own_d17_18) rfl 1 7 rfl rfl ?_
  intro rv9 T9 Lc9 X9 hQ9
  obtain ⟨rfl, Nq9, Kq9, G0_9⟩ := hQ9
  have N9 := Fr.app N2 Nq9
  have sz12 : h4.size ≤ T9.heap.size := Kq9.1
  have K12 := K5.trans Kq9 (allS (Or.inr (Nat.le_trans (Nat.le_refl _) (Nat.le_of_eq g4.symm))) all0)
  show own_Rn p e below _ (T9.setTop (mkF m 21 #[.val (.ref en), .val (.ref t), .val (.int (Int32.ofNat (own_cs bs).length)), .val (.ref b4), .unset] [(.int (Int32.ofNat (own_cs bs).length))]))
  refine own_is X9 hx #[.val (.ref en), .val (.ref t), .val (.int (Int32.ofNat (own_cs bs).length)), .val (.ref b4), .val (.int (Int32.ofNat (own_cs bs).length))] 23 (hb hby own_d17_21) rfl rfl ?_
  refine own_il X9 hx 25 (hb hby own_d17_23) rfl rfl ?_
  refine own_aln X9 hx 26 (hb hby own_d17_25) rfl rfl rfl ?_
  refine own_alen X9 hx hZ rfl G0_9 27 (hb hby own_d17_26) rfl ?_
  refine own_icY X9 hx 37 (hb hby own_d17_27) (teq (rfl : (Int32.ofNat (own_cs bs).length) = (Int32.ofNat (own_cs bs).length))).1 (by decide) (by decide) ?_
  refine own_aln X9 hx 38 (hb hby own_d17_37) rfl rfl rfl ?_
  have F13 : Exa Z T9.heap b4 "[B" := (BX4.keep Kq9)
  exact own_ret X9 (v := some (.ref b4)) (fun h => by rw [Bd.returns] at h; cases h) (fun fs hr => X9.areturnOut hx rfl Bd.returns rfl (hb hby own_d17_38) hr) (⟨b4, k4, rfl, N9, K12, (Nat.le_trans (Nat.le_refl _) (Nat.le_of_eq g4.symm)), gn4, G0_9, F13⟩) (by decide) (by decide)
theorem own_ef_rmCR (m : MethodId) (t : Addr) (kt : ClassId) (cs : List Int32) : entryFrame m #[(.ref t), (.int (0 : Int32)), (.int (Int32.ofNat cs.length))] 3 = mkF m 0 #[.val (.ref t), .val (.int (0 : Int32)), .val (.int (Int32.ofNat cs.length))] [] := by first | (simp [entryFrame, mkF, argsToLocals, Value.category]; done) | rfl
theorem own_pn_java_util_Arrays : plainName "java/util/Arrays" = true := by first | (simp [plainName, overriddenIn]; done) | decide +kernel
theorem own_d26_0 : decode jdk_65_method_132_code 0 = .ok (.iload_n 1, 1) := by decide +kernel
theorem own_d26_1 : decode jdk_65_method_132_code 1 = .ok (.ifCond .ne 9, 3) := by decide +kernel
theorem own_d26_4 : decode jdk_65_method_132_code 4 = .ok (.iload_n 2, 1) := by decide +kernel
theorem own_d26_5 : decode jdk_65_method_132_code 5 = .ok (.aload_n 0, 1) := by decide +kernel
theorem own_d26_6 : decode jdk_65_method_132_code 6 = .ok (.arraylength, 1) := by decide +kernel
theorem own_d26_7 : decode jdk_65_method_132_code 7 = .ok (.if_icmp .eq 10, 3) := by decide +kernel
theorem own_d26_17 : decode jdk_65_method_132_code 17 = .ok (.aload_n 0, 1) := by decide +kernel
theorem own_d26_18 : decode jdk_65_method_132_code 18 = .ok (.invokevirtual 310, 3) := by decide +kernel
theorem own_d26_21 : decode jdk_65_method_132_code 21 = .ok (.checkcast 311, 3) := by decide +kernel
theorem own_d26_24 : decode jdk_65_method_132_code 24 = .ok (.areturn, 1) := by decide +kernel
def Q_rmCR (Z : State) (t : Addr) (kt : ClassId) (cs : List Int32) (h0 : Heap) (n0 : Nat) (vq : Option Value) (hhq : Heap) (Lq : List Loc) : Prop := ∃ (v : Addr), vq = some (.ref v) ∧ Fr n0 Lq ∧ Keep h0 hhq [] ∧ h0.size ≤ v ∧ n0 ≤ v ∧ Arv Z hhq v kt .byte (Int32.ofNat cs.length) (own_bs cs) (.int 0) ∧ Exa Z hhq v "[B"
set_option maxRecDepth 65536 in
set_option maxHeartbeats 40000000 in
theorem rmCR (l : Launch) (Z : State) (a0 : Array Value) (hw : ∀ d ∈ tables_1, d.before a0 Z = true) (ws : List Jvm.Cond) (t : Addr) (kt : ClassId) (cs : List Int32) (h0 : Heap) (n0 : Nat) (Z0 : n0 ≤ h0.size) (Pm0 : Arv Z h0 t kt .byte (Int32.ofNat cs.length) (own_bs cs) (.int 0)) (Pm1 : Exa Z h0 t "[B") (hn : (cs.length ≤ 7)) :
    MetFree l (⟨"java/util/Arrays", "copyOfRange", "([BII)[B"⟩ : MethodName) (head1 (Jvm.Cond.code (⟨"java/util/Arrays", "copyOfRange", "([BII)[B"⟩ : MethodName) jdk_65_method_132_code 3 (some (.array .byte)) :: ws) ({ frames := 1, cells := 1, slots := 7, locals := 14 } : Room)) (fun aq U => aq = #[(.ref t), (.int (0 : Int32)), (.int (Int32.ofNat cs.length))] ∧ Z.Warmed39 U.vm ∧ U.heap = h0) (fun _ _ _ _ _ => True) (fun _ U oq U' => ∃ vq Lq, oq = .returned vq ∧ Q_rmCR Z t kt cs h0 n0 vq U'.heap Lq ∧ FrameEnd U oq U' Lq ({ frames := 1, cells := 1, slots := 7, locals := 14 } : Room).cells ({ frames := 1, cells := 1, slots := 7, locals := 14 } : Room).slots) := by
  refine MetFree.of_bodySF (plainFor_of_name own_pn_java_util_Arrays) hisR ?_
  intro p e s m args below meth c s₁ Bd hml0 hP hK
  obtain ⟨rfl, hZ, hh⟩ := hP
  have hx := Bd.exec
  have hby := Bd.bytes
  have hml : c.maxLocals = 3 := hml0
  have hown : s.vm.findClass "java/util/Arrays" = some m.cls := findClass_of_methodNamed Bd.named
  have hnm := (name_of_methodNamed Bd.named Bd.method).1
  have X0 : Stand p l e ({ frames := 1, cells := 1, slots := 7, locals := 14 } : Room) s m #[(.ref t), (.int (0 : Int32)), (.int (Int32.ofNat cs.length))] below meth c s₁ [] 0 0 := Stand.of_body Bd
  have e0 : s₁.heap = h0 := by rw [← hh, Bd.state]; rfl
  have N0 := Fr.nil n0
  have K0 : Keep h0 h0 [] := Keep.refl _ _
  refine own_go (S' := s₁.setTop (mkF m 0 #[.val (.ref t), .val (.int (0 : Int32)), .val (.int (Int32.ofNat cs.length))] [])) (fun tq kq => castTop (own_ef_rmCR m t kt cs) kq) ?_
  have lt1 : @LT.lt Nat _ t h0.size := Pm0.lt
  refine own_iln X0 hx 1 (hb hby own_d26_0) rfl rfl ?_
  refine own_ifN X0 hx 4 (hb hby own_d26_1) rfl ((if0 _ _).trans (teq ((by decide : (0 : Int32) = (0 : Int32)) : (0 : Int32) = (0 : Int32))).2) ?_
  refine own_iln X0 hx 5 (hb hby own_d26_4) rfl rfl ?_
  refine own_aln X0 hx 6 (hb hby own_d26_5) rfl rfl rfl ?_
  refine own_alen X0 hx hZ e0 Pm0 7 (hb hby own_d26_6) rfl ?_
  refine own_icY X0 hx 17 (hb hby own_d26_7) (teq (rfl : (Int32.ofNat cs.length) = (Int32.ofNat cs.length))).1 (by decide) (by decide) ?_
  refine own_aln X0 hx 18 (hb hby own_d26_17) rfl rfl rfl ?_
  obtain ⟨T2, h2, X2, e2, E2, R2, A2, st2⟩ := cloneH X0 hx hZ hown (hw _ (own_mi 166 rfl)) (hw _ (own_mi 75 rfl)) (hw _ (own_mi 79 rfl)) (hw _ (own_mi 77 rfl)) (hw _ (own_mi 78 rfl)) (hw _ (own_mi 80 rfl)) e0 Pm0.arh Pm1 (g := (mkF m 18 #[.val (.ref t), .val (.int (0 : Int32)), .val (.int (Int32.ofNat cs.length))] [(.ref t)])) rfl (by rw [hml]; rfl) rfl (hb hby own_d26_18) (by decide) (W := 0) (cap := 7) (by show 2 * 0 + _ ≤ _; exact Nat.le_of_eq rfl) (by decide) (by rw [own_clampN (by omega)]; exact hn) (by decide) (by decide)
  obtain ⟨b2, g2⟩ : ∃ z, z = h0.size := ⟨_, rfl⟩
  rw [← g2] at R2 A2 st2
  refine own_go st2 ?_
  have sz3 : h0.size ≤ h2.size := E2.1
  have K3 := K0.ext E2
  have gn2 : n0 ≤ b2 := (Nat.le_trans (Nat.le_trans Z0 (Nat.le_refl _)) (Nat.le_of_eq g2.symm))
  have V2 := own_arvH R2
  have lt4 : @LT.lt Nat _ b2 h2.size := A2.lt
  show own_Rn p e below _ (T2.setTop (mkF m 21 #[.val (.ref t), .val (.int (0 : Int32)), .val (.int (Int32.ofNat cs.length))] [(.ref b2)]))
  obtain ⟨T5, X5, e5, st5⟩ := castY X2 hx hZ hown (hw _ (own_mi 167 rfl)) e2 (Ins.self A2) (g := (mkF m 21 #[.val (.ref t), .val (.int (0 : Int32)), .val (.int (Int32.ofNat cs.length))] [(.ref b2)])) rfl rfl (hb hby own_d26_21)
  refine own_go st5 ?_
  show own_Rn p e below _ (T5.setTop (mkF m 24 #[.val (.ref t), .val (.int (0 : Int32)), .val (.int (Int32.ofNat cs.length))] [(.ref b2)]))
  exact own_ret X5 (v := some (.ref b2)) (fun h => by rw [Bd.returns] at h; cases h) (fun fs hr => X5.areturnOut hx rfl Bd.returns rfl (hb hby own_d26_24) hr) (by rw [e5]; exact ⟨b2, rfl, N0, K3, (Nat.le_trans (Nat.le_refl _) (Nat.le_of_eq g2.symm)), gn2, V2, A2⟩) (by decide) (by decide)
theorem own_ef_rmPFn (m : MethodId) (nn : Nat) : entryFrame m #[(.int (0 : Int32)), (.int (Int32.ofNat nn)), (.int (Int32.ofNat nn)), .null] 4 = mkF m 0 #[.val (.int (0 : Int32)), .val (.int (Int32.ofNat nn)), .val (.int (Int32.ofNat nn)), .val .null] [] := by first | (simp [entryFrame, mkF, argsToLocals, Value.category]; done) | rfl
theorem own_pn_jdk_internal_util_Preconditions : plainName "jdk/internal/util/Preconditions" = true := by first | (simp [plainName, overriddenIn]; done) | decide +kernel
theorem own_d25_0 : decode jdk_41_method_13_code 0 = .ok (.iload_n 2, 1) := by decide +kernel
theorem own_d25_1 : decode jdk_41_method_13_code 1 = .ok (.iload_n 0, 1) := by decide +kernel
theorem own_d25_2 : decode jdk_41_method_13_code 2 = .ok (.ior, 1) := by decide +kernel
theorem own_d25_3 : decode jdk_41_method_13_code 3 = .ok (.iload_n 1, 1) := by decide +kernel
theorem own_d25_4 : decode jdk_41_method_13_code 4 = .ok (.ior, 1) := by decide +kernel
theorem own_d25_5 : decode jdk_41_method_13_code 5 = .ok (.ifCond .lt 10, 3) := by decide +kernel
theorem own_d25_8 : decode jdk_41_method_13_code 8 = .ok (.iload_n 1, 1) := by decide +kernel
theorem own_d25_9 : decode jdk_41_method_13_code 9 = .ok (.iload_n 2, 1) := by decide +kernel
theorem own_d25_10 : decode jdk_41_method_13_code 10 = .ok (.iload_n 0, 1) := by decide +kernel
theorem own_d25_11 : decode jdk_41_method_13_code 11 = .ok (.isub, 1) := by decide +kernel
theorem own_d25_12 : decode jdk_41_method_13_code 12 = .ok (.if_icmp .le 11, 3) := by decide +kernel
theorem own_d25_23 : decode jdk_41_method_13_code 23 = .ok (.iload_n 0, 1) := by decide +kernel
theorem own_d25_24 : decode jdk_41_method_13_code 24 = .ok (.ireturn, 1) := by decide +kernel
def Q_rmPFn (Z : State) (nn : Nat) (h0 : Heap) (n0 : Nat) (vq : Option Value) (hhq : Heap) (Lq : List Loc) : Prop := vq = some (.int (0 : Int32)) ∧ Fr n0 Lq ∧ hhq = h0
set_option maxRecDepth 65536 in
set_option maxHeartbeats 40000000 in
theorem rmPFn (l : Launch) (Z : State) (a0 : Array Value) (hw : ∀ d ∈ tables_1, d.before a0 Z = true) (ws : List Jvm.Cond) (nn : Nat) (h0 : Heap) (n0 : Nat) (Z0 : n0 ≤ h0.size) (hn : (nn ≤ 7)) :
    MetFree l (⟨"jdk/internal/util/Preconditions", "checkFromIndexSize", "(IIILjava/util/function/BiFunction;)I"⟩ : MethodName) (head1 (Jvm.Cond.code (⟨"jdk/internal/util/Preconditions", "checkFromIndexSize", "(IIILjava/util/function/BiFunction;)I"⟩ : MethodName) jdk_41_method_13_code 4 (some .int) :: ws) ({ frames := 0, cells := 0, slots := 0, locals := 0 } : Room)) (fun aq U => aq = #[(.int (0 : Int32)), (.int (Int32.ofNat nn)), (.int (Int32.ofNat nn)), .null] ∧ Z.Warmed39 U.vm ∧ U.heap = h0) (fun _ _ _ _ _ => True) (fun _ U oq U' => ∃ vq Lq, oq = .returned vq ∧ Q_rmPFn Z nn h0 n0 vq U'.heap Lq ∧ FrameEnd U oq U' Lq ({ frames := 0, cells := 0, slots := 0, locals := 0 } : Room).cells ({ frames := 0, cells := 0, slots := 0, locals := 0 } : Room).slots) := by
  refine MetFree.of_bodySF (plainFor_of_name own_pn_jdk_internal_util_Preconditions) hisR ?_
  intro p e s m args below meth c s₁ Bd hml0 hP hK
  obtain ⟨rfl, hZ, hh⟩ := hP
  have hx := Bd.exec
  have hby := Bd.bytes
  have hml : c.maxLocals = 4 := hml0
  have hown : s.vm.findClass "jdk/internal/util/Preconditions" = some m.cls := findClass_of_methodNamed Bd.named
  have hnm := (name_of_methodNamed Bd.named Bd.method).1
  have X0 : Stand p l e ({ frames := 0, cells := 0, slots := 0, locals := 0 } : Room) s m #[(.int (0 : Int32)), (.int (Int32.ofNat nn)), (.int (Int32.ofNat nn)), .null] below meth c s₁ [] 0 0 := Stand.of_body Bd
  have e0 : s₁.heap = h0 := by rw [← hh, Bd.state]; rfl
  have N0 := Fr.nil n0
  have K0 : Keep h0 h0 [] := Keep.refl _ _
  refine own_go (S' := s₁.setTop (mkF m 0 #[.val (.int (0 : Int32)), .val (.int (Int32.ofNat nn)), .val (.int (Int32.ofNat nn)), .val .null] [])) (fun tq kq => castTop (own_ef_rmPFn m nn) kq) ?_
  refine own_iln X0 hx 1 (hb hby own_d25_0) rfl rfl ?_
  refine own_iln X0 hx 2 (hb hby own_d25_1) rfl rfl ?_
  refine own_ior X0 hx 3 (hb hby own_d25_2) rfl ?_
  refine own_iln X0 hx 4 (hb hby own_d25_3) rfl rfl ?_
  refine own_ior X0 hx 5 (hb hby own_d25_4) rfl ?_
  refine own_ifN X0 hx 8 (hb hby own_d25_5) rfl ((if0 _ _).trans (flt (own_ckneg nn hn : ¬ ((((Int32.ofNat nn) ||| (0 : Int32)) ||| (Int32.ofNat nn)) < (0 : Int32)))).1) ?_
  refine own_iln X0 hx 9 (hb hby own_d25_8) rfl rfl ?_
  refine own_iln X0 hx 10 (hb hby own_d25_9) rfl rfl ?_
  refine own_iln X0 hx 11 (hb hby own_d25_10) rfl rfl ?_
  refine own_isub X0 hx 12 (hb hby own_d25_11) rfl ?_
  refine own_icY X0 hx 23 (hb hby own_d25_12) (flt (own_cksub nn : ¬ (((Int32.ofNat nn) - (0 : Int32)) < (Int32.ofNat nn)))).2.2.2 (by decide) (by decide) ?_
  refine own_iln X0 hx 24 (hb hby own_d25_23) rfl rfl ?_
  exact own_ret X0 (v := some (.int (0 : Int32))) (fun h => by rw [Bd.returns] at h; cases h) (fun fs hr => retI X0 hx Bd.returns (hb hby own_d25_24) hr) (by rw [e0]; exact ⟨rfl, N0, rfl⟩) (by decide) (by decide)
theorem own_ef_rmPFr (m : MethodId) (nn : Nat) (ga : Addr) : entryFrame m #[(.int (0 : Int32)), (.int (Int32.ofNat nn)), (.int (Int32.ofNat nn)), (.ref ga)] 4 = mkF m 0 #[.val (.int (0 : Int32)), .val (.int (Int32.ofNat nn)), .val (.int (Int32.ofNat nn)), .val (.ref ga)] [] := by first | (simp [entryFrame, mkF, argsToLocals, Value.category]; done) | rfl
def Q_rmPFr (Z : State) (nn : Nat) (ga : Addr) (h0 : Heap) (n0 : Nat) (vq : Option Value) (hhq : Heap) (Lq : List Loc) : Prop := vq = some (.int (0 : Int32)) ∧ Fr n0 Lq ∧ hhq = h0
set_option maxRecDepth 65536 in
set_option maxHeartbeats 40000000 in
theorem rmPFr (l : Launch) (Z : State) (a0 : Array Value) (hw : ∀ d ∈ tables_1, d.before a0 Z = true) (ws : List Jvm.Cond) (nn : Nat) (ga : Addr) (h0 : Heap) (n0 : Nat) (Z0 : n0 ≤ h0.size) (hn : (nn ≤ 7)) :
    MetFree l (⟨"jdk/internal/util/Preconditions", "checkFromIndexSize", "(IIILjava/util/function/BiFunction;)I"⟩ : MethodName) (head1 (Jvm.Cond.code (⟨"jdk/internal/util/Preconditions", "checkFromIndexSize", "(IIILjava/util/function/BiFunction;)I"⟩ : MethodName) jdk_41_method_13_code 4 (some .int) :: ws) ({ frames := 0, cells := 0, slots := 0, locals := 0 } : Room)) (fun aq U => aq = #[(.int (0 : Int32)), (.int (Int32.ofNat nn)), (.int (Int32.ofNat nn)), (.ref ga)] ∧ Z.Warmed39 U.vm ∧ U.heap = h0) (fun _ _ _ _ _ => True) (fun _ U oq U' => ∃ vq Lq, oq = .returned vq ∧ Q_rmPFr Z nn ga h0 n0 vq U'.heap Lq ∧ FrameEnd U oq U' Lq ({ frames := 0, cells := 0, slots := 0, locals := 0 } : Room).cells ({ frames := 0, cells := 0, slots := 0, locals := 0 } : Room).slots) := by
  refine MetFree.of_bodySF (plainFor_of_name own_pn_jdk_internal_util_Preconditions) hisR ?_
  intro p e s m args below meth c s₁ Bd hml0 hP hK
  obtain ⟨rfl, hZ, hh⟩ := hP
  have hx := Bd.exec
  have hby := Bd.bytes
  have hml : c.maxLocals = 4 := hml0
  have hown : s.vm.findClass "jdk/internal/util/Preconditions" = some m.cls := findClass_of_methodNamed Bd.named
  have hnm := (name_of_methodNamed Bd.named Bd.method).1
  have X0 : Stand p l e ({ frames := 0, cells := 0, slots := 0, locals := 0 } : Room) s m #[(.int (0 : Int32)), (.int (Int32.ofNat nn)), (.int (Int32.ofNat nn)), (.ref ga)] below meth c s₁ [] 0 0 := Stand.of_body Bd
  have e0 : s₁.heap = h0 := by rw [← hh, Bd.state]; rfl
  have N0 := Fr.nil n0
  have K0 : Keep h0 h0 [] := Keep.refl _ _
  refine own_go (S' := s₁.setTop (mkF m 0 #[.val (.int (0 : Int32)), .val (.int (Int32.ofNat nn)), .val (.int (Int32.ofNat nn)), .val (.ref ga)] [])) (fun tq kq => castTop (own_ef_rmPFr m nn ga) kq) ?_
  refine own_iln X0 hx 1 (hb hby own_d25_0) rfl rfl ?_
  refine own_iln X0 hx 2 (hb hby own_d25_1) rfl rfl ?_
  refine own_ior X0 hx 3 (hb hby own_d25_2) rfl ?_
  refine own_iln X0 hx 4 (hb hby own_d25_3) rfl rfl ?_
  refine own_ior X0 hx 5 (hb hby own_d25_4) rfl ?_
  refine own_ifN X0 hx 8 (hb hby own_d25_5) rfl ((if0 _ _).trans (flt (own_ckneg nn hn : ¬ ((((Int32.ofNat nn) ||| (0 : Int32)) ||| (Int32.ofNat nn)) < (0 : Int32)))).1) ?_
  refine own_iln X0 hx 9 (hb hby own_d25_8) rfl rfl ?_
  refine own_iln X0 hx 10 (hb hby own_d25_9) rfl rfl ?_
  refine own_iln X0 hx 11 (hb hby own_d25_10) rfl rfl ?_
  refine own_isub X0 hx 12 (hb hby own_d25_11) rfl ?_
  refine own_icY X0 hx 23 (hb hby own_d25_12) (flt (own_cksub nn : ¬ (((Int32.ofNat nn) - (0 : Int32)) < (Int32.ofNat nn)))).2.2.2 (by decide) (by decide) ?_
  refine own_iln X0 hx 24 (hb hby own_d25_23) rfl rfl ?_
  exact own_ret X0 (v := some (.int (0 : Int32))) (fun h => by rw [Bd.returns] at h; cases h) (fun fs hr => retI X0 hx Bd.returns (hb hby own_d25_24) hr) (by rw [e0]; exact ⟨rfl, N0, rfl⟩) (by decide) (by decide)
theorem own_ef_rmCB (m : MethodId) (nn : Nat) (G3 : Value) : entryFrame m #[(.int (0 : Int32)), (.int (Int32.ofNat nn)), (.int (Int32.ofNat nn))] 3 = mkF m 0 #[.val (.int (0 : Int32)), .val (.int (Int32.ofNat nn)), .val (.int (Int32.ofNat nn))] [] := by first | (simp [entryFrame, mkF, argsToLocals, Value.category]; done) | rfl
theorem own_d24_0 : decode jdk_42_method_157_code 0 = .ok (.iload_n 0, 1) := by decide +kernel
theorem own_d24_1 : decode jdk_42_method_157_code 1 = .ok (.iload_n 1, 1) := by decide +kernel
theorem own_d24_2 : decode jdk_42_method_157_code 2 = .ok (.iload_n 2, 1) := by decide +kernel
theorem own_d24_3 : decode jdk_42_method_157_code 3 = .ok (.getstatic 1053, 3) := by decide +kernel
theorem own_d24_6 : decode jdk_42_method_157_code 6 = .ok (.invokestatic 1065, 3) := by decide +kernel
theorem own_pd_28IIILjava2futil2ffunction2fBiFunction3b29I : parseMethodDescriptor "(IIILjava/util/function/BiFunction;)I" = some ⟨[.int, .int, .int, (.object "java/util/function/BiFunction")], some .int⟩ := by decide +kernel
theorem own_d24_9 : decode jdk_42_method_157_code 9 = .ok (.ireturn, 1) := by decide +kernel
def Q_rmCB (Z : State) (nn : Nat) (G3 : Value) (h0 : Heap) (n0 : Nat) (vq : Option Value) (hhq : Heap) (Lq : List Loc) : Prop := vq = some (.int (0 : Int32)) ∧ Fr n0 Lq ∧ hhq = h0
set_option maxRecDepth 65536 in
set_option maxHeartbeats 40000000 in
theorem rmCB (l : Launch) (Z : State) (a0 : Array Value) (hw : ∀ d ∈ tables_1, d.before a0 Z = true) (ws : List Jvm.Cond) (nn : Nat) (G3 : Value) (h0 : Heap) (n0 : Nat) (Z0 : n0 ≤ h0.size) (hn : (nn ≤ 7)) (O4 : Sta Z Z.heap "jdk/internal/util/Preconditions" "SIOOBE_FORMATTER" "Ljava/util/function/BiFunction;" G3) (hG3 : (G3 = .null ∨ ∃ ga, G3 = .ref ga)) (X00 : Old Z n0 h0) :
    MetFree l (⟨"java/lang/String", "checkBoundsOffCount", "(III)I"⟩ : MethodName) (head1 (Jvm.Cond.code (⟨"java/lang/String", "checkBoundsOffCount", "(III)I"⟩ : MethodName) jdk_42_method_157_code 3 (some .int) :: ws) ({ frames := 1, cells := 0, slots := 0, locals := 15 } : Room)) (fun aq U => aq = #[(.int (0 : Int32)), (.int (Int32.ofNat nn)), (.int (Int32.ofNat nn))] ∧ Z.Warmed39 U.vm ∧ U.heap = h0) (fun _ _ _ _ _ => True) (fun _ U oq U' => ∃ vq Lq, oq = .returned vq ∧ Q_rmCB Z nn G3 h0 n0 vq U'.heap Lq ∧ FrameEnd U oq U' Lq ({ frames := 1, cells := 0, slots := 0, locals := 15 } : Room).cells ({ frames := 1, cells := 0, slots := 0, locals := 15 } : Room).slots) := by
  refine MetFree.of_bodySF (plainFor_of_name own_pn_java_lang_String) hisR ?_
  intro p e s m args below meth c s₁ Bd hml0 hP hK
  obtain ⟨rfl, hZ, hh⟩ := hP
  have hx := Bd.exec
  have hby := Bd.bytes
  have hml : c.maxLocals = 3 := hml0
  have hown : s.vm.findClass "java/lang/String" = some m.cls := findClass_of_methodNamed Bd.named
  have hnm := (name_of_methodNamed Bd.named Bd.method).1
  have X0 : Stand p l e ({ frames := 1, cells := 0, slots := 0, locals := 15 } : Room) s m #[(.int (0 : Int32)), (.int (Int32.ofNat nn)), (.int (Int32.ofNat nn))] below meth c s₁ [] 0 0 := Stand.of_body Bd
  have e0 : s₁.heap = h0 := by rw [← hh, Bd.state]; rfl
  have N0 := Fr.nil n0
  have K0 : Keep h0 h0 [] := Keep.refl _ _
  refine own_go (S' := s₁.setTop (mkF m 0 #[.val (.int (0 : Int32)), .val (.int (Int32.ofNat nn)), .val (.int (Int32.ofNat nn))] [])) (fun tq kq => castTop (own_ef_rmCB m nn G3) kq) ?_
  refine own_iln X0 hx 1 (hb hby own_d24_0) rfl rfl ?_
  refine own_iln X0 hx 2 (hb hby own_d24_1) rfl rfl ?_
  refine own_iln X0 hx 3 (hb hby own_d24_2) rfl rfl ?_
  refine own_gS X0 hx hZ hown (host := "") (Or.inl (hw _ (own_mi 157 rfl))) Via.refl e0 (O4.ext X00.2) 6 (hb hby own_d24_3) rfl ?_
  intro T1 X1 e1
  rcases hG3 with rfl | ⟨ga, rfl⟩
  · skip
    show own_Rn p e below _ (T1.setTop (mkF m 6 #[.val (.int (0 : Int32)), .val (.int (Int32.ofNat nn)), .val (.int (Int32.ofNat nn))] [.null, (.int (Int32.ofNat nn)), (.int (Int32.ofNat nn)), (.int (0 : Int32))]))
    have Zn2 : n0 ≤ h0.size := (Nat.le_trans Z0 (Nat.le_refl _))
    refine own_cS X1 hx hZ (y := (⟨"jdk/internal/util/Preconditions", "checkFromIndexSize", "(IIILjava/util/function/BiFunction;)I"⟩ : MethodName)) hown (hw _ (own_mi 159 rfl)) (hw _ (own_mi 160 rfl)) (hw _ (own_mi 158 rfl)) (hw _ (own_mi 161 rfl)) (by decide) (rmPFn l Z a0 hw [] (nn) h0 n0 Zn2 (hn)) e1 [(.int (0 : Int32)), (.int (Int32.ofNat nn)), (.int (Int32.ofNat nn)), .null] [] rfl (by rw [hml]; rfl) (lenOf own_pd_28IIILjava2futil2ffunction2fBiFunction3b29I rfl) rfl 0 (Nat.le_of_eq rfl) (by decide) (by decide) (by decide : 0 + 0 ≤ _) (by decide : 0 + 0 ≤ _) 9 (hb hby own_d24_6) rfl 0 0 rfl rfl ?_
    intro rv2 T2 Lc2 X2 hQ2
    obtain ⟨rfl, Nq2, eh2⟩ := hQ2
    have N2 := Fr.app N0 Nq2
    show own_Rn p e below _ (T2.setTop (mkF m 9 #[.val (.int (0 : Int32)), .val (.int (Int32.ofNat nn)), .val (.int (Int32.ofNat nn))] [(.int (0 : Int32))]))
    exact own_ret X2 (v := some (.int (0 : Int32))) (fun h => by rw [Bd.returns] at h; cases h) (fun fs hr => retI X2 hx Bd.returns (hb hby own_d24_9) hr) (by rw [eh2]; exact ⟨rfl, N2, rfl⟩) (by decide) (by decide)
  · skip
    show own_Rn p e below _ (T1.setTop (mkF m 6 #[.val (.int (0 : Int32)), .val (.int (Int32.ofNat nn)), .val (.int (Int32.ofNat nn))] [(.ref ga), (.int (Int32.ofNat nn)), (.int (Int32.ofNat nn)), (.int (0 : Int32))]))
    have Zn3 : n0 ≤ h0.size := (Nat.le_trans Z0 (Nat.le_refl _))
    refine own_cS X1 hx hZ (y := (⟨"jdk/internal/util/Preconditions", "checkFromIndexSize", "(IIILjava/util/function/BiFunction;)I"⟩ : MethodName)) hown (hw _ (own_mi 159 rfl)) (hw _ (own_mi 160 rfl)) (hw _ (own_mi 158 rfl)) (hw _ (own_mi 161 rfl)) (by decide) (rmPFr l Z a0 hw [] (nn) (ga) h0 n0 Zn3 (hn)) e1 [(.int (0 : Int32)), (.int (Int32.ofNat nn)), (.int (Int32.ofNat nn)), (.ref ga)] [] rfl (by rw [hml]; rfl) (lenOf own_pd_28IIILjava2futil2ffunction2fBiFunction3b29I rfl) rfl 0 (Nat.le_of_eq rfl) (by decide) (by decide) (by decide : 0 + 0 ≤ _) (by decide : 0 + 0 ≤ _) 9 (hb hby own_d24_6) rfl 0 0 rfl rfl ?_
    intro rv3 T3 Lc3 X3 hQ3
    obtain ⟨rfl, Nq3, eh3⟩ := hQ3
    have N3 := Fr.app N0 Nq3
    show own_Rn p e below _ (T3.setTop (mkF m 9 #[.val (.int (0 : Int32)), .val (.int (Int32.ofNat nn)), .val (.int (Int32.ofNat nn))] [(.int (0 : Int32))]))
    exact own_ret X3 (v := some (.int (0 : Int32))) (fun h => by rw [Bd.returns] at h; cases h) (fun fs hr => retI X3 hx Bd.returns (hb hby own_d24_9) hr) (by rw [eh3]; exact ⟨rfl, N3, rfl⟩) (by decide) (by decide)
theorem own_ef_rmSB (m : MethodId) (x : Addr) (tv : Addr) (kv : ClassId) (cs : List Int32) (G1 : Int32) (G3 : Value) : entryFrame m #[(.ref x), (.ref tv), (.int (0 : Int32)), (.int (0 : Int32)), (.int (Int32.ofNat cs.length))] 7 = mkF m 0 #[.val (.ref x), .val (.ref tv), .val (.int (0 : Int32)), .val (.int (0 : Int32)), .val (.int (Int32.ofNat cs.length)), .unset, .unset] [] := by first | (simp [entryFrame, mkF, argsToLocals, Value.category]; done) | rfl
theorem own_d23_0 : decode jdk_42_method_7_code 0 = .ok (.aload_n 0, 1) := by decide +kernel
theorem own_d23_1 : decode jdk_42_method_7_code 1 = .ok (.invokespecial 1, 3) := by decide +kernel
theorem own_d23_4 : decode jdk_42_method_7_code 4 = .ok (.iload_n 3, 1) := by decide +kernel
theorem own_d23_5 : decode jdk_42_method_7_code 5 = .ok (.iload 4, 2) := by decide +kernel
theorem own_d23_7 : decode jdk_42_method_7_code 7 = .ok (.aload_n 1, 1) := by decide +kernel
theorem own_d23_8 : decode jdk_42_method_7_code 8 = .ok (.arraylength, 1) := by decide +kernel
theorem own_d23_9 : decode jdk_42_method_7_code 9 = .ok (.invokestatic 34, 3) := by decide +kernel
theorem own_pd_28III29I : parseMethodDescriptor "(III)I" = some ⟨[.int, .int, .int], some .int⟩ := by decide +kernel
theorem own_d23_12 : decode jdk_42_method_7_code 12 = .ok (.pop, 1) := by decide +kernel
theorem own_d23_13 : decode jdk_42_method_7_code 13 = .ok (.iload 4, 2) := by decide +kernel
theorem own_d23_15 : decode jdk_42_method_7_code 15 = .ok (.ifCond .ne 22, 3) := by decide +kernel
theorem own_d23_18 : decode jdk_42_method_7_code 18 = .ok (.aload_n 0, 1) := by decide +kernel
theorem own_d23_19 : decode jdk_42_method_7_code 19 = .ok (.ldc 7, 2) := by decide +kernel
theorem own_d23_21 : decode jdk_42_method_7_code 21 = .ok (.getfield 9, 3) := by decide +kernel
theorem own_d23_24 : decode jdk_42_method_7_code 24 = .ok (.putfield 9, 3) := by decide +kernel
theorem own_d23_27 : decode jdk_42_method_7_code 27 = .ok (.aload_n 0, 1) := by decide +kernel
theorem own_d23_28 : decode jdk_42_method_7_code 28 = .ok (.ldc 7, 2) := by decide +kernel
theorem own_d23_30 : decode jdk_42_method_7_code 30 = .ok (.getfield 15, 3) := by decide +kernel
theorem own_d23_33 : decode jdk_42_method_7_code 33 = .ok (.putfield 15, 3) := by decide +kernel
theorem own_d23_36 : decode jdk_42_method_7_code 36 = .ok (.return_, 1) := by decide +kernel
theorem own_d23_37 : decode jdk_42_method_7_code 37 = .ok (.getstatic 38, 3) := by decide +kernel
theorem own_d23_40 : decode jdk_42_method_7_code 40 = .ok (.ifCond .eq 29, 3) := by decide +kernel
theorem own_d23_43 : decode jdk_42_method_7_code 43 = .ok (.iload_n 2, 1) := by decide +kernel
theorem own_d23_44 : decode jdk_42_method_7_code 44 = .ok (.i2b, 1) := by decide +kernel
theorem own_d23_45 : decode jdk_42_method_7_code 45 = .ok (.ifCond .ne 24, 3) := by decide +kernel
theorem own_d23_48 : decode jdk_42_method_7_code 48 = .ok (.aload_n 0, 1) := by decide +kernel
theorem own_d23_49 : decode jdk_42_method_7_code 49 = .ok (.aload_n 1, 1) := by decide +kernel
theorem own_d23_50 : decode jdk_42_method_7_code 50 = .ok (.iload_n 3, 1) := by decide +kernel
theorem own_d23_51 : decode jdk_42_method_7_code 51 = .ok (.iload_n 3, 1) := by decide +kernel
theorem own_d23_52 : decode jdk_42_method_7_code 52 = .ok (.iload 4, 2) := by decide +kernel
theorem own_d23_54 : decode jdk_42_method_7_code 54 = .ok (.iadd, 1) := by decide +kernel
theorem own_d23_55 : decode jdk_42_method_7_code 55 = .ok (.invokestatic 54, 3) := by decide +kernel
theorem own_pd_285bBII295bB : parseMethodDescriptor "([BII)[B" = some ⟨[(.array .byte), .int, .int], some (.array .byte)⟩ := by decide +kernel
theorem own_d23_58 : decode jdk_42_method_7_code 58 = .ok (.putfield 9, 3) := by decide +kernel
theorem own_d23_61 : decode jdk_42_method_7_code 61 = .ok (.aload_n 0, 1) := by decide +kernel
theorem own_d23_62 : decode jdk_42_method_7_code 62 = .ok (.iconst 0, 1) := by decide +kernel
theorem own_d23_63 : decode jdk_42_method_7_code 63 = .ok (.putfield 15, 3) := by decide +kernel
theorem own_d23_66 : decode jdk_42_method_7_code 66 = .ok (.goto 61, 3) := by decide +kernel
theorem own_d23_127 : decode jdk_42_method_7_code 127 = .ok (.return_, 1) := by decide +kernel
def Q_rmSB (Z : State) (x : Addr) (tv : Addr) (kv : ClassId) (cs : List Int32) (G1 : Int32) (G3 : Value) (h0 : Heap) (n0 : Nat) (vq : Option Value) (hhq : Heap) (Lq : List Loc) : Prop := ∃ (t : Addr), ∃ (kt : ClassId), vq = none ∧ Fr n0 Lq ∧ Keep h0 hhq [x] ∧ Fld Z hhq x "java/lang/String" "value" "[B" (.ref t) ∧ Fld Z hhq x "java/lang/String" "coder" "B" (.int (0 : Int32)) ∧ Arv Z hhq t kt .byte (Int32.ofNat cs.length) (own_bs cs) (.int 0)
set_option maxRecDepth 65536 in
set_option maxHeartbeats 40000000 in
theorem rmSB (l : Launch) (Z : State) (a0 : Array Value) (hw : ∀ d ∈ tables_1, d.before a0 Z = true) (ws : List Jvm.Cond) (x : Addr) (tv : Addr) (kv : ClassId) (cs : List Int32) (G1 : Int32) (G3 : Value) (h0 : Heap) (n0 : Nat) (Z0 : n0 ≤ h0.size) (hEL : EW Z a0 consts_1) (Pm0 : Exa Z h0 x "java/lang/String") (Pm1 : Fld Z h0 x "java/lang/String" "value" "[B" .null) (Pm2 : Fld Z h0 x "java/lang/String" "coder" "B" (.int (0 : Int32))) (Pm3 : n0 ≤ x) (Pm4 : Arv Z h0 tv kv .byte (Int32.ofNat cs.length) (own_bs cs) (.int 0)) (Pm5 : Exa Z h0 tv "[B") (hn : (cs.length ≤ 7)) (O4 : Sta Z Z.heap "jdk/internal/util/Preconditions" "SIOOBE_FORMATTER" "Ljava/util/function/BiFunction;" G3) (hG3 : (G3 = .null ∨ ∃ ga, G3 = .ref ga)) (O2 : Sta Z Z.heap "java/lang/String" "COMPACT_STRINGS" "Z" (.int G1)) (P5 : (¬ (G1 = (0 : Int32)))) (X00 : Old Z n0 h0) :
    MetFree l (⟨"java/lang/String", "<init>", "([BIII)V"⟩ : MethodName) (head1 (Jvm.Cond.code (⟨"java/lang/String", "<init>", "([BIII)V"⟩ : MethodName) jdk_42_method_7_code 7 none :: ws) ({ frames := 2, cells := 4, slots := 8, locals := 29 } : Room)) (fun aq U => aq = #[(.ref x), (.ref tv), (.int (0 : Int32)), (.int (0 : Int32)), (.int (Int32.ofNat cs.length))] ∧ Z.Warmed39 U.vm ∧ U.heap = h0 ∧ CHv Z consts_1 U.vm h0 ∧ ∀ ax ∈ ([x] : List Addr), Safe Z consts_1 U.vm h0 ax) (fun _ _ _ _ _ => True) (fun _ U oq U' => ∃ vq Lq, oq = .returned vq ∧ Q_rmSB Z x tv kv cs G1 G3 h0 n0 vq U'.heap Lq ∧ CHr Z consts_1 U.vm U.heap U'.vm U'.heap ∧ ReturnedEndW U oq U' Lq ({ frames := 2, cells := 4, slots := 8, locals := 29 } : Room).cells ({ frames := 2, cells := 4, slots := 8, locals := 29 } : Room).slots) := by
  refine MetFree.of_bodySF (plainFor_of_name own_pn_java_lang_String) hisR ?_
  intro p e s m args below meth c s₁ Bd hml0 hP hK
  obtain ⟨rfl, hZ, hh, hH, hSf⟩ := hP
  have hx := Bd.exec
  have hby := Bd.bytes
  have hml : c.maxLocals = 7 := hml0
  have hown : s.vm.findClass "java/lang/String" = some m.cls := findClass_of_methodNamed Bd.named
  have hnm := (name_of_methodNamed Bd.named Bd.method).1
  have X0 : Stand p l e ({ frames := 2, cells := 4, slots := 8, locals := 29 } : Room) (s.setVm s.vm) m #[(.ref x), (.ref tv), (.int (0 : Int32)), (.int (0 : Int32)), (.int (Int32.ofNat cs.length))] below meth c s₁ [] 0 0 := Stand.of_body Bd
  have e0 : s₁.heap = h0 := by rw [← hh, Bd.state]; rfl
  have N0 := Fr.nil n0
  have K0 : Keep h0 h0 [x] := Keep.refl _ _
  refine own_go (S' := s₁.setTop (mkF m 0 #[.val (.ref x), .val (.ref tv), .val (.int (0 : Int32)), .val (.int (0 : Int32)), .val (.int (Int32.ofNat cs.length)), .unset, .unset] [])) (fun tq kq => castTop (own_ef_rmSB m x tv kv cs G1 G3) kq) ?_
  have lt1 : @LT.lt Nat _ x h0.size := Pm0.lt
  have lt2 : @LT.lt Nat _ tv h0.size := Pm4.lt
  have hS0 : s.Since s.vm h0.size := (State.WarmedH.refl s).since _
  have CR0 : CHr Z consts_1 s.vm h0 s.vm h0 := CHr.refl hH
  have hwS : ∀ d ∈ Bundle.stringAtoms, d.before a0 Z = true := fun d hd => hw d ((by decide +kernel : ∀ d ∈ Bundle.stringAtoms, d ∈ tables_1) d hd)
  have sf_x : Safe Z consts_1 s.vm h0 x := hSf _ (List.mem_of_getElem? (i := 0) rfl)
  refine own_aln X0 hx 1 (hb hby own_d23_0) rfl rfl rfl ?_
  obtain ⟨T3, X3, e3, st3⟩ := initO X0 hx hZ hown (hw _ (own_mi 16 rfl)) (hw _ (own_mi 17 rfl)) (hw _ (own_mi 18 rfl)) e0 (g := (mkF m 1 #[.val (.ref x), .val (.ref tv), .val (.int (0 : Int32)), .val (.int (0 : Int32)), .val (.int (Int32.ofNat cs.length)), .unset, .unset] [(.ref x)])) rfl (by rw [hml]; rfl) rfl (hb hby own_d23_1) (by decide) (W := 0) (by show 2 * 0 + _ ≤ _; exact Nat.le_of_eq rfl) (by decide)
  refine own_go st3 ?_
  show own_Rn p e below _ (T3.setTop (mkF m 4 #[.val (.ref x), .val (.ref tv), .val (.int (0 : Int32)), .val (.int (0 : Int32)), .val (.int (Int32.ofNat cs.length)), .unset, .unset] []))
  refine own_iln X3 hx 5 (hb hby own_d23_4) rfl rfl ?_
  refine own_il X3 hx 7 (hb hby own_d23_5) rfl rfl ?_
  refine own_aln X3 hx 8 (hb hby own_d23_7) rfl rfl rfl ?_
  refine own_alen X3 hx hZ e3 Pm4 9 (hb hby own_d23_8) rfl ?_
  have Zn4 : n0 ≤ h0.size := (Nat.le_trans Z0 (Nat.le_refl _))
  refine own_cS X3 hx hZ (y := (⟨"java/lang/String", "checkBoundsOffCount", "(III)I"⟩ : MethodName)) hown (hw _ (own_mi 154 rfl)) (hw _ (own_mi 155 rfl)) (hw _ (own_mi 8 rfl)) (hw _ (own_mi 156 rfl)) (by decide) (rmCB l Z a0 hw [] (cs.length) (G3) h0 n0 Zn4 (hn) (O4) (hG3) X00) e3 [(.int (0 : Int32)), (.int (Int32.ofNat cs.length)), (.int (Int32.ofNat cs.length))] [] rfl (by rw [hml]; rfl) (lenOf own_pd_28III29I rfl) rfl 0 (Nat.le_of_eq rfl) (by decide) (by decide) (by decide : 0 + 0 ≤ _) (by decide : 0 + 0 ≤ _) 12 (hb hby own_d23_9) rfl 0 0 rfl rfl ?_
  intro rv4 T4 Lc4 X4 hQ4
  obtain ⟨rfl, Nq4, eh4⟩ := hQ4
  have N4 := Fr.app N0 Nq4
  show own_Rn p e below _ (T4.setTop (mkF m 12 #[.val (.ref x), .val (.ref tv), .val (.int (0 : Int32)), .val (.int (0 : Int32)), .val (.int (Int32.ofNat cs.length)), .unset, .unset] [(.int (0 : Int32))]))
  refine own_go (fun tq kq => XS.pop X4.here hx rfl (hb hby own_d23_12) rfl rfl kq) ?_
  show own_Rn p e below _ (T4.setTop (mkF m 13 #[.val (.ref x), .val (.ref tv), .val (.int (0 : Int32)), .val (.int (0 : Int32)), .val (.int (Int32.ofNat cs.length)), .unset, .unset] []))
  refine own_il X4 hx 15 (hb hby own_d23_13) rfl rfl ?_
  rcases Nat.eq_zero_or_pos cs.length with hz | h0n
  · skip
    obtain rfl : cs = [] := List.length_eq_zero_iff.mp hz
    refine own_ifN X4 hx 18 (hb hby own_d23_15) rfl ((if0 _ _).trans (teq (rfl : (Int32.ofNat ([] : List Int32).length) = (0 : Int32))).2) ?_
    refine own_aln X4 hx 19 (hb hby own_d23_18) rfl rfl rfl ?_
    obtain ⟨a5, T5, h5, kk5, bb5, kc5, X5, e5, E5, hS5, hk5, hZ5, hown5, Ex5, Co5, Va5, Ab5, la5, lb5, crq5, Li5, sn5, st5⟩ := ldcCH X4 hx hZ hown (hw _ (own_mi 178 rfl)) hwS eh4 hS0 (by omega) hEL (List.mem_of_getElem? (i := 1) rfl) CR0.1 (vs := ((([] : List Int32).map (fun c => c.toInt8.toInt32)).map Value.int)) (z := (0 : Int32)) ⟨by decide, by decide⟩ (by decide) (by decide) (g := (mkF m 19 #[.val (.ref x), .val (.ref tv), .val (.int (0 : Int32)), .val (.int (0 : Int32)), .val (.int (Int32.ofNat ([] : List Int32).length)), .unset, .unset] [(.ref x)])) rfl (hb hby own_d23_19) (n := 0) (by decide) (by decide) (by decide) (by decide)
    refine own_go st5 ?_
    have sz6 : h0.size ≤ h5.size := E5.1
    have K6 := K0.ext E5
    have cr6 : CHr Z consts_1 s.vm h0 T5.vm h5 := crq5
    have CR6 := CR0.trans cr6
    have sf8 : Safe Z consts_1 T5.vm h5 x := (CHr.safe cr6 (Nat.lt_of_lt_of_le lt1 (Nat.le_refl _)) sf_x)
    obtain ⟨na5_x, nb5_x⟩ := sn5 x sf8
    have lt9 : @LT.lt Nat _ a5 h5.size := Ex5.lt
    have lt10 : @LT.lt Nat _ bb5 h5.size := Ab5.lt
    show own_Rn p e below _ (T5.setTop (mkF m 21 #[.val (.ref x), .val (.ref tv), .val (.int (0 : Int32)), .val (.int (0 : Int32)), .val (.int (Int32.ofNat ([] : List Int32).length)), .unset, .unset] [(.ref a5), (.ref x)]))
    refine own_gF X5 hx hZ5 hown5 (host := "") (Or.inl (hw _ (own_mi 33 rfl))) Via.refl e5 Va5 24 (hb hby own_d23_21) rfl ?_
    intro T11 X11 e11
    have F12 : Fld Z h5 x "java/lang/String" "value" "[B" .null := (Pm1.ext E5)
    have F13 : Exa Z h5 x "java/lang/String" := (Pm0.ext E5)
    obtain ⟨T14, h14, X14, e14, W14, st14⟩ := putF X11 hx hZ5 hown5 (host := "") (Or.inl (hw _ (own_mi 33 rfl))) Via.refl e11 F12 F13 (Or.inr ⟨(hw _ (own_mi 34 rfl)), rfl, hnm⟩) (hw _ (own_mi 7 rfl)) (ty := (.array .byte)) own_fd_5bB rfl rfl (g := (mkF m 24 #[.val (.ref x), .val (.ref tv), .val (.int (0 : Int32)), .val (.int (0 : Int32)), .val (.int (Int32.ofNat ([] : List Int32).length)), .unset, .unset] [(.ref bb5), (.ref x)])) rfl rfl (hb hby own_d23_24)
    refine own_go st14 ?_
    have N14 := Fr.snoc X14 N4 Pm3
    have Fw14 := F12.same W14
    have sz16 : h5.size ≤ h14.size := Nat.le_of_eq (Wr.size W14).symm
    have K16 := K6.wr W14 (Or.inl (List.mem_of_getElem? (i := 0) rfl))
    have cr16 : CHr Z consts_1 T5.vm h5 T5.vm h14 := CHr.wr W14 sf8 CR6.1
    have CR16 := CR6.trans cr16
    show own_Rn p e below _ (T14.setTop (mkF m 27 #[.val (.ref x), .val (.ref tv), .val (.int (0 : Int32)), .val (.int (0 : Int32)), .val (.int (Int32.ofNat ([] : List Int32).length)), .unset, .unset] []))
    refine own_aln X14 hx 28 (hb hby own_d23_27) rfl rfl rfl ?_
    obtain ⟨a17, T17, h17, kk17, bb17, kc17, X17, e17, E17, hS17, hk17, hZ17, hown17, Ex17, Co17, Va17, Ab17, la17, lb17, crq17, Li17, sn17, st17⟩ := ldcCH X14 hx hZ5 hown5 (hw _ (own_mi 178 rfl)) hwS e14 hS5 (by omega) hEL (List.mem_of_getElem? (i := 1) rfl) CR16.1 (vs := ((([] : List Int32).map (fun c => c.toInt8.toInt32)).map Value.int)) (z := (0 : Int32)) ⟨by decide, by decide⟩ (by decide) (by decide) (g := (mkF m 28 #[.val (.ref x), .val (.ref tv), .val (.int (0 : Int32)), .val (.int (0 : Int32)), .val (.int (Int32.ofNat ([] : List Int32).length)), .unset, .unset] [(.ref x)])) rfl (hb hby own_d23_28) (n := 0) (by decide) (by decide) (by decide) (by decide)
    refine own_go st17 ?_
    have sz18 : h14.size ≤ h17.size := E17.1
    have K18 := K16.ext E17
    have cr18 : CHr Z consts_1 T5.vm h14 T17.vm h17 := crq17
    have CR18 := CR16.trans cr18
    have le20 : h0.size ≤ h14.size := Nat.le_trans sz6 sz16
    have sf21 : Safe Z consts_1 T17.vm h17 x := (CHr.safe cr18 (Nat.lt_of_lt_of_le lt1 le20) (CHr.safe cr16 (Nat.lt_of_lt_of_le lt1 sz6) sf8))
    obtain ⟨na17_x, nb17_x⟩ := sn17 x sf21
    have lt22 : @LT.lt Nat _ a17 h17.size := Ex17.lt
    have lt23 : @LT.lt Nat _ bb17 h17.size := Ab17.lt
    show own_Rn p e below _ (T17.setTop (mkF m 30 #[.val (.ref x), .val (.ref tv), .val (.int (0 : Int32)), .val (.int (0 : Int32)), .val (.int (Int32.ofNat ([] : List Int32).length)), .unset, .unset] [(.ref a17), (.ref x)]))
    refine own_gF X17 hx hZ17 hown17 (host := "") (Or.inl (hw _ (own_mi 31 rfl))) Via.refl e17 Co17 33 (hb hby own_d23_30) rfl ?_
    intro T24 X24 e24
    have F25 : Fld Z h17 x "java/lang/String" "coder" "B" (.int (0 : Int32)) := (((Pm2.ext E5).other W14 (Or.inr (slot_ne (Or.inr (hw _ (own_mi 32 rfl))) (Or.inr (hw _ (own_mi 34 rfl))) (by decide) (t := .byte) (t' := (.array .byte)) own_fd_B own_fd_5bB))).ext E17)
    have F26 : Exa Z h17 x "java/lang/String" := ((F13.wr W14).ext E17)
    obtain ⟨T27, h27, X27, e27, W27, st27⟩ := putFN X24 hx hZ17 hown17 (hw _ (own_mi 31 rfl)) Via.refl e24 F25 F26 (Or.inr ⟨(hw _ (own_mi 32 rfl)), rfl, hnm⟩) (hw _ (own_mi 7 rfl)) (ty := .byte) (v' := (.int ((0 : Int32)))) own_fd_B rfl (by decide) (g := (mkF m 33 #[.val (.ref x), .val (.ref tv), .val (.int (0 : Int32)), .val (.int (0 : Int32)), .val (.int (Int32.ofNat ([] : List Int32).length)), .unset, .unset] [(.int (0 : Int32)), (.ref x)])) rfl rfl (hb hby own_d23_33)
    refine own_go st27 ?_
    have N27 := Fr.snoc X27 N14 Pm3
    have Fw27 := F25.same W27
    have sz29 : h17.size ≤ h27.size := Nat.le_of_eq (Wr.size W27).symm
    have K29 := K18.wr W27 (Or.inl (List.mem_of_getElem? (i := 0) rfl))
    have cr29 : CHr Z consts_1 T17.vm h17 T17.vm h27 := CHr.wr W27 sf21 CR18.1
    have CR29 := CR18.trans cr29
    show own_Rn p e below _ (T27.setTop (mkF m 36 #[.val (.ref x), .val (.ref tv), .val (.int (0 : Int32)), .val (.int (0 : Int32)), .val (.int (Int32.ofNat ([] : List Int32).length)), .unset, .unset] []))
    have F30 : Arv Z h27 bb5 kc5 .byte (0 : Int32) ((([] : List Int32).map (fun c => c.toInt8.toInt32)).map Value.int) (.int 0) := (((Ab5.other W14 (Ne.symm nb5_x)).ext E17).other W27 (Ne.symm nb5_x))
    have F31 : Fld Z h27 x "java/lang/String" "value" "[B" (.ref bb5) := ((Fw14.ext E17).other W27 (Or.inr (slot_ne (Or.inr (hw _ (own_mi 34 rfl))) (Or.inr (hw _ (own_mi 32 rfl))) (by decide) (t := (.array .byte)) (t' := .byte) own_fd_5bB own_fd_B)))
    exact own_retS X27 hS17 (by rw [e27]; omega) (v := none) (fun _ => rfl) (fun fs hr => X27.returnOut hx Bd.returns (hb hby own_d23_36) hr) (by rw [e27]; exact ⟨bb5, kc5, rfl, N27, K29, F31, Fw27, F30⟩) (by rw [hh, e27]; exact CR29.trans (CHv.at X27 hZ17 hEL CR29.1)) (by decide) (by decide)
  · skip
    refine own_ifY X4 hx 37 (hb hby own_d23_15) ((if0 _ _).trans (feq ((fun h => absurd (own_ofNat_inj (K := 0) h (by omega) (by decide)) (by omega)) : ¬ ((Int32.ofNat cs.length) = (0 : Int32)))).2) (by decide) (by decide) ?_
    refine own_gS X4 hx hZ hown (host := "") (Or.inl (hw _ (own_mi 19 rfl))) Via.refl eh4 (O2.ext X00.2) 40 (hb hby own_d23_37) rfl ?_
    intro T32 X32 e32
    refine own_ifN X32 hx 43 (hb hby own_d23_40) rfl ((if0 _ _).trans (feq (P5 : ¬ (G1 = (0 : Int32)))).1) ?_
    refine own_iln X32 hx 44 (hb hby own_d23_43) rfl rfl ?_
    refine own_i2b X32 hx 45 (hb hby own_d23_44) rfl ?_
    refine own_ifN X32 hx 48 (hb hby own_d23_45) rfl ((if0 _ _).trans (teq (by decide : ((0 : Int32).toInt8.toInt32) = (0 : Int32))).2) ?_
    refine own_aln X32 hx 49 (hb hby own_d23_48) rfl rfl rfl ?_
    refine own_aln X32 hx 50 (hb hby own_d23_49) rfl rfl rfl ?_
    refine own_iln X32 hx 51 (hb hby own_d23_50) rfl rfl ?_
    refine own_iln X32 hx 52 (hb hby own_d23_51) rfl rfl ?_
    refine own_il X32 hx 54 (hb hby own_d23_52) rfl rfl ?_
    refine own_iadd X32 hx 55 (hb hby own_d23_54) rfl ?_
    rw [show ((0 : Int32) + (Int32.ofNat cs.length)) = (Int32.ofNat cs.length) from Int32.zero_add _]
    have Zn33 : n0 ≤ h0.size := (Nat.le_trans Z0 (Nat.le_refl _))
    refine own_cS X32 hx hZ (y := (⟨"java/util/Arrays", "copyOfRange", "([BII)[B"⟩ : MethodName)) hown (hw _ (own_mi 162 rfl)) (hw _ (own_mi 163 rfl)) (hw _ (own_mi 164 rfl)) (hw _ (own_mi 165 rfl)) (by decide) (rmCR l Z a0 hw [] (tv) (kv) (cs) h0 n0 Zn33 Pm4 Pm5 (hn)) e32 [(.ref tv), (.int (0 : Int32)), (.int (Int32.ofNat cs.length))] [(.ref x)] rfl (by rw [hml]; rfl) (lenOf own_pd_285bBII295bB rfl) rfl 1 (Nat.le_of_eq rfl) (by decide) (by decide) (by decide : 0 + 1 ≤ _) (by decide : 0 + 7 ≤ _) 58 (hb hby own_d23_55) rfl 1 7 rfl rfl ?_
    intro rv33 T33 Lc33 X33 hQ33
    obtain ⟨vv, rfl, Nq33, Kq33, G0_33, G1_33, G2_33, G3_33⟩ := hQ33
    have N33 := Fr.app N4 Nq33
    have sz34 : h0.size ≤ T33.heap.size := Kq33.1
    have K34 := K0.trans Kq33 all0
    have cr34 : CHr Z consts_1 s.vm h0 s.vm T33.heap := CHr.keep Kq33 sf0 CR0.1
    have CR34 := CR0.trans cr34
    have sf35 : Safe Z consts_1 s.vm T33.heap vv := Safe.keep Kq33 sf0 CR0.1 (Safe.new G0_33)
    have lt36 : @LT.lt Nat _ vv T33.heap.size := G2_33.lt
    show own_Rn p e below _ (T33.setTop (mkF m 58 #[.val (.ref x), .val (.ref tv), .val (.int (0 : Int32)), .val (.int (0 : Int32)), .val (.int (Int32.ofNat cs.length)), .unset, .unset] [(.ref vv), (.ref x)]))
    have F37 : Fld Z T33.heap x "java/lang/String" "value" "[B" .null := (Pm1.keep Kq33 nin0)
    have F38 : Exa Z T33.heap x "java/lang/String" := (Pm0.keep Kq33)
    obtain ⟨T39, h39, X39, e39, W39, st39⟩ := putF X33 hx hZ hown (host := "") (Or.inl (hw _ (own_mi 33 rfl))) Via.refl rfl F37 F38 (Or.inr ⟨(hw _ (own_mi 34 rfl)), rfl, hnm⟩) (hw _ (own_mi 7 rfl)) (ty := (.array .byte)) own_fd_5bB rfl rfl (g := (mkF m 58 #[.val (.ref x), .val (.ref tv), .val (.int (0 : Int32)), .val (.int (0 : Int32)), .val (.int (Int32.ofNat cs.length)), .unset, .unset] [(.ref vv), (.ref x)])) rfl rfl (hb hby own_d23_58)
    refine own_go st39 ?_
    have N39 := Fr.snoc X39 N33 Pm3
    have Fw39 := F37.same W39
    have sf41 : Safe Z consts_1 s.vm T33.heap x := (CHr.safe cr34 (Nat.lt_of_lt_of_le lt1 (Nat.le_refl _)) sf_x)
    have sz42 : T33.heap.size ≤ h39.size := Nat.le_of_eq (Wr.size W39).symm
    have K42 := K34.wr W39 (Or.inl (List.mem_of_getElem? (i := 0) rfl))
    have cr42 : CHr Z consts_1 s.vm T33.heap s.vm h39 := CHr.wr W39 sf41 CR34.1
    have CR42 := CR34.trans cr42
    show own_Rn p e below _ (T39.setTop (mkF m 61 #[.val (.ref x), .val (.ref tv), .val (.int (0 : Int32)), .val (.int (0 : Int32)), .val (.int (Int32.ofNat cs.length)), .unset, .unset] []))
    refine own_aln X39 hx 62 (hb hby own_d23_61) rfl rfl rfl ?_
    refine own_ic X39 hx (0 : Int32) 63 (hb hby own_d23_62) rfl rfl ?_
    have F43 : Fld Z h39 x "java/lang/String" "coder" "B" (.int (0 : Int32)) := ((Pm2.keep Kq33 nin0).other W39 (Or.inr (slot_ne (Or.inr (hw _ (own_mi 32 rfl))) (Or.inr (hw _ (own_mi 34 rfl))) (by decide) (t := .byte) (t' := (.array .byte)) own_fd_B own_fd_5bB)))
    have F44 : Exa Z h39 x "java/lang/String" := (F38.wr W39)
    obtain ⟨T45, h45, X45, e45, W45, st45⟩ := putFN X39 hx hZ hown (hw _ (own_mi 31 rfl)) Via.refl e39 F43 F44 (Or.inr ⟨(hw _ (own_mi 32 rfl)), rfl, hnm⟩) (hw _ (own_mi 7 rfl)) (ty := .byte) (v' := (.int ((0 : Int32)))) own_fd_B rfl (by decide) (g := (mkF m 63 #[.val (.ref x), .val (.ref tv), .val (.int (0 : Int32)), .val (.int (0 : Int32)), .val (.int (Int32.ofNat cs.length)), .unset, .unset] [(.int (0 : Int32)), (.ref x)])) rfl rfl (hb hby own_d23_63)
    refine own_go st45 ?_
    have N45 := Fr.snoc X45 N39 Pm3
    have Fw45 := F43.same W45
    have sf47 : Safe Z consts_1 s.vm h39 x := (CHr.safe cr42 (Nat.lt_of_lt_of_le lt1 sz34) sf41)
    have sz48 : h39.size ≤ h45.size := Nat.le_of_eq (Wr.size W45).symm
    have K48 := K42.wr W45 (Or.inl (List.mem_of_getElem? (i := 0) rfl))
    have cr48 : CHr Z consts_1 s.vm h39 s.vm h45 := CHr.wr W45 sf47 CR42.1
    have CR48 := CR42.trans cr48
    show own_Rn p e below _ (T45.setTop (mkF m 66 #[.val (.ref x), .val (.ref tv), .val (.int (0 : Int32)), .val (.int (0 : Int32)), .val (.int (Int32.ofNat cs.length)), .unset, .unset] []))
    refine own_gt X45 hx 127 (hb hby own_d23_66) (by decide) (by decide) ?_
    have F49 : Fld Z h45 x "java/lang/String" "value" "[B" (.ref vv) := (Fw39.other W45 (Or.inr (slot_ne (Or.inr (hw _ (own_mi 34 rfl))) (Or.inr (hw _ (own_mi 32 rfl))) (by decide) (t := (.array .byte)) (t' := .byte) own_fd_5bB own_fd_B)))
    have ne50 : vv ≠ x := own_nea (Or.inr (Nat.lt_of_lt_of_le lt1 (Nat.le_trans (Nat.le_refl _) G0_33)))
    have F51 : Arv Z h45 vv kv .byte (Int32.ofNat cs.length) (own_bs cs) (.int 0) := ((G2_33.other W39 ne50).other W45 ne50)
    exact own_retS X45 hS0 (by rw [e45]; omega) (v := none) (fun _ => rfl) (fun fs hr => X45.returnOut hx Bd.returns (hb hby own_d23_127) hr) (by rw [e45]; exact ⟨vv, kv, rfl, N45, K48, F49, Fw45, F51⟩) (by rw [hh, e45]; exact CR48.trans (CHv.at X45 hZ hEL CR48.1)) (by decide) (by decide)
theorem own_ef_rmES (m : MethodId) (en : Addr) (t : Addr) (kt : ClassId) (bs : List Nat) (te : Addr) (ke : ClassId) (G1 : Int32) (G3 : Value) : entryFrame m #[(.ref en), (.ref t)] 3 = mkF m 0 #[.val (.ref en), .val (.ref t), .unset] [] := by first | (simp [entryFrame, mkF, argsToLocals, Value.category]; done) | rfl
theorem own_d16_0 : decode jdk_2452_method_5_code 0 = .ok (.aload_n 0, 1) := by decide +kernel
theorem own_d16_1 : decode jdk_2452_method_5_code 1 = .ok (.aload_n 1, 1) := by decide +kernel
theorem own_d16_2 : decode jdk_2452_method_5_code 2 = .ok (.invokevirtual 61, 3) := by decide +kernel
theorem own_d16_5 : decode jdk_2452_method_5_code 5 = .ok (.astore_n 2, 1) := by decide +kernel
theorem own_d16_6 : decode jdk_2452_method_5_code 6 = .ok (.new 65, 3) := by decide +kernel
theorem own_d16_9 : decode jdk_2452_method_5_code 9 = .ok (.dup, 1) := by decide +kernel
theorem own_d16_10 : decode jdk_2452_method_5_code 10 = .ok (.aload_n 2, 1) := by decide +kernel
theorem own_d16_11 : decode jdk_2452_method_5_code 11 = .ok (.iconst 0, 1) := by decide +kernel
theorem own_d16_12 : decode jdk_2452_method_5_code 12 = .ok (.iconst 0, 1) := by decide +kernel
theorem own_d16_13 : decode jdk_2452_method_5_code 13 = .ok (.aload_n 2, 1) := by decide +kernel
theorem own_d16_14 : decode jdk_2452_method_5_code 14 = .ok (.arraylength, 1) := by decide +kernel
theorem own_d16_15 : decode jdk_2452_method_5_code 15 = .ok (.invokespecial 67, 3) := by decide +kernel
theorem own_pd_285bBIII29V : parseMethodDescriptor "([BIII)V" = some ⟨[(.array .byte), .int, .int, .int], none⟩ := by decide +kernel
theorem own_d16_18 : decode jdk_2452_method_5_code 18 = .ok (.areturn, 1) := by decide +kernel
def Q_rmES (Z : State) (en : Addr) (t : Addr) (kt : ClassId) (bs : List Nat) (te : Addr) (ke : ClassId) (G1 : Int32) (G3 : Value) (h0 : Heap) (n0 : Nat) (vq : Option Value) (hhq : Heap) (Lq : List Loc) : Prop := ∃ (x : Addr), ∃ (tx : Addr), ∃ (kx : ClassId), vq = some (.ref x) ∧ Fr n0 Lq ∧ Keep h0 hhq [] ∧ h0.size ≤ x ∧ Exa Z hhq x "java/lang/String" ∧ Fld Z hhq x "java/lang/String" "value" "[B" (.ref tx) ∧ Fld Z hhq x "java/lang/String" "coder" "B" (.int (0 : Int32)) ∧ Arv Z hhq tx kx .byte (Int32.ofNat (own_cs bs).length) (own_bs (own_cs bs)) (.int 0)
set_option maxRecDepth 65536 in
set_option maxHeartbeats 40000000 in
theorem rmES (l : Launch) (Z : State) (a0 : Array Value) (hw : ∀ d ∈ tables_1, d.before a0 Z = true) (ws : List Jvm.Cond) (en : Addr) (t : Addr) (kt : ClassId) (bs : List Nat) (te : Addr) (ke : ClassId) (G1 : Int32) (G3 : Value) (h0 : Heap) (n0 : Nat) (Z0 : n0 ≤ h0.size) (hEL : EW Z a0 consts_1) (ZE : Exa Z Z.heap en "java/util/Base64$Encoder") (ZE1 : Fld Z Z.heap en "java/util/Base64$Encoder" "isURL" "Z" (.int (1 : Int32))) (ZE2 : Fld Z Z.heap en "java/util/Base64$Encoder" "doPadding" "Z" (.int (0 : Int32))) (ZE3 : Fld Z Z.heap en "java/util/Base64$Encoder" "linemax" "I" (.int (-1 : Int32))) (OT : Sta Z Z.heap "java/util/Base64$Encoder" "toBase64URL" "[C" (.ref te)) (ZT : Arv Z Z.heap te ke .char (64 : Int32) (own_T.map Value.int) (.int 0)) (Pm6 : Arv Z h0 t kt .byte (Int32.ofNat bs.length) (own_bs (own_ub bs)) (.int 0)) (hL : (bs.length ≤ 5)) (hB : (∀ b ∈ bs, b < 256)) (O4 : Sta Z Z.heap "jdk/internal/util/Preconditions" "SIOOBE_FORMATTER" "Ljava/util/function/BiFunction;" G3) (hG3 : (G3 = .null ∨ ∃ ga, G3 = .ref ga)) (O2 : Sta Z Z.heap "java/lang/String" "COMPACT_STRINGS" "Z" (.int G1)) (P5 : (¬ (G1 = (0 : Int32)))) (X00 : Old Z n0 h0) :
    MetFree l (⟨"java/util/Base64$Encoder", "encodeToString", "([B)Ljava/lang/String;"⟩ : MethodName) (head1 (Jvm.Cond.code (⟨"java/util/Base64$Encoder", "encodeToString", "([B)Ljava/lang/String;"⟩ : MethodName) jdk_2452_method_5_code 3 (some (.object "java/lang/String")) :: ws) ({ frames := 3, cells := 6, slots := 19, locals := 65 } : Room)) (fun aq U => aq = #[(.ref en), (.ref t)] ∧ Z.Warmed39 U.vm ∧ U.heap = h0 ∧ CHv Z consts_1 U.vm h0 ∧ ∀ ax ∈ ([] : List Addr), Safe Z consts_1 U.vm h0 ax) (fun _ _ _ _ _ => True) (fun _ U oq U' => ∃ vq Lq, oq = .returned vq ∧ Q_rmES Z en t kt bs te ke G1 G3 h0 n0 vq U'.heap Lq ∧ CHr Z consts_1 U.vm U.heap U'.vm U'.heap ∧ ReturnedEndW U oq U' Lq ({ frames := 3, cells := 6, slots := 19, locals := 65 } : Room).cells ({ frames := 3, cells := 6, slots := 19, locals := 65 } : Room).slots) := by
  refine MetFree.of_bodySF (plainFor_of_name own_pn_java_util_Base64_Encoder) hisR ?_
  intro p e s m args below meth c s₁ Bd hml0 hP hK
  obtain ⟨rfl, hZ, hh, hH, hSf⟩ := hP
  have hx := Bd.exec
  have hby := Bd.bytes
  have hml : c.maxLocals = 3 := hml0
  have hown : s.vm.findClass "java/util/Base64$Encoder" = some m.cls := findClass_of_methodNamed Bd.named
  have hnm := (name_of_methodNamed Bd.named Bd.method).1
  have X0 : Stand p l e ({ frames := 3, cells := 6, slots := 19, locals := 65 } : Room) (s.setVm s.vm) m #[(.ref en), (.ref t)] below meth c s₁ [] 0 0 := Stand.of_body Bd
  have e0 : s₁.heap = h0 := by rw [← hh, Bd.state]; rfl
  have N0 := Fr.nil n0
  have K0 : Keep h0 h0 [] := Keep.refl _ _
  refine own_go (S' := s₁.setTop (mkF m 0 #[.val (.ref en), .val (.ref t), .unset] [])) (fun tq kq => castTop (own_ef_rmES m en t kt bs te ke G1 G3) kq) ?_
  have lt1 : @LT.lt Nat _ t h0.size := Pm6.lt
  have hS0 : s.Since s.vm h0.size := (State.WarmedH.refl s).since _
  have CR0 : CHr Z consts_1 s.vm h0 s.vm h0 := CHr.refl hH
  have hwS : ∀ d ∈ Bundle.stringAtoms, d.before a0 Z = true := fun d hd => hw d ((by decide +kernel : ∀ d ∈ Bundle.stringAtoms, d ∈ tables_1) d hd)
  refine own_aln X0 hx 1 (hb hby own_d16_0) rfl rfl rfl ?_
  refine own_aln X0 hx 2 (hb hby own_d16_1) rfl rfl rfl ?_
  have Zn2 : n0 ≤ h0.size := (Nat.le_trans Z0 (Nat.le_refl _))
  have F3 : Exa Z h0 en "java/util/Base64$Encoder" := ZE.ext X00.2
  refine own_cV X0 hx hZ (y := (⟨"java/util/Base64$Encoder", "encode", "([B)[B"⟩ : MethodName)) (z := (⟨"java/util/Base64$Encoder", "encode", "([B)[B"⟩ : MethodName)) hown (hw _ (own_mi 113 rfl)) (hw _ (own_mi 114 rfl)) (notFace_of_selects (args := #[]) (mvT hZ (hw _ (own_mi 116 rfl)))) (hw _ (own_mi 116 rfl)) (hw _ (own_mi 115 rfl)) (hw _ (own_mi 117 rfl)) (hw _ (own_mi 111 rfl)) (by decide) (rmEn l Z a0 hw [] (en) (t) (kt) (bs) (te) (ke) h0 n0 Zn2 ZE ZE1 ZE2 ZE3 (OT) ZT Pm6 (hL) (hB) X00) F3 e0 [(.ref t)] [] rfl (by rw [hml]; rfl) (lenOf own_pd_285bB295bB rfl) rfl 0 (Nat.le_of_eq rfl) (by decide) (by decide) (by decide : 0 + 1 ≤ _) (by decide : 0 + 7 ≤ _) 5 (hb hby own_d16_2) rfl 1 7 rfl rfl ?_
  intro rv2 T2 Lc2 X2 hQ2
  obtain ⟨vv, kvv, rfl, Nq2, Kq2, G0_2, G1_2, G2_2, G3_2⟩ := hQ2
  have N2 := Fr.app N0 Nq2
  have sz4 : h0.size ≤ T2.heap.size := Kq2.1
  have K4 := K0.trans Kq2 all0
  have cr4 : CHr Z consts_1 s.vm h0 s.vm T2.heap := CHr.keep Kq2 sf0 CR0.1
  have CR4 := CR0.trans cr4
  have sf5 : Safe Z consts_1 s.vm T2.heap vv := Safe.keep Kq2 sf0 CR0.1 (Safe.new G0_2)
  have lt6 : @LT.lt Nat _ vv T2.heap.size := G2_2.lt
  show own_Rn p e below _ (T2.setTop (mkF m 5 #[.val (.ref en), .val (.ref t), .unset] [(.ref vv)]))
  refine own_asn X2 hx #[.val (.ref en), .val (.ref t), .val (.ref vv)] 6 (hb hby own_d16_5) rfl rfl rfl ?_
  obtain ⟨T7, h7, X7, e7, E7, A7, D7, -, st7⟩ := newO X2 hx hZ hown (hw _ (own_mi 150 rfl)) (hw _ (own_mi 7 rfl)) (hw _ (own_mi 8 rfl)) rfl (g := (mkF m 6 #[.val (.ref en), .val (.ref t), .val (.ref vv)] [])) rfl (hb hby own_d16_6) (by decide) (by decide)
  obtain ⟨b7, g7⟩ : ∃ z, z = T2.heap.size := ⟨_, rfl⟩
  rw [← g7] at A7 D7 st7
  refine own_go st7 ?_
  have sz8 : T2.heap.size ≤ h7.size := E7.1
  have K8 := K4.ext E7
  have cr8 : CHr Z consts_1 s.vm T2.heap s.vm h7 := CHr.ext E7 CR4.1
  have CR8 := CR4.trans cr8
  have sf9 : Safe Z consts_1 s.vm h7 b7 := Safe.ext E7 CR4.1 (Safe.new (Nat.le_of_eq g7.symm))
  have lt10 : @LT.lt Nat _ b7 h7.size := A7.lt
  have gn7 : n0 ≤ b7 := (Nat.le_trans (Nat.le_trans Z0 sz4) (Nat.le_of_eq g7.symm))
  have D7_coder : Fld Z h7 b7 "java/lang/String" "coder" "B" (.int (0 : Int32)) := D7 (Or.inr (hw _ (own_mi 32 rfl))) (ty := .byte) own_fd_B
  have D7_value : Fld Z h7 b7 "java/lang/String" "value" "[B" .null := D7 (Or.inr (hw _ (own_mi 34 rfl))) (ty := (.array .byte)) own_fd_5bB
  show own_Rn p e below _ (T7.setTop (mkF m 9 #[.val (.ref en), .val (.ref t), .val (.ref vv)] [(.ref b7)]))
  refine own_dp X7 hx 10 (hb hby own_d16_9) rfl rfl ?_
  refine own_aln X7 hx 11 (hb hby own_d16_10) rfl rfl rfl ?_
  refine own_ic X7 hx (0 : Int32) 12 (hb hby own_d16_11) rfl rfl ?_
  refine own_ic X7 hx (0 : Int32) 13 (hb hby own_d16_12) rfl rfl ?_
  refine own_aln X7 hx 14 (hb hby own_d16_13) rfl rfl rfl ?_
  have F11 : Arv Z h7 vv kvv .byte (Int32.ofNat (own_cs bs).length) (own_bs (own_cs bs)) (.int 0) := (G2_2.ext E7)
  refine own_alen X7 hx hZ e7 F11 15 (hb hby own_d16_14) rfl ?_
  have le13 : h0.size ≤ h7.size := Nat.le_trans sz4 sz8
  have Zn12 : n0 ≤ h7.size := (Nat.le_trans Z0 le13)
  have F14 : Exa Z h7 vv "[B" := (G3_2.ext E7)
  have F15 : Old Z n0 h7 := ((X00.keep Kq2 all0).ext E7)
  obtain ⟨rv12, _, ⟨T12, L12, k12, n12⟩, -, X12, hS12, hG12, ⟨Lc12, hQ12, l12, y12, z12, CR12q⟩, st12⟩ := X7.specialBackS hx (y := (⟨"java/lang/String", "<init>", "([BIII)V"⟩ : MethodName)) rfl hown (mvT hZ (hw _ (own_mi 151 rfl))) (mvT hZ (hw _ (own_mi 152 rfl))) (mvT hZ (hw _ (own_mi 153 rfl))) (by decide) (own_backSH (W := 1) (rm := ({ frames := 2, cells := 4, slots := 8, locals := 29 } : Room)) (sf := [b7]) (h := h7) (rmSB l Z a0 hw [] (b7) (vv) (kvv) ((own_cs bs)) (G1) (G3) h7 n0 Zn12 hEL A7 D7_value D7_coder gn7 F11 F14 (own_cs_len bs hB) (O4) (hG3) (O2) (P5) F15) hZ (hw _ (own_mi 153 rfl)) (hw _ (own_mi 8 rfl)) (by decide) (by decide) hEL CR8.1 (sfS sf9 sf0)) (g := (mkF m 15 #[.val (.ref en), .val (.ref t), .val (.ref vv)] [(.int (Int32.ofNat (own_cs bs).length)), (.int (0 : Int32)), (.int (0 : Int32)), (.ref vv), (.ref b7), (.ref b7)])) rfl (by rw [hml]; rfl) (Steps.refl _) (a := b7) (argsL := [(.ref vv), (.int (0 : Int32)), (.int (0 : Int32)), (.int (Int32.ofNat (own_cs bs).length))]) (rest := [(.ref b7)]) (lenOf own_pd_285bBIII29V rfl) rfl (by show 2 * 0 + _ ≤ _; exact Nat.le_of_eq rfl) (show decode c.code 15 = .ok (.invokespecial 67, 3) from (hb hby own_d16_15)) (fun _ _ => ⟨rfl, e7, (by decide : 2 + 4 ≤ _), (by decide : 11 + 8 ≤ _)⟩)
  dsimp only [Pt.U, Pt.locs, Pt.cells, Pt.slots] at X12 l12 y12 z12 st12 hQ12 hS12 hG12 CR12q
  subst l12 y12 z12
  obtain ⟨tt, ktt, rfl, Nq12, Kq12, G0_12, G1_12, G2_12⟩ := hQ12
  have N12 := Fr.app N2 Nq12
  obtain ⟨Xr12, hSr12, hZ12, hown12⟩ := rebS hS0 (n1 := T7.heap.size) (by rw [e7]; omega) X12 hS12 hG12 hZ hown
  have sz17 : h7.size ≤ T12.heap.size := Kq12.1
  have K17 := K8.trans Kq12 (allS (Or.inr (Nat.le_trans sz4 (Nat.le_of_eq g7.symm))) all0)
  have cr17 : CHr Z consts_1 s.vm h7 T12.vm T12.heap := CR12q
  have CR17 := CR8.trans cr17
  have lt18 : @LT.lt Nat _ tt T12.heap.size := G2_12.lt
  refine own_go (fun tq kq => st12.trans kq) ?_
  show own_Rn p e below _ (T12.setTop (mkF m 18 #[.val (.ref en), .val (.ref t), .val (.ref vv)] [(.ref b7)]))
  have F19 : Exa Z T12.heap b7 "java/lang/String" := (A7.keep Kq12)
  exact own_retS Xr12 hSr12 (by omega) (v := some (.ref b7)) (fun h => by rw [Bd.returns] at h; cases h) (fun fs hr => Xr12.areturnOut hx rfl Bd.returns rfl (hb hby own_d16_18) hr) (⟨b7, tt, ktt, rfl, N12, K17, (Nat.le_trans sz4 (Nat.le_of_eq g7.symm)), F19, G0_12, G1_12, G2_12⟩) (by rw [hh]; exact CR17.trans (CHv.at Xr12 hZ12 hEL CR17.1)) (by decide) (by decide)
theorem own_ef_rmLE (m : MethodId) (ta : Addr) (ka : ClassId) (tb : Addr) (kb : ClassId) (cs : List Int32) : entryFrame m #[(.ref ta), (.ref tb)] 3 = mkF m 0 #[.val (.ref ta), .val (.ref tb), .unset] [] := by first | (simp [entryFrame, mkF, argsToLocals, Value.category]; done) | rfl
theorem own_pn_java_lang_StringLatin1 : plainName "java/lang/StringLatin1" = true := by first | (simp [plainName, overriddenIn]; done) | decide +kernel
theorem own_d28_0 : decode jdk_43_method_13_code 0 = .ok (.aload_n 0, 1) := by decide +kernel
theorem own_d28_1 : decode jdk_43_method_13_code 1 = .ok (.arraylength, 1) := by decide +kernel
theorem own_d28_2 : decode jdk_43_method_13_code 2 = .ok (.aload_n 1, 1) := by decide +kernel
theorem own_d28_3 : decode jdk_43_method_13_code 3 = .ok (.arraylength, 1) := by decide +kernel
theorem own_d28_4 : decode jdk_43_method_13_code 4 = .ok (.if_icmp .ne 30, 3) := by decide +kernel
theorem own_d28_7 : decode jdk_43_method_13_code 7 = .ok (.iconst 0, 1) := by decide +kernel
theorem own_d28_8 : decode jdk_43_method_13_code 8 = .ok (.istore_n 2, 1) := by decide +kernel
theorem own_d28_9 : decode jdk_43_method_13_code 9 = .ok (.iload_n 2, 1) := by decide +kernel
theorem own_d28_10 : decode jdk_43_method_13_code 10 = .ok (.aload_n 0, 1) := by decide +kernel
theorem own_d28_11 : decode jdk_43_method_13_code 11 = .ok (.arraylength, 1) := by decide +kernel
theorem own_d28_12 : decode jdk_43_method_13_code 12 = .ok (.if_icmp .ge 20, 3) := by decide +kernel
theorem own_d28_32 : decode jdk_43_method_13_code 32 = .ok (.iconst 1, 1) := by decide +kernel
theorem own_d28_33 : decode jdk_43_method_13_code 33 = .ok (.ireturn, 1) := by decide +kernel
theorem own_d28_15 : decode jdk_43_method_13_code 15 = .ok (.aload_n 0, 1) := by decide +kernel
theorem own_d28_16 : decode jdk_43_method_13_code 16 = .ok (.iload_n 2, 1) := by decide +kernel
theorem own_d28_17 : decode jdk_43_method_13_code 17 = .ok (.baload, 1) := by decide +kernel
theorem own_d28_18 : decode jdk_43_method_13_code 18 = .ok (.aload_n 1, 1) := by decide +kernel
theorem own_d28_19 : decode jdk_43_method_13_code 19 = .ok (.iload_n 2, 1) := by decide +kernel
theorem own_d28_20 : decode jdk_43_method_13_code 20 = .ok (.baload, 1) := by decide +kernel
theorem own_d28_21 : decode jdk_43_method_13_code 21 = .ok (.if_icmp .eq 5, 3) := by decide +kernel
theorem own_d28_26 : decode jdk_43_method_13_code 26 = .ok (.iinc 2 1, 3) := by decide +kernel
theorem own_d28_29 : decode jdk_43_method_13_code 29 = .ok (.goto (-20), 3) := by decide +kernel
def Q_rmLE (Z : State) (ta : Addr) (ka : ClassId) (tb : Addr) (kb : ClassId) (cs : List Int32) (h0 : Heap) (n0 : Nat) (vq : Option Value) (hhq : Heap) (Lq : List Loc) : Prop := vq = some (.int (1 : Int32)) ∧ Fr n0 Lq ∧ hhq = h0
set_option maxRecDepth 65536 in
set_option maxHeartbeats 40000000 in
theorem rmLE (l : Launch) (Z : State) (a0 : Array Value) (hw : ∀ d ∈ tables_1, d.before a0 Z = true) (ws : List Jvm.Cond) (ta : Addr) (ka : ClassId) (tb : Addr) (kb : ClassId) (cs : List Int32) (h0 : Heap) (n0 : Nat) (Z0 : n0 ≤ h0.size) (Pm0 : Arv Z h0 ta ka .byte (Int32.ofNat cs.length) (own_bs cs) (.int 0)) (Pm1 : Arv Z h0 tb kb .byte (Int32.ofNat cs.length) (own_bs cs) (.int 0)) (hn : (cs.length ≤ 7)) :
    MetFree l (⟨"java/lang/StringLatin1", "equals", "([B[B)Z"⟩ : MethodName) (head1 (Jvm.Cond.code (⟨"java/lang/StringLatin1", "equals", "([B[B)Z"⟩ : MethodName) jdk_43_method_13_code 3 (some .boolean) :: ws) ({ frames := 0, cells := 0, slots := 0, locals := 0 } : Room)) (fun aq U => aq = #[(.ref ta), (.ref tb)] ∧ Z.Warmed39 U.vm ∧ U.heap = h0) (fun _ _ _ _ _ => True) (fun _ U oq U' => ∃ vq Lq, oq = .returned vq ∧ Q_rmLE Z ta ka tb kb cs h0 n0 vq U'.heap Lq ∧ FrameEnd U oq U' Lq ({ frames := 0, cells := 0, slots := 0, locals := 0 } : Room).cells ({ frames := 0, cells := 0, slots := 0, locals := 0 } : Room).slots) := by
  refine MetFree.of_bodySF (plainFor_of_name own_pn_java_lang_StringLatin1) hisR ?_
  intro p e s m args below meth c s₁ Bd hml0 hP hK
  obtain ⟨rfl, hZ, hh⟩ := hP
  have hx := Bd.exec
  have hby := Bd.bytes
  have hml : c.maxLocals = 3 := hml0
  have hown : s.vm.findClass "java/lang/StringLatin1" = some m.cls := findClass_of_methodNamed Bd.named
  have hnm := (name_of_methodNamed Bd.named Bd.method).1
  have X0 : Stand p l e ({ frames := 0, cells := 0, slots := 0, locals := 0 } : Room) s m #[(.ref ta), (.ref tb)] below meth c s₁ [] 0 0 := Stand.of_body Bd
  have e0 : s₁.heap = h0 := by rw [← hh, Bd.state]; rfl
  have N0 := Fr.nil n0
  have K0 : Keep h0 h0 [] := Keep.refl _ _
  refine own_go (S' := s₁.setTop (mkF m 0 #[.val (.ref ta), .val (.ref tb), .unset] [])) (fun tq kq => castTop (own_ef_rmLE m ta ka tb kb cs) kq) ?_
  have lt1 : @LT.lt Nat _ ta h0.size := Pm0.lt
  have lt2 : @LT.lt Nat _ tb h0.size := Pm1.lt
  refine own_aln X0 hx 1 (hb hby own_d28_0) rfl rfl rfl ?_
  refine own_alen X0 hx hZ e0 Pm0 2 (hb hby own_d28_1) rfl ?_
  refine own_aln X0 hx 3 (hb hby own_d28_2) rfl rfl rfl ?_
  refine own_alen X0 hx hZ e0 Pm1 4 (hb hby own_d28_3) rfl ?_
  refine own_icN X0 hx 7 (hb hby own_d28_4) rfl (teq (rfl : (Int32.ofNat cs.length) = (Int32.ofNat cs.length))).2 ?_
  refine own_ic X0 hx (0 : Int32) 8 (hb hby own_d28_7) rfl rfl ?_
  refine own_isn X0 hx #[.val (.ref ta), .val (.ref tb), .val (.int (0 : Int32))] 9 (hb hby own_d28_8) rfl rfl ?_
  have loop : ∀ (mm qq : Nat), qq + mm = cs.length → own_Rn p e below (fun oq U' => ∃ vq Lq, oq = .returned vq ∧ Q_rmLE Z ta ka tb kb cs h0 n0 vq U'.heap Lq ∧ FrameEnd s oq U' Lq ({ frames := 0, cells := 0, slots := 0, locals := 0 } : Room).cells ({ frames := 0, cells := 0, slots := 0, locals := 0 } : Room).slots) (s₁.setTop (mkF m 9 #[.val (.ref ta), .val (.ref tb), .val (.int (Int32.ofNat qq))] [])) := by
    intro mm
    induction mm with
    | zero =>
      intro qq hqm
      refine own_iln X0 hx 10 (hb hby own_d28_9) rfl rfl ?_
      refine own_aln X0 hx 11 (hb hby own_d28_10) rfl rfl rfl ?_
      refine own_alen X0 hx hZ e0 Pm0 12 (hb hby own_d28_11) rfl ?_
      refine own_icY X0 hx 32 (hb hby own_d28_12) (flt (own_ofNat_nlt (by omega) (by omega) : ¬ ((Int32.ofNat qq) < (Int32.ofNat cs.length)))).2.1 (by decide) (by decide) ?_
      refine own_ic X0 hx (1 : Int32) 33 (hb hby own_d28_32) rfl rfl ?_
      exact own_ret X0 (v := some (.int (nar .boolean (1 : Int32)))) (fun h => by rw [Bd.returns] at h; cases h) (fun fs hr => retN X0 hx (t := .boolean) Bd.returns (by simp) (hb hby own_d28_33) hr) (by rw [e0]; exact ⟨rfl, N0, rfl⟩) (by decide) (by decide)
    | succ mm ih =>
      intro qq hqm
      refine own_iln X0 hx 10 (hb hby own_d28_9) rfl rfl ?_
      refine own_aln X0 hx 11 (hb hby own_d28_10) rfl rfl rfl ?_
      refine own_alen X0 hx hZ e0 Pm0 12 (hb hby own_d28_11) rfl ?_
      refine own_icN X0 hx 15 (hb hby own_d28_12) rfl (tlt (own_ofNat_lt (by omega) (by omega) : (Int32.ofNat qq) < (Int32.ofNat cs.length))).2.1 ?_
      refine own_aln X0 hx 16 (hb hby own_d28_15) rfl rfl rfl ?_
      refine own_iln X0 hx 17 (hb hby own_d28_16) rfl rfl ?_
      refine own_bal X0 hx hZ e0 Pm0 ((cs.getD qq 0).toInt8.toInt32) 18 (hb hby own_d28_17) rfl (own_inb _ _ (by omega) (by omega)) (own_bsN cs qq (by omega) (by omega)) ?_
      refine own_aln X0 hx 19 (hb hby own_d28_18) rfl rfl rfl ?_
      refine own_iln X0 hx 20 (hb hby own_d28_19) rfl rfl ?_
      refine own_bal X0 hx hZ e0 Pm1 ((cs.getD qq 0).toInt8.toInt32) 21 (hb hby own_d28_20) rfl (own_inb _ _ (by omega) (by omega)) (own_bsN cs qq (by omega) (by omega)) ?_
      refine own_icY X0 hx 26 (hb hby own_d28_21) (teq (rfl : ((cs.getD qq 0).toInt8.toInt32) = ((cs.getD qq 0).toInt8.toInt32))).1 (by decide) (by decide) ?_
      refine own_ii X0 hx #[.val (.ref ta), .val (.ref tb), .val (.int ((Int32.ofNat qq) + (1 : Int32)))] 29 (hb hby own_d28_26) rfl rfl rfl ?_
      refine own_gt X0 hx 9 (hb hby own_d28_29) (by decide) (by decide) ?_
      rw [show (Int32.ofNat qq + (1 : Int32)) = Int32.ofNat (qq + 1) from (inc_ofNat qq).symm]
      exact ih (qq + 1) (by omega)
  exact loop cs.length 0 (by omega)
theorem own_ef_rmEQ (m : MethodId) (x : Addr) (t : Addr) (kt : ClassId) (y : Addr) (t2 : Addr) (k2 : ClassId) (cs : List Int32) (G1 : Int32) : entryFrame m #[(.ref x), (.ref y)] 3 = mkF m 0 #[.val (.ref x), .val (.ref y), .unset] [] := by first | (simp [entryFrame, mkF, argsToLocals, Value.category]; done) | rfl
theorem own_d27_0 : decode jdk_42_method_66_code 0 = .ok (.aload_n 0, 1) := by decide +kernel
theorem own_d27_1 : decode jdk_42_method_66_code 1 = .ok (.aload_n 1, 1) := by decide +kernel
theorem own_d27_2 : decode jdk_42_method_66_code 2 = .ok (.if_acmp .ne 5, 3) := by decide +kernel
theorem own_d27_7 : decode jdk_42_method_66_code 7 = .ok (.aload_n 1, 1) := by decide +kernel
theorem own_d27_8 : decode jdk_42_method_66_code 8 = .ok (.instanceof 10, 3) := by decide +kernel
theorem own_d27_11 : decode jdk_42_method_66_code 11 = .ok (.ifCond .eq 43, 3) := by decide +kernel
theorem own_d27_14 : decode jdk_42_method_66_code 14 = .ok (.aload_n 1, 1) := by decide +kernel
theorem own_d27_15 : decode jdk_42_method_66_code 15 = .ok (.checkcast 10, 3) := by decide +kernel
theorem own_d27_18 : decode jdk_42_method_66_code 18 = .ok (.astore_n 2, 1) := by decide +kernel
theorem own_d27_19 : decode jdk_42_method_66_code 19 = .ok (.getstatic 38, 3) := by decide +kernel
theorem own_d27_22 : decode jdk_42_method_66_code 22 = .ok (.ifCond .eq 14, 3) := by decide +kernel
theorem own_d27_25 : decode jdk_42_method_66_code 25 = .ok (.aload_n 0, 1) := by decide +kernel
theorem own_d27_26 : decode jdk_42_method_66_code 26 = .ok (.getfield 15, 3) := by decide +kernel
theorem own_d27_29 : decode jdk_42_method_66_code 29 = .ok (.aload_n 2, 1) := by decide +kernel
theorem own_d27_30 : decode jdk_42_method_66_code 30 = .ok (.getfield 15, 3) := by decide +kernel
theorem own_d27_33 : decode jdk_42_method_66_code 33 = .ok (.if_icmp .ne 21, 3) := by decide +kernel
theorem own_d27_36 : decode jdk_42_method_66_code 36 = .ok (.aload_n 0, 1) := by decide +kernel
theorem own_d27_37 : decode jdk_42_method_66_code 37 = .ok (.getfield 9, 3) := by decide +kernel
theorem own_d27_40 : decode jdk_42_method_66_code 40 = .ok (.aload_n 2, 1) := by decide +kernel
theorem own_d27_41 : decode jdk_42_method_66_code 41 = .ok (.getfield 9, 3) := by decide +kernel
theorem own_d27_44 : decode jdk_42_method_66_code 44 = .ok (.invokestatic 541, 3) := by decide +kernel
theorem own_pd_285bB5bB29Z : parseMethodDescriptor "([B[B)Z" = some ⟨[(.array .byte), (.array .byte)], some .boolean⟩ := by decide +kernel
theorem own_d27_47 : decode jdk_42_method_66_code 47 = .ok (.ifCond .eq 7, 3) := by decide +kernel
theorem own_d27_50 : decode jdk_42_method_66_code 50 = .ok (.iconst 1, 1) := by decide +kernel
theorem own_d27_51 : decode jdk_42_method_66_code 51 = .ok (.goto 4, 3) := by decide +kernel
theorem own_d27_55 : decode jdk_42_method_66_code 55 = .ok (.ireturn, 1) := by decide +kernel
def Q_rmEQ (Z : State) (x : Addr) (t : Addr) (kt : ClassId) (y : Addr) (t2 : Addr) (k2 : ClassId) (cs : List Int32) (G1 : Int32) (h0 : Heap) (n0 : Nat) (vq : Option Value) (hhq : Heap) (Lq : List Loc) : Prop := vq = some (.int (1 : Int32)) ∧ Fr n0 Lq ∧ hhq = h0
set_option maxRecDepth 65536 in
set_option maxHeartbeats 40000000 in
theorem rmEQ (l : Launch) (Z : State) (a0 : Array Value) (hw : ∀ d ∈ tables_1, d.before a0 Z = true) (ws : List Jvm.Cond) (x : Addr) (t : Addr) (kt : ClassId) (y : Addr) (t2 : Addr) (k2 : ClassId) (cs : List Int32) (G1 : Int32) (h0 : Heap) (n0 : Nat) (Z0 : n0 ≤ h0.size) (Pm0 : Exa Z h0 x "java/lang/String") (Pm1 : Fld Z h0 x "java/lang/String" "value" "[B" (.ref t)) (Pm2 : Fld Z h0 x "java/lang/String" "coder" "B" (.int (0 : Int32))) (Pm3 : Exa Z h0 y "java/lang/String") (Pm4 : Fld Z h0 y "java/lang/String" "value" "[B" (.ref t2)) (Pm5 : Fld Z h0 y "java/lang/String" "coder" "B" (.int (0 : Int32))) (Pm6 : Arv Z h0 t kt .byte (Int32.ofNat cs.length) (own_bs cs) (.int 0)) (Pm7 : Arv Z h0 t2 k2 .byte (Int32.ofNat cs.length) (own_bs cs) (.int 0)) (hn : (cs.length ≤ 7)) (nxy : (x ≠ y)) (O2 : Sta Z Z.heap "java/lang/String" "COMPACT_STRINGS" "Z" (.int G1)) (P5 : (¬ (G1 = (0 : Int32)))) (X00 : Old Z n0 h0) :
    MetFree l (⟨"java/lang/String", "equals", "(Ljava/lang/Object;)Z"⟩ : MethodName) (head1 (Jvm.Cond.code (⟨"java/lang/String", "equals", "(Ljava/lang/Object;)Z"⟩ : MethodName) jdk_42_method_66_code 3 (some .boolean) :: ws) ({ frames := 1, cells := 0, slots := 0, locals := 14 } : Room)) (fun aq U => aq = #[(.ref x), (.ref y)] ∧ Z.Warmed39 U.vm ∧ U.heap = h0) (fun _ _ _ _ _ => True) (fun _ U oq U' => ∃ vq Lq, oq = .returned vq ∧ Q_rmEQ Z x t kt y t2 k2 cs G1 h0 n0 vq U'.heap Lq ∧ FrameEnd U oq U' Lq ({ frames := 1, cells := 0, slots := 0, locals := 14 } : Room).cells ({ frames := 1, cells := 0, slots := 0, locals := 14 } : Room).slots) := by
  refine MetFree.of_bodySF (plainFor_of_name own_pn_java_lang_String) hisR ?_
  intro p e s m args below meth c s₁ Bd hml0 hP hK
  obtain ⟨rfl, hZ, hh⟩ := hP
  have hx := Bd.exec
  have hby := Bd.bytes
  have hml : c.maxLocals = 3 := hml0
  have hown : s.vm.findClass "java/lang/String" = some m.cls := findClass_of_methodNamed Bd.named
  have hnm := (name_of_methodNamed Bd.named Bd.method).1
  have X0 : Stand p l e ({ frames := 1, cells := 0, slots := 0, locals := 14 } : Room) s m #[(.ref x), (.ref y)] below meth c s₁ [] 0 0 := Stand.of_body Bd
  have e0 : s₁.heap = h0 := by rw [← hh, Bd.state]; rfl
  have N0 := Fr.nil n0
  have K0 : Keep h0 h0 [] := Keep.refl _ _
  refine own_go (S' := s₁.setTop (mkF m 0 #[.val (.ref x), .val (.ref y), .unset] [])) (fun tq kq => castTop (own_ef_rmEQ m x t kt y t2 k2 cs G1) kq) ?_
  have lt1 : @LT.lt Nat _ x h0.size := Pm0.lt
  have lt2 : @LT.lt Nat _ y h0.size := Pm3.lt
  have lt3 : @LT.lt Nat _ t h0.size := Pm6.lt
  have lt4 : @LT.lt Nat _ t2 h0.size := Pm7.lt
  refine own_aln X0 hx 1 (hb hby own_d27_0) rfl rfl rfl ?_
  refine own_aln X0 hx 2 (hb hby own_d27_1) rfl rfl rfl ?_
  refine own_go (fun tq kq => Jvm.RoadKit.acmp (g := (mkF m 2 #[.val (.ref x), .val (.ref y), .unset] [(.ref y), (.ref x)])) X0 hx rfl rfl rfl (pc0 := 2) (pc' := 7) (same := false) rfl (hb hby own_d27_2) rfl (decide_eq_false fun q => nxy (Value.ref.inj q)) (by decide) (by decide) kq) ?_
  show own_Rn p e below _ (s₁.setTop (mkF m 7 #[.val (.ref x), .val (.ref y), .unset] []))
  refine own_aln X0 hx 8 (hb hby own_d27_7) rfl rfl rfl ?_
  obtain ⟨T5, X5, e5, st5⟩ := instY X0 hx hZ hown (hw _ (own_mi 173 rfl)) e0 (Ins.self Pm3) (g := (mkF m 8 #[.val (.ref x), .val (.ref y), .unset] [(.ref y)])) rfl rfl (hb hby own_d27_8)
  refine own_go st5 ?_
  show own_Rn p e below _ (T5.setTop (mkF m 11 #[.val (.ref x), .val (.ref y), .unset] [(.int (1 : Int32))]))
  refine own_ifN X5 hx 14 (hb hby own_d27_11) rfl ((if0 _ _).trans (feq ((by decide : ¬ ((1 : Int32) = (0 : Int32))) : ¬ ((1 : Int32) = (0 : Int32)))).1) ?_
  refine own_aln X5 hx 15 (hb hby own_d27_14) rfl rfl rfl ?_
  obtain ⟨T6, X6, e6, st6⟩ := castY X5 hx hZ hown (hw _ (own_mi 173 rfl)) e5 (Ins.self Pm3) (g := (mkF m 15 #[.val (.ref x), .val (.ref y), .unset] [(.ref y)])) rfl rfl (hb hby own_d27_15)
  refine own_go st6 ?_
  show own_Rn p e below _ (T6.setTop (mkF m 18 #[.val (.ref x), .val (.ref y), .unset] [(.ref y)]))
  refine own_asn X6 hx #[.val (.ref x), .val (.ref y), .val (.ref y)] 19 (hb hby own_d27_18) rfl rfl rfl ?_
  refine own_gS X6 hx hZ hown (host := "") (Or.inl (hw _ (own_mi 19 rfl))) Via.refl e6 (O2.ext X00.2) 22 (hb hby own_d27_19) rfl ?_
  intro T7 X7 e7
  refine own_ifN X7 hx 25 (hb hby own_d27_22) rfl ((if0 _ _).trans (feq (P5 : ¬ (G1 = (0 : Int32)))).1) ?_
  refine own_aln X7 hx 26 (hb hby own_d27_25) rfl rfl rfl ?_
  refine own_gF X7 hx hZ hown (host := "") (Or.inl (hw _ (own_mi 31 rfl))) Via.refl e7 Pm2 29 (hb hby own_d27_26) rfl ?_
  intro T8 X8 e8
  refine own_aln X8 hx 30 (hb hby own_d27_29) rfl rfl rfl ?_
  refine own_gF X8 hx hZ hown (host := "") (Or.inl (hw _ (own_mi 31 rfl))) Via.refl e8 Pm5 33 (hb hby own_d27_30) rfl ?_
  intro T9 X9 e9
  refine own_icN X9 hx 36 (hb hby own_d27_33) rfl (teq (rfl : (0 : Int32) = (0 : Int32))).2 ?_
  refine own_aln X9 hx 37 (hb hby own_d27_36) rfl rfl rfl ?_
  refine own_gF X9 hx hZ hown (host := "") (Or.inl (hw _ (own_mi 33 rfl))) Via.refl e9 Pm1 40 (hb hby own_d27_37) rfl ?_
  intro T10 X10 e10
  refine own_aln X10 hx 41 (hb hby own_d27_40) rfl rfl rfl ?_
  refine own_gF X10 hx hZ hown (host := "") (Or.inl (hw _ (own_mi 33 rfl))) Via.refl e10 Pm4 44 (hb hby own_d27_41) rfl ?_
  intro T11 X11 e11
  have Zn12 : n0 ≤ h0.size := (Nat.le_trans Z0 (Nat.le_refl _))
  refine own_cS X11 hx hZ (y := (⟨"java/lang/StringLatin1", "equals", "([B[B)Z"⟩ : MethodName)) hown (hw _ (own_mi 174 rfl)) (hw _ (own_mi 175 rfl)) (hw _ (own_mi 176 rfl)) (hw _ (own_mi 177 rfl)) (by decide) (rmLE l Z a0 hw [] (t) (kt) (t2) (k2) (cs) h0 n0 Zn12 Pm6 Pm7 (hn)) e11 [(.ref t), (.ref t2)] [] rfl (by rw [hml]; rfl) (lenOf own_pd_285bB5bB29Z rfl) rfl 0 (Nat.le_of_eq rfl) (by decide) (by decide) (by decide : 0 + 0 ≤ _) (by decide : 0 + 0 ≤ _) 47 (hb hby own_d27_44) rfl 0 0 rfl rfl ?_
  intro rv12 T12 Lc12 X12 hQ12
  obtain ⟨rfl, Nq12, eh12⟩ := hQ12
  have N12 := Fr.app N0 Nq12
  show own_Rn p e below _ (T12.setTop (mkF m 47 #[.val (.ref x), .val (.ref y), .val (.ref y)] [(.int (1 : Int32))]))
  refine own_ifN X12 hx 50 (hb hby own_d27_47) rfl ((if0 _ _).trans (feq ((by decide : ¬ ((1 : Int32) = (0 : Int32))) : ¬ ((1 : Int32) = (0 : Int32)))).1) ?_
  refine own_ic X12 hx (1 : Int32) 51 (hb hby own_d27_50) rfl rfl ?_
  refine own_gt X12 hx 55 (hb hby own_d27_51) (by decide) (by decide) ?_
  exact own_ret X12 (v := some (.int (nar .boolean (1 : Int32)))) (fun h => by rw [Bd.returns] at h; cases h) (fun fs hr => retN X12 hx (t := .boolean) Bd.returns (by simp) (hb hby own_d27_55) hr) (by rw [eh12]; exact ⟨rfl, N12, rfl⟩) (by decide) (by decide)
theorem own_ef_rmDST (m : MethodId) (x : Addr) (t : Addr) (kt : ClassId) (bs : List Nat) (xf : Addr) (tf : Addr) (kf : ClassId) (te : Addr) (ke : ClassId) (ci : Addr) (cu : Addr) (de : Addr) (en : Addr) (G1 : Int32) (G3 : Value) : entryFrame m #[(.ref x), (.ref xf)] 4 = mkF m 0 #[.val (.ref x), .val (.ref xf), .unset, .unset] [] := by first | (simp [entryFrame, mkF, argsToLocals, Value.category]; done) | rfl
theorem own_pn_com_example_cartiglio_cartiglio_core_Base64Url : plainName "com/example/cartiglio/cartiglio/core/Base64Url" = true := by first | (simp [plainName, overriddenIn]; done) | decide +kernel
theorem own_d30_0 : decode prog_4_method_4_code 0 = .ok (.getstatic 19, 3) := by decide +kernel
theorem own_d30_3 : decode prog_4_method_4_code 3 = .ok (.aload_n 0, 1) := by decide +kernel
theorem own_d30_4 : decode prog_4_method_4_code 4 = .ok (.invokevirtual 23, 3) := by decide +kernel
theorem own_pd_28Ljava2flang2fString3b295bB : parseMethodDescriptor "(Ljava/lang/String;)[B" = some ⟨[(.object "java/lang/String")], some (.array .byte)⟩ := by decide +kernel
theorem own_d30_7 : decode prog_4_method_4_code 7 = .ok (.astore_n 2, 1) := by decide +kernel
theorem own_d30_8 : decode prog_4_method_4_code 8 = .ok (.goto 18, 3) := by decide +kernel
theorem own_d30_26 : decode prog_4_method_4_code 26 = .ok (.getstatic 7, 3) := by decide +kernel
theorem own_d30_29 : decode prog_4_method_4_code 29 = .ok (.aload_n 2, 1) := by decide +kernel
theorem own_d30_30 : decode prog_4_method_4_code 30 = .ok (.invokevirtual 13, 3) := by decide +kernel
theorem own_pd_285bB29Ljava2flang2fString3b : parseMethodDescriptor "([B)Ljava/lang/String;" = some ⟨[(.array .byte)], some (.object "java/lang/String")⟩ := by decide +kernel
theorem own_d30_33 : decode prog_4_method_4_code 33 = .ok (.aload_n 0, 1) := by decide +kernel
theorem own_d30_34 : decode prog_4_method_4_code 34 = .ok (.invokevirtual 40, 3) := by decide +kernel
theorem own_pd_28Ljava2flang2fObject3b29Z : parseMethodDescriptor "(Ljava/lang/Object;)Z" = some ⟨[(.object "java/lang/Object")], some .boolean⟩ := by decide +kernel
theorem own_d30_37 : decode prog_4_method_4_code 37 = .ok (.ifCond .ne 17, 3) := by decide +kernel
theorem own_d30_54 : decode prog_4_method_4_code 54 = .ok (.aload_n 2, 1) := by decide +kernel
theorem own_d30_55 : decode prog_4_method_4_code 55 = .ok (.areturn, 1) := by decide +kernel
def Q_rmDST (Z : State) (x : Addr) (t : Addr) (kt : ClassId) (bs : List Nat) (xf : Addr) (tf : Addr) (kf : ClassId) (te : Addr) (ke : ClassId) (ci : Addr) (cu : Addr) (de : Addr) (en : Addr) (G1 : Int32) (G3 : Value) (h0 : Heap) (n0 : Nat) (vq : Option Value) (hhq : Heap) (Lq : List Loc) : Prop := ∃ (v : Addr), ∃ (kv : ClassId), vq = some (.ref v) ∧ Fr n0 Lq ∧ Keep h0 hhq [] ∧ Arv Z hhq v kv .byte (Int32.ofNat bs.length) (own_bs (own_ub bs)) (.int 0)
set_option maxRecDepth 65536 in
set_option maxHeartbeats 40000000 in
theorem rmDST (l : Launch) (Z : State) (a0 : Array Value) (hw : ∀ d ∈ tables_1, d.before a0 Z = true) (ws : List Jvm.Cond) (x : Addr) (t : Addr) (kt : ClassId) (bs : List Nat) (xf : Addr) (tf : Addr) (kf : ClassId) (te : Addr) (ke : ClassId) (ci : Addr) (cu : Addr) (de : Addr) (en : Addr) (G1 : Int32) (G3 : Value) (h0 : Heap) (n0 : Nat) (Z0 : n0 ≤ h0.size) (hEL : EW Z a0 consts_1) (Pm0 : Exa Z h0 x "java/lang/String") (Pm1 : Fld Z h0 x "java/lang/String" "value" "[B" (.ref t)) (Pm2 : Fld Z h0 x "java/lang/String" "coder" "B" (.int (0 : Int32))) (Pm3 : Arv Z h0 t kt .byte (Int32.ofNat (own_cs bs).length) (own_bs (own_cs bs)) (.int 0)) (Pm4 : Exa Z h0 t "[B") (hL : (bs.length ≤ 5)) (hB : (∀ b ∈ bs, b < 256)) (OD : Sta Z Z.heap "com/example/cartiglio/cartiglio/core/Base64Url" "DECODER" "Ljava/util/Base64$Decoder;" (.ref de)) (OE : Sta Z Z.heap "com/example/cartiglio/cartiglio/core/Base64Url" "ENCODER" "Ljava/util/Base64$Encoder;" (.ref en)) (ZD : Exa Z Z.heap de "java/util/Base64$Decoder") (ZD1 : Fld Z Z.heap de "java/util/Base64$Decoder" "isURL" "Z" (.int (1 : Int32))) (ZD2 : Fld Z Z.heap de "java/util/Base64$Decoder" "isMIME" "Z" (.int (0 : Int32))) (OF : Sta Z Z.heap "java/util/Base64$Decoder" "fromBase64URL" "[I" (.ref tf)) (ZF : Arv Z Z.heap tf kf .int (256 : Int32) (own_F.map Value.int) (.int 0)) (ZE : Exa Z Z.heap en "java/util/Base64$Encoder") (ZE1 : Fld Z Z.heap en "java/util/Base64$Encoder" "isURL" "Z" (.int (1 : Int32))) (ZE2 : Fld Z Z.heap en "java/util/Base64$Encoder" "doPadding" "Z" (.int (0 : Int32))) (ZE3 : Fld Z Z.heap en "java/util/Base64$Encoder" "linemax" "I" (.int (-1 : Int32))) (OT : Sta Z Z.heap "java/util/Base64$Encoder" "toBase64URL" "[C" (.ref te)) (ZT : Arv Z Z.heap te ke .char (64 : Int32) (own_T.map Value.int) (.int 0)) (OU : Sta Z Z.heap "sun/nio/cs/UTF_8" "INSTANCE" "Lsun/nio/cs/UTF_8;" (.ref cu)) (OI : Sta Z Z.heap "sun/nio/cs/ISO_8859_1" "INSTANCE" "Lsun/nio/cs/ISO_8859_1;" (.ref ci)) (nci : (ci ≠ cu)) (O4 : Sta Z Z.heap "jdk/internal/util/Preconditions" "SIOOBE_FORMATTER" "Ljava/util/function/BiFunction;" G3) (hG3 : (G3 = .null ∨ ∃ ga, G3 = .ref ga)) (O2 : Sta Z Z.heap "java/lang/String" "COMPACT_STRINGS" "Z" (.int G1)) (P5 : (¬ (G1 = (0 : Int32)))) (X00 : Old Z n0 h0) :
    MetFree l (⟨"com/example/cartiglio/cartiglio/core/Base64Url", "decodeStrict", "(Ljava/lang/String;Ljava/lang/String;)[B"⟩ : MethodName) (head1 (Jvm.Cond.codeWith (⟨"com/example/cartiglio/cartiglio/core/Base64Url", "decodeStrict", "(Ljava/lang/String;Ljava/lang/String;)[B"⟩ : MethodName) prog_4_method_4_code 4 (some (.array .byte)) [(0, 8, 11, 29)] :: ws) ({ frames := 6, cells := 8, slots := 31, locals := 89 } : Room)) (fun aq U => aq = #[(.ref x), (.ref xf)] ∧ Z.Warmed39 U.vm ∧ U.heap = h0 ∧ CHv Z consts_1 U.vm h0 ∧ ∀ ax ∈ ([] : List Addr), Safe Z consts_1 U.vm h0 ax) (fun _ _ _ _ _ => True) (fun _ U oq U' => ∃ vq Lq, oq = .returned vq ∧ Q_rmDST Z x t kt bs xf tf kf te ke ci cu de en G1 G3 h0 n0 vq U'.heap Lq ∧ CHr Z consts_1 U.vm U.heap U'.vm U'.heap ∧ ReturnedEndW U oq U' Lq ({ frames := 6, cells := 8, slots := 31, locals := 89 } : Room).cells ({ frames := 6, cells := 8, slots := 31, locals := 89 } : Room).slots) := by
  refine MetFree.of_bodySF (plainFor_of_name own_pn_com_example_cartiglio_cartiglio_core_Base64Url) hisWith ?_
  intro p e s m args below meth c s₁ Bd hml0 hP hK
  obtain ⟨rfl, hZ, hh, hH, hSf⟩ := hP
  have hx := Bd.exec
  have hby := Bd.bytes
  have hml : c.maxLocals = 4 := hml0
  have hown : s.vm.findClass "com/example/cartiglio/cartiglio/core/Base64Url" = some m.cls := findClass_of_methodNamed Bd.named
  have hnm := (name_of_methodNamed Bd.named Bd.method).1
  have X0 : Stand p l e ({ frames := 6, cells := 8, slots := 31, locals := 89 } : Room) (s.setVm s.vm) m #[(.ref x), (.ref xf)] below meth c s₁ [] 0 0 := Stand.of_body Bd
  have e0 : s₁.heap = h0 := by rw [← hh, Bd.state]; rfl
  have N0 := Fr.nil n0
  have K0 : Keep h0 h0 [] := Keep.refl _ _
  refine own_go (S' := s₁.setTop (mkF m 0 #[.val (.ref x), .val (.ref xf), .unset, .unset] [])) (fun tq kq => castTop (own_ef_rmDST m x t kt bs xf tf kf te ke ci cu de en G1 G3) kq) ?_
  have lt1 : @LT.lt Nat _ x h0.size := Pm0.lt
  have lt2 : @LT.lt Nat _ t h0.size := Pm3.lt
  have hS0 : s.Since s.vm h0.size := (State.WarmedH.refl s).since _
  have CR0 : CHr Z consts_1 s.vm h0 s.vm h0 := CHr.refl hH
  have hwS : ∀ d ∈ Bundle.stringAtoms, d.before a0 Z = true := fun d hd => hw d ((by decide +kernel : ∀ d ∈ Bundle.stringAtoms, d ∈ tables_1) d hd)
  refine own_gS X0 hx hZ hown (host := "") (Or.inl (hw _ (own_mi 42 rfl))) Via.refl e0 (OD.ext X00.2) 3 (hb hby own_d30_0) rfl ?_
  intro T3 X3 e3
  refine own_aln X3 hx 4 (hb hby own_d30_3) rfl rfl rfl ?_
  have Zn4 : n0 ≤ h0.size := (Nat.le_trans Z0 (Nat.le_refl _))
  have F5 : Exa Z h0 de "java/util/Base64$Decoder" := ZD.ext X00.2
  refine own_cV X3 hx hZ (y := (⟨"java/util/Base64$Decoder", "decode", "(Ljava/lang/String;)[B"⟩ : MethodName)) (z := (⟨"java/util/Base64$Decoder", "decode", "(Ljava/lang/String;)[B"⟩ : MethodName)) hown (hw _ (own_mi 44 rfl)) (hw _ (own_mi 45 rfl)) (notFace_of_selects (args := #[]) (mvT hZ (hw _ (own_mi 47 rfl)))) (hw _ (own_mi 47 rfl)) (hw _ (own_mi 46 rfl)) (hw _ (own_mi 49 rfl)) (hw _ (own_mi 48 rfl)) (by decide) (rmDSt l Z a0 hw [] (de) (x) (t) (kt) (bs) (tf) (kf) (ci) (cu) (G1) h0 n0 Zn4 ZD ZD1 ZD2 (OF) ZF Pm0 Pm1 Pm2 Pm3 Pm4 (hL) (hB) (OU) (OI) (nci) (O2) (P5) X00) F5 e3 [(.ref x)] [] rfl (by rw [hml]; rfl) (lenOf own_pd_28Ljava2flang2fString3b295bB rfl) rfl 0 (Nat.le_of_eq rfl) (by decide) (by decide) (by decide : 0 + 2 ≤ _) (by decide : 0 + 12 ≤ _) 7 (hb hby own_d30_4) rfl 2 12 rfl rfl ?_
  intro rv4 T4 Lc4 X4 hQ4
  obtain ⟨vv, kvv, rfl, Nq4, Kq4, G0_4, G1_4, G2_4⟩ := hQ4
  have N4 := Fr.app N0 Nq4
  have sz6 : h0.size ≤ T4.heap.size := Kq4.1
  have K6 := K0.trans Kq4 all0
  have cr6 : CHr Z consts_1 s.vm h0 s.vm T4.heap := CHr.keep Kq4 sf0 CR0.1
  have CR6 := CR0.trans cr6
  have sf7 : Safe Z consts_1 s.vm T4.heap vv := Safe.keep Kq4 sf0 CR0.1 (Safe.new G0_4)
  have lt8 : @LT.lt Nat _ vv T4.heap.size := G2_4.lt
  show own_Rn p e below _ (T4.setTop (mkF m 7 #[.val (.ref x), .val (.ref xf), .unset, .unset] [(.ref vv)]))
  refine own_asn X4 hx #[.val (.ref x), .val (.ref xf), .val (.ref vv), .unset] 8 (hb hby own_d30_7) rfl rfl rfl ?_
  refine own_gt X4 hx 26 (hb hby own_d30_8) (by decide) (by decide) ?_
  have F9 : Old Z n0 T4.heap := (X00.keep Kq4 all0)
  refine own_gS X4 hx hZ hown (host := "") (Or.inl (hw _ (own_mi 105 rfl))) Via.refl rfl (OE.ext F9.2) 29 (hb hby own_d30_26) rfl ?_
  intro T10 X10 e10
  refine own_aln X10 hx 30 (hb hby own_d30_29) rfl rfl rfl ?_
  have Zn11 : n0 ≤ T4.heap.size := (Nat.le_trans Z0 sz6)
  have F12 : Exa Z T4.heap en "java/util/Base64$Encoder" := ZE.ext F9.2
  obtain ⟨cq11, kq11, qa11, qb11, qc11⟩ := isOf hZ e10 F12
  obtain ⟨rv11, _, ⟨T11, L11, k11, n11⟩, -, X11, hS11, hG11, ⟨Lc11, hQ11, l11, y11, z11, CR11q⟩, st11⟩ := X10.virtualBackS hx (y := (⟨"java/util/Base64$Encoder", "encodeToString", "([B)Ljava/lang/String;"⟩ : MethodName)) (z := (⟨"java/util/Base64$Encoder", "encodeToString", "([B)Ljava/lang/String;"⟩ : MethodName)) hown (mvT hZ (hw _ (own_mi 107 rfl))) (mvT hZ (hw _ (own_mi 108 rfl))) (notFace_of_selects (args := #[]) (mvT hZ (hw _ (own_mi 110 rfl)))) (mvT hZ (hw _ (own_mi 110 rfl))) (mvT hZ (hw _ (own_mi 109 rfl))) (by decide) (own_backSH (W := 0) (rm := ({ frames := 3, cells := 6, slots := 19, locals := 65 } : Room)) (sf := []) (h := T4.heap) (rmES l Z a0 hw [] (en) (vv) (kvv) (bs) (te) (ke) (G1) (G3) T4.heap n0 Zn11 hEL ZE ZE1 ZE2 ZE3 (OT) ZT G2_4 (hL) (hB) (O4) (hG3) (O2) (P5) F9) hZ (hw _ (own_mi 112 rfl)) (hw _ (own_mi 111 rfl)) (by decide) (by decide) hEL CR6.1 sf0) qa11 qc11 (g := (mkF m 30 #[.val (.ref x), .val (.ref xf), .val (.ref vv), .unset] [(.ref vv), (.ref en)])) rfl (by rw [hml]; rfl) (Steps.refl _) (argsL := [(.ref vv)]) (rest := []) (lenOf own_pd_285bB29Ljava2flang2fString3b rfl) rfl (by show 2 * 0 + _ ≤ _; exact Nat.le_of_eq rfl) (show decode c.code 30 = .ok (.invokevirtual 13, 3) from (hb hby own_d30_30)) (fun _ _ => ⟨rfl, e10, (by decide : 2 + 6 ≤ _), (by decide : 12 + 19 ≤ _)⟩)
  dsimp only [Pt.U, Pt.locs, Pt.cells, Pt.slots] at X11 l11 y11 z11 st11 hQ11 hS11 hG11 CR11q
  subst l11 y11 z11
  obtain ⟨xe, te2, ke2, rfl, Nq11, Kq11, G0_11, G1_11, G2_11, G3_11, G4_11⟩ := hQ11
  have N11 := Fr.app N4 Nq11
  obtain ⟨Xr11, hSr11, hZ11, hown11⟩ := rebS hS0 (n1 := T10.heap.size) (by rw [e10]; omega) X11 hS11 hG11 hZ hown
  have sz13 : T4.heap.size ≤ T11.heap.size := Kq11.1
  have K13 := K6.trans Kq11 all0
  have cr13 : CHr Z consts_1 s.vm T4.heap T11.vm T11.heap := CR11q
  have CR13 := CR6.trans cr13
  have lt14 : @LT.lt Nat _ xe T11.heap.size := G1_11.lt
  have lt15 : @LT.lt Nat _ te2 T11.heap.size := G4_11.lt
  refine own_go (fun tq kq => st11.trans kq) ?_
  show own_Rn p e below _ (T11.setTop (mkF m 33 #[.val (.ref x), .val (.ref xf), .val (.ref vv), .unset] [(.ref xe)]))
  refine own_aln Xr11 hx 34 (hb hby own_d30_33) rfl rfl rfl ?_
  have ne16 : xe ≠ x := own_nea (Or.inr (Nat.lt_of_lt_of_le lt1 (Nat.le_trans sz6 G0_11)))
  have le18 : h0.size ≤ T11.heap.size := Nat.le_trans sz6 sz13
  have Zn17 : n0 ≤ T11.heap.size := (Nat.le_trans Z0 le18)
  have F19 : Exa Z T11.heap x "java/lang/String" := ((Pm0.keep Kq4).keep Kq11)
  have F20 : Fld Z T11.heap x "java/lang/String" "value" "[B" (.ref t) := ((Pm1.keep Kq4 nin0).keep Kq11 nin0)
  have F21 : Fld Z T11.heap x "java/lang/String" "coder" "B" (.int (0 : Int32)) := ((Pm2.keep Kq4 nin0).keep Kq11 nin0)
  have F22 : Arv Z T11.heap t kt .byte (Int32.ofNat (own_cs bs).length) (own_bs (own_cs bs)) (.int 0) := ((Pm3.keep Kq4 nin0).keep Kq11 nin0)
  have F23 : Old Z n0 T11.heap := (F9.keep Kq11 all0)
  refine own_cV Xr11 hx hZ11 (y := (⟨"java/lang/String", "equals", "(Ljava/lang/Object;)Z"⟩ : MethodName)) (z := (⟨"java/lang/String", "equals", "(Ljava/lang/Object;)Z"⟩ : MethodName)) hown11 (hw _ (own_mi 168 rfl)) (hw _ (own_mi 169 rfl)) (notFace_of_selects (args := #[]) (mvT hZ11 (hw _ (own_mi 171 rfl)))) (hw _ (own_mi 171 rfl)) (hw _ (own_mi 170 rfl)) (hw _ (own_mi 172 rfl)) (hw _ (own_mi 8 rfl)) (by decide) (rmEQ l Z a0 hw [] (xe) (te2) (ke2) (x) (t) (kt) ((own_cs bs)) (G1) T11.heap n0 Zn17 G1_11 G2_11 G3_11 F19 F20 F21 G4_11 F22 (own_cs_len bs hB) (ne16) (O2) (P5) F23) G1_11 rfl [(.ref x)] [] rfl (by rw [hml]; rfl) (lenOf own_pd_28Ljava2flang2fObject3b29Z rfl) rfl 0 (Nat.le_of_eq rfl) (by decide) (by decide) (by decide : 8 + 0 ≤ _) (by decide : 31 + 0 ≤ _) 37 (hb hby own_d30_34) rfl 8 31 rfl rfl ?_
  intro rv17 T17 Lc17 X17 hQ17
  obtain ⟨rfl, Nq17, eh17⟩ := hQ17
  have N17 := Fr.app N11 Nq17
  show own_Rn p e below _ (T17.setTop (mkF m 37 #[.val (.ref x), .val (.ref xf), .val (.ref vv), .unset] [(.int (1 : Int32))]))
  refine own_ifY X17 hx 54 (hb hby own_d30_37) ((if0 _ _).trans (feq ((by decide : ¬ ((1 : Int32) = (0 : Int32))) : ¬ ((1 : Int32) = (0 : Int32)))).2) (by decide) (by decide) ?_
  refine own_aln X17 hx 55 (hb hby own_d30_54) rfl rfl rfl ?_
  have F24 : Arv Z T11.heap vv kvv .byte (Int32.ofNat bs.length) (own_bs (own_ub bs)) (.int 0) := (G2_4.keep Kq11 nin0)
  exact own_retS X17 hSr11 (by rw [eh17]; omega) (v := some (.ref vv)) (fun h => by rw [Bd.returns] at h; cases h) (fun fs hr => X17.areturnOut hx rfl Bd.returns rfl (hb hby own_d30_55) hr) (by rw [eh17]; exact ⟨vv, kvv, rfl, N17, K13, F24⟩) (by rw [hh, eh17]; exact CR13.trans (CHv.at X17 hZ11 hEL CR13.1)) (by decide) (by decide)
theorem own_ef_rm0 (m : MethodId) (i0 : Int32) (i1 : Int32) (i2 : Int32) (i3 : Int32) (i4 : Int32) (i5 : Int32) (tf : Addr) (kf : ClassId) (te : Addr) (ke : ClassId) (ci : Addr) (cu : Addr) (de : Addr) (en : Addr) (G1 : Int32) (G3 : Value) : entryFrame m #[(.int i0), (.int i1), (.int i2), (.int i3), (.int i4), (.int i5)] maxLocals = mkF m 0 #[.val (.int i0), .val (.int i1), .val (.int i2), .val (.int i3), .val (.int i4), .val (.int i5), .unset, .unset, .unset, .unset, .unset, .unset, .unset, .unset, .unset, .unset, .unset, .unset, .unset, .unset, .unset, .unset] [] := by first | (simp [entryFrame, mkF, argsToLocals, Value.category, maxLocals]; done) | rfl
theorem own_pd_28I29C : parseMethodDescriptor "(I)C" = some ⟨[.int], some .char⟩ := by decide +kernel
theorem own_pd_285bC29V : parseMethodDescriptor "([C)V" = some ⟨[(.array .char)], none⟩ := by decide +kernel
theorem own_pd_28Ljava2flang2fString3bLjava2flang2fString3b295bB : parseMethodDescriptor "(Ljava/lang/String;Ljava/lang/String;)[B" = some ⟨[(.object "java/lang/String"), (.object "java/lang/String")], some (.array .byte)⟩ := by decide +kernel
def Q_rm0 (Z : State) (i0 : Int32) (i1 : Int32) (i2 : Int32) (i3 : Int32) (i4 : Int32) (i5 : Int32) (tf : Addr) (kf : ClassId) (te : Addr) (ke : ClassId) (ci : Addr) (cu : Addr) (de : Addr) (en : Addr) (G1 : Int32) (G3 : Value) (h0 : Heap) (n0 : Nat) (vq : Option Value) (hhq : Heap) (Lq : List Loc) : Prop := vq = some (.int (1 : Int32)) ∧ Fr n0 Lq
set_option maxRecDepth 65536 in
set_option maxHeartbeats 40000000 in
theorem rm0 (l : Launch) (Z : State) (a0 : Array Value) (hw : ∀ d ∈ tables_1, d.before a0 Z = true) (ws : List Jvm.Cond) (i0 : Int32) (i1 : Int32) (i2 : Int32) (i3 : Int32) (i4 : Int32) (i5 : Int32) (tf : Addr) (kf : ClassId) (te : Addr) (ke : ClassId) (ci : Addr) (cu : Addr) (de : Addr) (en : Addr) (G1 : Int32) (G3 : Value) (h0 : Heap) (n0 : Nat) (Z0 : n0 ≤ h0.size) (hEL : EW Z a0 consts_1) (OD : Sta Z Z.heap "com/example/cartiglio/cartiglio/core/Base64Url" "DECODER" "Ljava/util/Base64$Decoder;" (.ref de)) (OE : Sta Z Z.heap "com/example/cartiglio/cartiglio/core/Base64Url" "ENCODER" "Ljava/util/Base64$Encoder;" (.ref en)) (ZD : Exa Z Z.heap de "java/util/Base64$Decoder") (ZD1 : Fld Z Z.heap de "java/util/Base64$Decoder" "isURL" "Z" (.int (1 : Int32))) (ZD2 : Fld Z Z.heap de "java/util/Base64$Decoder" "isMIME" "Z" (.int (0 : Int32))) (OF : Sta Z Z.heap "java/util/Base64$Decoder" "fromBase64URL" "[I" (.ref tf)) (ZF : Arv Z Z.heap tf kf .int (256 : Int32) (own_F.map Value.int) (.int 0)) (ZE : Exa Z Z.heap en "java/util/Base64$Encoder") (ZE1 : Fld Z Z.heap en "java/util/Base64$Encoder" "isURL" "Z" (.int (1 : Int32))) (ZE2 : Fld Z Z.heap en "java/util/Base64$Encoder" "doPadding" "Z" (.int (0 : Int32))) (ZE3 : Fld Z Z.heap en "java/util/Base64$Encoder" "linemax" "I" (.int (-1 : Int32))) (OT : Sta Z Z.heap "java/util/Base64$Encoder" "toBase64URL" "[C" (.ref te)) (ZT : Arv Z Z.heap te ke .char (64 : Int32) (own_T.map Value.int) (.int 0)) (OU : Sta Z Z.heap "sun/nio/cs/UTF_8" "INSTANCE" "Lsun/nio/cs/UTF_8;" (.ref cu)) (OI : Sta Z Z.heap "sun/nio/cs/ISO_8859_1" "INSTANCE" "Lsun/nio/cs/ISO_8859_1;" (.ref ci)) (nci : (ci ≠ cu)) (O4 : Sta Z Z.heap "jdk/internal/util/Preconditions" "SIOOBE_FORMATTER" "Ljava/util/function/BiFunction;" G3) (hG3 : (G3 = .null ∨ ∃ ga, G3 = .ref ga)) (O2 : Sta Z Z.heap "java/lang/String" "COMPACT_STRINGS" "Z" (.int G1)) (P5 : (¬ (G1 = (0 : Int32)))) (X00 : Old Z n0 h0) :
    MetFree l x (head1 (Jvm.Cond.code x code maxLocals ret :: ws) room_1) (fun aq U => aq = #[(.int i0), (.int i1), (.int i2), (.int i3), (.int i4), (.int i5)] ∧ Z.Warmed39 U.vm ∧ U.heap = h0 ∧ CHv Z consts_1 U.vm h0 ∧ ∀ ax ∈ ([] : List Addr), Safe Z consts_1 U.vm h0 ax) (fun _ _ _ _ _ => True) (fun _ U oq U' => ∃ vq Lq, oq = .returned vq ∧ Q_rm0 Z i0 i1 i2 i3 i4 i5 tf kf te ke ci cu de en G1 G3 h0 n0 vq U'.heap Lq ∧ CHr Z consts_1 U.vm U.heap U'.vm U'.heap ∧ ReturnedEndW U oq U' Lq 32 2240) := by
  refine MetFree.of_bodySF (plainFor_of_name own_pn_com_example_cartiglio_cartiglio_core_Base64UrlDecodeStrictPinLaw) hisR ?_
  intro p e s m args below meth c s₁ Bd hml0 hP hK
  obtain ⟨rfl, hZ, hh, hH, hSf⟩ := hP
  have hx := Bd.exec
  have hby := Bd.bytes
  have hml : c.maxLocals = 22 := hml0
  have hown : s.vm.findClass "com/example/cartiglio/cartiglio/core/Base64UrlDecodeStrictPinLaw" = some m.cls := findClass_of_methodNamed Bd.named
  have hnm := (name_of_methodNamed Bd.named Bd.method).1
  have X0 : Stand p l e room_1 (s.setVm s.vm) m #[(.int i0), (.int i1), (.int i2), (.int i3), (.int i4), (.int i5)] below meth c s₁ [] 0 0 := Stand.of_body Bd
  have e0 : s₁.heap = h0 := by rw [← hh, Bd.state]; rfl
  have N0 := Fr.nil n0
  have K0 : Keep h0 h0 [] := Keep.refl _ _
  refine own_go (S' := s₁.setTop (mkF m 0 #[.val (.int i0), .val (.int i1), .val (.int i2), .val (.int i3), .val (.int i4), .val (.int i5), .unset, .unset, .unset, .unset, .unset, .unset, .unset, .unset, .unset, .unset, .unset, .unset, .unset, .unset, .unset, .unset] [])) (fun tq kq => castTop (own_ef_rm0 m i0 i1 i2 i3 i4 i5 tf kf te ke ci cu de en G1 G3) kq) ?_
  have hS0 : s.Since s.vm h0.size := (State.WarmedH.refl s).since _
  have CR0 : CHr Z consts_1 s.vm h0 s.vm h0 := CHr.refl hH
  have hwS : ∀ d ∈ Bundle.stringAtoms, d.before a0 Z = true := fun d hd => hw d ((by decide +kernel : ∀ d ∈ Bundle.stringAtoms, d ∈ tables_1) d hd)
  refine own_il X0 hx 2 (hb hby at_0) rfl rfl ?_
  refine own_go (fun tq kq => X0.ldcInt hx hown (mvT hZ (hw _ (own_mi 0 rfl))) (g := (mkF m 2 #[.val (.int i0), .val (.int i1), .val (.int i2), .val (.int i3), .val (.int i4), .val (.int i5), .unset, .unset, .unset, .unset, .unset, .unset, .unset, .unset, .unset, .unset, .unset, .unset, .unset, .unset, .unset, .unset] [(.int i5)])) rfl (hb hby at_2) _ kq) ?_
  show own_Rn p e below _ (s₁.setTop (mkF m 4 #[.val (.int i0), .val (.int i1), .val (.int i2), .val (.int i3), .val (.int i4), .val (.int i5), .unset, .unset, .unset, .unset, .unset, .unset, .unset, .unset, .unset, .unset, .unset, .unset, .unset, .unset, .unset, .unset] [(.int (2147483647 : Int32)), (.int i5)]))
  refine own_iand X0 hx 5 (hb hby at_4) rfl ?_
  refine own_bp X0 hx (6 : Int32) 7 (hb hby at_5) rfl rfl ?_
  refine own_go (fun tq kq => iremM X0 hx rfl (hb hby at_7) rfl (by decide) kq) ?_
  show own_Rn p e below _ (s₁.setTop (mkF m 8 #[.val (.int i0), .val (.int i1), .val (.int i2), .val (.int i3), .val (.int i4), .val (.int i5), .unset, .unset, .unset, .unset, .unset, .unset, .unset, .unset, .unset, .unset, .unset, .unset, .unset, .unset, .unset, .unset] [(.int ((i5 &&& (2147483647 : Int32)) % (6 : Int32)))]))
  obtain ⟨nn, hn5, en5⟩ := own_mod6 i5
  rw [en5]
  show own_Rn p e below _ (s₁.setTop (mkF m 8 #[.val (.int i0), .val (.int i1), .val (.int i2), .val (.int i3), .val (.int i4), .val (.int i5), .unset, .unset, .unset, .unset, .unset, .unset, .unset, .unset, .unset, .unset, .unset, .unset, .unset, .unset, .unset, .unset] [(.int (Int32.ofNat nn))]))
  refine own_is X0 hx #[.val (.int i0), .val (.int i1), .val (.int i2), .val (.int i3), .val (.int i4), .val (.int i5), .val (.int (Int32.ofNat nn)), .unset, .unset, .unset, .unset, .unset, .unset, .unset, .unset, .unset, .unset, .unset, .unset, .unset, .unset, .unset] 10 (hb hby at_8) rfl rfl ?_
  refine own_il X0 hx 12 (hb hby at_10) rfl rfl ?_
  refine own_ic X0 hx (1 : Int32) 13 (hb hby at_12) rfl rfl ?_
  have J1 : ∀ b0 : Nat, b0 < 256 → (nn < 1 → b0 = 0) → own_Rn p e below (fun oq U' => ∃ vq Lq, oq = .returned vq ∧ Q_rm0 Z i0 i1 i2 i3 i4 i5 tf kf te ke ci cu de en G1 G3 h0 n0 vq U'.heap Lq ∧ CHr Z consts_1 s.vm s.heap U'.vm U'.heap ∧ ReturnedEndW s oq U' Lq 32 2240) (s₁.setTop (mkF m 25 #[.val (.int i0), .val (.int i1), .val (.int i2), .val (.int i3), .val (.int i4), .val (.int i5), .val (.int (Int32.ofNat nn)), .unset, .unset, .unset, .unset, .unset, .unset, .unset, .unset, .unset, .unset, .unset, .unset, .unset, .unset, .unset] [(.int (Int32.ofNat b0))])) := by
    intro b0 hb0 hz0
    refine own_is X0 hx #[.val (.int i0), .val (.int i1), .val (.int i2), .val (.int i3), .val (.int i4), .val (.int i5), .val (.int (Int32.ofNat nn)), .val (.int (Int32.ofNat b0)), .unset, .unset, .unset, .unset, .unset, .unset, .unset, .unset, .unset, .unset, .unset, .unset, .unset, .unset] 27 (hb hby at_25) rfl rfl ?_
    refine own_il X0 hx 29 (hb hby at_27) rfl rfl ?_
    refine own_ic X0 hx (2 : Int32) 30 (hb hby at_29) rfl rfl ?_
    have J2 : ∀ b1 : Nat, b1 < 256 → (nn < 2 → b1 = 0) → own_Rn p e below (fun oq U' => ∃ vq Lq, oq = .returned vq ∧ Q_rm0 Z i0 i1 i2 i3 i4 i5 tf kf te ke ci cu de en G1 G3 h0 n0 vq U'.heap Lq ∧ CHr Z consts_1 s.vm s.heap U'.vm U'.heap ∧ ReturnedEndW s oq U' Lq 32 2240) (s₁.setTop (mkF m 42 #[.val (.int i0), .val (.int i1), .val (.int i2), .val (.int i3), .val (.int i4), .val (.int i5), .val (.int (Int32.ofNat nn)), .val (.int (Int32.ofNat b0)), .unset, .unset, .unset, .unset, .unset, .unset, .unset, .unset, .unset, .unset, .unset, .unset, .unset, .unset] [(.int (Int32.ofNat b1))])) := by
      intro b1 hb1 hz1
      refine own_is X0 hx #[.val (.int i0), .val (.int i1), .val (.int i2), .val (.int i3), .val (.int i4), .val (.int i5), .val (.int (Int32.ofNat nn)), .val (.int (Int32.ofNat b0)), .val (.int (Int32.ofNat b1)), .unset, .unset, .unset, .unset, .unset, .unset, .unset, .unset, .unset, .unset, .unset, .unset, .unset] 44 (hb hby at_42) rfl rfl ?_
      refine own_il X0 hx 46 (hb hby at_44) rfl rfl ?_
      refine own_ic X0 hx (3 : Int32) 47 (hb hby at_46) rfl rfl ?_
      have J3 : ∀ b2 : Nat, b2 < 256 → (nn < 3 → b2 = 0) → own_Rn p e below (fun oq U' => ∃ vq Lq, oq = .returned vq ∧ Q_rm0 Z i0 i1 i2 i3 i4 i5 tf kf te ke ci cu de en G1 G3 h0 n0 vq U'.heap Lq ∧ CHr Z consts_1 s.vm s.heap U'.vm U'.heap ∧ ReturnedEndW s oq U' Lq 32 2240) (s₁.setTop (mkF m 59 #[.val (.int i0), .val (.int i1), .val (.int i2), .val (.int i3), .val (.int i4), .val (.int i5), .val (.int (Int32.ofNat nn)), .val (.int (Int32.ofNat b0)), .val (.int (Int32.ofNat b1)), .unset, .unset, .unset, .unset, .unset, .unset, .unset, .unset, .unset, .unset, .unset, .unset, .unset] [(.int (Int32.ofNat b2))])) := by
        intro b2 hb2 hz2
        refine own_is X0 hx #[.val (.int i0), .val (.int i1), .val (.int i2), .val (.int i3), .val (.int i4), .val (.int i5), .val (.int (Int32.ofNat nn)), .val (.int (Int32.ofNat b0)), .val (.int (Int32.ofNat b1)), .val (.int (Int32.ofNat b2)), .unset, .unset, .unset, .unset, .unset, .unset, .unset, .unset, .unset, .unset, .unset, .unset] 61 (hb hby at_59) rfl rfl ?_
        refine own_il X0 hx 63 (hb hby at_61) rfl rfl ?_
        refine own_ic X0 hx (4 : Int32) 64 (hb hby at_63) rfl rfl ?_
        have J4 : ∀ b3 : Nat, b3 < 256 → (nn < 4 → b3 = 0) → own_Rn p e below (fun oq U' => ∃ vq Lq, oq = .returned vq ∧ Q_rm0 Z i0 i1 i2 i3 i4 i5 tf kf te ke ci cu de en G1 G3 h0 n0 vq U'.heap Lq ∧ CHr Z consts_1 s.vm s.heap U'.vm U'.heap ∧ ReturnedEndW s oq U' Lq 32 2240) (s₁.setTop (mkF m 76 #[.val (.int i0), .val (.int i1), .val (.int i2), .val (.int i3), .val (.int i4), .val (.int i5), .val (.int (Int32.ofNat nn)), .val (.int (Int32.ofNat b0)), .val (.int (Int32.ofNat b1)), .val (.int (Int32.ofNat b2)), .unset, .unset, .unset, .unset, .unset, .unset, .unset, .unset, .unset, .unset, .unset, .unset] [(.int (Int32.ofNat b3))])) := by
          intro b3 hb3 hz3
          refine own_is X0 hx #[.val (.int i0), .val (.int i1), .val (.int i2), .val (.int i3), .val (.int i4), .val (.int i5), .val (.int (Int32.ofNat nn)), .val (.int (Int32.ofNat b0)), .val (.int (Int32.ofNat b1)), .val (.int (Int32.ofNat b2)), .val (.int (Int32.ofNat b3)), .unset, .unset, .unset, .unset, .unset, .unset, .unset, .unset, .unset, .unset, .unset] 78 (hb hby at_76) rfl rfl ?_
          refine own_il X0 hx 80 (hb hby at_78) rfl rfl ?_
          refine own_ic X0 hx (5 : Int32) 81 (hb hby at_80) rfl rfl ?_
          have J5 : ∀ b4 : Nat, b4 < 256 → (nn < 5 → b4 = 0) → own_Rn p e below (fun oq U' => ∃ vq Lq, oq = .returned vq ∧ Q_rm0 Z i0 i1 i2 i3 i4 i5 tf kf te ke ci cu de en G1 G3 h0 n0 vq U'.heap Lq ∧ CHr Z consts_1 s.vm s.heap U'.vm U'.heap ∧ ReturnedEndW s oq U' Lq 32 2240) (s₁.setTop (mkF m 94 #[.val (.int i0), .val (.int i1), .val (.int i2), .val (.int i3), .val (.int i4), .val (.int i5), .val (.int (Int32.ofNat nn)), .val (.int (Int32.ofNat b0)), .val (.int (Int32.ofNat b1)), .val (.int (Int32.ofNat b2)), .val (.int (Int32.ofNat b3)), .unset, .unset, .unset, .unset, .unset, .unset, .unset, .unset, .unset, .unset, .unset] [(.int (Int32.ofNat b4))])) := by
            intro b4 hb4 hz4
            refine own_is X0 hx #[.val (.int i0), .val (.int i1), .val (.int i2), .val (.int i3), .val (.int i4), .val (.int i5), .val (.int (Int32.ofNat nn)), .val (.int (Int32.ofNat b0)), .val (.int (Int32.ofNat b1)), .val (.int (Int32.ofNat b2)), .val (.int (Int32.ofNat b3)), .val (.int (Int32.ofNat b4)), .unset, .unset, .unset, .unset, .unset, .unset, .unset, .unset, .unset, .unset] 96 (hb hby at_94) rfl rfl ?_
            refine own_il X0 hx 98 (hb hby at_96) rfl rfl ?_
            refine own_ic X0 hx (2 : Int32) 99 (hb hby at_98) rfl rfl ?_
            refine own_ishr X0 hx 100 (hb hby at_99) rfl ?_
            rw [show ((Int32.ofNat b0) >>> ((2 : Int32) &&& 31)) = (Int32.ofNat (b0 / 4)) from own_shr2 b0 hb0]
            have Zn6 : n0 ≤ h0.size := (Nat.le_trans Z0 (Nat.le_refl _))
            refine own_cS X0 hx hZ (y := (⟨"com/example/cartiglio/cartiglio/core/Base64UrlDecodeStrictPinLaw", "sym", "(I)C"⟩ : MethodName)) hown (hw _ (own_mi 1 rfl)) (hw _ (own_mi 2 rfl)) (hw _ (own_mi 3 rfl)) (hw _ (own_mi 4 rfl)) (by decide) (rmSym l Z a0 hw [] ((b0 / 4)) h0 n0 Zn6 (by omega)) e0 [(.int (Int32.ofNat (b0 / 4)))] [] rfl (by rw [hml]; rfl) (lenOf own_pd_28I29C rfl) rfl 0 (Nat.le_of_eq rfl) (by decide) (by decide) (by decide : 0 + 0 ≤ _) (by decide : 0 + 0 ≤ _) 103 (hb hby at_100) rfl 0 0 rfl rfl ?_
            intro rv6 T6 Lc6 X6 hQ6
            obtain ⟨rfl, Nq6, eh6⟩ := hQ6
            have N6 := Fr.app N0 Nq6
            show own_Rn p e below _ (T6.setTop (mkF m 103 #[.val (.int i0), .val (.int i1), .val (.int i2), .val (.int i3), .val (.int i4), .val (.int i5), .val (.int (Int32.ofNat nn)), .val (.int (Int32.ofNat b0)), .val (.int (Int32.ofNat b1)), .val (.int (Int32.ofNat b2)), .val (.int (Int32.ofNat b3)), .val (.int (Int32.ofNat b4)), .unset, .unset, .unset, .unset, .unset, .unset, .unset, .unset, .unset, .unset] [(.int (Int32.ofNat (own_ct (b0 / 4))))]))
            obtain ⟨c0, hc0⟩ : ∃ z : Int32, z = (Int32.ofNat (own_ct (b0 / 4))) := ⟨_, rfl⟩
            rw [← hc0]
            show own_Rn p e below _ (T6.setTop (mkF m 103 #[.val (.int i0), .val (.int i1), .val (.int i2), .val (.int i3), .val (.int i4), .val (.int i5), .val (.int (Int32.ofNat nn)), .val (.int (Int32.ofNat b0)), .val (.int (Int32.ofNat b1)), .val (.int (Int32.ofNat b2)), .val (.int (Int32.ofNat b3)), .val (.int (Int32.ofNat b4)), .unset, .unset, .unset, .unset, .unset, .unset, .unset, .unset, .unset, .unset] [(.int c0)]))
            have nc0 : nar .char c0 = c0 := by rw [hc0]; exact own_narct _ (by omega)
            refine own_is X6 hx #[.val (.int i0), .val (.int i1), .val (.int i2), .val (.int i3), .val (.int i4), .val (.int i5), .val (.int (Int32.ofNat nn)), .val (.int (Int32.ofNat b0)), .val (.int (Int32.ofNat b1)), .val (.int (Int32.ofNat b2)), .val (.int (Int32.ofNat b3)), .val (.int (Int32.ofNat b4)), .val (.int c0), .unset, .unset, .unset, .unset, .unset, .unset, .unset, .unset, .unset] 105 (hb hby at_103) rfl rfl ?_
            refine own_il X6 hx 107 (hb hby at_105) rfl rfl ?_
            refine own_ic X6 hx (3 : Int32) 108 (hb hby at_107) rfl rfl ?_
            refine own_iand X6 hx 109 (hb hby at_108) rfl ?_
            refine own_ic X6 hx (4 : Int32) 110 (hb hby at_109) rfl rfl ?_
            refine own_ishl X6 hx 111 (hb hby at_110) rfl ?_
            refine own_il X6 hx 113 (hb hby at_111) rfl rfl ?_
            refine own_ic X6 hx (4 : Int32) 114 (hb hby at_113) rfl rfl ?_
            refine own_ishr X6 hx 115 (hb hby at_114) rfl ?_
            refine own_ior X6 hx 116 (hb hby at_115) rfl ?_
            rw [show ((((Int32.ofNat b0) &&& (3 : Int32)) <<< ((4 : Int32) &&& 31)) ||| ((Int32.ofNat b1) >>> ((4 : Int32) &&& 31))) = (Int32.ofNat (b0 % 4 * 16 + b1 / 16)) from own_s2 b0 b1 hb0 hb1]
            have Zn7 : n0 ≤ h0.size := (Nat.le_trans Z0 (Nat.le_refl _))
            refine own_cS X6 hx hZ (y := (⟨"com/example/cartiglio/cartiglio/core/Base64UrlDecodeStrictPinLaw", "sym", "(I)C"⟩ : MethodName)) hown (hw _ (own_mi 1 rfl)) (hw _ (own_mi 2 rfl)) (hw _ (own_mi 3 rfl)) (hw _ (own_mi 4 rfl)) (by decide) (rmSym l Z a0 hw [] ((b0 % 4 * 16 + b1 / 16)) h0 n0 Zn7 (by omega)) eh6 [(.int (Int32.ofNat (b0 % 4 * 16 + b1 / 16)))] [] rfl (by rw [hml]; rfl) (lenOf own_pd_28I29C rfl) rfl 0 (Nat.le_of_eq rfl) (by decide) (by decide) (by decide : 0 + 0 ≤ _) (by decide : 0 + 0 ≤ _) 119 (hb hby at_116) rfl 0 0 rfl rfl ?_
            intro rv7 T7 Lc7 X7 hQ7
            obtain ⟨rfl, Nq7, eh7⟩ := hQ7
            have N7 := Fr.app N6 Nq7
            show own_Rn p e below _ (T7.setTop (mkF m 119 #[.val (.int i0), .val (.int i1), .val (.int i2), .val (.int i3), .val (.int i4), .val (.int i5), .val (.int (Int32.ofNat nn)), .val (.int (Int32.ofNat b0)), .val (.int (Int32.ofNat b1)), .val (.int (Int32.ofNat b2)), .val (.int (Int32.ofNat b3)), .val (.int (Int32.ofNat b4)), .val (.int c0), .unset, .unset, .unset, .unset, .unset, .unset, .unset, .unset, .unset] [(.int (Int32.ofNat (own_ct (b0 % 4 * 16 + b1 / 16))))]))
            obtain ⟨c1, hc1⟩ : ∃ z : Int32, z = (Int32.ofNat (own_ct (b0 % 4 * 16 + b1 / 16))) := ⟨_, rfl⟩
            rw [← hc1]
            show own_Rn p e below _ (T7.setTop (mkF m 119 #[.val (.int i0), .val (.int i1), .val (.int i2), .val (.int i3), .val (.int i4), .val (.int i5), .val (.int (Int32.ofNat nn)), .val (.int (Int32.ofNat b0)), .val (.int (Int32.ofNat b1)), .val (.int (Int32.ofNat b2)), .val (.int (Int32.ofNat b3)), .val (.int (Int32.ofNat b4)), .val (.int c0), .unset, .unset, .unset, .unset, .unset, .unset, .unset, .unset, .unset] [(.int c1)]))
            have nc1 : nar .char c1 = c1 := by rw [hc1]; exact own_narct _ (by omega)
            refine own_is X7 hx #[.val (.int i0), .val (.int i1), .val (.int i2), .val (.int i3), .val (.int i4), .val (.int i5), .val (.int (Int32.ofNat nn)), .val (.int (Int32.ofNat b0)), .val (.int (Int32.ofNat b1)), .val (.int (Int32.ofNat b2)), .val (.int (Int32.ofNat b3)), .val (.int (Int32.ofNat b4)), .val (.int c0), .val (.int c1), .unset, .unset, .unset, .unset, .unset, .unset, .unset, .unset] 121 (hb hby at_119) rfl rfl ?_
            refine own_il X7 hx 123 (hb hby at_121) rfl rfl ?_
            refine own_bp X7 hx (15 : Int32) 125 (hb hby at_123) rfl rfl ?_
            refine own_iand X7 hx 126 (hb hby at_125) rfl ?_
            refine own_ic X7 hx (2 : Int32) 127 (hb hby at_126) rfl rfl ?_
            refine own_ishl X7 hx 128 (hb hby at_127) rfl ?_
            refine own_il X7 hx 130 (hb hby at_128) rfl rfl ?_
            refine own_bp X7 hx (6 : Int32) 132 (hb hby at_130) rfl rfl ?_
            refine own_ishr X7 hx 133 (hb hby at_132) rfl ?_
            refine own_ior X7 hx 134 (hb hby at_133) rfl ?_
            rw [show ((((Int32.ofNat b1) &&& (15 : Int32)) <<< ((2 : Int32) &&& 31)) ||| ((Int32.ofNat b2) >>> ((6 : Int32) &&& 31))) = (Int32.ofNat (b1 % 16 * 4 + b2 / 64)) from own_s3 b1 b2 hb1 hb2]
            have Zn8 : n0 ≤ h0.size := (Nat.le_trans Z0 (Nat.le_refl _))
            refine own_cS X7 hx hZ (y := (⟨"com/example/cartiglio/cartiglio/core/Base64UrlDecodeStrictPinLaw", "sym", "(I)C"⟩ : MethodName)) hown (hw _ (own_mi 1 rfl)) (hw _ (own_mi 2 rfl)) (hw _ (own_mi 3 rfl)) (hw _ (own_mi 4 rfl)) (by decide) (rmSym l Z a0 hw [] ((b1 % 16 * 4 + b2 / 64)) h0 n0 Zn8 (by omega)) eh7 [(.int (Int32.ofNat (b1 % 16 * 4 + b2 / 64)))] [] rfl (by rw [hml]; rfl) (lenOf own_pd_28I29C rfl) rfl 0 (Nat.le_of_eq rfl) (by decide) (by decide) (by decide : 0 + 0 ≤ _) (by decide : 0 + 0 ≤ _) 137 (hb hby at_134) rfl 0 0 rfl rfl ?_
            intro rv8 T8 Lc8 X8 hQ8
            obtain ⟨rfl, Nq8, eh8⟩ := hQ8
            have N8 := Fr.app N7 Nq8
            show own_Rn p e below _ (T8.setTop (mkF m 137 #[.val (.int i0), .val (.int i1), .val (.int i2), .val (.int i3), .val (.int i4), .val (.int i5), .val (.int (Int32.ofNat nn)), .val (.int (Int32.ofNat b0)), .val (.int (Int32.ofNat b1)), .val (.int (Int32.ofNat b2)), .val (.int (Int32.ofNat b3)), .val (.int (Int32.ofNat b4)), .val (.int c0), .val (.int c1), .unset, .unset, .unset, .unset, .unset, .unset, .unset, .unset] [(.int (Int32.ofNat (own_ct (b1 % 16 * 4 + b2 / 64))))]))
            obtain ⟨c2, hc2⟩ : ∃ z : Int32, z = (Int32.ofNat (own_ct (b1 % 16 * 4 + b2 / 64))) := ⟨_, rfl⟩
            rw [← hc2]
            show own_Rn p e below _ (T8.setTop (mkF m 137 #[.val (.int i0), .val (.int i1), .val (.int i2), .val (.int i3), .val (.int i4), .val (.int i5), .val (.int (Int32.ofNat nn)), .val (.int (Int32.ofNat b0)), .val (.int (Int32.ofNat b1)), .val (.int (Int32.ofNat b2)), .val (.int (Int32.ofNat b3)), .val (.int (Int32.ofNat b4)), .val (.int c0), .val (.int c1), .unset, .unset, .unset, .unset, .unset, .unset, .unset, .unset] [(.int c2)]))
            have nc2 : nar .char c2 = c2 := by rw [hc2]; exact own_narct _ (by omega)
            refine own_is X8 hx #[.val (.int i0), .val (.int i1), .val (.int i2), .val (.int i3), .val (.int i4), .val (.int i5), .val (.int (Int32.ofNat nn)), .val (.int (Int32.ofNat b0)), .val (.int (Int32.ofNat b1)), .val (.int (Int32.ofNat b2)), .val (.int (Int32.ofNat b3)), .val (.int (Int32.ofNat b4)), .val (.int c0), .val (.int c1), .val (.int c2), .unset, .unset, .unset, .unset, .unset, .unset, .unset] 139 (hb hby at_137) rfl rfl ?_
            refine own_il X8 hx 141 (hb hby at_139) rfl rfl ?_
            refine own_bp X8 hx (63 : Int32) 143 (hb hby at_141) rfl rfl ?_
            refine own_iand X8 hx 144 (hb hby at_143) rfl ?_
            rw [show ((Int32.ofNat b2) &&& (63 : Int32)) = (Int32.ofNat (b2 % 64)) from own_and63 b2 hb2]
            have Zn9 : n0 ≤ h0.size := (Nat.le_trans Z0 (Nat.le_refl _))
            refine own_cS X8 hx hZ (y := (⟨"com/example/cartiglio/cartiglio/core/Base64UrlDecodeStrictPinLaw", "sym", "(I)C"⟩ : MethodName)) hown (hw _ (own_mi 1 rfl)) (hw _ (own_mi 2 rfl)) (hw _ (own_mi 3 rfl)) (hw _ (own_mi 4 rfl)) (by decide) (rmSym l Z a0 hw [] ((b2 % 64)) h0 n0 Zn9 (by omega)) eh8 [(.int (Int32.ofNat (b2 % 64)))] [] rfl (by rw [hml]; rfl) (lenOf own_pd_28I29C rfl) rfl 0 (Nat.le_of_eq rfl) (by decide) (by decide) (by decide : 0 + 0 ≤ _) (by decide : 0 + 0 ≤ _) 147 (hb hby at_144) rfl 0 0 rfl rfl ?_
            intro rv9 T9 Lc9 X9 hQ9
            obtain ⟨rfl, Nq9, eh9⟩ := hQ9
            have N9 := Fr.app N8 Nq9
            show own_Rn p e below _ (T9.setTop (mkF m 147 #[.val (.int i0), .val (.int i1), .val (.int i2), .val (.int i3), .val (.int i4), .val (.int i5), .val (.int (Int32.ofNat nn)), .val (.int (Int32.ofNat b0)), .val (.int (Int32.ofNat b1)), .val (.int (Int32.ofNat b2)), .val (.int (Int32.ofNat b3)), .val (.int (Int32.ofNat b4)), .val (.int c0), .val (.int c1), .val (.int c2), .unset, .unset, .unset, .unset, .unset, .unset, .unset] [(.int (Int32.ofNat (own_ct (b2 % 64))))]))
            obtain ⟨c3, hc3⟩ : ∃ z : Int32, z = (Int32.ofNat (own_ct (b2 % 64))) := ⟨_, rfl⟩
            rw [← hc3]
            show own_Rn p e below _ (T9.setTop (mkF m 147 #[.val (.int i0), .val (.int i1), .val (.int i2), .val (.int i3), .val (.int i4), .val (.int i5), .val (.int (Int32.ofNat nn)), .val (.int (Int32.ofNat b0)), .val (.int (Int32.ofNat b1)), .val (.int (Int32.ofNat b2)), .val (.int (Int32.ofNat b3)), .val (.int (Int32.ofNat b4)), .val (.int c0), .val (.int c1), .val (.int c2), .unset, .unset, .unset, .unset, .unset, .unset, .unset] [(.int c3)]))
            have nc3 : nar .char c3 = c3 := by rw [hc3]; exact own_narct _ (by omega)
            refine own_is X9 hx #[.val (.int i0), .val (.int i1), .val (.int i2), .val (.int i3), .val (.int i4), .val (.int i5), .val (.int (Int32.ofNat nn)), .val (.int (Int32.ofNat b0)), .val (.int (Int32.ofNat b1)), .val (.int (Int32.ofNat b2)), .val (.int (Int32.ofNat b3)), .val (.int (Int32.ofNat b4)), .val (.int c0), .val (.int c1), .val (.int c2), .val (.int c3), .unset, .unset, .unset, .unset, .unset, .unset] 149 (hb hby at_147) rfl rfl ?_
            refine own_il X9 hx 151 (hb hby at_149) rfl rfl ?_
            refine own_ic X9 hx (2 : Int32) 152 (hb hby at_151) rfl rfl ?_
            refine own_ishr X9 hx 153 (hb hby at_152) rfl ?_
            rw [show ((Int32.ofNat b3) >>> ((2 : Int32) &&& 31)) = (Int32.ofNat (b3 / 4)) from own_shr2 b3 hb3]
            have Zn10 : n0 ≤ h0.size := (Nat.le_trans Z0 (Nat.le_refl _))
            refine own_cS X9 hx hZ (y := (⟨"com/example/cartiglio/cartiglio/core/Base64UrlDecodeStrictPinLaw", "sym", "(I)C"⟩ : MethodName)) hown (hw _ (own_mi 1 rfl)) (hw _ (own_mi 2 rfl)) (hw _ (own_mi 3 rfl)) (hw _ (own_mi 4 rfl)) (by decide) (rmSym l Z a0 hw [] ((b3 / 4)) h0 n0 Zn10 (by omega)) eh9 [(.int (Int32.ofNat (b3 / 4)))] [] rfl (by rw [hml]; rfl) (lenOf own_pd_28I29C rfl) rfl 0 (Nat.le_of_eq rfl) (by decide) (by decide) (by decide : 0 + 0 ≤ _) (by decide : 0 + 0 ≤ _) 156 (hb hby at_153) rfl 0 0 rfl rfl ?_
            intro rv10 T10 Lc10 X10 hQ10
            obtain ⟨rfl, Nq10, eh10⟩ := hQ10
            have N10 := Fr.app N9 Nq10
            show own_Rn p e below _ (T10.setTop (mkF m 156 #[.val (.int i0), .val (.int i1), .val (.int i2), .val (.int i3), .val (.int i4), .val (.int i5), .val (.int (Int32.ofNat nn)), .val (.int (Int32.ofNat b0)), .val (.int (Int32.ofNat b1)), .val (.int (Int32.ofNat b2)), .val (.int (Int32.ofNat b3)), .val (.int (Int32.ofNat b4)), .val (.int c0), .val (.int c1), .val (.int c2), .val (.int c3), .unset, .unset, .unset, .unset, .unset, .unset] [(.int (Int32.ofNat (own_ct (b3 / 4))))]))
            obtain ⟨c4, hc4⟩ : ∃ z : Int32, z = (Int32.ofNat (own_ct (b3 / 4))) := ⟨_, rfl⟩
            rw [← hc4]
            show own_Rn p e below _ (T10.setTop (mkF m 156 #[.val (.int i0), .val (.int i1), .val (.int i2), .val (.int i3), .val (.int i4), .val (.int i5), .val (.int (Int32.ofNat nn)), .val (.int (Int32.ofNat b0)), .val (.int (Int32.ofNat b1)), .val (.int (Int32.ofNat b2)), .val (.int (Int32.ofNat b3)), .val (.int (Int32.ofNat b4)), .val (.int c0), .val (.int c1), .val (.int c2), .val (.int c3), .unset, .unset, .unset, .unset, .unset, .unset] [(.int c4)]))
            have nc4 : nar .char c4 = c4 := by rw [hc4]; exact own_narct _ (by omega)
            refine own_is X10 hx #[.val (.int i0), .val (.int i1), .val (.int i2), .val (.int i3), .val (.int i4), .val (.int i5), .val (.int (Int32.ofNat nn)), .val (.int (Int32.ofNat b0)), .val (.int (Int32.ofNat b1)), .val (.int (Int32.ofNat b2)), .val (.int (Int32.ofNat b3)), .val (.int (Int32.ofNat b4)), .val (.int c0), .val (.int c1), .val (.int c2), .val (.int c3), .val (.int c4), .unset, .unset, .unset, .unset, .unset] 158 (hb hby at_156) rfl rfl ?_
            refine own_il X10 hx 160 (hb hby at_158) rfl rfl ?_
            refine own_ic X10 hx (3 : Int32) 161 (hb hby at_160) rfl rfl ?_
            refine own_iand X10 hx 162 (hb hby at_161) rfl ?_
            refine own_ic X10 hx (4 : Int32) 163 (hb hby at_162) rfl rfl ?_
            refine own_ishl X10 hx 164 (hb hby at_163) rfl ?_
            refine own_il X10 hx 166 (hb hby at_164) rfl rfl ?_
            refine own_ic X10 hx (4 : Int32) 167 (hb hby at_166) rfl rfl ?_
            refine own_ishr X10 hx 168 (hb hby at_167) rfl ?_
            refine own_ior X10 hx 169 (hb hby at_168) rfl ?_
            rw [show ((((Int32.ofNat b3) &&& (3 : Int32)) <<< ((4 : Int32) &&& 31)) ||| ((Int32.ofNat b4) >>> ((4 : Int32) &&& 31))) = (Int32.ofNat (b3 % 4 * 16 + b4 / 16)) from own_s2 b3 b4 hb3 hb4]
            have Zn11 : n0 ≤ h0.size := (Nat.le_trans Z0 (Nat.le_refl _))
            refine own_cS X10 hx hZ (y := (⟨"com/example/cartiglio/cartiglio/core/Base64UrlDecodeStrictPinLaw", "sym", "(I)C"⟩ : MethodName)) hown (hw _ (own_mi 1 rfl)) (hw _ (own_mi 2 rfl)) (hw _ (own_mi 3 rfl)) (hw _ (own_mi 4 rfl)) (by decide) (rmSym l Z a0 hw [] ((b3 % 4 * 16 + b4 / 16)) h0 n0 Zn11 (by omega)) eh10 [(.int (Int32.ofNat (b3 % 4 * 16 + b4 / 16)))] [] rfl (by rw [hml]; rfl) (lenOf own_pd_28I29C rfl) rfl 0 (Nat.le_of_eq rfl) (by decide) (by decide) (by decide : 0 + 0 ≤ _) (by decide : 0 + 0 ≤ _) 172 (hb hby at_169) rfl 0 0 rfl rfl ?_
            intro rv11 T11 Lc11 X11 hQ11
            obtain ⟨rfl, Nq11, eh11⟩ := hQ11
            have N11 := Fr.app N10 Nq11
            show own_Rn p e below _ (T11.setTop (mkF m 172 #[.val (.int i0), .val (.int i1), .val (.int i2), .val (.int i3), .val (.int i4), .val (.int i5), .val (.int (Int32.ofNat nn)), .val (.int (Int32.ofNat b0)), .val (.int (Int32.ofNat b1)), .val (.int (Int32.ofNat b2)), .val (.int (Int32.ofNat b3)), .val (.int (Int32.ofNat b4)), .val (.int c0), .val (.int c1), .val (.int c2), .val (.int c3), .val (.int c4), .unset, .unset, .unset, .unset, .unset] [(.int (Int32.ofNat (own_ct (b3 % 4 * 16 + b4 / 16))))]))
            obtain ⟨c5, hc5⟩ : ∃ z : Int32, z = (Int32.ofNat (own_ct (b3 % 4 * 16 + b4 / 16))) := ⟨_, rfl⟩
            rw [← hc5]
            show own_Rn p e below _ (T11.setTop (mkF m 172 #[.val (.int i0), .val (.int i1), .val (.int i2), .val (.int i3), .val (.int i4), .val (.int i5), .val (.int (Int32.ofNat nn)), .val (.int (Int32.ofNat b0)), .val (.int (Int32.ofNat b1)), .val (.int (Int32.ofNat b2)), .val (.int (Int32.ofNat b3)), .val (.int (Int32.ofNat b4)), .val (.int c0), .val (.int c1), .val (.int c2), .val (.int c3), .val (.int c4), .unset, .unset, .unset, .unset, .unset] [(.int c5)]))
            have nc5 : nar .char c5 = c5 := by rw [hc5]; exact own_narct _ (by omega)
            refine own_is X11 hx #[.val (.int i0), .val (.int i1), .val (.int i2), .val (.int i3), .val (.int i4), .val (.int i5), .val (.int (Int32.ofNat nn)), .val (.int (Int32.ofNat b0)), .val (.int (Int32.ofNat b1)), .val (.int (Int32.ofNat b2)), .val (.int (Int32.ofNat b3)), .val (.int (Int32.ofNat b4)), .val (.int c0), .val (.int c1), .val (.int c2), .val (.int c3), .val (.int c4), .val (.int c5), .unset, .unset, .unset, .unset] 174 (hb hby at_172) rfl rfl ?_
            refine own_il X11 hx 176 (hb hby at_174) rfl rfl ?_
            refine own_bp X11 hx (15 : Int32) 178 (hb hby at_176) rfl rfl ?_
            refine own_iand X11 hx 179 (hb hby at_178) rfl ?_
            refine own_ic X11 hx (2 : Int32) 180 (hb hby at_179) rfl rfl ?_
            refine own_ishl X11 hx 181 (hb hby at_180) rfl ?_
            rw [show (((Int32.ofNat b4) &&& (15 : Int32)) <<< ((2 : Int32) &&& 31)) = (Int32.ofNat (b4 % 16 * 4 + 0 / 64)) from own_s7 b4 hb4]
            have Zn12 : n0 ≤ h0.size := (Nat.le_trans Z0 (Nat.le_refl _))
            refine own_cS X11 hx hZ (y := (⟨"com/example/cartiglio/cartiglio/core/Base64UrlDecodeStrictPinLaw", "sym", "(I)C"⟩ : MethodName)) hown (hw _ (own_mi 1 rfl)) (hw _ (own_mi 2 rfl)) (hw _ (own_mi 3 rfl)) (hw _ (own_mi 4 rfl)) (by decide) (rmSym l Z a0 hw [] ((b4 % 16 * 4 + 0 / 64)) h0 n0 Zn12 (by omega)) eh11 [(.int (Int32.ofNat (b4 % 16 * 4 + 0 / 64)))] [] rfl (by rw [hml]; rfl) (lenOf own_pd_28I29C rfl) rfl 0 (Nat.le_of_eq rfl) (by decide) (by decide) (by decide : 0 + 0 ≤ _) (by decide : 0 + 0 ≤ _) 184 (hb hby at_181) rfl 0 0 rfl rfl ?_
            intro rv12 T12 Lc12 X12 hQ12
            obtain ⟨rfl, Nq12, eh12⟩ := hQ12
            have N12 := Fr.app N11 Nq12
            show own_Rn p e below _ (T12.setTop (mkF m 184 #[.val (.int i0), .val (.int i1), .val (.int i2), .val (.int i3), .val (.int i4), .val (.int i5), .val (.int (Int32.ofNat nn)), .val (.int (Int32.ofNat b0)), .val (.int (Int32.ofNat b1)), .val (.int (Int32.ofNat b2)), .val (.int (Int32.ofNat b3)), .val (.int (Int32.ofNat b4)), .val (.int c0), .val (.int c1), .val (.int c2), .val (.int c3), .val (.int c4), .val (.int c5), .unset, .unset, .unset, .unset] [(.int (Int32.ofNat (own_ct (b4 % 16 * 4 + 0 / 64))))]))
            obtain ⟨c6, hc6⟩ : ∃ z : Int32, z = (Int32.ofNat (own_ct (b4 % 16 * 4 + 0 / 64))) := ⟨_, rfl⟩
            rw [← hc6]
            show own_Rn p e below _ (T12.setTop (mkF m 184 #[.val (.int i0), .val (.int i1), .val (.int i2), .val (.int i3), .val (.int i4), .val (.int i5), .val (.int (Int32.ofNat nn)), .val (.int (Int32.ofNat b0)), .val (.int (Int32.ofNat b1)), .val (.int (Int32.ofNat b2)), .val (.int (Int32.ofNat b3)), .val (.int (Int32.ofNat b4)), .val (.int c0), .val (.int c1), .val (.int c2), .val (.int c3), .val (.int c4), .val (.int c5), .unset, .unset, .unset, .unset] [(.int c6)]))
            have nc6 : nar .char c6 = c6 := by rw [hc6]; exact own_narct _ (by omega)
            refine own_is X12 hx #[.val (.int i0), .val (.int i1), .val (.int i2), .val (.int i3), .val (.int i4), .val (.int i5), .val (.int (Int32.ofNat nn)), .val (.int (Int32.ofNat b0)), .val (.int (Int32.ofNat b1)), .val (.int (Int32.ofNat b2)), .val (.int (Int32.ofNat b3)), .val (.int (Int32.ofNat b4)), .val (.int c0), .val (.int c1), .val (.int c2), .val (.int c3), .val (.int c4), .val (.int c5), .val (.int c6), .unset, .unset, .unset] 186 (hb hby at_184) rfl rfl ?_
            have J373 : ∀ (Tl : State) (hl : Heap) (ls : List Loc) (ar : Addr) (ka : ClassId), Stand p l e room_1 (s.setVm s.vm) m #[(.int i0), (.int i1), (.int i2), (.int i3), (.int i4), (.int i5)] below meth c Tl ls 1 7 → Tl.heap = hl → Fr n0 ls → n0 ≤ hl.size → h0.size ≤ hl.size → Old Z n0 hl → CHr Z consts_1 s.vm h0 s.vm hl → Arv Z hl ar ka .char (Int32.ofNat (own_cs ([b0, b1, b2, b3, b4].take nn)).length) ((own_cs ([b0, b1, b2, b3, b4].take nn)).map Value.int) (.int (0 : Int32)) → own_Rn p e below (fun oq U' => ∃ vq Lq, oq = .returned vq ∧ Q_rm0 Z i0 i1 i2 i3 i4 i5 tf kf te ke ci cu de en G1 G3 h0 n0 vq U'.heap Lq ∧ CHr Z consts_1 s.vm s.heap U'.vm U'.heap ∧ ReturnedEndW s oq U' Lq 32 2240) (Tl.setTop (mkF m 373 #[.val (.int i0), .val (.int i1), .val (.int i2), .val (.int i3), .val (.int i4), .val (.int i5), .val (.int (Int32.ofNat nn)), .val (.int (Int32.ofNat b0)), .val (.int (Int32.ofNat b1)), .val (.int (Int32.ofNat b2)), .val (.int (Int32.ofNat b3)), .val (.int (Int32.ofNat b4)), .val (.int c0), .val (.int c1), .val (.int c2), .val (.int c3), .val (.int c4), .val (.int c5), .val (.int c6), .val (.ref ar), .unset, .unset] [])) := by
              intro Tl hl ls ar ka Xl el Nl zl zl2 Ol CRl Aa
              have lt13 : @LT.lt Nat _ ar hl.size := Aa.lt
              have hBL : ([b0, b1, b2, b3, b4].take nn).length = nn := by rw [List.length_take]; exact Nat.min_eq_left hn5
              have hL : ([b0, b1, b2, b3, b4].take nn).length ≤ 5 := by omega
              have hB : ∀ b ∈ ([b0, b1, b2, b3, b4].take nn), b < 256 := by
                intro b hb
                have hb := List.mem_of_mem_take hb
                simp only [List.mem_cons, List.not_mem_nil, or_false] at hb
                omega
              obtain ⟨T14, h14, X14, e14, E14, A14, D14, -, st14⟩ := newO Xl hx hZ hown (hw _ (own_mi 6 rfl)) (hw _ (own_mi 7 rfl)) (hw _ (own_mi 8 rfl)) el (g := (mkF m 373 #[.val (.int i0), .val (.int i1), .val (.int i2), .val (.int i3), .val (.int i4), .val (.int i5), .val (.int (Int32.ofNat nn)), .val (.int (Int32.ofNat b0)), .val (.int (Int32.ofNat b1)), .val (.int (Int32.ofNat b2)), .val (.int (Int32.ofNat b3)), .val (.int (Int32.ofNat b4)), .val (.int c0), .val (.int c1), .val (.int c2), .val (.int c3), .val (.int c4), .val (.int c5), .val (.int c6), .val (.ref ar), .unset, .unset] [])) rfl (hb hby at_373) (by decide) (by decide)
              obtain ⟨b14, g14⟩ : ∃ z, z = hl.size := ⟨_, rfl⟩
              rw [← g14] at A14 D14 st14
              refine own_go st14 ?_
              have sz15 : hl.size ≤ h14.size := E14.1
              have cr15 : CHr Z consts_1 s.vm hl s.vm h14 := CHr.ext E14 CRl.1
              have CR15 := CRl.trans cr15
              have sf16 : Safe Z consts_1 s.vm h14 b14 := Safe.ext E14 CRl.1 (Safe.new (Nat.le_of_eq g14.symm))
              have lt17 : @LT.lt Nat _ b14 h14.size := A14.lt
              have gn14 : n0 ≤ b14 := (Nat.le_trans (Nat.le_trans Z0 (Nat.le_trans zl2 (Nat.le_refl _))) (Nat.le_of_eq g14.symm))
              have D14_coder : Fld Z h14 b14 "java/lang/String" "coder" "B" (.int (0 : Int32)) := D14 (Or.inr (hw _ (own_mi 32 rfl))) (ty := .byte) own_fd_B
              have D14_value : Fld Z h14 b14 "java/lang/String" "value" "[B" .null := D14 (Or.inr (hw _ (own_mi 34 rfl))) (ty := (.array .byte)) own_fd_5bB
              show own_Rn p e below _ (T14.setTop (mkF m 376 #[.val (.int i0), .val (.int i1), .val (.int i2), .val (.int i3), .val (.int i4), .val (.int i5), .val (.int (Int32.ofNat nn)), .val (.int (Int32.ofNat b0)), .val (.int (Int32.ofNat b1)), .val (.int (Int32.ofNat b2)), .val (.int (Int32.ofNat b3)), .val (.int (Int32.ofNat b4)), .val (.int c0), .val (.int c1), .val (.int c2), .val (.int c3), .val (.int c4), .val (.int c5), .val (.int c6), .val (.ref ar), .unset, .unset] [(.ref b14)]))
              refine own_dp X14 hx 377 (hb hby at_376) rfl rfl ?_
              refine own_al X14 hx 379 (hb hby at_377) rfl rfl rfl ?_
              have Zn18 : n0 ≤ h14.size := (Nat.le_trans Z0 (Nat.le_trans zl2 sz15))
              have F19 : Arv Z h14 ar ka .char (Int32.ofNat (own_cs ([b0, b1, b2, b3, b4].take nn)).length) ((own_cs ([b0, b1, b2, b3, b4].take nn)).map Value.int) (.int (0 : Int32)) := (Aa.ext E14)
              have F20 : Old Z n0 h14 := (Ol.ext E14)
              obtain ⟨rv18, _, ⟨T18, L18, k18, n18⟩, -, X18, hS18, hG18, ⟨Lc18, hQ18, l18, y18, z18, CR18q⟩, st18⟩ := X14.specialBackS hx (y := (⟨"java/lang/String", "<init>", "([C)V"⟩ : MethodName)) rfl hown (mvT hZ (hw _ (own_mi 9 rfl))) (mvT hZ (hw _ (own_mi 10 rfl))) (mvT hZ (hw _ (own_mi 11 rfl))) (by decide) (own_backSH (W := 1) (rm := ({ frames := 3, cells := 4, slots := 8, locals := 52 } : Room)) (sf := [b14]) (h := h14) (rmNews l Z a0 hw [] (b14) (ar) (ka) ((own_cs ([b0, b1, b2, b3, b4].take nn))) ((.int (0 : Int32))) (G1) h14 n0 Zn18 hEL A14 D14_value D14_coder gn14 F19 (own_cs_len _ hB) (own_cs_rng _ hB) (O2) (P5) F20) hZ (hw _ (own_mi 11 rfl)) (hw _ (own_mi 8 rfl)) (by decide) (by decide) hEL CR15.1 (sfS sf16 sf0)) (g := (mkF m 379 #[.val (.int i0), .val (.int i1), .val (.int i2), .val (.int i3), .val (.int i4), .val (.int i5), .val (.int (Int32.ofNat nn)), .val (.int (Int32.ofNat b0)), .val (.int (Int32.ofNat b1)), .val (.int (Int32.ofNat b2)), .val (.int (Int32.ofNat b3)), .val (.int (Int32.ofNat b4)), .val (.int c0), .val (.int c1), .val (.int c2), .val (.int c3), .val (.int c4), .val (.int c5), .val (.int c6), .val (.ref ar), .unset, .unset] [(.ref ar), (.ref b14), (.ref b14)])) rfl (by rw [hml]; rfl) (Steps.refl _) (a := b14) (argsL := [(.ref ar)]) (rest := [(.ref b14)]) (lenOf own_pd_285bC29V rfl) rfl (by show 2 * 0 + _ ≤ _; exact Nat.le_of_eq rfl) (show decode c.code 379 = .ok (.invokespecial 16, 3) from (hb hby at_379)) (fun _ _ => ⟨rfl, e14, (by decide : 2 + 4 ≤ _), (by decide : 11 + 8 ≤ _)⟩)
              dsimp only [Pt.U, Pt.locs, Pt.cells, Pt.slots] at X18 l18 y18 z18 st18 hQ18 hS18 hG18 CR18q
              subst l18 y18 z18
              obtain ⟨tx, kx, rfl, Nq18, Kq18, G0_18, G1_18, G2_18, G3_18⟩ := hQ18
              have N18 := Fr.app Nl Nq18
              obtain ⟨Xr18, hSr18, hZ18, hown18⟩ := rebS hS0 (n1 := T14.heap.size) (by rw [e14]; omega) X18 hS18 hG18 hZ hown
              have sz22 : h14.size ≤ T18.heap.size := Kq18.1
              have cr22 : CHr Z consts_1 s.vm h14 T18.vm T18.heap := CR18q
              have CR22 := CR15.trans cr22
              have lt23 : @LT.lt Nat _ tx T18.heap.size := G2_18.lt
              refine own_go (fun tq kq => st18.trans kq) ?_
              show own_Rn p e below _ (T18.setTop (mkF m 382 #[.val (.int i0), .val (.int i1), .val (.int i2), .val (.int i3), .val (.int i4), .val (.int i5), .val (.int (Int32.ofNat nn)), .val (.int (Int32.ofNat b0)), .val (.int (Int32.ofNat b1)), .val (.int (Int32.ofNat b2)), .val (.int (Int32.ofNat b3)), .val (.int (Int32.ofNat b4)), .val (.int c0), .val (.int c1), .val (.int c2), .val (.int c3), .val (.int c4), .val (.int c5), .val (.int c6), .val (.ref ar), .unset, .unset] [(.ref b14)]))
              obtain ⟨a24, T24, h24, kk24, bb24, kc24, X24, e24, E24, hS24, hk24, hZ24, hown24, Ex24, Co24, Va24, Ab24, la24, lb24, crq24, Li24, sn24, st24⟩ := ldcCH Xr18 hx hZ18 hown18 (hw _ (own_mi 35 rfl)) hwS rfl hSr18 (by omega) hEL (List.mem_of_getElem? (i := 0) rfl) CR22.1 (vs := ((([120] : List Int32).map (fun c => c.toInt8.toInt32)).map Value.int)) (z := (1 : Int32)) ⟨by decide, by decide⟩ (by decide) (by decide) (g := (mkF m 382 #[.val (.int i0), .val (.int i1), .val (.int i2), .val (.int i3), .val (.int i4), .val (.int i5), .val (.int (Int32.ofNat nn)), .val (.int (Int32.ofNat b0)), .val (.int (Int32.ofNat b1)), .val (.int (Int32.ofNat b2)), .val (.int (Int32.ofNat b3)), .val (.int (Int32.ofNat b4)), .val (.int c0), .val (.int c1), .val (.int c2), .val (.int c3), .val (.int c4), .val (.int c5), .val (.int c6), .val (.ref ar), .unset, .unset] [(.ref b14)])) rfl (hb hby at_382) (n := 4) (by decide) (by decide) (by decide) (by decide)
              refine own_go st24 ?_
              have sz25 : T18.heap.size ≤ h24.size := E24.1
              have cr25 : CHr Z consts_1 T18.vm T18.heap T24.vm h24 := crq24
              have CR25 := CR22.trans cr25
              have sf27 : Safe Z consts_1 T24.vm h24 b14 := (CHr.safe cr25 (Nat.lt_of_lt_of_le lt17 sz22) (CHr.safe cr22 (Nat.lt_of_lt_of_le lt17 (Nat.le_refl _)) sf16))
              obtain ⟨na24_b14, nb24_b14⟩ := sn24 b14 sf27
              have lt28 : @LT.lt Nat _ a24 h24.size := Ex24.lt
              have lt29 : @LT.lt Nat _ bb24 h24.size := Ab24.lt
              show own_Rn p e below _ (T24.setTop (mkF m 384 #[.val (.int i0), .val (.int i1), .val (.int i2), .val (.int i3), .val (.int i4), .val (.int i5), .val (.int (Int32.ofNat nn)), .val (.int (Int32.ofNat b0)), .val (.int (Int32.ofNat b1)), .val (.int (Int32.ofNat b2)), .val (.int (Int32.ofNat b3)), .val (.int (Int32.ofNat b4)), .val (.int c0), .val (.int c1), .val (.int c2), .val (.int c3), .val (.int c4), .val (.int c5), .val (.int c6), .val (.ref ar), .unset, .unset] [(.ref a24), (.ref b14)]))
              have le31 : hl.size ≤ T18.heap.size := Nat.le_trans sz15 sz22
              have le32 : hl.size ≤ h24.size := Nat.le_trans le31 sz25
              have Zn30 : n0 ≤ h24.size := (Nat.le_trans Z0 (Nat.le_trans zl2 le32))
              have F33 : Exa Z h24 b14 "java/lang/String" := ((A14.keep Kq18).ext E24)
              have F34 : Fld Z h24 b14 "java/lang/String" "value" "[B" (.ref tx) := (G0_18.ext E24)
              have F35 : Fld Z h24 b14 "java/lang/String" "coder" "B" (.int (0 : Int32)) := (G1_18.ext E24)
              have F36 : Arv Z h24 tx kx .byte (Int32.ofNat (own_cs ([b0, b1, b2, b3, b4].take nn)).length) (own_bs (own_cs ([b0, b1, b2, b3, b4].take nn))) (.int 0) := (G2_18.ext E24)
              have F37 : Exa Z h24 tx "[B" := (G3_18.ext E24)
              have F38 : Old Z n0 h24 := ((F20.keep Kq18 (allS gn14 all0)).ext E24)
              obtain ⟨rv30, _, ⟨T30, L30, k30, n30⟩, -, X30, hS30, hG30, ⟨Lc30, hQ30, l30, y30, z30, CR30q⟩, st30⟩ := own_callSSH X24 hx (y := (⟨"com/example/cartiglio/cartiglio/core/Base64Url", "decodeStrict", "(Ljava/lang/String;Ljava/lang/String;)[B"⟩ : MethodName)) hown24 (mvT hZ24 (hw _ (own_mi 38 rfl))) (mvT hZ24 (hw _ (own_mi 39 rfl))) (mvT hZ24 (hw _ (own_mi 40 rfl))) (mvT hZ24 (hw _ (own_mi 41 rfl))) (by decide) (own_backSHW (W := 0) (rm := ({ frames := 6, cells := 8, slots := 31, locals := 89 } : Room)) (sf := []) (h := h24) (rmDST l Z a0 hw [] (b14) (tx) (kx) (([b0, b1, b2, b3, b4].take nn)) (a24) (tf) (kf) (te) (ke) (ci) (cu) (de) (en) (G1) (G3) h24 n0 Zn30 hEL F33 F34 F35 F36 F37 (hL) (hB) (OD) (OE) ZD ZD1 ZD2 (OF) ZF ZE ZE1 ZE2 ZE3 (OT) ZT (OU) (OI) (nci) (O4) (hG3) (O2) (P5) F38) hZ24 (hw _ (own_mi 41 rfl)) (hw _ (own_mi 40 rfl)) (by decide) (by decide) hEL CR25.1 sf0) (g := (mkF m 384 #[.val (.int i0), .val (.int i1), .val (.int i2), .val (.int i3), .val (.int i4), .val (.int i5), .val (.int (Int32.ofNat nn)), .val (.int (Int32.ofNat b0)), .val (.int (Int32.ofNat b1)), .val (.int (Int32.ofNat b2)), .val (.int (Int32.ofNat b3)), .val (.int (Int32.ofNat b4)), .val (.int c0), .val (.int c1), .val (.int c2), .val (.int c3), .val (.int c4), .val (.int c5), .val (.int c6), .val (.ref ar), .unset, .unset] [(.ref a24), (.ref b14)])) rfl (by rw [hml]; rfl) (argsL := [(.ref b14), (.ref a24)]) (rest := []) (lenOf own_pd_28Ljava2flang2fString3bLjava2flang2fString3b295bB rfl) rfl (by show 2 * 0 + _ ≤ _; exact Nat.le_of_eq rfl) (show decode c.code 384 = .ok (.invokestatic 21, 3) from (hb hby at_384)) (fun _ _ => ⟨rfl, e24, (by decide : 8 + 8 ≤ _), (by decide : 27 + 31 ≤ _)⟩)
              dsimp only [Pt.U, Pt.locs, Pt.cells, Pt.slots] at X30 l30 y30 z30 st30 hQ30 hS30 hG30 CR30q
              subst l30 y30 z30
              obtain ⟨vr, kvr, rfl, Nq30, Kq30, G0_30⟩ := hQ30
              have N30 := Fr.app N18 Nq30
              obtain ⟨Xr30, hSr30, hZ30, hown30⟩ := rebS hS24 (n1 := T24.heap.size) (by rw [e24]; omega) X30 hS30 hG30 hZ24 hown24
              have sz39 : h24.size ≤ T30.heap.size := Kq30.1
              have cr39 : CHr Z consts_1 T24.vm h24 T30.vm T30.heap := CR30q
              have CR39 := CR25.trans cr39
              have lt40 : @LT.lt Nat _ vr T30.heap.size := G0_30.lt
              refine own_go (fun tq kq => st30.trans kq) ?_
              show own_Rn p e below _ (T30.setTop (mkF m 387 #[.val (.int i0), .val (.int i1), .val (.int i2), .val (.int i3), .val (.int i4), .val (.int i5), .val (.int (Int32.ofNat nn)), .val (.int (Int32.ofNat b0)), .val (.int (Int32.ofNat b1)), .val (.int (Int32.ofNat b2)), .val (.int (Int32.ofNat b3)), .val (.int (Int32.ofNat b4)), .val (.int c0), .val (.int c1), .val (.int c2), .val (.int c3), .val (.int c4), .val (.int c5), .val (.int c6), .val (.ref ar), .unset, .unset] [(.ref vr)]))
              refine own_as Xr30 hx #[.val (.int i0), .val (.int i1), .val (.int i2), .val (.int i3), .val (.int i4), .val (.int i5), .val (.int (Int32.ofNat nn)), .val (.int (Int32.ofNat b0)), .val (.int (Int32.ofNat b1)), .val (.int (Int32.ofNat b2)), .val (.int (Int32.ofNat b3)), .val (.int (Int32.ofNat b4)), .val (.int c0), .val (.int c1), .val (.int c2), .val (.int c3), .val (.int c4), .val (.int c5), .val (.int c6), .val (.ref ar), .val (.ref vr), .unset] 389 (hb hby at_387) rfl rfl rfl ?_
              refine own_al Xr30 hx 391 (hb hby at_389) rfl rfl rfl ?_
              refine own_alen Xr30 hx hZ30 rfl G0_30 392 (hb hby at_391) rfl ?_
              refine own_il Xr30 hx 394 (hb hby at_392) rfl rfl ?_
              refine own_icY Xr30 hx 399 (hb hby at_394) (teq (congrArg Int32.ofNat hBL : (Int32.ofNat ([b0, b1, b2, b3, b4].take nn).length) = (Int32.ofNat nn))).1 (by decide) (by decide) ?_
              refine own_ic Xr30 hx (1 : Int32) 400 (hb hby at_399) rfl rfl ?_
              refine own_is Xr30 hx #[.val (.int i0), .val (.int i1), .val (.int i2), .val (.int i3), .val (.int i4), .val (.int i5), .val (.int (Int32.ofNat nn)), .val (.int (Int32.ofNat b0)), .val (.int (Int32.ofNat b1)), .val (.int (Int32.ofNat b2)), .val (.int (Int32.ofNat b3)), .val (.int (Int32.ofNat b4)), .val (.int c0), .val (.int c1), .val (.int c2), .val (.int c3), .val (.int c4), .val (.int c5), .val (.int c6), .val (.ref ar), .val (.ref vr), .val (.int (1 : Int32))] 402 (hb hby at_400) rfl rfl ?_
              have J557 : own_Rn p e below (fun oq U' => ∃ vq Lq, oq = .returned vq ∧ Q_rm0 Z i0 i1 i2 i3 i4 i5 tf kf te ke ci cu de en G1 G3 h0 n0 vq U'.heap Lq ∧ CHr Z consts_1 s.vm s.heap U'.vm U'.heap ∧ ReturnedEndW s oq U' Lq 32 2240) (T30.setTop (mkF m 557 #[.val (.int i0), .val (.int i1), .val (.int i2), .val (.int i3), .val (.int i4), .val (.int i5), .val (.int (Int32.ofNat nn)), .val (.int (Int32.ofNat b0)), .val (.int (Int32.ofNat b1)), .val (.int (Int32.ofNat b2)), .val (.int (Int32.ofNat b3)), .val (.int (Int32.ofNat b4)), .val (.int c0), .val (.int c1), .val (.int c2), .val (.int c3), .val (.int c4), .val (.int c5), .val (.int c6), .val (.ref ar), .val (.ref vr), .val (.int (1 : Int32))] [])) := by
                refine own_il Xr30 hx 559 (hb hby at_557) rfl rfl ?_
                exact own_retS Xr30 hSr30 (by omega) (v := some (.int (nar .boolean (1 : Int32)))) (fun h => by rw [Bd.returns] at h; cases h) (fun fs hr => retN Xr30 hx (t := .boolean) Bd.returns (by simp) (hb hby at_559) hr) (⟨rfl, N30⟩) (by rw [hh]; exact CR39.trans (CHv.at Xr30 hZ30 hEL CR39.1)) (by decide) (by decide)
              have J526 : own_Rn p e below (fun oq U' => ∃ vq Lq, oq = .returned vq ∧ Q_rm0 Z i0 i1 i2 i3 i4 i5 tf kf te ke ci cu de en G1 G3 h0 n0 vq U'.heap Lq ∧ CHr Z consts_1 s.vm s.heap U'.vm U'.heap ∧ ReturnedEndW s oq U' Lq 32 2240) (T30.setTop (mkF m 526 #[.val (.int i0), .val (.int i1), .val (.int i2), .val (.int i3), .val (.int i4), .val (.int i5), .val (.int (Int32.ofNat nn)), .val (.int (Int32.ofNat b0)), .val (.int (Int32.ofNat b1)), .val (.int (Int32.ofNat b2)), .val (.int (Int32.ofNat b3)), .val (.int (Int32.ofNat b4)), .val (.int c0), .val (.int c1), .val (.int c2), .val (.int c3), .val (.int c4), .val (.int c5), .val (.int c6), .val (.ref ar), .val (.ref vr), .val (.int (1 : Int32))] [])) := by
                refine own_il Xr30 hx 528 (hb hby at_526) rfl rfl ?_
                refine own_ic Xr30 hx (5 : Int32) 529 (hb hby at_528) rfl rfl ?_
                by_cases k4 : nn < 5
                · skip
                  refine own_icY Xr30 hx 557 (hb hby at_529) (tlt (own_ofNat_lt (K := 5) k4 (by decide) : (Int32.ofNat nn) < (5 : Int32))).1 (by decide) (by decide) ?_
                  exact J557
                · skip
                  refine own_icN Xr30 hx 532 (hb hby at_529) rfl (flt (own_ofNat_nlt (K := 5) k4 (by omega) : ¬ ((Int32.ofNat nn) < (5 : Int32)))).1 ?_
                  refine own_il Xr30 hx 534 (hb hby at_532) rfl rfl ?_
                  refine own_ifN Xr30 hx 537 (hb hby at_534) rfl ((if0 _ _).trans (feq ((by decide : ¬ ((1 : Int32) = (0 : Int32))) : ¬ ((1 : Int32) = (0 : Int32)))).1) ?_
                  refine own_al Xr30 hx 539 (hb hby at_537) rfl rfl rfl ?_
                  refine own_ic Xr30 hx (4 : Int32) 540 (hb hby at_539) rfl rfl ?_
                  have hg4 : ([b0, b1, b2, b3, b4].take nn)[4]? = some b4 := by rw [List.getElem?_take_of_lt (by omega)]; rfl
                  refine own_bal Xr30 hx hZ30 rfl G0_30 (own_by b4) 541 (hb hby at_540) rfl ⟨by decide, own_ofNat_lt (q := 4) (by omega) (by omega)⟩ (own_ub_at _ 4 b4 hg4 (by decide)) ?_
                  refine own_sp Xr30 hx (255 : Int32) 544 (hb hby at_541) rfl rfl ?_
                  refine own_iand Xr30 hx 545 (hb hby at_544) rfl ?_
                  refine own_il Xr30 hx 547 (hb hby at_545) rfl rfl ?_
                  refine own_icN Xr30 hx 550 (hb hby at_547) rfl (teq (own_bym b4 hb4 : ((own_by b4) &&& (255 : Int32)) = (Int32.ofNat b4))).2 ?_
                  refine own_ic Xr30 hx (1 : Int32) 551 (hb hby at_550) rfl rfl ?_
                  refine own_gt Xr30 hx 555 (hb hby at_551) (by decide) (by decide) ?_
                  refine own_is Xr30 hx #[.val (.int i0), .val (.int i1), .val (.int i2), .val (.int i3), .val (.int i4), .val (.int i5), .val (.int (Int32.ofNat nn)), .val (.int (Int32.ofNat b0)), .val (.int (Int32.ofNat b1)), .val (.int (Int32.ofNat b2)), .val (.int (Int32.ofNat b3)), .val (.int (Int32.ofNat b4)), .val (.int c0), .val (.int c1), .val (.int c2), .val (.int c3), .val (.int c4), .val (.int c5), .val (.int c6), .val (.ref ar), .val (.ref vr), .val (.int (1 : Int32))] 557 (hb hby at_555) rfl rfl ?_
                  exact J557
              have J495 : own_Rn p e below (fun oq U' => ∃ vq Lq, oq = .returned vq ∧ Q_rm0 Z i0 i1 i2 i3 i4 i5 tf kf te ke ci cu de en G1 G3 h0 n0 vq U'.heap Lq ∧ CHr Z consts_1 s.vm s.heap U'.vm U'.heap ∧ ReturnedEndW s oq U' Lq 32 2240) (T30.setTop (mkF m 495 #[.val (.int i0), .val (.int i1), .val (.int i2), .val (.int i3), .val (.int i4), .val (.int i5), .val (.int (Int32.ofNat nn)), .val (.int (Int32.ofNat b0)), .val (.int (Int32.ofNat b1)), .val (.int (Int32.ofNat b2)), .val (.int (Int32.ofNat b3)), .val (.int (Int32.ofNat b4)), .val (.int c0), .val (.int c1), .val (.int c2), .val (.int c3), .val (.int c4), .val (.int c5), .val (.int c6), .val (.ref ar), .val (.ref vr), .val (.int (1 : Int32))] [])) := by
                refine own_il Xr30 hx 497 (hb hby at_495) rfl rfl ?_
                refine own_ic Xr30 hx (4 : Int32) 498 (hb hby at_497) rfl rfl ?_
                by_cases k3 : nn < 4
                · skip
                  refine own_icY Xr30 hx 526 (hb hby at_498) (tlt (own_ofNat_lt (K := 4) k3 (by decide) : (Int32.ofNat nn) < (4 : Int32))).1 (by decide) (by decide) ?_
                  exact J526
                · skip
                  refine own_icN Xr30 hx 501 (hb hby at_498) rfl (flt (own_ofNat_nlt (K := 4) k3 (by omega) : ¬ ((Int32.ofNat nn) < (4 : Int32)))).1 ?_
                  refine own_il Xr30 hx 503 (hb hby at_501) rfl rfl ?_
                  refine own_ifN Xr30 hx 506 (hb hby at_503) rfl ((if0 _ _).trans (feq ((by decide : ¬ ((1 : Int32) = (0 : Int32))) : ¬ ((1 : Int32) = (0 : Int32)))).1) ?_
                  refine own_al Xr30 hx 508 (hb hby at_506) rfl rfl rfl ?_
                  refine own_ic Xr30 hx (3 : Int32) 509 (hb hby at_508) rfl rfl ?_
                  have hg3 : ([b0, b1, b2, b3, b4].take nn)[3]? = some b3 := by rw [List.getElem?_take_of_lt (by omega)]; rfl
                  refine own_bal Xr30 hx hZ30 rfl G0_30 (own_by b3) 510 (hb hby at_509) rfl ⟨by decide, own_ofNat_lt (q := 3) (by omega) (by omega)⟩ (own_ub_at _ 3 b3 hg3 (by decide)) ?_
                  refine own_sp Xr30 hx (255 : Int32) 513 (hb hby at_510) rfl rfl ?_
                  refine own_iand Xr30 hx 514 (hb hby at_513) rfl ?_
                  refine own_il Xr30 hx 516 (hb hby at_514) rfl rfl ?_
                  refine own_icN Xr30 hx 519 (hb hby at_516) rfl (teq (own_bym b3 hb3 : ((own_by b3) &&& (255 : Int32)) = (Int32.ofNat b3))).2 ?_
                  refine own_ic Xr30 hx (1 : Int32) 520 (hb hby at_519) rfl rfl ?_
                  refine own_gt Xr30 hx 524 (hb hby at_520) (by decide) (by decide) ?_
                  refine own_is Xr30 hx #[.val (.int i0), .val (.int i1), .val (.int i2), .val (.int i3), .val (.int i4), .val (.int i5), .val (.int (Int32.ofNat nn)), .val (.int (Int32.ofNat b0)), .val (.int (Int32.ofNat b1)), .val (.int (Int32.ofNat b2)), .val (.int (Int32.ofNat b3)), .val (.int (Int32.ofNat b4)), .val (.int c0), .val (.int c1), .val (.int c2), .val (.int c3), .val (.int c4), .val (.int c5), .val (.int c6), .val (.ref ar), .val (.ref vr), .val (.int (1 : Int32))] 526 (hb hby at_524) rfl rfl ?_
                  exact J526
              have J464 : own_Rn p e below (fun oq U' => ∃ vq Lq, oq = .returned vq ∧ Q_rm0 Z i0 i1 i2 i3 i4 i5 tf kf te ke ci cu de en G1 G3 h0 n0 vq U'.heap Lq ∧ CHr Z consts_1 s.vm s.heap U'.vm U'.heap ∧ ReturnedEndW s oq U' Lq 32 2240) (T30.setTop (mkF m 464 #[.val (.int i0), .val (.int i1), .val (.int i2), .val (.int i3), .val (.int i4), .val (.int i5), .val (.int (Int32.ofNat nn)), .val (.int (Int32.ofNat b0)), .val (.int (Int32.ofNat b1)), .val (.int (Int32.ofNat b2)), .val (.int (Int32.ofNat b3)), .val (.int (Int32.ofNat b4)), .val (.int c0), .val (.int c1), .val (.int c2), .val (.int c3), .val (.int c4), .val (.int c5), .val (.int c6), .val (.ref ar), .val (.ref vr), .val (.int (1 : Int32))] [])) := by
                refine own_il Xr30 hx 466 (hb hby at_464) rfl rfl ?_
                refine own_ic Xr30 hx (3 : Int32) 467 (hb hby at_466) rfl rfl ?_
                by_cases k2 : nn < 3
                · skip
                  refine own_icY Xr30 hx 495 (hb hby at_467) (tlt (own_ofNat_lt (K := 3) k2 (by decide) : (Int32.ofNat nn) < (3 : Int32))).1 (by decide) (by decide) ?_
                  exact J495
                · skip
                  refine own_icN Xr30 hx 470 (hb hby at_467) rfl (flt (own_ofNat_nlt (K := 3) k2 (by omega) : ¬ ((Int32.ofNat nn) < (3 : Int32)))).1 ?_
                  refine own_il Xr30 hx 472 (hb hby at_470) rfl rfl ?_
                  refine own_ifN Xr30 hx 475 (hb hby at_472) rfl ((if0 _ _).trans (feq ((by decide : ¬ ((1 : Int32) = (0 : Int32))) : ¬ ((1 : Int32) = (0 : Int32)))).1) ?_
                  refine own_al Xr30 hx 477 (hb hby at_475) rfl rfl rfl ?_
                  refine own_ic Xr30 hx (2 : Int32) 478 (hb hby at_477) rfl rfl ?_
                  have hg2 : ([b0, b1, b2, b3, b4].take nn)[2]? = some b2 := by rw [List.getElem?_take_of_lt (by omega)]; rfl
                  refine own_bal Xr30 hx hZ30 rfl G0_30 (own_by b2) 479 (hb hby at_478) rfl ⟨by decide, own_ofNat_lt (q := 2) (by omega) (by omega)⟩ (own_ub_at _ 2 b2 hg2 (by decide)) ?_
                  refine own_sp Xr30 hx (255 : Int32) 482 (hb hby at_479) rfl rfl ?_
                  refine own_iand Xr30 hx 483 (hb hby at_482) rfl ?_
                  refine own_il Xr30 hx 485 (hb hby at_483) rfl rfl ?_
                  refine own_icN Xr30 hx 488 (hb hby at_485) rfl (teq (own_bym b2 hb2 : ((own_by b2) &&& (255 : Int32)) = (Int32.ofNat b2))).2 ?_
                  refine own_ic Xr30 hx (1 : Int32) 489 (hb hby at_488) rfl rfl ?_
                  refine own_gt Xr30 hx 493 (hb hby at_489) (by decide) (by decide) ?_
                  refine own_is Xr30 hx #[.val (.int i0), .val (.int i1), .val (.int i2), .val (.int i3), .val (.int i4), .val (.int i5), .val (.int (Int32.ofNat nn)), .val (.int (Int32.ofNat b0)), .val (.int (Int32.ofNat b1)), .val (.int (Int32.ofNat b2)), .val (.int (Int32.ofNat b3)), .val (.int (Int32.ofNat b4)), .val (.int c0), .val (.int c1), .val (.int c2), .val (.int c3), .val (.int c4), .val (.int c5), .val (.int c6), .val (.ref ar), .val (.ref vr), .val (.int (1 : Int32))] 495 (hb hby at_493) rfl rfl ?_
                  exact J495
              have J433 : own_Rn p e below (fun oq U' => ∃ vq Lq, oq = .returned vq ∧ Q_rm0 Z i0 i1 i2 i3 i4 i5 tf kf te ke ci cu de en G1 G3 h0 n0 vq U'.heap Lq ∧ CHr Z consts_1 s.vm s.heap U'.vm U'.heap ∧ ReturnedEndW s oq U' Lq 32 2240) (T30.setTop (mkF m 433 #[.val (.int i0), .val (.int i1), .val (.int i2), .val (.int i3), .val (.int i4), .val (.int i5), .val (.int (Int32.ofNat nn)), .val (.int (Int32.ofNat b0)), .val (.int (Int32.ofNat b1)), .val (.int (Int32.ofNat b2)), .val (.int (Int32.ofNat b3)), .val (.int (Int32.ofNat b4)), .val (.int c0), .val (.int c1), .val (.int c2), .val (.int c3), .val (.int c4), .val (.int c5), .val (.int c6), .val (.ref ar), .val (.ref vr), .val (.int (1 : Int32))] [])) := by
                refine own_il Xr30 hx 435 (hb hby at_433) rfl rfl ?_
                refine own_ic Xr30 hx (2 : Int32) 436 (hb hby at_435) rfl rfl ?_
                by_cases k1 : nn < 2
                · skip
                  refine own_icY Xr30 hx 464 (hb hby at_436) (tlt (own_ofNat_lt (K := 2) k1 (by decide) : (Int32.ofNat nn) < (2 : Int32))).1 (by decide) (by decide) ?_
                  exact J464
                · skip
                  refine own_icN Xr30 hx 439 (hb hby at_436) rfl (flt (own_ofNat_nlt (K := 2) k1 (by omega) : ¬ ((Int32.ofNat nn) < (2 : Int32)))).1 ?_
                  refine own_il Xr30 hx 441 (hb hby at_439) rfl rfl ?_
                  refine own_ifN Xr30 hx 444 (hb hby at_441) rfl ((if0 _ _).trans (feq ((by decide : ¬ ((1 : Int32) = (0 : Int32))) : ¬ ((1 : Int32) = (0 : Int32)))).1) ?_
                  refine own_al Xr30 hx 446 (hb hby at_444) rfl rfl rfl ?_
                  refine own_ic Xr30 hx (1 : Int32) 447 (hb hby at_446) rfl rfl ?_
                  have hg1 : ([b0, b1, b2, b3, b4].take nn)[1]? = some b1 := by rw [List.getElem?_take_of_lt (by omega)]; rfl
                  refine own_bal Xr30 hx hZ30 rfl G0_30 (own_by b1) 448 (hb hby at_447) rfl ⟨by decide, own_ofNat_lt (q := 1) (by omega) (by omega)⟩ (own_ub_at _ 1 b1 hg1 (by decide)) ?_
                  refine own_sp Xr30 hx (255 : Int32) 451 (hb hby at_448) rfl rfl ?_
                  refine own_iand Xr30 hx 452 (hb hby at_451) rfl ?_
                  refine own_il Xr30 hx 454 (hb hby at_452) rfl rfl ?_
                  refine own_icN Xr30 hx 457 (hb hby at_454) rfl (teq (own_bym b1 hb1 : ((own_by b1) &&& (255 : Int32)) = (Int32.ofNat b1))).2 ?_
                  refine own_ic Xr30 hx (1 : Int32) 458 (hb hby at_457) rfl rfl ?_
                  refine own_gt Xr30 hx 462 (hb hby at_458) (by decide) (by decide) ?_
                  refine own_is Xr30 hx #[.val (.int i0), .val (.int i1), .val (.int i2), .val (.int i3), .val (.int i4), .val (.int i5), .val (.int (Int32.ofNat nn)), .val (.int (Int32.ofNat b0)), .val (.int (Int32.ofNat b1)), .val (.int (Int32.ofNat b2)), .val (.int (Int32.ofNat b3)), .val (.int (Int32.ofNat b4)), .val (.int c0), .val (.int c1), .val (.int c2), .val (.int c3), .val (.int c4), .val (.int c5), .val (.int c6), .val (.ref ar), .val (.ref vr), .val (.int (1 : Int32))] 464 (hb hby at_462) rfl rfl ?_
                  exact J464
              refine own_il Xr30 hx 404 (hb hby at_402) rfl rfl ?_
              refine own_ic Xr30 hx (1 : Int32) 405 (hb hby at_404) rfl rfl ?_
              by_cases k0 : nn < 1
              · skip
                refine own_icY Xr30 hx 433 (hb hby at_405) (tlt (own_ofNat_lt (K := 1) k0 (by decide) : (Int32.ofNat nn) < (1 : Int32))).1 (by decide) (by decide) ?_
                exact J433
              · skip
                refine own_icN Xr30 hx 408 (hb hby at_405) rfl (flt (own_ofNat_nlt (K := 1) k0 (by omega) : ¬ ((Int32.ofNat nn) < (1 : Int32)))).1 ?_
                refine own_il Xr30 hx 410 (hb hby at_408) rfl rfl ?_
                refine own_ifN Xr30 hx 413 (hb hby at_410) rfl ((if0 _ _).trans (feq ((by decide : ¬ ((1 : Int32) = (0 : Int32))) : ¬ ((1 : Int32) = (0 : Int32)))).1) ?_
                refine own_al Xr30 hx 415 (hb hby at_413) rfl rfl rfl ?_
                refine own_ic Xr30 hx (0 : Int32) 416 (hb hby at_415) rfl rfl ?_
                have hg0 : ([b0, b1, b2, b3, b4].take nn)[0]? = some b0 := by rw [List.getElem?_take_of_lt (by omega)]; rfl
                refine own_bal Xr30 hx hZ30 rfl G0_30 (own_by b0) 417 (hb hby at_416) rfl ⟨by decide, own_ofNat_lt (q := 0) (by omega) (by omega)⟩ (own_ub_at _ 0 b0 hg0 (by decide)) ?_
                refine own_sp Xr30 hx (255 : Int32) 420 (hb hby at_417) rfl rfl ?_
                refine own_iand Xr30 hx 421 (hb hby at_420) rfl ?_
                refine own_il Xr30 hx 423 (hb hby at_421) rfl rfl ?_
                refine own_icN Xr30 hx 426 (hb hby at_423) rfl (teq (own_bym b0 hb0 : ((own_by b0) &&& (255 : Int32)) = (Int32.ofNat b0))).2 ?_
                refine own_ic Xr30 hx (1 : Int32) 427 (hb hby at_426) rfl rfl ?_
                refine own_gt Xr30 hx 431 (hb hby at_427) (by decide) (by decide) ?_
                refine own_is Xr30 hx #[.val (.int i0), .val (.int i1), .val (.int i2), .val (.int i3), .val (.int i4), .val (.int i5), .val (.int (Int32.ofNat nn)), .val (.int (Int32.ofNat b0)), .val (.int (Int32.ofNat b1)), .val (.int (Int32.ofNat b2)), .val (.int (Int32.ofNat b3)), .val (.int (Int32.ofNat b4)), .val (.int c0), .val (.int c1), .val (.int c2), .val (.int c3), .val (.int c4), .val (.int c5), .val (.int c6), .val (.ref ar), .val (.ref vr), .val (.int (1 : Int32))] 433 (hb hby at_431) rfl rfl ?_
                exact J433
            obtain rfl | rfl | rfl | rfl | rfl | rfl : nn = 0 ∨ nn = 1 ∨ nn = 2 ∨ nn = 3 ∨ nn = 4 ∨ nn = 5 := by omega
            · skip
              obtain rfl : b0 = 0 := hz0 (by decide)
              obtain rfl : b1 = 0 := hz1 (by decide)
              obtain rfl : b2 = 0 := hz2 (by decide)
              obtain rfl : b3 = 0 := hz3 (by decide)
              obtain rfl : b4 = 0 := hz4 (by decide)
              show own_Rn p e below _ (T12.setTop (mkF m 186 #[.val (.int i0), .val (.int i1), .val (.int i2), .val (.int i3), .val (.int i4), .val (.int i5), .val (.int (0 : Int32)), .val (.int (0 : Int32)), .val (.int (0 : Int32)), .val (.int (0 : Int32)), .val (.int (0 : Int32)), .val (.int (0 : Int32)), .val (.int c0), .val (.int c1), .val (.int c2), .val (.int c3), .val (.int c4), .val (.int c5), .val (.int c6), .unset, .unset, .unset] []))
              refine own_il X12 hx 188 (hb hby at_186) rfl rfl ?_
              refine own_ifN X12 hx 191 (hb hby at_188) rfl ((if0 _ _).trans (teq (by decide : (0 : Int32) = (0 : Int32))).2) ?_
              refine own_ic X12 hx (0 : Int32) 192 (hb hby at_191) rfl rfl ?_
              obtain ⟨T42, h42, k42, X42, e42, E42, A42, st42⟩ := newP X12 hx hZ (hw _ (own_mi 5 rfl)) eh12 (g := (mkF m 192 #[.val (.int i0), .val (.int i1), .val (.int i2), .val (.int i3), .val (.int i4), .val (.int i5), .val (.int (0 : Int32)), .val (.int (0 : Int32)), .val (.int (0 : Int32)), .val (.int (0 : Int32)), .val (.int (0 : Int32)), .val (.int (0 : Int32)), .val (.int c0), .val (.int c1), .val (.int c2), .val (.int c3), .val (.int c4), .val (.int c5), .val (.int c6), .unset, .unset, .unset] [(.int (0 : Int32))])) rfl (hb hby at_192) rfl (by decide) (cap := 0) (by decide) (by decide) (by decide) (by decide)
              obtain ⟨b42, g42⟩ : ∃ z, z = h0.size := ⟨_, rfl⟩
              rw [← g42] at A42 st42
              refine own_go st42 ?_
              have sz43 : h0.size ≤ h42.size := E42.1
              have cr43 : CHr Z consts_1 s.vm h0 s.vm h42 := CHr.ext E42 CR0.1
              have CR43 := CR0.trans cr43
              have gn42 : n0 ≤ b42 := (Nat.le_trans (Nat.le_trans Z0 (Nat.le_refl _)) (Nat.le_of_eq g42.symm))
              have V42 : Arv Z h42 b42 k42 .char (0 : Int32) [] (.int (0 : Int32)) := (Arv.new A42 (by decide)).pad (pad_rep [] _ 0)
              have lt44 : @LT.lt Nat _ b42 h42.size := V42.lt
              show own_Rn p e below _ (T42.setTop (mkF m 194 #[.val (.int i0), .val (.int i1), .val (.int i2), .val (.int i3), .val (.int i4), .val (.int i5), .val (.int (0 : Int32)), .val (.int (0 : Int32)), .val (.int (0 : Int32)), .val (.int (0 : Int32)), .val (.int (0 : Int32)), .val (.int (0 : Int32)), .val (.int c0), .val (.int c1), .val (.int c2), .val (.int c3), .val (.int c4), .val (.int c5), .val (.int c6), .unset, .unset, .unset] [(.ref b42)]))
              refine own_as X42 hx #[.val (.int i0), .val (.int i1), .val (.int i2), .val (.int i3), .val (.int i4), .val (.int i5), .val (.int (0 : Int32)), .val (.int (0 : Int32)), .val (.int (0 : Int32)), .val (.int (0 : Int32)), .val (.int (0 : Int32)), .val (.int (0 : Int32)), .val (.int c0), .val (.int c1), .val (.int c2), .val (.int c3), .val (.int c4), .val (.int c5), .val (.int c6), .val (.ref b42), .unset, .unset] 196 (hb hby at_194) rfl rfl rfl ?_
              refine own_gt X42 hx 373 (hb hby at_196) (by decide) (by decide) ?_
              have F45 : Old Z n0 h42 := (X00.ext E42)
              subst hc0 hc1 hc2 hc3 hc4 hc5 hc6
              exact J373 _ _ _ _ _ (X42.mono (by decide) (by decide)) e42 N12 (Nat.le_trans Z0 sz43) sz43 F45 CR43 V42
            · skip
              obtain rfl : b1 = 0 := hz1 (by decide)
              obtain rfl : b2 = 0 := hz2 (by decide)
              obtain rfl : b3 = 0 := hz3 (by decide)
              obtain rfl : b4 = 0 := hz4 (by decide)
              show own_Rn p e below _ (T12.setTop (mkF m 186 #[.val (.int i0), .val (.int i1), .val (.int i2), .val (.int i3), .val (.int i4), .val (.int i5), .val (.int (1 : Int32)), .val (.int (Int32.ofNat b0)), .val (.int (0 : Int32)), .val (.int (0 : Int32)), .val (.int (0 : Int32)), .val (.int (0 : Int32)), .val (.int c0), .val (.int c1), .val (.int c2), .val (.int c3), .val (.int c4), .val (.int c5), .val (.int c6), .unset, .unset, .unset] []))
              refine own_il X12 hx 188 (hb hby at_186) rfl rfl ?_
              refine own_ifY X12 hx 199 (hb hby at_188) ((if0 _ _).trans (feq (by decide : ¬ ((1 : Int32) = (0 : Int32)))).2) (by decide) (by decide) ?_
              refine own_il X12 hx 201 (hb hby at_199) rfl rfl ?_
              refine own_ic X12 hx (1 : Int32) 202 (hb hby at_201) rfl rfl ?_
              refine own_icN X12 hx 205 (hb hby at_202) rfl (teq (by decide : (1 : Int32) = (1 : Int32))).2 ?_
              refine own_ic X12 hx (2 : Int32) 206 (hb hby at_205) rfl rfl ?_
              obtain ⟨T47, h47, k47, X47, e47, E47, A47, st47⟩ := newP X12 hx hZ (hw _ (own_mi 5 rfl)) eh12 (g := (mkF m 206 #[.val (.int i0), .val (.int i1), .val (.int i2), .val (.int i3), .val (.int i4), .val (.int i5), .val (.int (1 : Int32)), .val (.int (Int32.ofNat b0)), .val (.int (0 : Int32)), .val (.int (0 : Int32)), .val (.int (0 : Int32)), .val (.int (0 : Int32)), .val (.int c0), .val (.int c1), .val (.int c2), .val (.int c3), .val (.int c4), .val (.int c5), .val (.int c6), .unset, .unset, .unset] [(.int (2 : Int32))])) rfl (hb hby at_206) rfl (by decide) (cap := 2) (by decide) (by decide) (by decide) (by decide)
              obtain ⟨b47, g47⟩ : ∃ z, z = h0.size := ⟨_, rfl⟩
              rw [← g47] at A47 st47
              refine own_go st47 ?_
              have sz48 : h0.size ≤ h47.size := E47.1
              have cr48 : CHr Z consts_1 s.vm h0 s.vm h47 := CHr.ext E47 CR0.1
              have CR48 := CR0.trans cr48
              have gn47 : n0 ≤ b47 := (Nat.le_trans (Nat.le_trans Z0 (Nat.le_refl _)) (Nat.le_of_eq g47.symm))
              have V47 : Arv Z h47 b47 k47 .char (2 : Int32) [(.int (0 : Int32)), (.int (0 : Int32))] (.int (0 : Int32)) := (Arv.new A47 (by decide)).pad (pad_rep [] _ 2)
              have lt49 : @LT.lt Nat _ b47 h47.size := V47.lt
              show own_Rn p e below _ (T47.setTop (mkF m 208 #[.val (.int i0), .val (.int i1), .val (.int i2), .val (.int i3), .val (.int i4), .val (.int i5), .val (.int (1 : Int32)), .val (.int (Int32.ofNat b0)), .val (.int (0 : Int32)), .val (.int (0 : Int32)), .val (.int (0 : Int32)), .val (.int (0 : Int32)), .val (.int c0), .val (.int c1), .val (.int c2), .val (.int c3), .val (.int c4), .val (.int c5), .val (.int c6), .unset, .unset, .unset] [(.ref b47)]))
              refine own_dp X47 hx 209 (hb hby at_208) rfl rfl ?_
              refine own_ic X47 hx (0 : Int32) 210 (hb hby at_209) rfl rfl ?_
              refine own_il X47 hx 212 (hb hby at_210) rfl rfl ?_
              obtain ⟨cl50, Ar50, q50, Sz50, Nn50, Hs50, G50⟩ := id V47
              obtain ⟨T50, h50, X50, e50, W50, st50⟩ := stC X47 hx hZ e47 Ar50 (j := (0 : Int32)) (inb_of Sz50 ⟨by decide, by decide⟩) (g := (mkF m 212 #[.val (.int i0), .val (.int i1), .val (.int i2), .val (.int i3), .val (.int i4), .val (.int i5), .val (.int (1 : Int32)), .val (.int (Int32.ofNat b0)), .val (.int (0 : Int32)), .val (.int (0 : Int32)), .val (.int (0 : Int32)), .val (.int (0 : Int32)), .val (.int c0), .val (.int c1), .val (.int c2), .val (.int c3), .val (.int c4), .val (.int c5), .val (.int c6), .unset, .unset, .unset] [(.int c0), (.int (0 : Int32)), (.ref b47), (.ref b47)])) rfl rfl (hb hby at_212)
              rw [nc0] at W50
              refine own_go st50 ?_
              have V50 : Arv Z h50 b47 k47 .char (2 : Int32) [(.int c0), (.int (0 : Int32))] (.int (0 : Int32)) := Arv.set Ar50 q50 Sz50 Nn50 Hs50 G50 (by rw [← nc0]; exact fits_nar_char _) W50 0 rfl (Nat.le_of_ble_eq_true rfl)
              have N50 := Fr.snoc X50 N12 gn47
              have sf51 : Safe Z consts_1 s.vm h47 b47 := Safe.arv hZ.alike V47 (by decide)
              have sz52 : h47.size ≤ h50.size := Nat.le_of_eq (Wr.size W50).symm
              have cr52 : CHr Z consts_1 s.vm h47 s.vm h50 := CHr.wr W50 sf51 CR48.1
              have CR52 := CR48.trans cr52
              show own_Rn p e below _ (T50.setTop (mkF m 213 #[.val (.int i0), .val (.int i1), .val (.int i2), .val (.int i3), .val (.int i4), .val (.int i5), .val (.int (1 : Int32)), .val (.int (Int32.ofNat b0)), .val (.int (0 : Int32)), .val (.int (0 : Int32)), .val (.int (0 : Int32)), .val (.int (0 : Int32)), .val (.int c0), .val (.int c1), .val (.int c2), .val (.int c3), .val (.int c4), .val (.int c5), .val (.int c6), .unset, .unset, .unset] [(.ref b47)]))
              refine own_dp X50 hx 214 (hb hby at_213) rfl rfl ?_
              refine own_ic X50 hx (1 : Int32) 215 (hb hby at_214) rfl rfl ?_
              refine own_il X50 hx 217 (hb hby at_215) rfl rfl ?_
              obtain ⟨cl53, Ar53, q53, Sz53, Nn53, Hs53, G53⟩ := id V50
              obtain ⟨T53, h53, X53, e53, W53, st53⟩ := stC X50 hx hZ e50 Ar53 (j := (1 : Int32)) (inb_of Sz53 ⟨by decide, by decide⟩) (g := (mkF m 217 #[.val (.int i0), .val (.int i1), .val (.int i2), .val (.int i3), .val (.int i4), .val (.int i5), .val (.int (1 : Int32)), .val (.int (Int32.ofNat b0)), .val (.int (0 : Int32)), .val (.int (0 : Int32)), .val (.int (0 : Int32)), .val (.int (0 : Int32)), .val (.int c0), .val (.int c1), .val (.int c2), .val (.int c3), .val (.int c4), .val (.int c5), .val (.int c6), .unset, .unset, .unset] [(.int c1), (.int (1 : Int32)), (.ref b47), (.ref b47)])) rfl rfl (hb hby at_217)
              rw [nc1] at W53
              refine own_go st53 ?_
              have V53 : Arv Z h53 b47 k47 .char (2 : Int32) [(.int c0), (.int c1)] (.int (0 : Int32)) := Arv.set Ar53 q53 Sz53 Nn53 Hs53 G53 (by rw [← nc1]; exact fits_nar_char _) W53 1 rfl (Nat.le_of_ble_eq_true rfl)
              have N53 := Fr.snoc X53 N50 gn47
              have sf54 : Safe Z consts_1 s.vm h50 b47 := Safe.arv hZ.alike V50 (by decide)
              have sz55 : h50.size ≤ h53.size := Nat.le_of_eq (Wr.size W53).symm
              have cr55 : CHr Z consts_1 s.vm h50 s.vm h53 := CHr.wr W53 sf54 CR52.1
              have CR55 := CR52.trans cr55
              show own_Rn p e below _ (T53.setTop (mkF m 218 #[.val (.int i0), .val (.int i1), .val (.int i2), .val (.int i3), .val (.int i4), .val (.int i5), .val (.int (1 : Int32)), .val (.int (Int32.ofNat b0)), .val (.int (0 : Int32)), .val (.int (0 : Int32)), .val (.int (0 : Int32)), .val (.int (0 : Int32)), .val (.int c0), .val (.int c1), .val (.int c2), .val (.int c3), .val (.int c4), .val (.int c5), .val (.int c6), .unset, .unset, .unset] [(.ref b47)]))
              refine own_as X53 hx #[.val (.int i0), .val (.int i1), .val (.int i2), .val (.int i3), .val (.int i4), .val (.int i5), .val (.int (1 : Int32)), .val (.int (Int32.ofNat b0)), .val (.int (0 : Int32)), .val (.int (0 : Int32)), .val (.int (0 : Int32)), .val (.int (0 : Int32)), .val (.int c0), .val (.int c1), .val (.int c2), .val (.int c3), .val (.int c4), .val (.int c5), .val (.int c6), .val (.ref b47), .unset, .unset] 220 (hb hby at_218) rfl rfl rfl ?_
              refine own_gt X53 hx 373 (hb hby at_220) (by decide) (by decide) ?_
              have F56 : Old Z n0 h53 := (((X00.ext E47).wr W50 gn47).wr W53 gn47)
              subst hc0 hc1 hc2 hc3 hc4 hc5 hc6
              have le57 : h0.size ≤ h50.size := Nat.le_trans sz48 sz52
              have le58 : h0.size ≤ h53.size := Nat.le_trans le57 sz55
              exact J373 _ _ _ _ _ (X53.mono (by decide) (by decide)) e53 N53 (Nat.le_trans Z0 le58) le58 F56 CR55 V53
            · skip
              obtain rfl : b2 = 0 := hz2 (by decide)
              obtain rfl : b3 = 0 := hz3 (by decide)
              obtain rfl : b4 = 0 := hz4 (by decide)
              show own_Rn p e below _ (T12.setTop (mkF m 186 #[.val (.int i0), .val (.int i1), .val (.int i2), .val (.int i3), .val (.int i4), .val (.int i5), .val (.int (2 : Int32)), .val (.int (Int32.ofNat b0)), .val (.int (Int32.ofNat b1)), .val (.int (0 : Int32)), .val (.int (0 : Int32)), .val (.int (0 : Int32)), .val (.int c0), .val (.int c1), .val (.int c2), .val (.int c3), .val (.int c4), .val (.int c5), .val (.int c6), .unset, .unset, .unset] []))
              refine own_il X12 hx 188 (hb hby at_186) rfl rfl ?_
              refine own_ifY X12 hx 199 (hb hby at_188) ((if0 _ _).trans (feq (by decide : ¬ ((2 : Int32) = (0 : Int32)))).2) (by decide) (by decide) ?_
              refine own_il X12 hx 201 (hb hby at_199) rfl rfl ?_
              refine own_ic X12 hx (1 : Int32) 202 (hb hby at_201) rfl rfl ?_
              refine own_icY X12 hx 223 (hb hby at_202) (feq (by decide : ¬ ((2 : Int32) = (1 : Int32)))).2 (by decide) (by decide) ?_
              refine own_il X12 hx 225 (hb hby at_223) rfl rfl ?_
              refine own_ic X12 hx (2 : Int32) 226 (hb hby at_225) rfl rfl ?_
              refine own_icN X12 hx 229 (hb hby at_226) rfl (teq (by decide : (2 : Int32) = (2 : Int32))).2 ?_
              refine own_ic X12 hx (3 : Int32) 230 (hb hby at_229) rfl rfl ?_
              obtain ⟨T60, h60, k60, X60, e60, E60, A60, st60⟩ := newP X12 hx hZ (hw _ (own_mi 5 rfl)) eh12 (g := (mkF m 230 #[.val (.int i0), .val (.int i1), .val (.int i2), .val (.int i3), .val (.int i4), .val (.int i5), .val (.int (2 : Int32)), .val (.int (Int32.ofNat b0)), .val (.int (Int32.ofNat b1)), .val (.int (0 : Int32)), .val (.int (0 : Int32)), .val (.int (0 : Int32)), .val (.int c0), .val (.int c1), .val (.int c2), .val (.int c3), .val (.int c4), .val (.int c5), .val (.int c6), .unset, .unset, .unset] [(.int (3 : Int32))])) rfl (hb hby at_230) rfl (by decide) (cap := 3) (by decide) (by decide) (by decide) (by decide)
              obtain ⟨b60, g60⟩ : ∃ z, z = h0.size := ⟨_, rfl⟩
              rw [← g60] at A60 st60
              refine own_go st60 ?_
              have sz61 : h0.size ≤ h60.size := E60.1
              have cr61 : CHr Z consts_1 s.vm h0 s.vm h60 := CHr.ext E60 CR0.1
              have CR61 := CR0.trans cr61
              have gn60 : n0 ≤ b60 := (Nat.le_trans (Nat.le_trans Z0 (Nat.le_refl _)) (Nat.le_of_eq g60.symm))
              have V60 : Arv Z h60 b60 k60 .char (3 : Int32) [(.int (0 : Int32)), (.int (0 : Int32)), (.int (0 : Int32))] (.int (0 : Int32)) := (Arv.new A60 (by decide)).pad (pad_rep [] _ 3)
              have lt62 : @LT.lt Nat _ b60 h60.size := V60.lt
              show own_Rn p e below _ (T60.setTop (mkF m 232 #[.val (.int i0), .val (.int i1), .val (.int i2), .val (.int i3), .val (.int i4), .val (.int i5), .val (.int (2 : Int32)), .val (.int (Int32.ofNat b0)), .val (.int (Int32.ofNat b1)), .val (.int (0 : Int32)), .val (.int (0 : Int32)), .val (.int (0 : Int32)), .val (.int c0), .val (.int c1), .val (.int c2), .val (.int c3), .val (.int c4), .val (.int c5), .val (.int c6), .unset, .unset, .unset] [(.ref b60)]))
              refine own_dp X60 hx 233 (hb hby at_232) rfl rfl ?_
              refine own_ic X60 hx (0 : Int32) 234 (hb hby at_233) rfl rfl ?_
              refine own_il X60 hx 236 (hb hby at_234) rfl rfl ?_
              obtain ⟨cl63, Ar63, q63, Sz63, Nn63, Hs63, G63⟩ := id V60
              obtain ⟨T63, h63, X63, e63, W63, st63⟩ := stC X60 hx hZ e60 Ar63 (j := (0 : Int32)) (inb_of Sz63 ⟨by decide, by decide⟩) (g := (mkF m 236 #[.val (.int i0), .val (.int i1), .val (.int i2), .val (.int i3), .val (.int i4), .val (.int i5), .val (.int (2 : Int32)), .val (.int (Int32.ofNat b0)), .val (.int (Int32.ofNat b1)), .val (.int (0 : Int32)), .val (.int (0 : Int32)), .val (.int (0 : Int32)), .val (.int c0), .val (.int c1), .val (.int c2), .val (.int c3), .val (.int c4), .val (.int c5), .val (.int c6), .unset, .unset, .unset] [(.int c0), (.int (0 : Int32)), (.ref b60), (.ref b60)])) rfl rfl (hb hby at_236)
              rw [nc0] at W63
              refine own_go st63 ?_
              have V63 : Arv Z h63 b60 k60 .char (3 : Int32) [(.int c0), (.int (0 : Int32)), (.int (0 : Int32))] (.int (0 : Int32)) := Arv.set Ar63 q63 Sz63 Nn63 Hs63 G63 (by rw [← nc0]; exact fits_nar_char _) W63 0 rfl (Nat.le_of_ble_eq_true rfl)
              have N63 := Fr.snoc X63 N12 gn60
              have sf64 : Safe Z consts_1 s.vm h60 b60 := Safe.arv hZ.alike V60 (by decide)
              have sz65 : h60.size ≤ h63.size := Nat.le_of_eq (Wr.size W63).symm
              have cr65 : CHr Z consts_1 s.vm h60 s.vm h63 := CHr.wr W63 sf64 CR61.1
              have CR65 := CR61.trans cr65
              show own_Rn p e below _ (T63.setTop (mkF m 237 #[.val (.int i0), .val (.int i1), .val (.int i2), .val (.int i3), .val (.int i4), .val (.int i5), .val (.int (2 : Int32)), .val (.int (Int32.ofNat b0)), .val (.int (Int32.ofNat b1)), .val (.int (0 : Int32)), .val (.int (0 : Int32)), .val (.int (0 : Int32)), .val (.int c0), .val (.int c1), .val (.int c2), .val (.int c3), .val (.int c4), .val (.int c5), .val (.int c6), .unset, .unset, .unset] [(.ref b60)]))
              refine own_dp X63 hx 238 (hb hby at_237) rfl rfl ?_
              refine own_ic X63 hx (1 : Int32) 239 (hb hby at_238) rfl rfl ?_
              refine own_il X63 hx 241 (hb hby at_239) rfl rfl ?_
              obtain ⟨cl66, Ar66, q66, Sz66, Nn66, Hs66, G66⟩ := id V63
              obtain ⟨T66, h66, X66, e66, W66, st66⟩ := stC X63 hx hZ e63 Ar66 (j := (1 : Int32)) (inb_of Sz66 ⟨by decide, by decide⟩) (g := (mkF m 241 #[.val (.int i0), .val (.int i1), .val (.int i2), .val (.int i3), .val (.int i4), .val (.int i5), .val (.int (2 : Int32)), .val (.int (Int32.ofNat b0)), .val (.int (Int32.ofNat b1)), .val (.int (0 : Int32)), .val (.int (0 : Int32)), .val (.int (0 : Int32)), .val (.int c0), .val (.int c1), .val (.int c2), .val (.int c3), .val (.int c4), .val (.int c5), .val (.int c6), .unset, .unset, .unset] [(.int c1), (.int (1 : Int32)), (.ref b60), (.ref b60)])) rfl rfl (hb hby at_241)
              rw [nc1] at W66
              refine own_go st66 ?_
              have V66 : Arv Z h66 b60 k60 .char (3 : Int32) [(.int c0), (.int c1), (.int (0 : Int32))] (.int (0 : Int32)) := Arv.set Ar66 q66 Sz66 Nn66 Hs66 G66 (by rw [← nc1]; exact fits_nar_char _) W66 1 rfl (Nat.le_of_ble_eq_true rfl)
              have N66 := Fr.snoc X66 N63 gn60
              have sf67 : Safe Z consts_1 s.vm h63 b60 := Safe.arv hZ.alike V63 (by decide)
              have sz68 : h63.size ≤ h66.size := Nat.le_of_eq (Wr.size W66).symm
              have cr68 : CHr Z consts_1 s.vm h63 s.vm h66 := CHr.wr W66 sf67 CR65.1
              have CR68 := CR65.trans cr68
              show own_Rn p e below _ (T66.setTop (mkF m 242 #[.val (.int i0), .val (.int i1), .val (.int i2), .val (.int i3), .val (.int i4), .val (.int i5), .val (.int (2 : Int32)), .val (.int (Int32.ofNat b0)), .val (.int (Int32.ofNat b1)), .val (.int (0 : Int32)), .val (.int (0 : Int32)), .val (.int (0 : Int32)), .val (.int c0), .val (.int c1), .val (.int c2), .val (.int c3), .val (.int c4), .val (.int c5), .val (.int c6), .unset, .unset, .unset] [(.ref b60)]))
              refine own_dp X66 hx 243 (hb hby at_242) rfl rfl ?_
              refine own_ic X66 hx (2 : Int32) 244 (hb hby at_243) rfl rfl ?_
              refine own_il X66 hx 246 (hb hby at_244) rfl rfl ?_
              obtain ⟨cl69, Ar69, q69, Sz69, Nn69, Hs69, G69⟩ := id V66
              obtain ⟨T69, h69, X69, e69, W69, st69⟩ := stC X66 hx hZ e66 Ar69 (j := (2 : Int32)) (inb_of Sz69 ⟨by decide, by decide⟩) (g := (mkF m 246 #[.val (.int i0), .val (.int i1), .val (.int i2), .val (.int i3), .val (.int i4), .val (.int i5), .val (.int (2 : Int32)), .val (.int (Int32.ofNat b0)), .val (.int (Int32.ofNat b1)), .val (.int (0 : Int32)), .val (.int (0 : Int32)), .val (.int (0 : Int32)), .val (.int c0), .val (.int c1), .val (.int c2), .val (.int c3), .val (.int c4), .val (.int c5), .val (.int c6), .unset, .unset, .unset] [(.int c2), (.int (2 : Int32)), (.ref b60), (.ref b60)])) rfl rfl (hb hby at_246)
              rw [nc2] at W69
              refine own_go st69 ?_
              have V69 : Arv Z h69 b60 k60 .char (3 : Int32) [(.int c0), (.int c1), (.int c2)] (.int (0 : Int32)) := Arv.set Ar69 q69 Sz69 Nn69 Hs69 G69 (by rw [← nc2]; exact fits_nar_char _) W69 2 rfl (Nat.le_of_ble_eq_true rfl)
              have N69 := Fr.snoc X69 N66 gn60
              have sf70 : Safe Z consts_1 s.vm h66 b60 := Safe.arv hZ.alike V66 (by decide)
              have sz71 : h66.size ≤ h69.size := Nat.le_of_eq (Wr.size W69).symm
              have cr71 : CHr Z consts_1 s.vm h66 s.vm h69 := CHr.wr W69 sf70 CR68.1
              have CR71 := CR68.trans cr71
              show own_Rn p e below _ (T69.setTop (mkF m 247 #[.val (.int i0), .val (.int i1), .val (.int i2), .val (.int i3), .val (.int i4), .val (.int i5), .val (.int (2 : Int32)), .val (.int (Int32.ofNat b0)), .val (.int (Int32.ofNat b1)), .val (.int (0 : Int32)), .val (.int (0 : Int32)), .val (.int (0 : Int32)), .val (.int c0), .val (.int c1), .val (.int c2), .val (.int c3), .val (.int c4), .val (.int c5), .val (.int c6), .unset, .unset, .unset] [(.ref b60)]))
              refine own_as X69 hx #[.val (.int i0), .val (.int i1), .val (.int i2), .val (.int i3), .val (.int i4), .val (.int i5), .val (.int (2 : Int32)), .val (.int (Int32.ofNat b0)), .val (.int (Int32.ofNat b1)), .val (.int (0 : Int32)), .val (.int (0 : Int32)), .val (.int (0 : Int32)), .val (.int c0), .val (.int c1), .val (.int c2), .val (.int c3), .val (.int c4), .val (.int c5), .val (.int c6), .val (.ref b60), .unset, .unset] 249 (hb hby at_247) rfl rfl rfl ?_
              refine own_gt X69 hx 373 (hb hby at_249) (by decide) (by decide) ?_
              have F72 : Old Z n0 h69 := ((((X00.ext E60).wr W63 gn60).wr W66 gn60).wr W69 gn60)
              subst hc0 hc1 hc2 hc3 hc4 hc5 hc6
              have le73 : h0.size ≤ h63.size := Nat.le_trans sz61 sz65
              have le74 : h0.size ≤ h66.size := Nat.le_trans le73 sz68
              have le75 : h0.size ≤ h69.size := Nat.le_trans le74 sz71
              exact J373 _ _ _ _ _ (X69.mono (by decide) (by decide)) e69 N69 (Nat.le_trans Z0 le75) le75 F72 CR71 V69
            · skip
              obtain rfl : b3 = 0 := hz3 (by decide)
              obtain rfl : b4 = 0 := hz4 (by decide)
              show own_Rn p e below _ (T12.setTop (mkF m 186 #[.val (.int i0), .val (.int i1), .val (.int i2), .val (.int i3), .val (.int i4), .val (.int i5), .val (.int (3 : Int32)), .val (.int (Int32.ofNat b0)), .val (.int (Int32.ofNat b1)), .val (.int (Int32.ofNat b2)), .val (.int (0 : Int32)), .val (.int (0 : Int32)), .val (.int c0), .val (.int c1), .val (.int c2), .val (.int c3), .val (.int c4), .val (.int c5), .val (.int c6), .unset, .unset, .unset] []))
              refine own_il X12 hx 188 (hb hby at_186) rfl rfl ?_
              refine own_ifY X12 hx 199 (hb hby at_188) ((if0 _ _).trans (feq (by decide : ¬ ((3 : Int32) = (0 : Int32)))).2) (by decide) (by decide) ?_
              refine own_il X12 hx 201 (hb hby at_199) rfl rfl ?_
              refine own_ic X12 hx (1 : Int32) 202 (hb hby at_201) rfl rfl ?_
              refine own_icY X12 hx 223 (hb hby at_202) (feq (by decide : ¬ ((3 : Int32) = (1 : Int32)))).2 (by decide) (by decide) ?_
              refine own_il X12 hx 225 (hb hby at_223) rfl rfl ?_
              refine own_ic X12 hx (2 : Int32) 226 (hb hby at_225) rfl rfl ?_
              refine own_icY X12 hx 252 (hb hby at_226) (feq (by decide : ¬ ((3 : Int32) = (2 : Int32)))).2 (by decide) (by decide) ?_
              refine own_il X12 hx 254 (hb hby at_252) rfl rfl ?_
              refine own_ic X12 hx (3 : Int32) 255 (hb hby at_254) rfl rfl ?_
              refine own_icN X12 hx 258 (hb hby at_255) rfl (teq (by decide : (3 : Int32) = (3 : Int32))).2 ?_
              refine own_ic X12 hx (4 : Int32) 259 (hb hby at_258) rfl rfl ?_
              obtain ⟨T77, h77, k77, X77, e77, E77, A77, st77⟩ := newP X12 hx hZ (hw _ (own_mi 5 rfl)) eh12 (g := (mkF m 259 #[.val (.int i0), .val (.int i1), .val (.int i2), .val (.int i3), .val (.int i4), .val (.int i5), .val (.int (3 : Int32)), .val (.int (Int32.ofNat b0)), .val (.int (Int32.ofNat b1)), .val (.int (Int32.ofNat b2)), .val (.int (0 : Int32)), .val (.int (0 : Int32)), .val (.int c0), .val (.int c1), .val (.int c2), .val (.int c3), .val (.int c4), .val (.int c5), .val (.int c6), .unset, .unset, .unset] [(.int (4 : Int32))])) rfl (hb hby at_259) rfl (by decide) (cap := 4) (by decide) (by decide) (by decide) (by decide)
              obtain ⟨b77, g77⟩ : ∃ z, z = h0.size := ⟨_, rfl⟩
              rw [← g77] at A77 st77
              refine own_go st77 ?_
              have sz78 : h0.size ≤ h77.size := E77.1
              have cr78 : CHr Z consts_1 s.vm h0 s.vm h77 := CHr.ext E77 CR0.1
              have CR78 := CR0.trans cr78
              have gn77 : n0 ≤ b77 := (Nat.le_trans (Nat.le_trans Z0 (Nat.le_refl _)) (Nat.le_of_eq g77.symm))
              have V77 : Arv Z h77 b77 k77 .char (4 : Int32) [(.int (0 : Int32)), (.int (0 : Int32)), (.int (0 : Int32)), (.int (0 : Int32))] (.int (0 : Int32)) := (Arv.new A77 (by decide)).pad (pad_rep [] _ 4)
              have lt79 : @LT.lt Nat _ b77 h77.size := V77.lt
              show own_Rn p e below _ (T77.setTop (mkF m 261 #[.val (.int i0), .val (.int i1), .val (.int i2), .val (.int i3), .val (.int i4), .val (.int i5), .val (.int (3 : Int32)), .val (.int (Int32.ofNat b0)), .val (.int (Int32.ofNat b1)), .val (.int (Int32.ofNat b2)), .val (.int (0 : Int32)), .val (.int (0 : Int32)), .val (.int c0), .val (.int c1), .val (.int c2), .val (.int c3), .val (.int c4), .val (.int c5), .val (.int c6), .unset, .unset, .unset] [(.ref b77)]))
              refine own_dp X77 hx 262 (hb hby at_261) rfl rfl ?_
              refine own_ic X77 hx (0 : Int32) 263 (hb hby at_262) rfl rfl ?_
              refine own_il X77 hx 265 (hb hby at_263) rfl rfl ?_
              obtain ⟨cl80, Ar80, q80, Sz80, Nn80, Hs80, G80⟩ := id V77
              obtain ⟨T80, h80, X80, e80, W80, st80⟩ := stC X77 hx hZ e77 Ar80 (j := (0 : Int32)) (inb_of Sz80 ⟨by decide, by decide⟩) (g := (mkF m 265 #[.val (.int i0), .val (.int i1), .val (.int i2), .val (.int i3), .val (.int i4), .val (.int i5), .val (.int (3 : Int32)), .val (.int (Int32.ofNat b0)), .val (.int (Int32.ofNat b1)), .val (.int (Int32.ofNat b2)), .val (.int (0 : Int32)), .val (.int (0 : Int32)), .val (.int c0), .val (.int c1), .val (.int c2), .val (.int c3), .val (.int c4), .val (.int c5), .val (.int c6), .unset, .unset, .unset] [(.int c0), (.int (0 : Int32)), (.ref b77), (.ref b77)])) rfl rfl (hb hby at_265)
              rw [nc0] at W80
              refine own_go st80 ?_
              have V80 : Arv Z h80 b77 k77 .char (4 : Int32) [(.int c0), (.int (0 : Int32)), (.int (0 : Int32)), (.int (0 : Int32))] (.int (0 : Int32)) := Arv.set Ar80 q80 Sz80 Nn80 Hs80 G80 (by rw [← nc0]; exact fits_nar_char _) W80 0 rfl (Nat.le_of_ble_eq_true rfl)
              have N80 := Fr.snoc X80 N12 gn77
              have sf81 : Safe Z consts_1 s.vm h77 b77 := Safe.arv hZ.alike V77 (by decide)
              have sz82 : h77.size ≤ h80.size := Nat.le_of_eq (Wr.size W80).symm
              have cr82 : CHr Z consts_1 s.vm h77 s.vm h80 := CHr.wr W80 sf81 CR78.1
              have CR82 := CR78.trans cr82
              show own_Rn p e below _ (T80.setTop (mkF m 266 #[.val (.int i0), .val (.int i1), .val (.int i2), .val (.int i3), .val (.int i4), .val (.int i5), .val (.int (3 : Int32)), .val (.int (Int32.ofNat b0)), .val (.int (Int32.ofNat b1)), .val (.int (Int32.ofNat b2)), .val (.int (0 : Int32)), .val (.int (0 : Int32)), .val (.int c0), .val (.int c1), .val (.int c2), .val (.int c3), .val (.int c4), .val (.int c5), .val (.int c6), .unset, .unset, .unset] [(.ref b77)]))
              refine own_dp X80 hx 267 (hb hby at_266) rfl rfl ?_
              refine own_ic X80 hx (1 : Int32) 268 (hb hby at_267) rfl rfl ?_
              refine own_il X80 hx 270 (hb hby at_268) rfl rfl ?_
              obtain ⟨cl83, Ar83, q83, Sz83, Nn83, Hs83, G83⟩ := id V80
              obtain ⟨T83, h83, X83, e83, W83, st83⟩ := stC X80 hx hZ e80 Ar83 (j := (1 : Int32)) (inb_of Sz83 ⟨by decide, by decide⟩) (g := (mkF m 270 #[.val (.int i0), .val (.int i1), .val (.int i2), .val (.int i3), .val (.int i4), .val (.int i5), .val (.int (3 : Int32)), .val (.int (Int32.ofNat b0)), .val (.int (Int32.ofNat b1)), .val (.int (Int32.ofNat b2)), .val (.int (0 : Int32)), .val (.int (0 : Int32)), .val (.int c0), .val (.int c1), .val (.int c2), .val (.int c3), .val (.int c4), .val (.int c5), .val (.int c6), .unset, .unset, .unset] [(.int c1), (.int (1 : Int32)), (.ref b77), (.ref b77)])) rfl rfl (hb hby at_270)
              rw [nc1] at W83
              refine own_go st83 ?_
              have V83 : Arv Z h83 b77 k77 .char (4 : Int32) [(.int c0), (.int c1), (.int (0 : Int32)), (.int (0 : Int32))] (.int (0 : Int32)) := Arv.set Ar83 q83 Sz83 Nn83 Hs83 G83 (by rw [← nc1]; exact fits_nar_char _) W83 1 rfl (Nat.le_of_ble_eq_true rfl)
              have N83 := Fr.snoc X83 N80 gn77
              have sf84 : Safe Z consts_1 s.vm h80 b77 := Safe.arv hZ.alike V80 (by decide)
              have sz85 : h80.size ≤ h83.size := Nat.le_of_eq (Wr.size W83).symm
              have cr85 : CHr Z consts_1 s.vm h80 s.vm h83 := CHr.wr W83 sf84 CR82.1
              have CR85 := CR82.trans cr85
              show own_Rn p e below _ (T83.setTop (mkF m 271 #[.val (.int i0), .val (.int i1), .val (.int i2), .val (.int i3), .val (.int i4), .val (.int i5), .val (.int (3 : Int32)), .val (.int (Int32.ofNat b0)), .val (.int (Int32.ofNat b1)), .val (.int (Int32.ofNat b2)), .val (.int (0 : Int32)), .val (.int (0 : Int32)), .val (.int c0), .val (.int c1), .val (.int c2), .val (.int c3), .val (.int c4), .val (.int c5), .val (.int c6), .unset, .unset, .unset] [(.ref b77)]))
              refine own_dp X83 hx 272 (hb hby at_271) rfl rfl ?_
              refine own_ic X83 hx (2 : Int32) 273 (hb hby at_272) rfl rfl ?_
              refine own_il X83 hx 275 (hb hby at_273) rfl rfl ?_
              obtain ⟨cl86, Ar86, q86, Sz86, Nn86, Hs86, G86⟩ := id V83
              obtain ⟨T86, h86, X86, e86, W86, st86⟩ := stC X83 hx hZ e83 Ar86 (j := (2 : Int32)) (inb_of Sz86 ⟨by decide, by decide⟩) (g := (mkF m 275 #[.val (.int i0), .val (.int i1), .val (.int i2), .val (.int i3), .val (.int i4), .val (.int i5), .val (.int (3 : Int32)), .val (.int (Int32.ofNat b0)), .val (.int (Int32.ofNat b1)), .val (.int (Int32.ofNat b2)), .val (.int (0 : Int32)), .val (.int (0 : Int32)), .val (.int c0), .val (.int c1), .val (.int c2), .val (.int c3), .val (.int c4), .val (.int c5), .val (.int c6), .unset, .unset, .unset] [(.int c2), (.int (2 : Int32)), (.ref b77), (.ref b77)])) rfl rfl (hb hby at_275)
              rw [nc2] at W86
              refine own_go st86 ?_
              have V86 : Arv Z h86 b77 k77 .char (4 : Int32) [(.int c0), (.int c1), (.int c2), (.int (0 : Int32))] (.int (0 : Int32)) := Arv.set Ar86 q86 Sz86 Nn86 Hs86 G86 (by rw [← nc2]; exact fits_nar_char _) W86 2 rfl (Nat.le_of_ble_eq_true rfl)
              have N86 := Fr.snoc X86 N83 gn77
              have sf87 : Safe Z consts_1 s.vm h83 b77 := Safe.arv hZ.alike V83 (by decide)
              have sz88 : h83.size ≤ h86.size := Nat.le_of_eq (Wr.size W86).symm
              have cr88 : CHr Z consts_1 s.vm h83 s.vm h86 := CHr.wr W86 sf87 CR85.1
              have CR88 := CR85.trans cr88
              show own_Rn p e below _ (T86.setTop (mkF m 276 #[.val (.int i0), .val (.int i1), .val (.int i2), .val (.int i3), .val (.int i4), .val (.int i5), .val (.int (3 : Int32)), .val (.int (Int32.ofNat b0)), .val (.int (Int32.ofNat b1)), .val (.int (Int32.ofNat b2)), .val (.int (0 : Int32)), .val (.int (0 : Int32)), .val (.int c0), .val (.int c1), .val (.int c2), .val (.int c3), .val (.int c4), .val (.int c5), .val (.int c6), .unset, .unset, .unset] [(.ref b77)]))
              refine own_dp X86 hx 277 (hb hby at_276) rfl rfl ?_
              refine own_ic X86 hx (3 : Int32) 278 (hb hby at_277) rfl rfl ?_
              refine own_il X86 hx 280 (hb hby at_278) rfl rfl ?_
              obtain ⟨cl89, Ar89, q89, Sz89, Nn89, Hs89, G89⟩ := id V86
              obtain ⟨T89, h89, X89, e89, W89, st89⟩ := stC X86 hx hZ e86 Ar89 (j := (3 : Int32)) (inb_of Sz89 ⟨by decide, by decide⟩) (g := (mkF m 280 #[.val (.int i0), .val (.int i1), .val (.int i2), .val (.int i3), .val (.int i4), .val (.int i5), .val (.int (3 : Int32)), .val (.int (Int32.ofNat b0)), .val (.int (Int32.ofNat b1)), .val (.int (Int32.ofNat b2)), .val (.int (0 : Int32)), .val (.int (0 : Int32)), .val (.int c0), .val (.int c1), .val (.int c2), .val (.int c3), .val (.int c4), .val (.int c5), .val (.int c6), .unset, .unset, .unset] [(.int c3), (.int (3 : Int32)), (.ref b77), (.ref b77)])) rfl rfl (hb hby at_280)
              rw [nc3] at W89
              refine own_go st89 ?_
              have V89 : Arv Z h89 b77 k77 .char (4 : Int32) [(.int c0), (.int c1), (.int c2), (.int c3)] (.int (0 : Int32)) := Arv.set Ar89 q89 Sz89 Nn89 Hs89 G89 (by rw [← nc3]; exact fits_nar_char _) W89 3 rfl (Nat.le_of_ble_eq_true rfl)
              have N89 := Fr.snoc X89 N86 gn77
              have sf90 : Safe Z consts_1 s.vm h86 b77 := Safe.arv hZ.alike V86 (by decide)
              have sz91 : h86.size ≤ h89.size := Nat.le_of_eq (Wr.size W89).symm
              have cr91 : CHr Z consts_1 s.vm h86 s.vm h89 := CHr.wr W89 sf90 CR88.1
              have CR91 := CR88.trans cr91
              show own_Rn p e below _ (T89.setTop (mkF m 281 #[.val (.int i0), .val (.int i1), .val (.int i2), .val (.int i3), .val (.int i4), .val (.int i5), .val (.int (3 : Int32)), .val (.int (Int32.ofNat b0)), .val (.int (Int32.ofNat b1)), .val (.int (Int32.ofNat b2)), .val (.int (0 : Int32)), .val (.int (0 : Int32)), .val (.int c0), .val (.int c1), .val (.int c2), .val (.int c3), .val (.int c4), .val (.int c5), .val (.int c6), .unset, .unset, .unset] [(.ref b77)]))
              refine own_as X89 hx #[.val (.int i0), .val (.int i1), .val (.int i2), .val (.int i3), .val (.int i4), .val (.int i5), .val (.int (3 : Int32)), .val (.int (Int32.ofNat b0)), .val (.int (Int32.ofNat b1)), .val (.int (Int32.ofNat b2)), .val (.int (0 : Int32)), .val (.int (0 : Int32)), .val (.int c0), .val (.int c1), .val (.int c2), .val (.int c3), .val (.int c4), .val (.int c5), .val (.int c6), .val (.ref b77), .unset, .unset] 283 (hb hby at_281) rfl rfl rfl ?_
              refine own_gt X89 hx 373 (hb hby at_283) (by decide) (by decide) ?_
              have F92 : Old Z n0 h89 := (((((X00.ext E77).wr W80 gn77).wr W83 gn77).wr W86 gn77).wr W89 gn77)
              subst hc0 hc1 hc2 hc3 hc4 hc5 hc6
              have le93 : h0.size ≤ h80.size := Nat.le_trans sz78 sz82
              have le94 : h0.size ≤ h83.size := Nat.le_trans le93 sz85
              have le95 : h0.size ≤ h86.size := Nat.le_trans le94 sz88
              have le96 : h0.size ≤ h89.size := Nat.le_trans le95 sz91
              exact J373 _ _ _ _ _ (X89.mono (by decide) (by decide)) e89 N89 (Nat.le_trans Z0 le96) le96 F92 CR91 V89
            · skip
              obtain rfl : b4 = 0 := hz4 (by decide)
              show own_Rn p e below _ (T12.setTop (mkF m 186 #[.val (.int i0), .val (.int i1), .val (.int i2), .val (.int i3), .val (.int i4), .val (.int i5), .val (.int (4 : Int32)), .val (.int (Int32.ofNat b0)), .val (.int (Int32.ofNat b1)), .val (.int (Int32.ofNat b2)), .val (.int (Int32.ofNat b3)), .val (.int (0 : Int32)), .val (.int c0), .val (.int c1), .val (.int c2), .val (.int c3), .val (.int c4), .val (.int c5), .val (.int c6), .unset, .unset, .unset] []))
              refine own_il X12 hx 188 (hb hby at_186) rfl rfl ?_
              refine own_ifY X12 hx 199 (hb hby at_188) ((if0 _ _).trans (feq (by decide : ¬ ((4 : Int32) = (0 : Int32)))).2) (by decide) (by decide) ?_
              refine own_il X12 hx 201 (hb hby at_199) rfl rfl ?_
              refine own_ic X12 hx (1 : Int32) 202 (hb hby at_201) rfl rfl ?_
              refine own_icY X12 hx 223 (hb hby at_202) (feq (by decide : ¬ ((4 : Int32) = (1 : Int32)))).2 (by decide) (by decide) ?_
              refine own_il X12 hx 225 (hb hby at_223) rfl rfl ?_
              refine own_ic X12 hx (2 : Int32) 226 (hb hby at_225) rfl rfl ?_
              refine own_icY X12 hx 252 (hb hby at_226) (feq (by decide : ¬ ((4 : Int32) = (2 : Int32)))).2 (by decide) (by decide) ?_
              refine own_il X12 hx 254 (hb hby at_252) rfl rfl ?_
              refine own_ic X12 hx (3 : Int32) 255 (hb hby at_254) rfl rfl ?_
              refine own_icY X12 hx 286 (hb hby at_255) (feq (by decide : ¬ ((4 : Int32) = (3 : Int32)))).2 (by decide) (by decide) ?_
              refine own_il X12 hx 288 (hb hby at_286) rfl rfl ?_
              refine own_ic X12 hx (4 : Int32) 289 (hb hby at_288) rfl rfl ?_
              refine own_icN X12 hx 292 (hb hby at_289) rfl (teq (by decide : (4 : Int32) = (4 : Int32))).2 ?_
              refine own_bp X12 hx (6 : Int32) 294 (hb hby at_292) rfl rfl ?_
              obtain ⟨T98, h98, k98, X98, e98, E98, A98, st98⟩ := newP X12 hx hZ (hw _ (own_mi 5 rfl)) eh12 (g := (mkF m 294 #[.val (.int i0), .val (.int i1), .val (.int i2), .val (.int i3), .val (.int i4), .val (.int i5), .val (.int (4 : Int32)), .val (.int (Int32.ofNat b0)), .val (.int (Int32.ofNat b1)), .val (.int (Int32.ofNat b2)), .val (.int (Int32.ofNat b3)), .val (.int (0 : Int32)), .val (.int c0), .val (.int c1), .val (.int c2), .val (.int c3), .val (.int c4), .val (.int c5), .val (.int c6), .unset, .unset, .unset] [(.int (6 : Int32))])) rfl (hb hby at_294) rfl (by decide) (cap := 6) (by decide) (by decide) (by decide) (by decide)
              obtain ⟨b98, g98⟩ : ∃ z, z = h0.size := ⟨_, rfl⟩
              rw [← g98] at A98 st98
              refine own_go st98 ?_
              have sz99 : h0.size ≤ h98.size := E98.1
              have cr99 : CHr Z consts_1 s.vm h0 s.vm h98 := CHr.ext E98 CR0.1
              have CR99 := CR0.trans cr99
              have gn98 : n0 ≤ b98 := (Nat.le_trans (Nat.le_trans Z0 (Nat.le_refl _)) (Nat.le_of_eq g98.symm))
              have V98 : Arv Z h98 b98 k98 .char (6 : Int32) [(.int (0 : Int32)), (.int (0 : Int32)), (.int (0 : Int32)), (.int (0 : Int32)), (.int (0 : Int32)), (.int (0 : Int32))] (.int (0 : Int32)) := (Arv.new A98 (by decide)).pad (pad_rep [] _ 6)
              have lt100 : @LT.lt Nat _ b98 h98.size := V98.lt
              show own_Rn p e below _ (T98.setTop (mkF m 296 #[.val (.int i0), .val (.int i1), .val (.int i2), .val (.int i3), .val (.int i4), .val (.int i5), .val (.int (4 : Int32)), .val (.int (Int32.ofNat b0)), .val (.int (Int32.ofNat b1)), .val (.int (Int32.ofNat b2)), .val (.int (Int32.ofNat b3)), .val (.int (0 : Int32)), .val (.int c0), .val (.int c1), .val (.int c2), .val (.int c3), .val (.int c4), .val (.int c5), .val (.int c6), .unset, .unset, .unset] [(.ref b98)]))
              refine own_dp X98 hx 297 (hb hby at_296) rfl rfl ?_
              refine own_ic X98 hx (0 : Int32) 298 (hb hby at_297) rfl rfl ?_
              refine own_il X98 hx 300 (hb hby at_298) rfl rfl ?_
              obtain ⟨cl101, Ar101, q101, Sz101, Nn101, Hs101, G101⟩ := id V98
              obtain ⟨T101, h101, X101, e101, W101, st101⟩ := stC X98 hx hZ e98 Ar101 (j := (0 : Int32)) (inb_of Sz101 ⟨by decide, by decide⟩) (g := (mkF m 300 #[.val (.int i0), .val (.int i1), .val (.int i2), .val (.int i3), .val (.int i4), .val (.int i5), .val (.int (4 : Int32)), .val (.int (Int32.ofNat b0)), .val (.int (Int32.ofNat b1)), .val (.int (Int32.ofNat b2)), .val (.int (Int32.ofNat b3)), .val (.int (0 : Int32)), .val (.int c0), .val (.int c1), .val (.int c2), .val (.int c3), .val (.int c4), .val (.int c5), .val (.int c6), .unset, .unset, .unset] [(.int c0), (.int (0 : Int32)), (.ref b98), (.ref b98)])) rfl rfl (hb hby at_300)
              rw [nc0] at W101
              refine own_go st101 ?_
              have V101 : Arv Z h101 b98 k98 .char (6 : Int32) [(.int c0), (.int (0 : Int32)), (.int (0 : Int32)), (.int (0 : Int32)), (.int (0 : Int32)), (.int (0 : Int32))] (.int (0 : Int32)) := Arv.set Ar101 q101 Sz101 Nn101 Hs101 G101 (by rw [← nc0]; exact fits_nar_char _) W101 0 rfl (Nat.le_of_ble_eq_true rfl)
              have N101 := Fr.snoc X101 N12 gn98
              have sf102 : Safe Z consts_1 s.vm h98 b98 := Safe.arv hZ.alike V98 (by decide)
              have sz103 : h98.size ≤ h101.size := Nat.le_of_eq (Wr.size W101).symm
              have cr103 : CHr Z consts_1 s.vm h98 s.vm h101 := CHr.wr W101 sf102 CR99.1
              have CR103 := CR99.trans cr103
              show own_Rn p e below _ (T101.setTop (mkF m 301 #[.val (.int i0), .val (.int i1), .val (.int i2), .val (.int i3), .val (.int i4), .val (.int i5), .val (.int (4 : Int32)), .val (.int (Int32.ofNat b0)), .val (.int (Int32.ofNat b1)), .val (.int (Int32.ofNat b2)), .val (.int (Int32.ofNat b3)), .val (.int (0 : Int32)), .val (.int c0), .val (.int c1), .val (.int c2), .val (.int c3), .val (.int c4), .val (.int c5), .val (.int c6), .unset, .unset, .unset] [(.ref b98)]))
              refine own_dp X101 hx 302 (hb hby at_301) rfl rfl ?_
              refine own_ic X101 hx (1 : Int32) 303 (hb hby at_302) rfl rfl ?_
              refine own_il X101 hx 305 (hb hby at_303) rfl rfl ?_
              obtain ⟨cl104, Ar104, q104, Sz104, Nn104, Hs104, G104⟩ := id V101
              obtain ⟨T104, h104, X104, e104, W104, st104⟩ := stC X101 hx hZ e101 Ar104 (j := (1 : Int32)) (inb_of Sz104 ⟨by decide, by decide⟩) (g := (mkF m 305 #[.val (.int i0), .val (.int i1), .val (.int i2), .val (.int i3), .val (.int i4), .val (.int i5), .val (.int (4 : Int32)), .val (.int (Int32.ofNat b0)), .val (.int (Int32.ofNat b1)), .val (.int (Int32.ofNat b2)), .val (.int (Int32.ofNat b3)), .val (.int (0 : Int32)), .val (.int c0), .val (.int c1), .val (.int c2), .val (.int c3), .val (.int c4), .val (.int c5), .val (.int c6), .unset, .unset, .unset] [(.int c1), (.int (1 : Int32)), (.ref b98), (.ref b98)])) rfl rfl (hb hby at_305)
              rw [nc1] at W104
              refine own_go st104 ?_
              have V104 : Arv Z h104 b98 k98 .char (6 : Int32) [(.int c0), (.int c1), (.int (0 : Int32)), (.int (0 : Int32)), (.int (0 : Int32)), (.int (0 : Int32))] (.int (0 : Int32)) := Arv.set Ar104 q104 Sz104 Nn104 Hs104 G104 (by rw [← nc1]; exact fits_nar_char _) W104 1 rfl (Nat.le_of_ble_eq_true rfl)
              have N104 := Fr.snoc X104 N101 gn98
              have sf105 : Safe Z consts_1 s.vm h101 b98 := Safe.arv hZ.alike V101 (by decide)
              have sz106 : h101.size ≤ h104.size := Nat.le_of_eq (Wr.size W104).symm
              have cr106 : CHr Z consts_1 s.vm h101 s.vm h104 := CHr.wr W104 sf105 CR103.1
              have CR106 := CR103.trans cr106
              show own_Rn p e below _ (T104.setTop (mkF m 306 #[.val (.int i0), .val (.int i1), .val (.int i2), .val (.int i3), .val (.int i4), .val (.int i5), .val (.int (4 : Int32)), .val (.int (Int32.ofNat b0)), .val (.int (Int32.ofNat b1)), .val (.int (Int32.ofNat b2)), .val (.int (Int32.ofNat b3)), .val (.int (0 : Int32)), .val (.int c0), .val (.int c1), .val (.int c2), .val (.int c3), .val (.int c4), .val (.int c5), .val (.int c6), .unset, .unset, .unset] [(.ref b98)]))
              refine own_dp X104 hx 307 (hb hby at_306) rfl rfl ?_
              refine own_ic X104 hx (2 : Int32) 308 (hb hby at_307) rfl rfl ?_
              refine own_il X104 hx 310 (hb hby at_308) rfl rfl ?_
              obtain ⟨cl107, Ar107, q107, Sz107, Nn107, Hs107, G107⟩ := id V104
              obtain ⟨T107, h107, X107, e107, W107, st107⟩ := stC X104 hx hZ e104 Ar107 (j := (2 : Int32)) (inb_of Sz107 ⟨by decide, by decide⟩) (g := (mkF m 310 #[.val (.int i0), .val (.int i1), .val (.int i2), .val (.int i3), .val (.int i4), .val (.int i5), .val (.int (4 : Int32)), .val (.int (Int32.ofNat b0)), .val (.int (Int32.ofNat b1)), .val (.int (Int32.ofNat b2)), .val (.int (Int32.ofNat b3)), .val (.int (0 : Int32)), .val (.int c0), .val (.int c1), .val (.int c2), .val (.int c3), .val (.int c4), .val (.int c5), .val (.int c6), .unset, .unset, .unset] [(.int c2), (.int (2 : Int32)), (.ref b98), (.ref b98)])) rfl rfl (hb hby at_310)
              rw [nc2] at W107
              refine own_go st107 ?_
              have V107 : Arv Z h107 b98 k98 .char (6 : Int32) [(.int c0), (.int c1), (.int c2), (.int (0 : Int32)), (.int (0 : Int32)), (.int (0 : Int32))] (.int (0 : Int32)) := Arv.set Ar107 q107 Sz107 Nn107 Hs107 G107 (by rw [← nc2]; exact fits_nar_char _) W107 2 rfl (Nat.le_of_ble_eq_true rfl)
              have N107 := Fr.snoc X107 N104 gn98
              have sf108 : Safe Z consts_1 s.vm h104 b98 := Safe.arv hZ.alike V104 (by decide)
              have sz109 : h104.size ≤ h107.size := Nat.le_of_eq (Wr.size W107).symm
              have cr109 : CHr Z consts_1 s.vm h104 s.vm h107 := CHr.wr W107 sf108 CR106.1
              have CR109 := CR106.trans cr109
              show own_Rn p e below _ (T107.setTop (mkF m 311 #[.val (.int i0), .val (.int i1), .val (.int i2), .val (.int i3), .val (.int i4), .val (.int i5), .val (.int (4 : Int32)), .val (.int (Int32.ofNat b0)), .val (.int (Int32.ofNat b1)), .val (.int (Int32.ofNat b2)), .val (.int (Int32.ofNat b3)), .val (.int (0 : Int32)), .val (.int c0), .val (.int c1), .val (.int c2), .val (.int c3), .val (.int c4), .val (.int c5), .val (.int c6), .unset, .unset, .unset] [(.ref b98)]))
              refine own_dp X107 hx 312 (hb hby at_311) rfl rfl ?_
              refine own_ic X107 hx (3 : Int32) 313 (hb hby at_312) rfl rfl ?_
              refine own_il X107 hx 315 (hb hby at_313) rfl rfl ?_
              obtain ⟨cl110, Ar110, q110, Sz110, Nn110, Hs110, G110⟩ := id V107
              obtain ⟨T110, h110, X110, e110, W110, st110⟩ := stC X107 hx hZ e107 Ar110 (j := (3 : Int32)) (inb_of Sz110 ⟨by decide, by decide⟩) (g := (mkF m 315 #[.val (.int i0), .val (.int i1), .val (.int i2), .val (.int i3), .val (.int i4), .val (.int i5), .val (.int (4 : Int32)), .val (.int (Int32.ofNat b0)), .val (.int (Int32.ofNat b1)), .val (.int (Int32.ofNat b2)), .val (.int (Int32.ofNat b3)), .val (.int (0 : Int32)), .val (.int c0), .val (.int c1), .val (.int c2), .val (.int c3), .val (.int c4), .val (.int c5), .val (.int c6), .unset, .unset, .unset] [(.int c3), (.int (3 : Int32)), (.ref b98), (.ref b98)])) rfl rfl (hb hby at_315)
              rw [nc3] at W110
              refine own_go st110 ?_
              have V110 : Arv Z h110 b98 k98 .char (6 : Int32) [(.int c0), (.int c1), (.int c2), (.int c3), (.int (0 : Int32)), (.int (0 : Int32))] (.int (0 : Int32)) := Arv.set Ar110 q110 Sz110 Nn110 Hs110 G110 (by rw [← nc3]; exact fits_nar_char _) W110 3 rfl (Nat.le_of_ble_eq_true rfl)
              have N110 := Fr.snoc X110 N107 gn98
              have sf111 : Safe Z consts_1 s.vm h107 b98 := Safe.arv hZ.alike V107 (by decide)
              have sz112 : h107.size ≤ h110.size := Nat.le_of_eq (Wr.size W110).symm
              have cr112 : CHr Z consts_1 s.vm h107 s.vm h110 := CHr.wr W110 sf111 CR109.1
              have CR112 := CR109.trans cr112
              show own_Rn p e below _ (T110.setTop (mkF m 316 #[.val (.int i0), .val (.int i1), .val (.int i2), .val (.int i3), .val (.int i4), .val (.int i5), .val (.int (4 : Int32)), .val (.int (Int32.ofNat b0)), .val (.int (Int32.ofNat b1)), .val (.int (Int32.ofNat b2)), .val (.int (Int32.ofNat b3)), .val (.int (0 : Int32)), .val (.int c0), .val (.int c1), .val (.int c2), .val (.int c3), .val (.int c4), .val (.int c5), .val (.int c6), .unset, .unset, .unset] [(.ref b98)]))
              refine own_dp X110 hx 317 (hb hby at_316) rfl rfl ?_
              refine own_ic X110 hx (4 : Int32) 318 (hb hby at_317) rfl rfl ?_
              refine own_il X110 hx 320 (hb hby at_318) rfl rfl ?_
              obtain ⟨cl113, Ar113, q113, Sz113, Nn113, Hs113, G113⟩ := id V110
              obtain ⟨T113, h113, X113, e113, W113, st113⟩ := stC X110 hx hZ e110 Ar113 (j := (4 : Int32)) (inb_of Sz113 ⟨by decide, by decide⟩) (g := (mkF m 320 #[.val (.int i0), .val (.int i1), .val (.int i2), .val (.int i3), .val (.int i4), .val (.int i5), .val (.int (4 : Int32)), .val (.int (Int32.ofNat b0)), .val (.int (Int32.ofNat b1)), .val (.int (Int32.ofNat b2)), .val (.int (Int32.ofNat b3)), .val (.int (0 : Int32)), .val (.int c0), .val (.int c1), .val (.int c2), .val (.int c3), .val (.int c4), .val (.int c5), .val (.int c6), .unset, .unset, .unset] [(.int c4), (.int (4 : Int32)), (.ref b98), (.ref b98)])) rfl rfl (hb hby at_320)
              rw [nc4] at W113
              refine own_go st113 ?_
              have V113 : Arv Z h113 b98 k98 .char (6 : Int32) [(.int c0), (.int c1), (.int c2), (.int c3), (.int c4), (.int (0 : Int32))] (.int (0 : Int32)) := Arv.set Ar113 q113 Sz113 Nn113 Hs113 G113 (by rw [← nc4]; exact fits_nar_char _) W113 4 rfl (Nat.le_of_ble_eq_true rfl)
              have N113 := Fr.snoc X113 N110 gn98
              have sf114 : Safe Z consts_1 s.vm h110 b98 := Safe.arv hZ.alike V110 (by decide)
              have sz115 : h110.size ≤ h113.size := Nat.le_of_eq (Wr.size W113).symm
              have cr115 : CHr Z consts_1 s.vm h110 s.vm h113 := CHr.wr W113 sf114 CR112.1
              have CR115 := CR112.trans cr115
              show own_Rn p e below _ (T113.setTop (mkF m 321 #[.val (.int i0), .val (.int i1), .val (.int i2), .val (.int i3), .val (.int i4), .val (.int i5), .val (.int (4 : Int32)), .val (.int (Int32.ofNat b0)), .val (.int (Int32.ofNat b1)), .val (.int (Int32.ofNat b2)), .val (.int (Int32.ofNat b3)), .val (.int (0 : Int32)), .val (.int c0), .val (.int c1), .val (.int c2), .val (.int c3), .val (.int c4), .val (.int c5), .val (.int c6), .unset, .unset, .unset] [(.ref b98)]))
              refine own_dp X113 hx 322 (hb hby at_321) rfl rfl ?_
              refine own_ic X113 hx (5 : Int32) 323 (hb hby at_322) rfl rfl ?_
              refine own_il X113 hx 325 (hb hby at_323) rfl rfl ?_
              obtain ⟨cl116, Ar116, q116, Sz116, Nn116, Hs116, G116⟩ := id V113
              obtain ⟨T116, h116, X116, e116, W116, st116⟩ := stC X113 hx hZ e113 Ar116 (j := (5 : Int32)) (inb_of Sz116 ⟨by decide, by decide⟩) (g := (mkF m 325 #[.val (.int i0), .val (.int i1), .val (.int i2), .val (.int i3), .val (.int i4), .val (.int i5), .val (.int (4 : Int32)), .val (.int (Int32.ofNat b0)), .val (.int (Int32.ofNat b1)), .val (.int (Int32.ofNat b2)), .val (.int (Int32.ofNat b3)), .val (.int (0 : Int32)), .val (.int c0), .val (.int c1), .val (.int c2), .val (.int c3), .val (.int c4), .val (.int c5), .val (.int c6), .unset, .unset, .unset] [(.int c5), (.int (5 : Int32)), (.ref b98), (.ref b98)])) rfl rfl (hb hby at_325)
              rw [nc5] at W116
              refine own_go st116 ?_
              have V116 : Arv Z h116 b98 k98 .char (6 : Int32) [(.int c0), (.int c1), (.int c2), (.int c3), (.int c4), (.int c5)] (.int (0 : Int32)) := Arv.set Ar116 q116 Sz116 Nn116 Hs116 G116 (by rw [← nc5]; exact fits_nar_char _) W116 5 rfl (Nat.le_of_ble_eq_true rfl)
              have N116 := Fr.snoc X116 N113 gn98
              have sf117 : Safe Z consts_1 s.vm h113 b98 := Safe.arv hZ.alike V113 (by decide)
              have sz118 : h113.size ≤ h116.size := Nat.le_of_eq (Wr.size W116).symm
              have cr118 : CHr Z consts_1 s.vm h113 s.vm h116 := CHr.wr W116 sf117 CR115.1
              have CR118 := CR115.trans cr118
              show own_Rn p e below _ (T116.setTop (mkF m 326 #[.val (.int i0), .val (.int i1), .val (.int i2), .val (.int i3), .val (.int i4), .val (.int i5), .val (.int (4 : Int32)), .val (.int (Int32.ofNat b0)), .val (.int (Int32.ofNat b1)), .val (.int (Int32.ofNat b2)), .val (.int (Int32.ofNat b3)), .val (.int (0 : Int32)), .val (.int c0), .val (.int c1), .val (.int c2), .val (.int c3), .val (.int c4), .val (.int c5), .val (.int c6), .unset, .unset, .unset] [(.ref b98)]))
              refine own_as X116 hx #[.val (.int i0), .val (.int i1), .val (.int i2), .val (.int i3), .val (.int i4), .val (.int i5), .val (.int (4 : Int32)), .val (.int (Int32.ofNat b0)), .val (.int (Int32.ofNat b1)), .val (.int (Int32.ofNat b2)), .val (.int (Int32.ofNat b3)), .val (.int (0 : Int32)), .val (.int c0), .val (.int c1), .val (.int c2), .val (.int c3), .val (.int c4), .val (.int c5), .val (.int c6), .val (.ref b98), .unset, .unset] 328 (hb hby at_326) rfl rfl rfl ?_
              refine own_gt X116 hx 373 (hb hby at_328) (by decide) (by decide) ?_
              have F119 : Old Z n0 h116 := (((((((X00.ext E98).wr W101 gn98).wr W104 gn98).wr W107 gn98).wr W110 gn98).wr W113 gn98).wr W116 gn98)
              subst hc0 hc1 hc2 hc3 hc4 hc5 hc6
              have le120 : h0.size ≤ h101.size := Nat.le_trans sz99 sz103
              have le121 : h0.size ≤ h104.size := Nat.le_trans le120 sz106
              have le122 : h0.size ≤ h107.size := Nat.le_trans le121 sz109
              have le123 : h0.size ≤ h110.size := Nat.le_trans le122 sz112
              have le124 : h0.size ≤ h113.size := Nat.le_trans le123 sz115
              have le125 : h0.size ≤ h116.size := Nat.le_trans le124 sz118
              exact J373 _ _ _ _ _ (X116.mono (by decide) (by decide)) e116 N116 (Nat.le_trans Z0 le125) le125 F119 CR118 V116
            · skip
              show own_Rn p e below _ (T12.setTop (mkF m 186 #[.val (.int i0), .val (.int i1), .val (.int i2), .val (.int i3), .val (.int i4), .val (.int i5), .val (.int (5 : Int32)), .val (.int (Int32.ofNat b0)), .val (.int (Int32.ofNat b1)), .val (.int (Int32.ofNat b2)), .val (.int (Int32.ofNat b3)), .val (.int (Int32.ofNat b4)), .val (.int c0), .val (.int c1), .val (.int c2), .val (.int c3), .val (.int c4), .val (.int c5), .val (.int c6), .unset, .unset, .unset] []))
              refine own_il X12 hx 188 (hb hby at_186) rfl rfl ?_
              refine own_ifY X12 hx 199 (hb hby at_188) ((if0 _ _).trans (feq (by decide : ¬ ((5 : Int32) = (0 : Int32)))).2) (by decide) (by decide) ?_
              refine own_il X12 hx 201 (hb hby at_199) rfl rfl ?_
              refine own_ic X12 hx (1 : Int32) 202 (hb hby at_201) rfl rfl ?_
              refine own_icY X12 hx 223 (hb hby at_202) (feq (by decide : ¬ ((5 : Int32) = (1 : Int32)))).2 (by decide) (by decide) ?_
              refine own_il X12 hx 225 (hb hby at_223) rfl rfl ?_
              refine own_ic X12 hx (2 : Int32) 226 (hb hby at_225) rfl rfl ?_
              refine own_icY X12 hx 252 (hb hby at_226) (feq (by decide : ¬ ((5 : Int32) = (2 : Int32)))).2 (by decide) (by decide) ?_
              refine own_il X12 hx 254 (hb hby at_252) rfl rfl ?_
              refine own_ic X12 hx (3 : Int32) 255 (hb hby at_254) rfl rfl ?_
              refine own_icY X12 hx 286 (hb hby at_255) (feq (by decide : ¬ ((5 : Int32) = (3 : Int32)))).2 (by decide) (by decide) ?_
              refine own_il X12 hx 288 (hb hby at_286) rfl rfl ?_
              refine own_ic X12 hx (4 : Int32) 289 (hb hby at_288) rfl rfl ?_
              refine own_icY X12 hx 331 (hb hby at_289) (feq (by decide : ¬ ((5 : Int32) = (4 : Int32)))).2 (by decide) (by decide) ?_
              refine own_bp X12 hx (7 : Int32) 333 (hb hby at_331) rfl rfl ?_
              obtain ⟨T127, h127, k127, X127, e127, E127, A127, st127⟩ := newP X12 hx hZ (hw _ (own_mi 5 rfl)) eh12 (g := (mkF m 333 #[.val (.int i0), .val (.int i1), .val (.int i2), .val (.int i3), .val (.int i4), .val (.int i5), .val (.int (5 : Int32)), .val (.int (Int32.ofNat b0)), .val (.int (Int32.ofNat b1)), .val (.int (Int32.ofNat b2)), .val (.int (Int32.ofNat b3)), .val (.int (Int32.ofNat b4)), .val (.int c0), .val (.int c1), .val (.int c2), .val (.int c3), .val (.int c4), .val (.int c5), .val (.int c6), .unset, .unset, .unset] [(.int (7 : Int32))])) rfl (hb hby at_333) rfl (by decide) (cap := 7) (by decide) (by decide) (by decide) (by decide)
              obtain ⟨b127, g127⟩ : ∃ z, z = h0.size := ⟨_, rfl⟩
              rw [← g127] at A127 st127
              refine own_go st127 ?_
              have sz128 : h0.size ≤ h127.size := E127.1
              have cr128 : CHr Z consts_1 s.vm h0 s.vm h127 := CHr.ext E127 CR0.1
              have CR128 := CR0.trans cr128
              have gn127 : n0 ≤ b127 := (Nat.le_trans (Nat.le_trans Z0 (Nat.le_refl _)) (Nat.le_of_eq g127.symm))
              have V127 : Arv Z h127 b127 k127 .char (7 : Int32) [(.int (0 : Int32)), (.int (0 : Int32)), (.int (0 : Int32)), (.int (0 : Int32)), (.int (0 : Int32)), (.int (0 : Int32)), (.int (0 : Int32))] (.int (0 : Int32)) := (Arv.new A127 (by decide)).pad (pad_rep [] _ 7)
              have lt129 : @LT.lt Nat _ b127 h127.size := V127.lt
              show own_Rn p e below _ (T127.setTop (mkF m 335 #[.val (.int i0), .val (.int i1), .val (.int i2), .val (.int i3), .val (.int i4), .val (.int i5), .val (.int (5 : Int32)), .val (.int (Int32.ofNat b0)), .val (.int (Int32.ofNat b1)), .val (.int (Int32.ofNat b2)), .val (.int (Int32.ofNat b3)), .val (.int (Int32.ofNat b4)), .val (.int c0), .val (.int c1), .val (.int c2), .val (.int c3), .val (.int c4), .val (.int c5), .val (.int c6), .unset, .unset, .unset] [(.ref b127)]))
              refine own_dp X127 hx 336 (hb hby at_335) rfl rfl ?_
              refine own_ic X127 hx (0 : Int32) 337 (hb hby at_336) rfl rfl ?_
              refine own_il X127 hx 339 (hb hby at_337) rfl rfl ?_
              obtain ⟨cl130, Ar130, q130, Sz130, Nn130, Hs130, G130⟩ := id V127
              obtain ⟨T130, h130, X130, e130, W130, st130⟩ := stC X127 hx hZ e127 Ar130 (j := (0 : Int32)) (inb_of Sz130 ⟨by decide, by decide⟩) (g := (mkF m 339 #[.val (.int i0), .val (.int i1), .val (.int i2), .val (.int i3), .val (.int i4), .val (.int i5), .val (.int (5 : Int32)), .val (.int (Int32.ofNat b0)), .val (.int (Int32.ofNat b1)), .val (.int (Int32.ofNat b2)), .val (.int (Int32.ofNat b3)), .val (.int (Int32.ofNat b4)), .val (.int c0), .val (.int c1), .val (.int c2), .val (.int c3), .val (.int c4), .val (.int c5), .val (.int c6), .unset, .unset, .unset] [(.int c0), (.int (0 : Int32)), (.ref b127), (.ref b127)])) rfl rfl (hb hby at_339)
              rw [nc0] at W130
              refine own_go st130 ?_
              have V130 : Arv Z h130 b127 k127 .char (7 : Int32) [(.int c0), (.int (0 : Int32)), (.int (0 : Int32)), (.int (0 : Int32)), (.int (0 : Int32)), (.int (0 : Int32)), (.int (0 : Int32))] (.int (0 : Int32)) := Arv.set Ar130 q130 Sz130 Nn130 Hs130 G130 (by rw [← nc0]; exact fits_nar_char _) W130 0 rfl (Nat.le_of_ble_eq_true rfl)
              have N130 := Fr.snoc X130 N12 gn127
              have sf131 : Safe Z consts_1 s.vm h127 b127 := Safe.arv hZ.alike V127 (by decide)
              have sz132 : h127.size ≤ h130.size := Nat.le_of_eq (Wr.size W130).symm
              have cr132 : CHr Z consts_1 s.vm h127 s.vm h130 := CHr.wr W130 sf131 CR128.1
              have CR132 := CR128.trans cr132
              show own_Rn p e below _ (T130.setTop (mkF m 340 #[.val (.int i0), .val (.int i1), .val (.int i2), .val (.int i3), .val (.int i4), .val (.int i5), .val (.int (5 : Int32)), .val (.int (Int32.ofNat b0)), .val (.int (Int32.ofNat b1)), .val (.int (Int32.ofNat b2)), .val (.int (Int32.ofNat b3)), .val (.int (Int32.ofNat b4)), .val (.int c0), .val (.int c1), .val (.int c2), .val (.int c3), .val (.int c4), .val (.int c5), .val (.int c6), .unset, .unset, .unset] [(.ref b127)]))
              refine own_dp X130 hx 341 (hb hby at_340) rfl rfl ?_
              refine own_ic X130 hx (1 : Int32) 342 (hb hby at_341) rfl rfl ?_
              refine own_il X130 hx 344 (hb hby at_342) rfl rfl ?_
              obtain ⟨cl133, Ar133, q133, Sz133, Nn133, Hs133, G133⟩ := id V130
              obtain ⟨T133, h133, X133, e133, W133, st133⟩ := stC X130 hx hZ e130 Ar133 (j := (1 : Int32)) (inb_of Sz133 ⟨by decide, by decide⟩) (g := (mkF m 344 #[.val (.int i0), .val (.int i1), .val (.int i2), .val (.int i3), .val (.int i4), .val (.int i5), .val (.int (5 : Int32)), .val (.int (Int32.ofNat b0)), .val (.int (Int32.ofNat b1)), .val (.int (Int32.ofNat b2)), .val (.int (Int32.ofNat b3)), .val (.int (Int32.ofNat b4)), .val (.int c0), .val (.int c1), .val (.int c2), .val (.int c3), .val (.int c4), .val (.int c5), .val (.int c6), .unset, .unset, .unset] [(.int c1), (.int (1 : Int32)), (.ref b127), (.ref b127)])) rfl rfl (hb hby at_344)
              rw [nc1] at W133
              refine own_go st133 ?_
              have V133 : Arv Z h133 b127 k127 .char (7 : Int32) [(.int c0), (.int c1), (.int (0 : Int32)), (.int (0 : Int32)), (.int (0 : Int32)), (.int (0 : Int32)), (.int (0 : Int32))] (.int (0 : Int32)) := Arv.set Ar133 q133 Sz133 Nn133 Hs133 G133 (by rw [← nc1]; exact fits_nar_char _) W133 1 rfl (Nat.le_of_ble_eq_true rfl)
              have N133 := Fr.snoc X133 N130 gn127
              have sf134 : Safe Z consts_1 s.vm h130 b127 := Safe.arv hZ.alike V130 (by decide)
              have sz135 : h130.size ≤ h133.size := Nat.le_of_eq (Wr.size W133).symm
              have cr135 : CHr Z consts_1 s.vm h130 s.vm h133 := CHr.wr W133 sf134 CR132.1
              have CR135 := CR132.trans cr135
              show own_Rn p e below _ (T133.setTop (mkF m 345 #[.val (.int i0), .val (.int i1), .val (.int i2), .val (.int i3), .val (.int i4), .val (.int i5), .val (.int (5 : Int32)), .val (.int (Int32.ofNat b0)), .val (.int (Int32.ofNat b1)), .val (.int (Int32.ofNat b2)), .val (.int (Int32.ofNat b3)), .val (.int (Int32.ofNat b4)), .val (.int c0), .val (.int c1), .val (.int c2), .val (.int c3), .val (.int c4), .val (.int c5), .val (.int c6), .unset, .unset, .unset] [(.ref b127)]))
              refine own_dp X133 hx 346 (hb hby at_345) rfl rfl ?_
              refine own_ic X133 hx (2 : Int32) 347 (hb hby at_346) rfl rfl ?_
              refine own_il X133 hx 349 (hb hby at_347) rfl rfl ?_
              obtain ⟨cl136, Ar136, q136, Sz136, Nn136, Hs136, G136⟩ := id V133
              obtain ⟨T136, h136, X136, e136, W136, st136⟩ := stC X133 hx hZ e133 Ar136 (j := (2 : Int32)) (inb_of Sz136 ⟨by decide, by decide⟩) (g := (mkF m 349 #[.val (.int i0), .val (.int i1), .val (.int i2), .val (.int i3), .val (.int i4), .val (.int i5), .val (.int (5 : Int32)), .val (.int (Int32.ofNat b0)), .val (.int (Int32.ofNat b1)), .val (.int (Int32.ofNat b2)), .val (.int (Int32.ofNat b3)), .val (.int (Int32.ofNat b4)), .val (.int c0), .val (.int c1), .val (.int c2), .val (.int c3), .val (.int c4), .val (.int c5), .val (.int c6), .unset, .unset, .unset] [(.int c2), (.int (2 : Int32)), (.ref b127), (.ref b127)])) rfl rfl (hb hby at_349)
              rw [nc2] at W136
              refine own_go st136 ?_
              have V136 : Arv Z h136 b127 k127 .char (7 : Int32) [(.int c0), (.int c1), (.int c2), (.int (0 : Int32)), (.int (0 : Int32)), (.int (0 : Int32)), (.int (0 : Int32))] (.int (0 : Int32)) := Arv.set Ar136 q136 Sz136 Nn136 Hs136 G136 (by rw [← nc2]; exact fits_nar_char _) W136 2 rfl (Nat.le_of_ble_eq_true rfl)
              have N136 := Fr.snoc X136 N133 gn127
              have sf137 : Safe Z consts_1 s.vm h133 b127 := Safe.arv hZ.alike V133 (by decide)
              have sz138 : h133.size ≤ h136.size := Nat.le_of_eq (Wr.size W136).symm
              have cr138 : CHr Z consts_1 s.vm h133 s.vm h136 := CHr.wr W136 sf137 CR135.1
              have CR138 := CR135.trans cr138
              show own_Rn p e below _ (T136.setTop (mkF m 350 #[.val (.int i0), .val (.int i1), .val (.int i2), .val (.int i3), .val (.int i4), .val (.int i5), .val (.int (5 : Int32)), .val (.int (Int32.ofNat b0)), .val (.int (Int32.ofNat b1)), .val (.int (Int32.ofNat b2)), .val (.int (Int32.ofNat b3)), .val (.int (Int32.ofNat b4)), .val (.int c0), .val (.int c1), .val (.int c2), .val (.int c3), .val (.int c4), .val (.int c5), .val (.int c6), .unset, .unset, .unset] [(.ref b127)]))
              refine own_dp X136 hx 351 (hb hby at_350) rfl rfl ?_
              refine own_ic X136 hx (3 : Int32) 352 (hb hby at_351) rfl rfl ?_
              refine own_il X136 hx 354 (hb hby at_352) rfl rfl ?_
              obtain ⟨cl139, Ar139, q139, Sz139, Nn139, Hs139, G139⟩ := id V136
              obtain ⟨T139, h139, X139, e139, W139, st139⟩ := stC X136 hx hZ e136 Ar139 (j := (3 : Int32)) (inb_of Sz139 ⟨by decide, by decide⟩) (g := (mkF m 354 #[.val (.int i0), .val (.int i1), .val (.int i2), .val (.int i3), .val (.int i4), .val (.int i5), .val (.int (5 : Int32)), .val (.int (Int32.ofNat b0)), .val (.int (Int32.ofNat b1)), .val (.int (Int32.ofNat b2)), .val (.int (Int32.ofNat b3)), .val (.int (Int32.ofNat b4)), .val (.int c0), .val (.int c1), .val (.int c2), .val (.int c3), .val (.int c4), .val (.int c5), .val (.int c6), .unset, .unset, .unset] [(.int c3), (.int (3 : Int32)), (.ref b127), (.ref b127)])) rfl rfl (hb hby at_354)
              rw [nc3] at W139
              refine own_go st139 ?_
              have V139 : Arv Z h139 b127 k127 .char (7 : Int32) [(.int c0), (.int c1), (.int c2), (.int c3), (.int (0 : Int32)), (.int (0 : Int32)), (.int (0 : Int32))] (.int (0 : Int32)) := Arv.set Ar139 q139 Sz139 Nn139 Hs139 G139 (by rw [← nc3]; exact fits_nar_char _) W139 3 rfl (Nat.le_of_ble_eq_true rfl)
              have N139 := Fr.snoc X139 N136 gn127
              have sf140 : Safe Z consts_1 s.vm h136 b127 := Safe.arv hZ.alike V136 (by decide)
              have sz141 : h136.size ≤ h139.size := Nat.le_of_eq (Wr.size W139).symm
              have cr141 : CHr Z consts_1 s.vm h136 s.vm h139 := CHr.wr W139 sf140 CR138.1
              have CR141 := CR138.trans cr141
              show own_Rn p e below _ (T139.setTop (mkF m 355 #[.val (.int i0), .val (.int i1), .val (.int i2), .val (.int i3), .val (.int i4), .val (.int i5), .val (.int (5 : Int32)), .val (.int (Int32.ofNat b0)), .val (.int (Int32.ofNat b1)), .val (.int (Int32.ofNat b2)), .val (.int (Int32.ofNat b3)), .val (.int (Int32.ofNat b4)), .val (.int c0), .val (.int c1), .val (.int c2), .val (.int c3), .val (.int c4), .val (.int c5), .val (.int c6), .unset, .unset, .unset] [(.ref b127)]))
              refine own_dp X139 hx 356 (hb hby at_355) rfl rfl ?_
              refine own_ic X139 hx (4 : Int32) 357 (hb hby at_356) rfl rfl ?_
              refine own_il X139 hx 359 (hb hby at_357) rfl rfl ?_
              obtain ⟨cl142, Ar142, q142, Sz142, Nn142, Hs142, G142⟩ := id V139
              obtain ⟨T142, h142, X142, e142, W142, st142⟩ := stC X139 hx hZ e139 Ar142 (j := (4 : Int32)) (inb_of Sz142 ⟨by decide, by decide⟩) (g := (mkF m 359 #[.val (.int i0), .val (.int i1), .val (.int i2), .val (.int i3), .val (.int i4), .val (.int i5), .val (.int (5 : Int32)), .val (.int (Int32.ofNat b0)), .val (.int (Int32.ofNat b1)), .val (.int (Int32.ofNat b2)), .val (.int (Int32.ofNat b3)), .val (.int (Int32.ofNat b4)), .val (.int c0), .val (.int c1), .val (.int c2), .val (.int c3), .val (.int c4), .val (.int c5), .val (.int c6), .unset, .unset, .unset] [(.int c4), (.int (4 : Int32)), (.ref b127), (.ref b127)])) rfl rfl (hb hby at_359)
              rw [nc4] at W142
              refine own_go st142 ?_
              have V142 : Arv Z h142 b127 k127 .char (7 : Int32) [(.int c0), (.int c1), (.int c2), (.int c3), (.int c4), (.int (0 : Int32)), (.int (0 : Int32))] (.int (0 : Int32)) := Arv.set Ar142 q142 Sz142 Nn142 Hs142 G142 (by rw [← nc4]; exact fits_nar_char _) W142 4 rfl (Nat.le_of_ble_eq_true rfl)
              have N142 := Fr.snoc X142 N139 gn127
              have sf143 : Safe Z consts_1 s.vm h139 b127 := Safe.arv hZ.alike V139 (by decide)
              have sz144 : h139.size ≤ h142.size := Nat.le_of_eq (Wr.size W142).symm
              have cr144 : CHr Z consts_1 s.vm h139 s.vm h142 := CHr.wr W142 sf143 CR141.1
              have CR144 := CR141.trans cr144
              show own_Rn p e below _ (T142.setTop (mkF m 360 #[.val (.int i0), .val (.int i1), .val (.int i2), .val (.int i3), .val (.int i4), .val (.int i5), .val (.int (5 : Int32)), .val (.int (Int32.ofNat b0)), .val (.int (Int32.ofNat b1)), .val (.int (Int32.ofNat b2)), .val (.int (Int32.ofNat b3)), .val (.int (Int32.ofNat b4)), .val (.int c0), .val (.int c1), .val (.int c2), .val (.int c3), .val (.int c4), .val (.int c5), .val (.int c6), .unset, .unset, .unset] [(.ref b127)]))
              refine own_dp X142 hx 361 (hb hby at_360) rfl rfl ?_
              refine own_ic X142 hx (5 : Int32) 362 (hb hby at_361) rfl rfl ?_
              refine own_il X142 hx 364 (hb hby at_362) rfl rfl ?_
              obtain ⟨cl145, Ar145, q145, Sz145, Nn145, Hs145, G145⟩ := id V142
              obtain ⟨T145, h145, X145, e145, W145, st145⟩ := stC X142 hx hZ e142 Ar145 (j := (5 : Int32)) (inb_of Sz145 ⟨by decide, by decide⟩) (g := (mkF m 364 #[.val (.int i0), .val (.int i1), .val (.int i2), .val (.int i3), .val (.int i4), .val (.int i5), .val (.int (5 : Int32)), .val (.int (Int32.ofNat b0)), .val (.int (Int32.ofNat b1)), .val (.int (Int32.ofNat b2)), .val (.int (Int32.ofNat b3)), .val (.int (Int32.ofNat b4)), .val (.int c0), .val (.int c1), .val (.int c2), .val (.int c3), .val (.int c4), .val (.int c5), .val (.int c6), .unset, .unset, .unset] [(.int c5), (.int (5 : Int32)), (.ref b127), (.ref b127)])) rfl rfl (hb hby at_364)
              rw [nc5] at W145
              refine own_go st145 ?_
              have V145 : Arv Z h145 b127 k127 .char (7 : Int32) [(.int c0), (.int c1), (.int c2), (.int c3), (.int c4), (.int c5), (.int (0 : Int32))] (.int (0 : Int32)) := Arv.set Ar145 q145 Sz145 Nn145 Hs145 G145 (by rw [← nc5]; exact fits_nar_char _) W145 5 rfl (Nat.le_of_ble_eq_true rfl)
              have N145 := Fr.snoc X145 N142 gn127
              have sf146 : Safe Z consts_1 s.vm h142 b127 := Safe.arv hZ.alike V142 (by decide)
              have sz147 : h142.size ≤ h145.size := Nat.le_of_eq (Wr.size W145).symm
              have cr147 : CHr Z consts_1 s.vm h142 s.vm h145 := CHr.wr W145 sf146 CR144.1
              have CR147 := CR144.trans cr147
              show own_Rn p e below _ (T145.setTop (mkF m 365 #[.val (.int i0), .val (.int i1), .val (.int i2), .val (.int i3), .val (.int i4), .val (.int i5), .val (.int (5 : Int32)), .val (.int (Int32.ofNat b0)), .val (.int (Int32.ofNat b1)), .val (.int (Int32.ofNat b2)), .val (.int (Int32.ofNat b3)), .val (.int (Int32.ofNat b4)), .val (.int c0), .val (.int c1), .val (.int c2), .val (.int c3), .val (.int c4), .val (.int c5), .val (.int c6), .unset, .unset, .unset] [(.ref b127)]))
              refine own_dp X145 hx 366 (hb hby at_365) rfl rfl ?_
              refine own_bp X145 hx (6 : Int32) 368 (hb hby at_366) rfl rfl ?_
              refine own_il X145 hx 370 (hb hby at_368) rfl rfl ?_
              obtain ⟨cl148, Ar148, q148, Sz148, Nn148, Hs148, G148⟩ := id V145
              obtain ⟨T148, h148, X148, e148, W148, st148⟩ := stC X145 hx hZ e145 Ar148 (j := (6 : Int32)) (inb_of Sz148 ⟨by decide, by decide⟩) (g := (mkF m 370 #[.val (.int i0), .val (.int i1), .val (.int i2), .val (.int i3), .val (.int i4), .val (.int i5), .val (.int (5 : Int32)), .val (.int (Int32.ofNat b0)), .val (.int (Int32.ofNat b1)), .val (.int (Int32.ofNat b2)), .val (.int (Int32.ofNat b3)), .val (.int (Int32.ofNat b4)), .val (.int c0), .val (.int c1), .val (.int c2), .val (.int c3), .val (.int c4), .val (.int c5), .val (.int c6), .unset, .unset, .unset] [(.int c6), (.int (6 : Int32)), (.ref b127), (.ref b127)])) rfl rfl (hb hby at_370)
              rw [nc6] at W148
              refine own_go st148 ?_
              have V148 : Arv Z h148 b127 k127 .char (7 : Int32) [(.int c0), (.int c1), (.int c2), (.int c3), (.int c4), (.int c5), (.int c6)] (.int (0 : Int32)) := Arv.set Ar148 q148 Sz148 Nn148 Hs148 G148 (by rw [← nc6]; exact fits_nar_char _) W148 6 rfl (Nat.le_of_ble_eq_true rfl)
              have N148 := Fr.snoc X148 N145 gn127
              have sf149 : Safe Z consts_1 s.vm h145 b127 := Safe.arv hZ.alike V145 (by decide)
              have sz150 : h145.size ≤ h148.size := Nat.le_of_eq (Wr.size W148).symm
              have cr150 : CHr Z consts_1 s.vm h145 s.vm h148 := CHr.wr W148 sf149 CR147.1
              have CR150 := CR147.trans cr150
              show own_Rn p e below _ (T148.setTop (mkF m 371 #[.val (.int i0), .val (.int i1), .val (.int i2), .val (.int i3), .val (.int i4), .val (.int i5), .val (.int (5 : Int32)), .val (.int (Int32.ofNat b0)), .val (.int (Int32.ofNat b1)), .val (.int (Int32.ofNat b2)), .val (.int (Int32.ofNat b3)), .val (.int (Int32.ofNat b4)), .val (.int c0), .val (.int c1), .val (.int c2), .val (.int c3), .val (.int c4), .val (.int c5), .val (.int c6), .unset, .unset, .unset] [(.ref b127)]))
              refine own_as X148 hx #[.val (.int i0), .val (.int i1), .val (.int i2), .val (.int i3), .val (.int i4), .val (.int i5), .val (.int (5 : Int32)), .val (.int (Int32.ofNat b0)), .val (.int (Int32.ofNat b1)), .val (.int (Int32.ofNat b2)), .val (.int (Int32.ofNat b3)), .val (.int (Int32.ofNat b4)), .val (.int c0), .val (.int c1), .val (.int c2), .val (.int c3), .val (.int c4), .val (.int c5), .val (.int c6), .val (.ref b127), .unset, .unset] 373 (hb hby at_371) rfl rfl rfl ?_
              have F151 : Old Z n0 h148 := ((((((((X00.ext E127).wr W130 gn127).wr W133 gn127).wr W136 gn127).wr W139 gn127).wr W142 gn127).wr W145 gn127).wr W148 gn127)
              subst hc0 hc1 hc2 hc3 hc4 hc5 hc6
              have le152 : h0.size ≤ h130.size := Nat.le_trans sz128 sz132
              have le153 : h0.size ≤ h133.size := Nat.le_trans le152 sz135
              have le154 : h0.size ≤ h136.size := Nat.le_trans le153 sz138
              have le155 : h0.size ≤ h139.size := Nat.le_trans le154 sz141
              have le156 : h0.size ≤ h142.size := Nat.le_trans le155 sz144
              have le157 : h0.size ≤ h145.size := Nat.le_trans le156 sz147
              have le158 : h0.size ≤ h148.size := Nat.le_trans le157 sz150
              exact J373 _ _ _ _ _ (X148.mono (by decide) (by decide)) e148 N148 (Nat.le_trans Z0 le158) le158 F151 CR150 V148
          by_cases g4 : nn < 5
          · skip
            refine own_icY X0 hx 93 (hb hby at_81) (tlt (own_ofNat_lt (K := 5) g4 (by decide) : (Int32.ofNat nn) < (5 : Int32))).1 (by decide) (by decide) ?_
            refine own_ic X0 hx (0 : Int32) 94 (hb hby at_93) rfl rfl ?_
            exact J5 0 (by decide) (fun _ => rfl)
          · skip
            refine own_icN X0 hx 84 (hb hby at_81) rfl (flt (own_ofNat_nlt (K := 5) g4 (by omega) : ¬ ((Int32.ofNat nn) < (5 : Int32)))).1 ?_
            refine own_il X0 hx 86 (hb hby at_84) rfl rfl ?_
            refine own_sp X0 hx (255 : Int32) 89 (hb hby at_86) rfl rfl ?_
            refine own_iand X0 hx 90 (hb hby at_89) rfl ?_
            refine own_gt X0 hx 94 (hb hby at_90) (by decide) (by decide) ?_
            obtain ⟨bb, hbb, ebb⟩ := own_m255 i4
            rw [ebb]
            exact J5 bb hbb (fun h => absurd h g4)
        by_cases g3 : nn < 4
        · skip
          refine own_icY X0 hx 75 (hb hby at_64) (tlt (own_ofNat_lt (K := 4) g3 (by decide) : (Int32.ofNat nn) < (4 : Int32))).1 (by decide) (by decide) ?_
          refine own_ic X0 hx (0 : Int32) 76 (hb hby at_75) rfl rfl ?_
          exact J4 0 (by decide) (fun _ => rfl)
        · skip
          refine own_icN X0 hx 67 (hb hby at_64) rfl (flt (own_ofNat_nlt (K := 4) g3 (by omega) : ¬ ((Int32.ofNat nn) < (4 : Int32)))).1 ?_
          refine own_iln X0 hx 68 (hb hby at_67) rfl rfl ?_
          refine own_sp X0 hx (255 : Int32) 71 (hb hby at_68) rfl rfl ?_
          refine own_iand X0 hx 72 (hb hby at_71) rfl ?_
          refine own_gt X0 hx 76 (hb hby at_72) (by decide) (by decide) ?_
          obtain ⟨bb, hbb, ebb⟩ := own_m255 i3
          rw [ebb]
          exact J4 bb hbb (fun h => absurd h g3)
      by_cases g2 : nn < 3
      · skip
        refine own_icY X0 hx 58 (hb hby at_47) (tlt (own_ofNat_lt (K := 3) g2 (by decide) : (Int32.ofNat nn) < (3 : Int32))).1 (by decide) (by decide) ?_
        refine own_ic X0 hx (0 : Int32) 59 (hb hby at_58) rfl rfl ?_
        exact J3 0 (by decide) (fun _ => rfl)
      · skip
        refine own_icN X0 hx 50 (hb hby at_47) rfl (flt (own_ofNat_nlt (K := 3) g2 (by omega) : ¬ ((Int32.ofNat nn) < (3 : Int32)))).1 ?_
        refine own_iln X0 hx 51 (hb hby at_50) rfl rfl ?_
        refine own_sp X0 hx (255 : Int32) 54 (hb hby at_51) rfl rfl ?_
        refine own_iand X0 hx 55 (hb hby at_54) rfl ?_
        refine own_gt X0 hx 59 (hb hby at_55) (by decide) (by decide) ?_
        obtain ⟨bb, hbb, ebb⟩ := own_m255 i2
        rw [ebb]
        exact J3 bb hbb (fun h => absurd h g2)
    by_cases g1 : nn < 2
    · skip
      refine own_icY X0 hx 41 (hb hby at_30) (tlt (own_ofNat_lt (K := 2) g1 (by decide) : (Int32.ofNat nn) < (2 : Int32))).1 (by decide) (by decide) ?_
      refine own_ic X0 hx (0 : Int32) 42 (hb hby at_41) rfl rfl ?_
      exact J2 0 (by decide) (fun _ => rfl)
    · skip
      refine own_icN X0 hx 33 (hb hby at_30) rfl (flt (own_ofNat_nlt (K := 2) g1 (by omega) : ¬ ((Int32.ofNat nn) < (2 : Int32)))).1 ?_
      refine own_iln X0 hx 34 (hb hby at_33) rfl rfl ?_
      refine own_sp X0 hx (255 : Int32) 37 (hb hby at_34) rfl rfl ?_
      refine own_iand X0 hx 38 (hb hby at_37) rfl ?_
      refine own_gt X0 hx 42 (hb hby at_38) (by decide) (by decide) ?_
      obtain ⟨bb, hbb, ebb⟩ := own_m255 i1
      rw [ebb]
      exact J2 bb hbb (fun h => absurd h g1)
  by_cases g0 : nn < 1
  · skip
    refine own_icY X0 hx 24 (hb hby at_13) (tlt (own_ofNat_lt (K := 1) g0 (by decide) : (Int32.ofNat nn) < (1 : Int32))).1 (by decide) (by decide) ?_
    refine own_ic X0 hx (0 : Int32) 25 (hb hby at_24) rfl rfl ?_
    exact J1 0 (by decide) (fun _ => rfl)
  · skip
    refine own_icN X0 hx 16 (hb hby at_13) rfl (flt (own_ofNat_nlt (K := 1) g0 (by omega) : ¬ ((Int32.ofNat nn) < (1 : Int32)))).1 ?_
    refine own_iln X0 hx 17 (hb hby at_16) rfl rfl ?_
    refine own_sp X0 hx (255 : Int32) 20 (hb hby at_17) rfl rfl ?_
    refine own_iand X0 hx 21 (hb hby at_20) rfl ?_
    refine own_gt X0 hx 25 (hb hby at_21) (by decide) (by decide) ?_
    obtain ⟨bb, hbb, ebb⟩ := own_m255 i0
    rw [ebb]
    exact J1 bb hbb (fun h => absurd h g0)
set_option maxRecDepth 65536 in
set_option maxHeartbeats 40000000 in
theorem comes_1 {Post : Tables → Env → Array Value → State → Outcome → State → Prop} (hpost : ∀ tb e args s v u, (limb_1_1.after args s (.returned v) u = true ∧ limb_1_2.after args s (.returned v) u = true ∧ True) → ReturnedEndW s (.returned v) u (Jvm.fieldLocs frame_1_writes args s ++ Jvm.arrayLocs frame_1_arrays args s ++ Jvm.staticLocs frame_1_statics s) 32 2240 → Post tb e args s (.returned v) u) :
    ArmFor flags0 classFile x code maxLocals ret World_1 tables_1 room_1 Calls_1 rest_1 Pre_1 Post := by
  intro l hfl _ _ p e ha hc hk s m args below hf hA hF happ hP
  obtain ⟨hcalls, hrest, hpre⟩ := hP
  obtain ⟨-, -, -, hnamed, -, -, -, hat⟩ := (Spec.applies_iff hf).mp happ
  obtain ⟨hg, hn⟩ := and_e (Cond.before_iff.mp (show (Jvm.Cond.and given_1 narrow_1).before args s = true from hpre))
  obtain ⟨h1, hr⟩ := and_e hg
  obtain ⟨w0, w1, w2, w3, w4, w5, rfl⟩ : ∃ w0 w1 w2 w3 w4 w5 : Value, args = #[w0, w1, w2, w3, w4, w5] := by
    have hs : args.size = 6 := by simpa [Cond.value, given_1] using h1
    obtain ⟨L⟩ := args
    match L, hs with
    | [w0, w1, w2, w3, w4, w5], _ => exact ⟨w0, w1, w2, w3, w4, w5, rfl⟩
  have hw := fun d (hd : d ∈ tables_1) => atoms_spec (ws := Jvm.Cond.code x code maxLocals ret :: tables_1) hat d (List.mem_cons_of_mem _ hd)
  have hfit : Fit s := fun {y c} hc i hi => by
    obtain ⟨ha, rfl⟩ := Array.getElem?_eq_some_iff.mp hc
    have q := List.all_eq_true.mp ((Array.all_eq_true_iff_forall_mem.mp hF) _ (Array.getElem_mem ha)) i (List.mem_range.mpr hi)
    simpa [Array.getElem?_eq_getElem hi] using q
  obtain ⟨ha0, hr⟩ := and_e hr
  obtain ⟨i0, ee0⟩ := is_v ha0
  obtain rfl : w0 = (.int i0) := Option.some.inj ee0
  obtain ⟨ha1, hr⟩ := and_e hr
  obtain ⟨i1, ee1⟩ := is_v ha1
  obtain rfl : w1 = (.int i1) := Option.some.inj ee1
  obtain ⟨ha2, hr⟩ := and_e hr
  obtain ⟨i2, ee2⟩ := is_v ha2
  obtain rfl : w2 = (.int i2) := Option.some.inj ee2
  obtain ⟨ha3, hr⟩ := and_e hr
  obtain ⟨i3, ee3⟩ := is_v ha3
  obtain rfl : w3 = (.int i3) := Option.some.inj ee3
  obtain ⟨ha4, hr⟩ := and_e hr
  obtain ⟨i4, ee4⟩ := is_v ha4
  obtain rfl : w4 = (.int i4) := Option.some.inj ee4
  obtain ⟨i5, ee5⟩ := is_v hr
  obtain rfl : w5 = (.int i5) := Option.some.inj ee5
  obtain ⟨hsets, hown0⟩ := atoms_of _ (rest_1_c_eq ▸ (show rest_1_c.before _ s = true from hrest))
  have n5 := not_v (Cond.before_iff.mp (hsets _ (List.mem_of_getElem? (i := 2) rfl)))
  obtain ⟨G1, e10⟩ := is_v (Cond.before_iff.mp (hsets _ (List.mem_of_getElem? (i := 1) rfl)))
  have O2 : Sta s s.heap "java/lang/String" "COMPACT_STRINGS" "Z" (.int G1) := Sta.start e10 (Or.inl (hsets _ (List.mem_of_getElem? (i := 0) rfl)))
  obtain ⟨G3, e14, rG3⟩ := isR_v (Cond.before_iff.mp (hsets _ (List.mem_of_getElem? (i := 8) rfl)))
  have O4 : Sta s s.heap "jdk/internal/util/Preconditions" "SIOOBE_FORMATTER" "Ljava/util/function/BiFunction;" G3 := Sta.start e14 (Or.inl (hsets _ (List.mem_of_getElem? (i := 7) rfl)))
  have P5 : ¬ (G1 = (0 : Int32)) := gotF (Cond.eq_ints e10 (Term.int_eval (0))) n5
  have HV : ∀ {d : Jvm.Cond} (i : Nat), jdkStatics_1[i]? = some d → d.value #[(.int i0), (.int i1), (.int i2), (.int i3), (.int i4), (.int i5)] s none s [] = some true := fun i h => Cond.before_iff.mp (hsets _ (List.mem_of_getElem? h))
  have hG3 : G3 = .null ∨ ∃ ga, G3 = .ref ga := by cases G3 <;> simp_all [Value.isRef]
  obtain ⟨q0, hn⟩ := and_e hn
  obtain ⟨q1, hn⟩ := and_e hn
  obtain ⟨q2, hn⟩ := and_e hn
  obtain ⟨q3, hn⟩ := and_e hn
  obtain ⟨q4, hn⟩ := and_e hn
  obtain ⟨q5, hn⟩ := and_e hn
  have q6 := hn
  obtain ⟨de, ede⟩ := exa_v q0
  obtain ⟨en, een⟩ := exa_v q3
  have OD : Sta s s.heap "com/example/cartiglio/cartiglio/core/Base64Url" "DECODER" "Ljava/util/Base64$Decoder;" (.ref de) := Sta.start ede (Or.inr ⟨(hw _ (own_mi 40 rfl)), (hw _ (own_mi 43 rfl))⟩)
  have OE : Sta s s.heap "com/example/cartiglio/cartiglio/core/Base64Url" "ENCODER" "Ljava/util/Base64$Encoder;" (.ref en) := Sta.start een (Or.inr ⟨(hw _ (own_mi 40 rfl)), (hw _ (own_mi 106 rfl))⟩)
  have ZD : Exa s s.heap de "java/util/Base64$Decoder" := Exa.start ede q0
  have ZE : Exa s s.heap en "java/util/Base64$Encoder" := Exa.start een q3
  have ZD1 : Fld s s.heap de "java/util/Base64$Decoder" "isURL" "Z" (.int (1 : Int32)) := Fld.start (by rw [← fld_at ede]; exact eqv_i (Term.int_eval _) q1)
  have ZD2 : Fld s s.heap de "java/util/Base64$Decoder" "isMIME" "Z" (.int (0 : Int32)) := Fld.start (by rw [← fld_at ede]; exact eqv_i (Term.int_eval _) q2)
  have ZE2 : Fld s s.heap en "java/util/Base64$Encoder" "doPadding" "Z" (.int (0 : Int32)) := Fld.start (by rw [← fld_at een]; exact eqv_i (Term.int_eval _) q4)
  have ZE3 : Fld s s.heap en "java/util/Base64$Encoder" "linemax" "I" (.int (-1 : Int32)) := Fld.start (by rw [← fld_at een]; exact eqv_i (Term.int_eval _) q5)
  have ZE1 : Fld s s.heap en "java/util/Base64$Encoder" "isURL" "Z" (.int (1 : Int32)) := Fld.start (by rw [← fld_at een]; exact eqv_i (Term.int_eval _) q6)
  have uci := Cond.before_iff.mp (hsets _ (List.mem_of_getElem? (i := 11) rfl))
  obtain ⟨ci, eci⟩ := exa_v uci
  have OI : Sta s s.heap "sun/nio/cs/ISO_8859_1" "INSTANCE" "Lsun/nio/cs/ISO_8859_1;" (.ref ci) := Sta.start eci (Or.inl (hsets _ (List.mem_of_getElem? (i := 10) rfl)))
  have ucu := Cond.before_iff.mp (hsets _ (List.mem_of_getElem? (i := 14) rfl))
  obtain ⟨cu, ecu⟩ := exa_v ucu
  have OU : Sta s s.heap "sun/nio/cs/UTF_8" "INSTANCE" "Lsun/nio/cs/UTF_8;" (.ref cu) := Sta.start ecu (Or.inl (hsets _ (List.mem_of_getElem? (i := 13) rfl)))
  have nci : ci ≠ cu := Exa.ne (Exa.start eci uci) (Exa.start ecu ucu) (by decide)
  obtain ⟨tf, etf⟩ := exa_v (Cond.before_iff.mp (hsets _ (List.mem_of_getElem? (i := 18) rfl)))
  have OF : Sta s s.heap "java/util/Base64$Decoder" "fromBase64URL" "[I" (.ref tf) := Sta.start etf (Or.inl (hsets _ (List.mem_of_getElem? (i := 16) rfl)))
  obtain ⟨kf, ZF⟩ := own_arvZ (vs := own_F.map Value.int) (n := (256 : Int32)) (dv := .int 0) hfit etf (Cond.before_iff.mp (hsets _ (List.mem_of_getElem? (i := 17) rfl))) (eqv_i (Term.int_eval _) (Cond.before_iff.mp (hsets _ (List.mem_of_getElem? (i := 19) rfl)))) (by decide) (by rw [List.length_map, own_Flen]; decide) (by rw [List.length_map, own_Flen]; decide) (own_zP (P := fun i v => (Term.elem (Term.static "java/util/Base64$Decoder" "fromBase64URL" "[I") (.int (Int32.ofNat i))).eval #[(.int i0), (.int i1), (.int i2), (.int i3), (.int i4), (.int i5)] s none [] s = some v) (by
    refine own_consE (k := 0) (k' := 1) rfl (eqv_i (Term.int_eval _) (HV 20 rfl)) ?_
    refine own_consE (k := 1) (k' := 2) rfl (eqv_i (Term.int_eval _) (HV 21 rfl)) ?_
    refine own_consE (k := 2) (k' := 3) rfl (eqv_i (Term.int_eval _) (HV 22 rfl)) ?_
    refine own_consE (k := 3) (k' := 4) rfl (eqv_i (Term.int_eval _) (HV 23 rfl)) ?_
    refine own_consE (k := 4) (k' := 5) rfl (eqv_i (Term.int_eval _) (HV 24 rfl)) ?_
    refine own_consE (k := 5) (k' := 6) rfl (eqv_i (Term.int_eval _) (HV 25 rfl)) ?_
    refine own_consE (k := 6) (k' := 7) rfl (eqv_i (Term.int_eval _) (HV 26 rfl)) ?_
    refine own_consE (k := 7) (k' := 8) rfl (eqv_i (Term.int_eval _) (HV 27 rfl)) ?_
    refine own_consE (k := 8) (k' := 9) rfl (eqv_i (Term.int_eval _) (HV 28 rfl)) ?_
    refine own_consE (k := 9) (k' := 10) rfl (eqv_i (Term.int_eval _) (HV 29 rfl)) ?_
    refine own_consE (k := 10) (k' := 11) rfl (eqv_i (Term.int_eval _) (HV 30 rfl)) ?_
    refine own_consE (k := 11) (k' := 12) rfl (eqv_i (Term.int_eval _) (HV 31 rfl)) ?_
    refine own_consE (k := 12) (k' := 13) rfl (eqv_i (Term.int_eval _) (HV 32 rfl)) ?_
    refine own_consE (k := 13) (k' := 14) rfl (eqv_i (Term.int_eval _) (HV 33 rfl)) ?_
    refine own_consE (k := 14) (k' := 15) rfl (eqv_i (Term.int_eval _) (HV 34 rfl)) ?_
    refine own_consE (k := 15) (k' := 16) rfl (eqv_i (Term.int_eval _) (HV 35 rfl)) ?_
    refine own_consE (k := 16) (k' := 17) rfl (eqv_i (Term.int_eval _) (HV 36 rfl)) ?_
    refine own_consE (k := 17) (k' := 18) rfl (eqv_i (Term.int_eval _) (HV 37 rfl)) ?_
    refine own_consE (k := 18) (k' := 19) rfl (eqv_i (Term.int_eval _) (HV 38 rfl)) ?_
    refine own_consE (k := 19) (k' := 20) rfl (eqv_i (Term.int_eval _) (HV 39 rfl)) ?_
    refine own_consE (k := 20) (k' := 21) rfl (eqv_i (Term.int_eval _) (HV 40 rfl)) ?_
    refine own_consE (k := 21) (k' := 22) rfl (eqv_i (Term.int_eval _) (HV 41 rfl)) ?_
    refine own_consE (k := 22) (k' := 23) rfl (eqv_i (Term.int_eval _) (HV 42 rfl)) ?_
    refine own_consE (k := 23) (k' := 24) rfl (eqv_i (Term.int_eval _) (HV 43 rfl)) ?_
    refine own_consE (k := 24) (k' := 25) rfl (eqv_i (Term.int_eval _) (HV 44 rfl)) ?_
    refine own_consE (k := 25) (k' := 26) rfl (eqv_i (Term.int_eval _) (HV 45 rfl)) ?_
    refine own_consE (k := 26) (k' := 27) rfl (eqv_i (Term.int_eval _) (HV 46 rfl)) ?_
    refine own_consE (k := 27) (k' := 28) rfl (eqv_i (Term.int_eval _) (HV 47 rfl)) ?_
    refine own_consE (k := 28) (k' := 29) rfl (eqv_i (Term.int_eval _) (HV 48 rfl)) ?_
    refine own_consE (k := 29) (k' := 30) rfl (eqv_i (Term.int_eval _) (HV 49 rfl)) ?_
    refine own_consE (k := 30) (k' := 31) rfl (eqv_i (Term.int_eval _) (HV 50 rfl)) ?_
    refine own_consE (k := 31) (k' := 32) rfl (eqv_i (Term.int_eval _) (HV 51 rfl)) ?_
    refine own_consE (k := 32) (k' := 33) rfl (eqv_i (Term.int_eval _) (HV 52 rfl)) ?_
    refine own_consE (k := 33) (k' := 34) rfl (eqv_i (Term.int_eval _) (HV 53 rfl)) ?_
    refine own_consE (k := 34) (k' := 35) rfl (eqv_i (Term.int_eval _) (HV 54 rfl)) ?_
    refine own_consE (k := 35) (k' := 36) rfl (eqv_i (Term.int_eval _) (HV 55 rfl)) ?_
    refine own_consE (k := 36) (k' := 37) rfl (eqv_i (Term.int_eval _) (HV 56 rfl)) ?_
    refine own_consE (k := 37) (k' := 38) rfl (eqv_i (Term.int_eval _) (HV 57 rfl)) ?_
    refine own_consE (k := 38) (k' := 39) rfl (eqv_i (Term.int_eval _) (HV 58 rfl)) ?_
    refine own_consE (k := 39) (k' := 40) rfl (eqv_i (Term.int_eval _) (HV 59 rfl)) ?_
    refine own_consE (k := 40) (k' := 41) rfl (eqv_i (Term.int_eval _) (HV 60 rfl)) ?_
    refine own_consE (k := 41) (k' := 42) rfl (eqv_i (Term.int_eval _) (HV 61 rfl)) ?_
    refine own_consE (k := 42) (k' := 43) rfl (eqv_i (Term.int_eval _) (HV 62 rfl)) ?_
    refine own_consE (k := 43) (k' := 44) rfl (eqv_i (Term.int_eval _) (HV 63 rfl)) ?_
    refine own_consE (k := 44) (k' := 45) rfl (eqv_i (Term.int_eval _) (HV 64 rfl)) ?_
    refine own_consE (k := 45) (k' := 46) rfl (eqv_i (Term.int_eval _) (HV 65 rfl)) ?_
    refine own_consE (k := 46) (k' := 47) rfl (eqv_i (Term.int_eval _) (HV 66 rfl)) ?_
    refine own_consE (k := 47) (k' := 48) rfl (eqv_i (Term.int_eval _) (HV 67 rfl)) ?_
    refine own_consE (k := 48) (k' := 49) rfl (eqv_i (Term.int_eval _) (HV 68 rfl)) ?_
    refine own_consE (k := 49) (k' := 50) rfl (eqv_i (Term.int_eval _) (HV 69 rfl)) ?_
    refine own_consE (k := 50) (k' := 51) rfl (eqv_i (Term.int_eval _) (HV 70 rfl)) ?_
    refine own_consE (k := 51) (k' := 52) rfl (eqv_i (Term.int_eval _) (HV 71 rfl)) ?_
    refine own_consE (k := 52) (k' := 53) rfl (eqv_i (Term.int_eval _) (HV 72 rfl)) ?_
    refine own_consE (k := 53) (k' := 54) rfl (eqv_i (Term.int_eval _) (HV 73 rfl)) ?_
    refine own_consE (k := 54) (k' := 55) rfl (eqv_i (Term.int_eval _) (HV 74 rfl)) ?_
    refine own_consE (k := 55) (k' := 56) rfl (eqv_i (Term.int_eval _) (HV 75 rfl)) ?_
    refine own_consE (k := 56) (k' := 57) rfl (eqv_i (Term.int_eval _) (HV 76 rfl)) ?_
    refine own_consE (k := 57) (k' := 58) rfl (eqv_i (Term.int_eval _) (HV 77 rfl)) ?_
    refine own_consE (k := 58) (k' := 59) rfl (eqv_i (Term.int_eval _) (HV 78 rfl)) ?_
    refine own_consE (k := 59) (k' := 60) rfl (eqv_i (Term.int_eval _) (HV 79 rfl)) ?_
    refine own_consE (k := 60) (k' := 61) rfl (eqv_i (Term.int_eval _) (HV 80 rfl)) ?_
    refine own_consE (k := 61) (k' := 62) rfl (eqv_i (Term.int_eval _) (HV 81 rfl)) ?_
    refine own_consE (k := 62) (k' := 63) rfl (eqv_i (Term.int_eval _) (HV 82 rfl)) ?_
    refine own_consE (k := 63) (k' := 64) rfl (eqv_i (Term.int_eval _) (HV 83 rfl)) ?_
    refine own_consE (k := 64) (k' := 65) rfl (eqv_i (Term.int_eval _) (HV 84 rfl)) ?_
    refine own_consE (k := 65) (k' := 66) rfl (eqv_i (Term.int_eval _) (HV 85 rfl)) ?_
    refine own_consE (k := 66) (k' := 67) rfl (eqv_i (Term.int_eval _) (HV 86 rfl)) ?_
    refine own_consE (k := 67) (k' := 68) rfl (eqv_i (Term.int_eval _) (HV 87 rfl)) ?_
    refine own_consE (k := 68) (k' := 69) rfl (eqv_i (Term.int_eval _) (HV 88 rfl)) ?_
    refine own_consE (k := 69) (k' := 70) rfl (eqv_i (Term.int_eval _) (HV 89 rfl)) ?_
    refine own_consE (k := 70) (k' := 71) rfl (eqv_i (Term.int_eval _) (HV 90 rfl)) ?_
    refine own_consE (k := 71) (k' := 72) rfl (eqv_i (Term.int_eval _) (HV 91 rfl)) ?_
    refine own_consE (k := 72) (k' := 73) rfl (eqv_i (Term.int_eval _) (HV 92 rfl)) ?_
    refine own_consE (k := 73) (k' := 74) rfl (eqv_i (Term.int_eval _) (HV 93 rfl)) ?_
    refine own_consE (k := 74) (k' := 75) rfl (eqv_i (Term.int_eval _) (HV 94 rfl)) ?_
    refine own_consE (k := 75) (k' := 76) rfl (eqv_i (Term.int_eval _) (HV 95 rfl)) ?_
    refine own_consE (k := 76) (k' := 77) rfl (eqv_i (Term.int_eval _) (HV 96 rfl)) ?_
    refine own_consE (k := 77) (k' := 78) rfl (eqv_i (Term.int_eval _) (HV 97 rfl)) ?_
    refine own_consE (k := 78) (k' := 79) rfl (eqv_i (Term.int_eval _) (HV 98 rfl)) ?_
    refine own_consE (k := 79) (k' := 80) rfl (eqv_i (Term.int_eval _) (HV 99 rfl)) ?_
    refine own_consE (k := 80) (k' := 81) rfl (eqv_i (Term.int_eval _) (HV 100 rfl)) ?_
    refine own_consE (k := 81) (k' := 82) rfl (eqv_i (Term.int_eval _) (HV 101 rfl)) ?_
    refine own_consE (k := 82) (k' := 83) rfl (eqv_i (Term.int_eval _) (HV 102 rfl)) ?_
    refine own_consE (k := 83) (k' := 84) rfl (eqv_i (Term.int_eval _) (HV 103 rfl)) ?_
    refine own_consE (k := 84) (k' := 85) rfl (eqv_i (Term.int_eval _) (HV 104 rfl)) ?_
    refine own_consE (k := 85) (k' := 86) rfl (eqv_i (Term.int_eval _) (HV 105 rfl)) ?_
    refine own_consE (k := 86) (k' := 87) rfl (eqv_i (Term.int_eval _) (HV 106 rfl)) ?_
    refine own_consE (k := 87) (k' := 88) rfl (eqv_i (Term.int_eval _) (HV 107 rfl)) ?_
    refine own_consE (k := 88) (k' := 89) rfl (eqv_i (Term.int_eval _) (HV 108 rfl)) ?_
    refine own_consE (k := 89) (k' := 90) rfl (eqv_i (Term.int_eval _) (HV 109 rfl)) ?_
    refine own_consE (k := 90) (k' := 91) rfl (eqv_i (Term.int_eval _) (HV 110 rfl)) ?_
    refine own_consE (k := 91) (k' := 92) rfl (eqv_i (Term.int_eval _) (HV 111 rfl)) ?_
    refine own_consE (k := 92) (k' := 93) rfl (eqv_i (Term.int_eval _) (HV 112 rfl)) ?_
    refine own_consE (k := 93) (k' := 94) rfl (eqv_i (Term.int_eval _) (HV 113 rfl)) ?_
    refine own_consE (k := 94) (k' := 95) rfl (eqv_i (Term.int_eval _) (HV 114 rfl)) ?_
    refine own_consE (k := 95) (k' := 96) rfl (eqv_i (Term.int_eval _) (HV 115 rfl)) ?_
    refine own_consE (k := 96) (k' := 97) rfl (eqv_i (Term.int_eval _) (HV 116 rfl)) ?_
    refine own_consE (k := 97) (k' := 98) rfl (eqv_i (Term.int_eval _) (HV 117 rfl)) ?_
    refine own_consE (k := 98) (k' := 99) rfl (eqv_i (Term.int_eval _) (HV 118 rfl)) ?_
    refine own_consE (k := 99) (k' := 100) rfl (eqv_i (Term.int_eval _) (HV 119 rfl)) ?_
    refine own_consE (k := 100) (k' := 101) rfl (eqv_i (Term.int_eval _) (HV 120 rfl)) ?_
    refine own_consE (k := 101) (k' := 102) rfl (eqv_i (Term.int_eval _) (HV 121 rfl)) ?_
    refine own_consE (k := 102) (k' := 103) rfl (eqv_i (Term.int_eval _) (HV 122 rfl)) ?_
    refine own_consE (k := 103) (k' := 104) rfl (eqv_i (Term.int_eval _) (HV 123 rfl)) ?_
    refine own_consE (k := 104) (k' := 105) rfl (eqv_i (Term.int_eval _) (HV 124 rfl)) ?_
    refine own_consE (k := 105) (k' := 106) rfl (eqv_i (Term.int_eval _) (HV 125 rfl)) ?_
    refine own_consE (k := 106) (k' := 107) rfl (eqv_i (Term.int_eval _) (HV 126 rfl)) ?_
    refine own_consE (k := 107) (k' := 108) rfl (eqv_i (Term.int_eval _) (HV 127 rfl)) ?_
    refine own_consE (k := 108) (k' := 109) rfl (eqv_i (Term.int_eval _) (HV 128 rfl)) ?_
    refine own_consE (k := 109) (k' := 110) rfl (eqv_i (Term.int_eval _) (HV 129 rfl)) ?_
    refine own_consE (k := 110) (k' := 111) rfl (eqv_i (Term.int_eval _) (HV 130 rfl)) ?_
    refine own_consE (k := 111) (k' := 112) rfl (eqv_i (Term.int_eval _) (HV 131 rfl)) ?_
    refine own_consE (k := 112) (k' := 113) rfl (eqv_i (Term.int_eval _) (HV 132 rfl)) ?_
    refine own_consE (k := 113) (k' := 114) rfl (eqv_i (Term.int_eval _) (HV 133 rfl)) ?_
    refine own_consE (k := 114) (k' := 115) rfl (eqv_i (Term.int_eval _) (HV 134 rfl)) ?_
    refine own_consE (k := 115) (k' := 116) rfl (eqv_i (Term.int_eval _) (HV 135 rfl)) ?_
    refine own_consE (k := 116) (k' := 117) rfl (eqv_i (Term.int_eval _) (HV 136 rfl)) ?_
    refine own_consE (k := 117) (k' := 118) rfl (eqv_i (Term.int_eval _) (HV 137 rfl)) ?_
    refine own_consE (k := 118) (k' := 119) rfl (eqv_i (Term.int_eval _) (HV 138 rfl)) ?_
    refine own_consE (k := 119) (k' := 120) rfl (eqv_i (Term.int_eval _) (HV 139 rfl)) ?_
    refine own_consE (k := 120) (k' := 121) rfl (eqv_i (Term.int_eval _) (HV 140 rfl)) ?_
    refine own_consE (k := 121) (k' := 122) rfl (eqv_i (Term.int_eval _) (HV 141 rfl)) ?_
    refine own_consE (k := 122) (k' := 123) rfl (eqv_i (Term.int_eval _) (HV 142 rfl)) ?_
    refine own_consE (k := 123) (k' := 124) rfl (eqv_i (Term.int_eval _) (HV 143 rfl)) ?_
    refine own_consE (k := 124) (k' := 125) rfl (eqv_i (Term.int_eval _) (HV 144 rfl)) ?_
    refine own_consE (k := 125) (k' := 126) rfl (eqv_i (Term.int_eval _) (HV 145 rfl)) ?_
    refine own_consE (k := 126) (k' := 127) rfl (eqv_i (Term.int_eval _) (HV 146 rfl)) ?_
    refine own_consE (k := 127) (k' := 128) rfl (eqv_i (Term.int_eval _) (HV 147 rfl)) ?_
    refine own_consE (k := 128) (k' := 129) rfl (eqv_i (Term.int_eval _) (HV 148 rfl)) ?_
    refine own_consE (k := 129) (k' := 130) rfl (eqv_i (Term.int_eval _) (HV 149 rfl)) ?_
    refine own_consE (k := 130) (k' := 131) rfl (eqv_i (Term.int_eval _) (HV 150 rfl)) ?_
    refine own_consE (k := 131) (k' := 132) rfl (eqv_i (Term.int_eval _) (HV 151 rfl)) ?_
    refine own_consE (k := 132) (k' := 133) rfl (eqv_i (Term.int_eval _) (HV 152 rfl)) ?_
    refine own_consE (k := 133) (k' := 134) rfl (eqv_i (Term.int_eval _) (HV 153 rfl)) ?_
    refine own_consE (k := 134) (k' := 135) rfl (eqv_i (Term.int_eval _) (HV 154 rfl)) ?_
    refine own_consE (k := 135) (k' := 136) rfl (eqv_i (Term.int_eval _) (HV 155 rfl)) ?_
    refine own_consE (k := 136) (k' := 137) rfl (eqv_i (Term.int_eval _) (HV 156 rfl)) ?_
    refine own_consE (k := 137) (k' := 138) rfl (eqv_i (Term.int_eval _) (HV 157 rfl)) ?_
    refine own_consE (k := 138) (k' := 139) rfl (eqv_i (Term.int_eval _) (HV 158 rfl)) ?_
    refine own_consE (k := 139) (k' := 140) rfl (eqv_i (Term.int_eval _) (HV 159 rfl)) ?_
    refine own_consE (k := 140) (k' := 141) rfl (eqv_i (Term.int_eval _) (HV 160 rfl)) ?_
    refine own_consE (k := 141) (k' := 142) rfl (eqv_i (Term.int_eval _) (HV 161 rfl)) ?_
    refine own_consE (k := 142) (k' := 143) rfl (eqv_i (Term.int_eval _) (HV 162 rfl)) ?_
    refine own_consE (k := 143) (k' := 144) rfl (eqv_i (Term.int_eval _) (HV 163 rfl)) ?_
    refine own_consE (k := 144) (k' := 145) rfl (eqv_i (Term.int_eval _) (HV 164 rfl)) ?_
    refine own_consE (k := 145) (k' := 146) rfl (eqv_i (Term.int_eval _) (HV 165 rfl)) ?_
    refine own_consE (k := 146) (k' := 147) rfl (eqv_i (Term.int_eval _) (HV 166 rfl)) ?_
    refine own_consE (k := 147) (k' := 148) rfl (eqv_i (Term.int_eval _) (HV 167 rfl)) ?_
    refine own_consE (k := 148) (k' := 149) rfl (eqv_i (Term.int_eval _) (HV 168 rfl)) ?_
    refine own_consE (k := 149) (k' := 150) rfl (eqv_i (Term.int_eval _) (HV 169 rfl)) ?_
    refine own_consE (k := 150) (k' := 151) rfl (eqv_i (Term.int_eval _) (HV 170 rfl)) ?_
    refine own_consE (k := 151) (k' := 152) rfl (eqv_i (Term.int_eval _) (HV 171 rfl)) ?_
    refine own_consE (k := 152) (k' := 153) rfl (eqv_i (Term.int_eval _) (HV 172 rfl)) ?_
    refine own_consE (k := 153) (k' := 154) rfl (eqv_i (Term.int_eval _) (HV 173 rfl)) ?_
    refine own_consE (k := 154) (k' := 155) rfl (eqv_i (Term.int_eval _) (HV 174 rfl)) ?_
    refine own_consE (k := 155) (k' := 156) rfl (eqv_i (Term.int_eval _) (HV 175 rfl)) ?_
    refine own_consE (k := 156) (k' := 157) rfl (eqv_i (Term.int_eval _) (HV 176 rfl)) ?_
    refine own_consE (k := 157) (k' := 158) rfl (eqv_i (Term.int_eval _) (HV 177 rfl)) ?_
    refine own_consE (k := 158) (k' := 159) rfl (eqv_i (Term.int_eval _) (HV 178 rfl)) ?_
    refine own_consE (k := 159) (k' := 160) rfl (eqv_i (Term.int_eval _) (HV 179 rfl)) ?_
    refine own_consE (k := 160) (k' := 161) rfl (eqv_i (Term.int_eval _) (HV 180 rfl)) ?_
    refine own_consE (k := 161) (k' := 162) rfl (eqv_i (Term.int_eval _) (HV 181 rfl)) ?_
    refine own_consE (k := 162) (k' := 163) rfl (eqv_i (Term.int_eval _) (HV 182 rfl)) ?_
    refine own_consE (k := 163) (k' := 164) rfl (eqv_i (Term.int_eval _) (HV 183 rfl)) ?_
    refine own_consE (k := 164) (k' := 165) rfl (eqv_i (Term.int_eval _) (HV 184 rfl)) ?_
    refine own_consE (k := 165) (k' := 166) rfl (eqv_i (Term.int_eval _) (HV 185 rfl)) ?_
    refine own_consE (k := 166) (k' := 167) rfl (eqv_i (Term.int_eval _) (HV 186 rfl)) ?_
    refine own_consE (k := 167) (k' := 168) rfl (eqv_i (Term.int_eval _) (HV 187 rfl)) ?_
    refine own_consE (k := 168) (k' := 169) rfl (eqv_i (Term.int_eval _) (HV 188 rfl)) ?_
    refine own_consE (k := 169) (k' := 170) rfl (eqv_i (Term.int_eval _) (HV 189 rfl)) ?_
    refine own_consE (k := 170) (k' := 171) rfl (eqv_i (Term.int_eval _) (HV 190 rfl)) ?_
    refine own_consE (k := 171) (k' := 172) rfl (eqv_i (Term.int_eval _) (HV 191 rfl)) ?_
    refine own_consE (k := 172) (k' := 173) rfl (eqv_i (Term.int_eval _) (HV 192 rfl)) ?_
    refine own_consE (k := 173) (k' := 174) rfl (eqv_i (Term.int_eval _) (HV 193 rfl)) ?_
    refine own_consE (k := 174) (k' := 175) rfl (eqv_i (Term.int_eval _) (HV 194 rfl)) ?_
    refine own_consE (k := 175) (k' := 176) rfl (eqv_i (Term.int_eval _) (HV 195 rfl)) ?_
    refine own_consE (k := 176) (k' := 177) rfl (eqv_i (Term.int_eval _) (HV 196 rfl)) ?_
    refine own_consE (k := 177) (k' := 178) rfl (eqv_i (Term.int_eval _) (HV 197 rfl)) ?_
    refine own_consE (k := 178) (k' := 179) rfl (eqv_i (Term.int_eval _) (HV 198 rfl)) ?_
    refine own_consE (k := 179) (k' := 180) rfl (eqv_i (Term.int_eval _) (HV 199 rfl)) ?_
    refine own_consE (k := 180) (k' := 181) rfl (eqv_i (Term.int_eval _) (HV 200 rfl)) ?_
    refine own_consE (k := 181) (k' := 182) rfl (eqv_i (Term.int_eval _) (HV 201 rfl)) ?_
    refine own_consE (k := 182) (k' := 183) rfl (eqv_i (Term.int_eval _) (HV 202 rfl)) ?_
    refine own_consE (k := 183) (k' := 184) rfl (eqv_i (Term.int_eval _) (HV 203 rfl)) ?_
    refine own_consE (k := 184) (k' := 185) rfl (eqv_i (Term.int_eval _) (HV 204 rfl)) ?_
    refine own_consE (k := 185) (k' := 186) rfl (eqv_i (Term.int_eval _) (HV 205 rfl)) ?_
    refine own_consE (k := 186) (k' := 187) rfl (eqv_i (Term.int_eval _) (HV 206 rfl)) ?_
    refine own_consE (k := 187) (k' := 188) rfl (eqv_i (Term.int_eval _) (HV 207 rfl)) ?_
    refine own_consE (k := 188) (k' := 189) rfl (eqv_i (Term.int_eval _) (HV 208 rfl)) ?_
    refine own_consE (k := 189) (k' := 190) rfl (eqv_i (Term.int_eval _) (HV 209 rfl)) ?_
    refine own_consE (k := 190) (k' := 191) rfl (eqv_i (Term.int_eval _) (HV 210 rfl)) ?_
    refine own_consE (k := 191) (k' := 192) rfl (eqv_i (Term.int_eval _) (HV 211 rfl)) ?_
    refine own_consE (k := 192) (k' := 193) rfl (eqv_i (Term.int_eval _) (HV 212 rfl)) ?_
    refine own_consE (k := 193) (k' := 194) rfl (eqv_i (Term.int_eval _) (HV 213 rfl)) ?_
    refine own_consE (k := 194) (k' := 195) rfl (eqv_i (Term.int_eval _) (HV 214 rfl)) ?_
    refine own_consE (k := 195) (k' := 196) rfl (eqv_i (Term.int_eval _) (HV 215 rfl)) ?_
    refine own_consE (k := 196) (k' := 197) rfl (eqv_i (Term.int_eval _) (HV 216 rfl)) ?_
    refine own_consE (k := 197) (k' := 198) rfl (eqv_i (Term.int_eval _) (HV 217 rfl)) ?_
    refine own_consE (k := 198) (k' := 199) rfl (eqv_i (Term.int_eval _) (HV 218 rfl)) ?_
    refine own_consE (k := 199) (k' := 200) rfl (eqv_i (Term.int_eval _) (HV 219 rfl)) ?_
    refine own_consE (k := 200) (k' := 201) rfl (eqv_i (Term.int_eval _) (HV 220 rfl)) ?_
    refine own_consE (k := 201) (k' := 202) rfl (eqv_i (Term.int_eval _) (HV 221 rfl)) ?_
    refine own_consE (k := 202) (k' := 203) rfl (eqv_i (Term.int_eval _) (HV 222 rfl)) ?_
    refine own_consE (k := 203) (k' := 204) rfl (eqv_i (Term.int_eval _) (HV 223 rfl)) ?_
    refine own_consE (k := 204) (k' := 205) rfl (eqv_i (Term.int_eval _) (HV 224 rfl)) ?_
    refine own_consE (k := 205) (k' := 206) rfl (eqv_i (Term.int_eval _) (HV 225 rfl)) ?_
    refine own_consE (k := 206) (k' := 207) rfl (eqv_i (Term.int_eval _) (HV 226 rfl)) ?_
    refine own_consE (k := 207) (k' := 208) rfl (eqv_i (Term.int_eval _) (HV 227 rfl)) ?_
    refine own_consE (k := 208) (k' := 209) rfl (eqv_i (Term.int_eval _) (HV 228 rfl)) ?_
    refine own_consE (k := 209) (k' := 210) rfl (eqv_i (Term.int_eval _) (HV 229 rfl)) ?_
    refine own_consE (k := 210) (k' := 211) rfl (eqv_i (Term.int_eval _) (HV 230 rfl)) ?_
    refine own_consE (k := 211) (k' := 212) rfl (eqv_i (Term.int_eval _) (HV 231 rfl)) ?_
    refine own_consE (k := 212) (k' := 213) rfl (eqv_i (Term.int_eval _) (HV 232 rfl)) ?_
    refine own_consE (k := 213) (k' := 214) rfl (eqv_i (Term.int_eval _) (HV 233 rfl)) ?_
    refine own_consE (k := 214) (k' := 215) rfl (eqv_i (Term.int_eval _) (HV 234 rfl)) ?_
    refine own_consE (k := 215) (k' := 216) rfl (eqv_i (Term.int_eval _) (HV 235 rfl)) ?_
    refine own_consE (k := 216) (k' := 217) rfl (eqv_i (Term.int_eval _) (HV 236 rfl)) ?_
    refine own_consE (k := 217) (k' := 218) rfl (eqv_i (Term.int_eval _) (HV 237 rfl)) ?_
    refine own_consE (k := 218) (k' := 219) rfl (eqv_i (Term.int_eval _) (HV 238 rfl)) ?_
    refine own_consE (k := 219) (k' := 220) rfl (eqv_i (Term.int_eval _) (HV 239 rfl)) ?_
    refine own_consE (k := 220) (k' := 221) rfl (eqv_i (Term.int_eval _) (HV 240 rfl)) ?_
    refine own_consE (k := 221) (k' := 222) rfl (eqv_i (Term.int_eval _) (HV 241 rfl)) ?_
    refine own_consE (k := 222) (k' := 223) rfl (eqv_i (Term.int_eval _) (HV 242 rfl)) ?_
    refine own_consE (k := 223) (k' := 224) rfl (eqv_i (Term.int_eval _) (HV 243 rfl)) ?_
    refine own_consE (k := 224) (k' := 225) rfl (eqv_i (Term.int_eval _) (HV 244 rfl)) ?_
    refine own_consE (k := 225) (k' := 226) rfl (eqv_i (Term.int_eval _) (HV 245 rfl)) ?_
    refine own_consE (k := 226) (k' := 227) rfl (eqv_i (Term.int_eval _) (HV 246 rfl)) ?_
    refine own_consE (k := 227) (k' := 228) rfl (eqv_i (Term.int_eval _) (HV 247 rfl)) ?_
    refine own_consE (k := 228) (k' := 229) rfl (eqv_i (Term.int_eval _) (HV 248 rfl)) ?_
    refine own_consE (k := 229) (k' := 230) rfl (eqv_i (Term.int_eval _) (HV 249 rfl)) ?_
    refine own_consE (k := 230) (k' := 231) rfl (eqv_i (Term.int_eval _) (HV 250 rfl)) ?_
    refine own_consE (k := 231) (k' := 232) rfl (eqv_i (Term.int_eval _) (HV 251 rfl)) ?_
    refine own_consE (k := 232) (k' := 233) rfl (eqv_i (Term.int_eval _) (HV 252 rfl)) ?_
    refine own_consE (k := 233) (k' := 234) rfl (eqv_i (Term.int_eval _) (HV 253 rfl)) ?_
    refine own_consE (k := 234) (k' := 235) rfl (eqv_i (Term.int_eval _) (HV 254 rfl)) ?_
    refine own_consE (k := 235) (k' := 236) rfl (eqv_i (Term.int_eval _) (HV 255 rfl)) ?_
    refine own_consE (k := 236) (k' := 237) rfl (eqv_i (Term.int_eval _) (HV 256 rfl)) ?_
    refine own_consE (k := 237) (k' := 238) rfl (eqv_i (Term.int_eval _) (HV 257 rfl)) ?_
    refine own_consE (k := 238) (k' := 239) rfl (eqv_i (Term.int_eval _) (HV 258 rfl)) ?_
    refine own_consE (k := 239) (k' := 240) rfl (eqv_i (Term.int_eval _) (HV 259 rfl)) ?_
    refine own_consE (k := 240) (k' := 241) rfl (eqv_i (Term.int_eval _) (HV 260 rfl)) ?_
    refine own_consE (k := 241) (k' := 242) rfl (eqv_i (Term.int_eval _) (HV 261 rfl)) ?_
    refine own_consE (k := 242) (k' := 243) rfl (eqv_i (Term.int_eval _) (HV 262 rfl)) ?_
    refine own_consE (k := 243) (k' := 244) rfl (eqv_i (Term.int_eval _) (HV 263 rfl)) ?_
    refine own_consE (k := 244) (k' := 245) rfl (eqv_i (Term.int_eval _) (HV 264 rfl)) ?_
    refine own_consE (k := 245) (k' := 246) rfl (eqv_i (Term.int_eval _) (HV 265 rfl)) ?_
    refine own_consE (k := 246) (k' := 247) rfl (eqv_i (Term.int_eval _) (HV 266 rfl)) ?_
    refine own_consE (k := 247) (k' := 248) rfl (eqv_i (Term.int_eval _) (HV 267 rfl)) ?_
    refine own_consE (k := 248) (k' := 249) rfl (eqv_i (Term.int_eval _) (HV 268 rfl)) ?_
    refine own_consE (k := 249) (k' := 250) rfl (eqv_i (Term.int_eval _) (HV 269 rfl)) ?_
    refine own_consE (k := 250) (k' := 251) rfl (eqv_i (Term.int_eval _) (HV 270 rfl)) ?_
    refine own_consE (k := 251) (k' := 252) rfl (eqv_i (Term.int_eval _) (HV 271 rfl)) ?_
    refine own_consE (k := 252) (k' := 253) rfl (eqv_i (Term.int_eval _) (HV 272 rfl)) ?_
    refine own_consE (k := 253) (k' := 254) rfl (eqv_i (Term.int_eval _) (HV 273 rfl)) ?_
    refine own_consE (k := 254) (k' := 255) rfl (eqv_i (Term.int_eval _) (HV 274 rfl)) ?_
    refine own_consE (k := 255) (k' := 256) rfl (eqv_i (Term.int_eval _) (HV 275 rfl)) ?_
    exact fun i v h => by simp at h))
  obtain ⟨te, ete⟩ := exa_v (Cond.before_iff.mp (hsets _ (List.mem_of_getElem? (i := 279) rfl)))
  have OT : Sta s s.heap "java/util/Base64$Encoder" "toBase64URL" "[C" (.ref te) := Sta.start ete (Or.inl (hsets _ (List.mem_of_getElem? (i := 277) rfl)))
  obtain ⟨ke, ZT⟩ := own_arvZ (vs := own_T.map Value.int) (n := (64 : Int32)) (dv := .int 0) hfit ete (Cond.before_iff.mp (hsets _ (List.mem_of_getElem? (i := 278) rfl))) (eqv_i (Term.int_eval _) (Cond.before_iff.mp (hsets _ (List.mem_of_getElem? (i := 280) rfl)))) (by decide) (by rw [List.length_map, own_Tlen]; decide) (by rw [List.length_map, own_Tlen]; decide) (own_zP (P := fun i v => (Term.elem (Term.static "java/util/Base64$Encoder" "toBase64URL" "[C") (.int (Int32.ofNat i))).eval #[(.int i0), (.int i1), (.int i2), (.int i3), (.int i4), (.int i5)] s none [] s = some v) (by
    refine own_consE (k := 0) (k' := 1) rfl (eqv_i (Term.int_eval _) (HV 281 rfl)) ?_
    refine own_consE (k := 1) (k' := 2) rfl (eqv_i (Term.int_eval _) (HV 282 rfl)) ?_
    refine own_consE (k := 2) (k' := 3) rfl (eqv_i (Term.int_eval _) (HV 283 rfl)) ?_
    refine own_consE (k := 3) (k' := 4) rfl (eqv_i (Term.int_eval _) (HV 284 rfl)) ?_
    refine own_consE (k := 4) (k' := 5) rfl (eqv_i (Term.int_eval _) (HV 285 rfl)) ?_
    refine own_consE (k := 5) (k' := 6) rfl (eqv_i (Term.int_eval _) (HV 286 rfl)) ?_
    refine own_consE (k := 6) (k' := 7) rfl (eqv_i (Term.int_eval _) (HV 287 rfl)) ?_
    refine own_consE (k := 7) (k' := 8) rfl (eqv_i (Term.int_eval _) (HV 288 rfl)) ?_
    refine own_consE (k := 8) (k' := 9) rfl (eqv_i (Term.int_eval _) (HV 289 rfl)) ?_
    refine own_consE (k := 9) (k' := 10) rfl (eqv_i (Term.int_eval _) (HV 290 rfl)) ?_
    refine own_consE (k := 10) (k' := 11) rfl (eqv_i (Term.int_eval _) (HV 291 rfl)) ?_
    refine own_consE (k := 11) (k' := 12) rfl (eqv_i (Term.int_eval _) (HV 292 rfl)) ?_
    refine own_consE (k := 12) (k' := 13) rfl (eqv_i (Term.int_eval _) (HV 293 rfl)) ?_
    refine own_consE (k := 13) (k' := 14) rfl (eqv_i (Term.int_eval _) (HV 294 rfl)) ?_
    refine own_consE (k := 14) (k' := 15) rfl (eqv_i (Term.int_eval _) (HV 295 rfl)) ?_
    refine own_consE (k := 15) (k' := 16) rfl (eqv_i (Term.int_eval _) (HV 296 rfl)) ?_
    refine own_consE (k := 16) (k' := 17) rfl (eqv_i (Term.int_eval _) (HV 297 rfl)) ?_
    refine own_consE (k := 17) (k' := 18) rfl (eqv_i (Term.int_eval _) (HV 298 rfl)) ?_
    refine own_consE (k := 18) (k' := 19) rfl (eqv_i (Term.int_eval _) (HV 299 rfl)) ?_
    refine own_consE (k := 19) (k' := 20) rfl (eqv_i (Term.int_eval _) (HV 300 rfl)) ?_
    refine own_consE (k := 20) (k' := 21) rfl (eqv_i (Term.int_eval _) (HV 301 rfl)) ?_
    refine own_consE (k := 21) (k' := 22) rfl (eqv_i (Term.int_eval _) (HV 302 rfl)) ?_
    refine own_consE (k := 22) (k' := 23) rfl (eqv_i (Term.int_eval _) (HV 303 rfl)) ?_
    refine own_consE (k := 23) (k' := 24) rfl (eqv_i (Term.int_eval _) (HV 304 rfl)) ?_
    refine own_consE (k := 24) (k' := 25) rfl (eqv_i (Term.int_eval _) (HV 305 rfl)) ?_
    refine own_consE (k := 25) (k' := 26) rfl (eqv_i (Term.int_eval _) (HV 306 rfl)) ?_
    refine own_consE (k := 26) (k' := 27) rfl (eqv_i (Term.int_eval _) (HV 307 rfl)) ?_
    refine own_consE (k := 27) (k' := 28) rfl (eqv_i (Term.int_eval _) (HV 308 rfl)) ?_
    refine own_consE (k := 28) (k' := 29) rfl (eqv_i (Term.int_eval _) (HV 309 rfl)) ?_
    refine own_consE (k := 29) (k' := 30) rfl (eqv_i (Term.int_eval _) (HV 310 rfl)) ?_
    refine own_consE (k := 30) (k' := 31) rfl (eqv_i (Term.int_eval _) (HV 311 rfl)) ?_
    refine own_consE (k := 31) (k' := 32) rfl (eqv_i (Term.int_eval _) (HV 312 rfl)) ?_
    refine own_consE (k := 32) (k' := 33) rfl (eqv_i (Term.int_eval _) (HV 313 rfl)) ?_
    refine own_consE (k := 33) (k' := 34) rfl (eqv_i (Term.int_eval _) (HV 314 rfl)) ?_
    refine own_consE (k := 34) (k' := 35) rfl (eqv_i (Term.int_eval _) (HV 315 rfl)) ?_
    refine own_consE (k := 35) (k' := 36) rfl (eqv_i (Term.int_eval _) (HV 316 rfl)) ?_
    refine own_consE (k := 36) (k' := 37) rfl (eqv_i (Term.int_eval _) (HV 317 rfl)) ?_
    refine own_consE (k := 37) (k' := 38) rfl (eqv_i (Term.int_eval _) (HV 318 rfl)) ?_
    refine own_consE (k := 38) (k' := 39) rfl (eqv_i (Term.int_eval _) (HV 319 rfl)) ?_
    refine own_consE (k := 39) (k' := 40) rfl (eqv_i (Term.int_eval _) (HV 320 rfl)) ?_
    refine own_consE (k := 40) (k' := 41) rfl (eqv_i (Term.int_eval _) (HV 321 rfl)) ?_
    refine own_consE (k := 41) (k' := 42) rfl (eqv_i (Term.int_eval _) (HV 322 rfl)) ?_
    refine own_consE (k := 42) (k' := 43) rfl (eqv_i (Term.int_eval _) (HV 323 rfl)) ?_
    refine own_consE (k := 43) (k' := 44) rfl (eqv_i (Term.int_eval _) (HV 324 rfl)) ?_
    refine own_consE (k := 44) (k' := 45) rfl (eqv_i (Term.int_eval _) (HV 325 rfl)) ?_
    refine own_consE (k := 45) (k' := 46) rfl (eqv_i (Term.int_eval _) (HV 326 rfl)) ?_
    refine own_consE (k := 46) (k' := 47) rfl (eqv_i (Term.int_eval _) (HV 327 rfl)) ?_
    refine own_consE (k := 47) (k' := 48) rfl (eqv_i (Term.int_eval _) (HV 328 rfl)) ?_
    refine own_consE (k := 48) (k' := 49) rfl (eqv_i (Term.int_eval _) (HV 329 rfl)) ?_
    refine own_consE (k := 49) (k' := 50) rfl (eqv_i (Term.int_eval _) (HV 330 rfl)) ?_
    refine own_consE (k := 50) (k' := 51) rfl (eqv_i (Term.int_eval _) (HV 331 rfl)) ?_
    refine own_consE (k := 51) (k' := 52) rfl (eqv_i (Term.int_eval _) (HV 332 rfl)) ?_
    refine own_consE (k := 52) (k' := 53) rfl (eqv_i (Term.int_eval _) (HV 333 rfl)) ?_
    refine own_consE (k := 53) (k' := 54) rfl (eqv_i (Term.int_eval _) (HV 334 rfl)) ?_
    refine own_consE (k := 54) (k' := 55) rfl (eqv_i (Term.int_eval _) (HV 335 rfl)) ?_
    refine own_consE (k := 55) (k' := 56) rfl (eqv_i (Term.int_eval _) (HV 336 rfl)) ?_
    refine own_consE (k := 56) (k' := 57) rfl (eqv_i (Term.int_eval _) (HV 337 rfl)) ?_
    refine own_consE (k := 57) (k' := 58) rfl (eqv_i (Term.int_eval _) (HV 338 rfl)) ?_
    refine own_consE (k := 58) (k' := 59) rfl (eqv_i (Term.int_eval _) (HV 339 rfl)) ?_
    refine own_consE (k := 59) (k' := 60) rfl (eqv_i (Term.int_eval _) (HV 340 rfl)) ?_
    refine own_consE (k := 60) (k' := 61) rfl (eqv_i (Term.int_eval _) (HV 341 rfl)) ?_
    refine own_consE (k := 61) (k' := 62) rfl (eqv_i (Term.int_eval _) (HV 342 rfl)) ?_
    refine own_consE (k := 62) (k' := 63) rfl (eqv_i (Term.int_eval _) (HV 343 rfl)) ?_
    refine own_consE (k := 63) (k' := 64) rfl (eqv_i (Term.int_eval _) (HV 344 rfl)) ?_
    exact fun i v h => by simp at h))
  have hEL : EW s #[(.int i0), (.int i1), (.int i2), (.int i3), (.int i4), (.int i5)] consts_1 := (EW.cons (hw _ (own_mi 35 rfl)) (by decide) (EW.cons (hw _ (own_mi 178 rfl)) (by decide) EW.nil))
  have hH : CHv s consts_1 s.vm s.heap := CHv.start hEL (fun p hp => hcalls.1 p hp) (hsets _ (List.mem_of_getElem? (i := 2) rfl)) (hw _ (own_mi 24 rfl)) (hw _ (own_mi 7 rfl))
  obtain ⟨n, o, h1, h2, h3, _, L, rfl, ⟨rfl, N⟩, -, hq⟩ := rm0 l s _ hw tables_1 i0 i1 i2 i3 i4 i5 tf kf te ke ci cu de en G1 G3 s.heap s.heap.size (Nat.le_refl _) hEL OD OE ZD ZD1 ZD2 OF ZF ZE ZE1 ZE2 ZE3 OT ZT OU OI nci O4 hG3 O2 P5 (Old.start s) p e ha hc hk s m _ below hf ((Spec.applies_iff_loose hf).mp happ).1 ⟨rfl, State.Warmed39.refl s, rfl, hH, fun x hx => nomatch hx⟩ trivial
  refine ⟨n, _, h1, h2, h3, hpost _ _ _ _ _ _ ⟨Cond.after_iff.mpr rfl, Cond.after_iff.mpr (eq_i res_at (Term.int_eval (1)) rfl), trivial⟩ ⟨hq.1, hq.2.1, hq.2.2.1, (hq.2.2.2.sift fun y hy => Or.inr (N y hy)).mono (by decide) (by decide)⟩⟩
theorem main_1_1 : Claimed_1_1 := comes_1 fun _ _ _ _ _ _ h hF => ⟨h.1, hF⟩
theorem main_1_2 : Claimed_1_2 := comes_1 fun _ _ _ _ _ _ h hF => ⟨h.2.1, hF⟩
end Jvm.Pilot.@@N@@
namespace Jvm.Pilot.@@N@@
open Jvm Jvm.ClassFile Sem Op Lib Jvm.Free Jvm.Stand Jvm.Pilot.@@N@@.Jvm.D
/-! MADE BY PROGRAM (witnessworld.py) out of the Statement's table words and the real class files: 29 classes; the members and pool entries that the words name. The judged class is class 1, her method 2. -/
namespace start1
open Jvm.ClassFile
def u (s : String) : CpInfo := .utf8 (stringToUtf16 s)
/-- a pool by its gaps: so many unusable entries, then the entry; so many at the end -/
def gap : Nat → List CpInfo → List CpInfo
  | 0, r => r
  | n + 1, r => .unusable :: gap n r
def poolList (es : List (Nat × CpInfo)) (last : Nat) : List CpInfo := es.foldr (fun e r => gap e.1 (e.2 :: r)) (gap last [])
def pool (es : List (Nat × CpInfo)) (last : Nat) : Array CpInfo := ⟨poolList es last⟩
def fileOf (pool : Array CpInfo) (this : Nat) (attrs : Array Attribute := #[]) (ms : Array MethodInfo := #[]) (fl : Nat := 33) (sup : Nat := 0) (ifs : Array Nat := #[]) (fds : Array FieldInfo := #[]) : ClassFile where
  minorVersion := 0
  majorVersion := 65
  constantPool := pool
  accessFlags := fl
  thisClass := this
  superClass := sup
  interfaces := ifs
  fields := fds
  methods := ms
  attributes := attrs
def plain (name : String) (sup : Option ClassId) : Class where
  name := name
  kind := .ordinary
  loader := none
  accessFlags := 33
  super := sup
  interfaces := #[]
  cf := none
  fields := #[]
  methods := #[]
  instanceTypes := #[]
  staticTypes := #[]
  resolved := #[]
  callSites := []
  init := .initialized
  statics := none
  mirror := none

def pool0 : Array CpInfo := pool [(5, u "<init>"), (0, u "()V"), (1, .class_ 10), (1, u "java/lang/Object"), (85, u "clone"), (0, u "()Ljava/lang/Object;")] 26

def k0c0 : Code := { maxStack := 0, maxLocals := 1, code := object_method_1_code, exceptionTable := #[], attributes := #[] }
def k0m0 : Method := { name := "<init>", desc := "()V", sig := { parameters := [], returnType := none }, accessFlags := 1, code := some k0c0 }
def k0m1 : Method := { name := "clone", desc := "()Ljava/lang/Object;", sig := { parameters := [], returnType := some (.object "java/lang/Object") }, accessFlags := 260, code := none }
/-- java/lang/Object -/
def k0 : Class := { plain "java/lang/Object" none with
  accessFlags := 33
  interfaces := #[]
  cf := some (fileOf pool0 8 #[] #[{ accessFlags := 1, nameIndex := 5, descriptorIndex := 6, attributes := #[] }, { accessFlags := 260, nameIndex := 96, descriptorIndex := 97, attributes := #[] }] 33 0 #[] #[])
  fields := #[]
  methods := #[k0m0, k0m1]
  instanceTypes := #[]
  staticTypes := #[]
  resolved := Array.replicate 124 none
  statics := none }

def pool1 : Array CpInfo := pool [(2, .class_ 4), (1, u "java/lang/Object"), (0, u "<init>"), (0, u "()V"), (0, .integer 2147483647), (0, .methodref 9 10), (0, .class_ 11), (0, .nameAndType 12 13), (0, u "com/example/cartiglio/cartiglio/core/Base64UrlDecodeStrictPinLaw"), (0, u "sym"), (0, u "(I)C"), (0, .class_ 15), (0, u "java/lang/String"), (0, .methodref 14 17), (0, .nameAndType 5 18), (0, u "([C)V"), (0, .string 20), (0, u "x"), (0, .methodref 22 23), (0, .class_ 24), (0, .nameAndType 25 26), (0, u "com/example/cartiglio/cartiglio/core/Base64Url"), (0, u "decodeStrict"), (0, u "(Ljava/lang/String;Ljava/lang/String;)[B"), (3, u "law"), (0, u "(IIIIII)Z")] 6

def k1m0 : Method := { name := "<init>", desc := "()V", sig := { parameters := [], returnType := none }, accessFlags := 1, code := none }
def k1c1 : Code := { maxStack := 3, maxLocals := 1, code := method_2_code, exceptionTable := #[], attributes := #[] }
def k1m1 : Method := { name := "sym", desc := "(I)C", sig := { parameters := [.int], returnType := some .char }, accessFlags := 10, code := some k1c1 }
def k1c2 : Code := { maxStack := 4, maxLocals := 22, code := code, exceptionTable := #[], attributes := #[] }
def k1m2 : Method := { name := "law", desc := "(IIIIII)Z", sig := { parameters := [.int, .int, .int, .int, .int, .int], returnType := some .boolean }, accessFlags := 9, code := some k1c2 }
/-- com/example/cartiglio/cartiglio/core/Base64UrlDecodeStrictPinLaw -/
def k1 : Class := { plain "com/example/cartiglio/cartiglio/core/Base64UrlDecodeStrictPinLaw" (some 0) with
  accessFlags := 49
  interfaces := #[]
  cf := some (fileOf pool1 9 #[] #[{ accessFlags := 1, nameIndex := 5, descriptorIndex := 6, attributes := #[] }, { accessFlags := 10, nameIndex := 12, descriptorIndex := 13, attributes := #[] }, { accessFlags := 9, nameIndex := 30, descriptorIndex := 31, attributes := #[] }] 49 2 #[] #[])
  fields := #[]
  methods := #[k1m0, k1m1, k1m2]
  instanceTypes := #[]
  staticTypes := #[]
  resolved := Array.replicate 38 none
  statics := none }

def pool2 : Array CpInfo := pool [(1, .class_ 2), (0, u "java/io/Serializable"), (0, .class_ 4), (0, u "java/lang/Object")] 2

/-- java/io/Serializable -/
def k2 : Class := { plain "java/io/Serializable" (some 0) with
  accessFlags := 1537
  interfaces := #[]
  cf := some (fileOf pool2 1 #[] #[] 1537 3 #[] #[])
  fields := #[]
  methods := #[]
  instanceTypes := #[]
  staticTypes := #[]
  resolved := Array.replicate 7 none
  statics := none }

def pool3 : Array CpInfo := pool [(1, .class_ 2), (0, u "java/lang/Comparable"), (0, .class_ 4), (0, u "java/lang/Object")] 7

/-- java/lang/Comparable -/
def k3 : Class := { plain "java/lang/Comparable" (some 0) with
  accessFlags := 1537
  interfaces := #[]
  cf := some (fileOf pool3 1 #[] #[] 1537 3 #[] #[])
  fields := #[]
  methods := #[]
  instanceTypes := #[]
  staticTypes := #[]
  resolved := Array.replicate 12 none
  statics := none }

def pool4 : Array CpInfo := pool [(2, .class_ 4), (1, u "java/lang/CharSequence"), (42, .class_ 48), (0, u "java/lang/CharSequence$1CodePointIterator"), (10, .class_ 60), (0, u "java/lang/CharSequence$1CharIterator"), (5, .class_ 67), (0, u "java/lang/Object")] 63

/-- java/lang/CharSequence -/
def k4 : Class := { plain "java/lang/CharSequence" (some 0) with
  accessFlags := 1537
  interfaces := #[]
  cf := some (fileOf pool4 2 #[.nestMembers #[47, 59]] #[] 1537 66 #[] #[])
  fields := #[]
  methods := #[]
  instanceTypes := #[]
  staticTypes := #[]
  resolved := Array.replicate 131 none
  statics := none }

def pool5 : Array CpInfo := pool [(1, .class_ 2), (0, u "java/lang/constant/Constable"), (0, .class_ 4), (0, u "java/lang/Object")] 6

/-- java/lang/constant/Constable -/
def k5 : Class := { plain "java/lang/constant/Constable" (some 0) with
  accessFlags := 1537
  interfaces := #[]
  cf := some (fileOf pool5 1 #[] #[] 1537 3 #[] #[])
  fields := #[]
  methods := #[]
  instanceTypes := #[]
  staticTypes := #[]
  resolved := Array.replicate 11 none
  statics := none }

def pool6 : Array CpInfo := pool [(1, .class_ 2), (0, u "java/lang/constant/ConstantDesc"), (0, .class_ 4), (0, u "java/lang/Object")] 32

/-- java/lang/constant/ConstantDesc -/
def k6 : Class := { plain "java/lang/constant/ConstantDesc" (some 0) with
  accessFlags := 1537
  interfaces := #[]
  cf := some (fileOf pool6 1 #[] #[] 1537 3 #[] #[])
  fields := #[]
  methods := #[]
  instanceTypes := #[]
  staticTypes := #[]
  resolved := Array.replicate 37 none
  statics := none }

def pool7 : Array CpInfo := pool [(1, .methodref 2 3), (0, .class_ 4), (0, .nameAndType 5 6), (0, u "java/lang/Object"), (0, u "<init>"), (0, u "()V"), (0, .string 8), (0, u ""), (0, .fieldref 10 11), (0, .class_ 12), (0, .nameAndType 13 14), (0, u "java/lang/String"), (0, u "value"), (0, u "[B"), (0, .fieldref 10 16), (0, .nameAndType 17 18), (0, u "coder"), (0, u "B"), (2, u "hash"), (0, u "I"), (2, u "hashIsZero"), (0, u "Z"), (0, .methodref 10 28), (0, .nameAndType 5 29), (0, u "([CIILjava/lang/Void;)V"), (4, .methodref 10 35), (0, .nameAndType 36 37), (0, u "checkBoundsOffCount"), (0, u "(III)I"), (0, .fieldref 10 39), (0, .nameAndType 40 26), (0, u "COMPACT_STRINGS"), (1, .class_ 44), (1, u "java/lang/StringUTF16"), (0, u "compress"), (1, .methodref 42 48), (0, .nameAndType 49 50), (0, u "coderFromArrayLen"), (0, u "([BI)B"), (3, .methodref 55 56), (0, .class_ 57), (0, .nameAndType 58 59), (0, u "java/util/Arrays"), (0, u "copyOfRange"), (0, u "([BII)[B"), (10, u "([BIII)V"), (15, .fieldref 87 88), (0, .class_ 89), (0, .nameAndType 90 91), (0, u "sun/nio/cs/UTF_8"), (0, u "INSTANCE"), (0, u "Lsun/nio/cs/UTF_8;"), (15, .class_ 109), (1, u "java/lang/StringLatin1"), (6, .fieldref 117 118), (0, .class_ 119), (0, .nameAndType 90 120), (0, u "sun/nio/cs/ISO_8859_1"), (0, u "Lsun/nio/cs/ISO_8859_1;"), (56, .methodref 42 178), (0, .nameAndType 45 179), (0, u "([CII)[B"), (75, u "(B[BZ)[B"), (0, .methodref 10 257), (0, .nameAndType 258 259), (0, u "encode8859_1"), (0, u "(B[B)[B"), (19, .methodref 280 281), (0, .class_ 14), (0, .nameAndType 282 283), (0, u "clone"), (0, u "()Ljava/lang/Object;"), (33, u "encode"), (17, .methodref 10 336), (0, .nameAndType 17 337), (0, u "()B"), (13, .methodref 10 352), (0, .nameAndType 258 255), (179, u "getBytes"), (2, .methodref 10 536), (0, .nameAndType 317 537), (0, u "(Ljava/nio/charset/Charset;B[B)[B"), (3, .methodref 107 542), (0, .nameAndType 543 544), (0, u "equals"), (0, u "([B[B)Z"), (28, u "(Ljava/lang/Object;)Z"), (1, .class_ 576), (0, u "java/lang/CharSequence"), (22, u "CASE_INSENSITIVE_ORDER"), (0, u "Ljava/util/Comparator;"), (409, u "([C)V"), (42, .fieldref 1054 1055), (0, .class_ 1056), (0, .nameAndType 1057 1058), (0, u "jdk/internal/util/Preconditions"), (0, u "SIOOBE_FORMATTER"), (0, u "Ljava/util/function/BiFunction;"), (5, u "(IIILjava/util/function/BiFunction;)I"), (0, .methodref 1054 1066), (0, .nameAndType 1067 1064), (0, u "checkFromIndexSize"), (33, u "serialPersistentFields"), (0, u "[Ljava/io/ObjectStreamField;"), (0, .class_ 1104), (0, u "java/lang/String$CaseInsensitiveComparator"), (1, .class_ 1107), (0, u "java/io/Serializable"), (0, .class_ 1109), (0, u "java/lang/Comparable"), (0, .class_ 1111), (0, u "java/lang/constant/Constable"), (0, .class_ 1113), (0, u "java/lang/constant/ConstantDesc"), (2, u "serialVersionUID"), (0, u "J"), (3, u "REPL"), (0, u "C"), (2, u "LATIN1"), (1, u "UTF16"), (117, u "(Ljava/nio/charset/Charset;)[B")] 205

def k7m0 : Method := { name := "<init>", desc := "()V", sig := { parameters := [], returnType := none }, accessFlags := 1, code := none }
def k7c1 : Code := { maxStack := 5, maxLocals := 2, code := jdk_42_method_3_code, exceptionTable := #[], attributes := #[] }
def k7m1 : Method := { name := "<init>", desc := "([C)V", sig := { parameters := [(.array .char)], returnType := none }, accessFlags := 1, code := some k7c1 }
def k7c2 : Code := { maxStack := 5, maxLocals := 7, code := jdk_42_method_7_code, exceptionTable := #[], attributes := #[] }
def k7m2 : Method := { name := "<init>", desc := "([BIII)V", sig := { parameters := [(.array .byte), .int, .int, .int], returnType := none }, accessFlags := 1, code := some k7c2 }
def k7c3 : Code := { maxStack := 4, maxLocals := 3, code := jdk_42_method_18_code, exceptionTable := #[], attributes := #[] }
def k7m3 : Method := { name := "encode", desc := "(Ljava/nio/charset/Charset;B[B)[B", sig := { parameters := [(.object "java/nio/charset/Charset"), .byte, (.array .byte)], returnType := some (.array .byte) }, accessFlags := 10, code := some k7c3 }
def k7c4 : Code := { maxStack := 3, maxLocals := 2, code := jdk_42_method_26_code, exceptionTable := #[], attributes := #[] }
def k7m4 : Method := { name := "encode8859_1", desc := "(B[B)[B", sig := { parameters := [.byte, (.array .byte)], returnType := some (.array .byte) }, accessFlags := 10, code := some k7c4 }
def k7c5 : Code := { maxStack := 5, maxLocals := 10, code := jdk_42_method_27_code, exceptionTable := #[], attributes := #[] }
def k7m5 : Method := { name := "encode8859_1", desc := "(B[BZ)[B", sig := { parameters := [.byte, (.array .byte), .boolean], returnType := some (.array .byte) }, accessFlags := 10, code := some k7c5 }
def k7c6 : Code := { maxStack := 3, maxLocals := 2, code := jdk_42_method_64_code, exceptionTable := #[], attributes := #[] }
def k7m6 : Method := { name := "getBytes", desc := "(Ljava/nio/charset/Charset;)[B", sig := { parameters := [(.object "java/nio/charset/Charset")], returnType := some (.array .byte) }, accessFlags := 1, code := some k7c6 }
def k7c7 : Code := { maxStack := 2, maxLocals := 3, code := jdk_42_method_66_code, exceptionTable := #[], attributes := #[] }
def k7m7 : Method := { name := "equals", desc := "(Ljava/lang/Object;)Z", sig := { parameters := [(.object "java/lang/Object")], returnType := some .boolean }, accessFlags := 1, code := some k7c7 }
def k7c8 : Code := { maxStack := 4, maxLocals := 6, code := jdk_42_method_149_code, exceptionTable := #[], attributes := #[] }
def k7m8 : Method := { name := "<init>", desc := "([CIILjava/lang/Void;)V", sig := { parameters := [(.array .char), .int, .int, (.object "java/lang/Void")], returnType := none }, accessFlags := 2, code := some k7c8 }
def k7c9 : Code := { maxStack := 1, maxLocals := 1, code := jdk_42_method_152_code, exceptionTable := #[], attributes := #[] }
def k7m9 : Method := { name := "coder", desc := "()B", sig := { parameters := [], returnType := some .byte }, accessFlags := 0, code := some k7c9 }
def k7c10 : Code := { maxStack := 4, maxLocals := 3, code := jdk_42_method_157_code, exceptionTable := #[], attributes := #[] }
def k7m10 : Method := { name := "checkBoundsOffCount", desc := "(III)I", sig := { parameters := [.int, .int, .int], returnType := some .int }, accessFlags := 8, code := some k7c10 }
/-- java/lang/String -/
def k7 : Class := { plain "java/lang/String" (some 0) with
  accessFlags := 49
  interfaces := #[2, 3, 4, 5, 6]
  cf := some (fileOf pool7 10 #[.nestMembers #[1103]] #[{ accessFlags := 1, nameIndex := 5, descriptorIndex := 6, attributes := #[] }, { accessFlags := 1, nameIndex := 5, descriptorIndex := 1010, attributes := #[] }, { accessFlags := 1, nameIndex := 5, descriptorIndex := 70, attributes := #[] }, { accessFlags := 10, nameIndex := 317, descriptorIndex := 537, attributes := #[] }, { accessFlags := 10, nameIndex := 258, descriptorIndex := 259, attributes := #[] }, { accessFlags := 10, nameIndex := 258, descriptorIndex := 255, attributes := #[] }, { accessFlags := 1, nameIndex := 532, descriptorIndex := 1245, attributes := #[] }, { accessFlags := 1, nameIndex := 543, descriptorIndex := 573, attributes := #[] }, { accessFlags := 2, nameIndex := 5, descriptorIndex := 29, attributes := #[] }, { accessFlags := 0, nameIndex := 17, descriptorIndex := 337, attributes := #[] }, { accessFlags := 8, nameIndex := 36, descriptorIndex := 37, attributes := #[] }] 49 2 #[1106, 1108, 575, 1110, 1112] #[{ accessFlags := 18, nameIndex := 13, descriptorIndex := 14, attributes := #[] }, { accessFlags := 18, nameIndex := 17, descriptorIndex := 18, attributes := #[] }, { accessFlags := 2, nameIndex := 21, descriptorIndex := 22, attributes := #[] }, { accessFlags := 2, nameIndex := 25, descriptorIndex := 26, attributes := #[] }, { accessFlags := 26, nameIndex := 1116, descriptorIndex := 1117, attributes := #[] }, { accessFlags := 24, nameIndex := 40, descriptorIndex := 26, attributes := #[] }, { accessFlags := 26, nameIndex := 1101, descriptorIndex := 1102, attributes := #[] }, { accessFlags := 26, nameIndex := 1121, descriptorIndex := 1122, attributes := #[] }, { accessFlags := 25, nameIndex := 599, descriptorIndex := 600, attributes := #[] }, { accessFlags := 24, nameIndex := 1125, descriptorIndex := 18, attributes := #[] }, { accessFlags := 24, nameIndex := 1127, descriptorIndex := 18, attributes := #[] }])
  fields := #[{ name := "value", type := (.array .byte), accessFlags := 18, slot := 0, constantValue := 0 }, { name := "coder", type := .byte, accessFlags := 18, slot := 1, constantValue := 0 }, { name := "hash", type := .int, accessFlags := 2, slot := 2, constantValue := 0 }, { name := "hashIsZero", type := .boolean, accessFlags := 2, slot := 3, constantValue := 0 }, { name := "serialVersionUID", type := .long, accessFlags := 26, slot := 0, constantValue := 0 }, { name := "COMPACT_STRINGS", type := .boolean, accessFlags := 24, slot := 1, constantValue := 0 }, { name := "serialPersistentFields", type := (.array (.object "java/io/ObjectStreamField")), accessFlags := 26, slot := 2, constantValue := 0 }, { name := "REPL", type := .char, accessFlags := 26, slot := 3, constantValue := 0 }, { name := "CASE_INSENSITIVE_ORDER", type := (.object "java/util/Comparator"), accessFlags := 25, slot := 4, constantValue := 0 }, { name := "LATIN1", type := .byte, accessFlags := 24, slot := 5, constantValue := 0 }, { name := "UTF16", type := .byte, accessFlags := 24, slot := 6, constantValue := 0 }]
  methods := #[k7m0, k7m1, k7m2, k7m3, k7m4, k7m5, k7m6, k7m7, k7m8, k7m9, k7m10]
  instanceTypes := #[(.array .byte), .byte, .int, .boolean]
  staticTypes := #[.long, .boolean, (.array (.object "java/io/ObjectStreamField")), .char, (.object "java/util/Comparator"), .byte, .byte]
  resolved := Array.replicate 1451 none
  statics := some 0 }

def pool8 : Array CpInfo := pool [(6, .class_ 8), (1, u "java/lang/Object"), (0, u "<init>"), (0, u "()V"), (1, .class_ 14), (1, u "java/lang/StringUTF16"), (31, u "$assertionsDisabled"), (0, u "Z"), (13, u "HI_BYTE_SHIFT"), (0, u "I"), (2, u "LO_BYTE_SHIFT"), (49, .methodref 12 116), (0, .nameAndType 117 118), (0, u "compress"), (0, u "([CI[BII)I"), (3, u "([CII)[B"), (138, u "coderFromArrayLen"), (0, u "([BI)B"), (106, .class_ 371), (1, u "java/lang/StringUTF16$LinesSpliterator"), (58, u "MAX_LENGTH"), (196, .class_ 628), (0, u "java/lang/StringUTF16$CodePointsSpliterator"), (0, .class_ 630), (0, u "java/lang/StringUTF16$CharsSpliterator")] 4

def k8m0 : Method := { name := "<init>", desc := "()V", sig := { parameters := [], returnType := none }, accessFlags := 0, code := none }
def k8c1 : Code := { maxStack := 2, maxLocals := 2, code := jdk_52_method_15_code, exceptionTable := #[], attributes := #[] }
def k8m1 : Method := { name := "coderFromArrayLen", desc := "([BI)B", sig := { parameters := [(.array .byte), .int], returnType := some .byte }, accessFlags := 8, code := some k8c1 }
def k8c2 : Code := { maxStack := 5, maxLocals := 6, code := jdk_52_method_16_code, exceptionTable := #[], attributes := #[] }
def k8m2 : Method := { name := "compress", desc := "([CII)[B", sig := { parameters := [(.array .char), .int, .int], returnType := some (.array .byte) }, accessFlags := 9, code := some k8c2 }
def k8c3 : Code := { maxStack := 3, maxLocals := 7, code := jdk_52_method_21_code, exceptionTable := #[], attributes := #[] }
def k8m3 : Method := { name := "compress", desc := "([CI[BII)I", sig := { parameters := [(.array .char), .int, (.array .byte), .int, .int], returnType := some .int }, accessFlags := 9, code := some k8c3 }
/-- java/lang/StringUTF16 -/
def k8 : Class := { plain "java/lang/StringUTF16" (some 0) with
  accessFlags := 48
  interfaces := #[]
  cf := some (fileOf pool8 12 #[.nestMembers #[627, 629, 369]] #[{ accessFlags := 0, nameIndex := 9, descriptorIndex := 10, attributes := #[] }, { accessFlags := 8, nameIndex := 261, descriptorIndex := 262, attributes := #[] }, { accessFlags := 9, nameIndex := 117, descriptorIndex := 122, attributes := #[] }, { accessFlags := 9, nameIndex := 117, descriptorIndex := 118, attributes := #[] }] 48 6 #[] #[{ accessFlags := 26, nameIndex := 61, descriptorIndex := 62, attributes := #[] }, { accessFlags := 26, nameIndex := 65, descriptorIndex := 62, attributes := #[] }, { accessFlags := 24, nameIndex := 430, descriptorIndex := 62, attributes := #[] }, { accessFlags := 4120, nameIndex := 46, descriptorIndex := 47, attributes := #[] }])
  fields := #[{ name := "HI_BYTE_SHIFT", type := .int, accessFlags := 26, slot := 0, constantValue := 0 }, { name := "LO_BYTE_SHIFT", type := .int, accessFlags := 26, slot := 1, constantValue := 0 }, { name := "MAX_LENGTH", type := .int, accessFlags := 24, slot := 2, constantValue := 0 }, { name := "$assertionsDisabled", type := .boolean, accessFlags := 4120, slot := 3, constantValue := 0 }]
  methods := #[k8m0, k8m1, k8m2, k8m3]
  instanceTypes := #[]
  staticTypes := #[.int, .int, .int, .boolean]
  resolved := Array.replicate 635 none
  statics := none }

def pool9 : Array CpInfo := pool [(2, .class_ 4), (1, u "java/lang/Object"), (0, u "<init>"), (0, u "()V"), (0, .fieldref 8 9), (0, .class_ 10), (0, .nameAndType 11 12), (0, u "com/example/cartiglio/cartiglio/core/Base64Url"), (0, u "ENCODER"), (0, u "Ljava/util/Base64$Encoder;"), (0, .methodref 14 15), (0, .class_ 16), (0, .nameAndType 17 18), (0, u "java/util/Base64$Encoder"), (0, u "encodeToString"), (0, u "([B)Ljava/lang/String;"), (0, .fieldref 8 20), (0, .nameAndType 21 22), (0, u "DECODER"), (0, u "Ljava/util/Base64$Decoder;"), (0, .methodref 24 25), (0, .class_ 26), (0, .nameAndType 27 28), (0, u "java/util/Base64$Decoder"), (0, u "decode"), (0, u "(Ljava/lang/String;)[B"), (11, .methodref 41 42), (0, .class_ 43), (0, .nameAndType 44 45), (0, u "java/lang/String"), (0, u "equals"), (0, u "(Ljava/lang/Object;)Z"), (17, u "decodeStrict"), (0, u "(Ljava/lang/String;Ljava/lang/String;)[B")] 25

def k9m0 : Method := { name := "<init>", desc := "()V", sig := { parameters := [], returnType := none }, accessFlags := 2, code := none }
def k9c1 : Code := { maxStack := 3, maxLocals := 4, code := prog_4_method_4_code, exceptionTable := #[{ startPc := 0, endPc := 8, handlerPc := 11, catchType := 29 }], attributes := #[] }
def k9m1 : Method := { name := "decodeStrict", desc := "(Ljava/lang/String;Ljava/lang/String;)[B", sig := { parameters := [(.object "java/lang/String"), (.object "java/lang/String")], returnType := some (.array .byte) }, accessFlags := 9, code := some k9c1 }
/-- com/example/cartiglio/cartiglio/core/Base64Url -/
def k9 : Class := { plain "com/example/cartiglio/cartiglio/core/Base64Url" (some 0) with
  accessFlags := 49
  interfaces := #[]
  cf := some (fileOf pool9 8 #[] #[{ accessFlags := 2, nameIndex := 5, descriptorIndex := 6, attributes := #[] }, { accessFlags := 9, nameIndex := 63, descriptorIndex := 64, attributes := #[] }] 49 2 #[] #[{ accessFlags := 26, nameIndex := 11, descriptorIndex := 12, attributes := #[] }, { accessFlags := 26, nameIndex := 21, descriptorIndex := 22, attributes := #[] }])
  fields := #[{ name := "ENCODER", type := (.object "java/util/Base64$Encoder"), accessFlags := 26, slot := 0, constantValue := 0 }, { name := "DECODER", type := (.object "java/util/Base64$Decoder"), accessFlags := 26, slot := 1, constantValue := 0 }]
  methods := #[k9m0, k9m1]
  instanceTypes := #[]
  staticTypes := #[(.object "java/util/Base64$Encoder"), (.object "java/util/Base64$Decoder")]
  resolved := Array.replicate 90 none
  statics := some 1 }

def pool10 : Array CpInfo := pool [(2, .class_ 4), (1, u "java/lang/Object"), (2, .fieldref 8 9), (0, .class_ 10), (0, .nameAndType 11 12), (0, u "java/util/Base64$Decoder"), (0, u "isURL"), (0, u "Z"), (0, .fieldref 8 14), (0, .nameAndType 15 12), (0, u "isMIME"), (0, .methodref 8 17), (0, .nameAndType 18 19), (0, u "decodedOutLength"), (0, u "([BII)I"), (0, .methodref 8 21), (0, .nameAndType 22 23), (0, u "decode0"), (0, u "([BII[B)I"), (6, .fieldref 31 32), (0, .class_ 33), (0, .nameAndType 34 35), (0, u "sun/nio/cs/ISO_8859_1"), (0, u "INSTANCE"), (0, u "Lsun/nio/cs/ISO_8859_1;"), (0, .methodref 37 38), (0, .class_ 39), (0, .nameAndType 40 41), (0, u "java/lang/String"), (0, u "getBytes"), (0, u "(Ljava/nio/charset/Charset;)[B"), (0, .methodref 8 43), (0, .nameAndType 44 45), (0, u "decode"), (0, u "([B)[B"), (49, .fieldref 8 96), (0, .nameAndType 97 98), (0, u "fromBase64URL"), (0, u "[I"), (2, u "fromBase64"), (5, .long 3), (1, .long 4), (1, .methodref 8 112), (0, .nameAndType 113 114), (0, u "decodeBlock"), (0, u "([BII[BIZZ)I"), (45, u "RFC4648"), (0, u "Ljava/util/Base64$Decoder;"), (2, u "RFC4648_URLSAFE"), (2, u "RFC2045"), (11, u "(Ljava/lang/String;)[B"), (40, .class_ 221), (0, u "java/util/Base64")] 4

def k10c0 : Code := { maxStack := 5, maxLocals := 4, code := jdk_2450_method_2_code, exceptionTable := #[], attributes := #[] }
def k10m0 : Method := { name := "decode", desc := "([B)[B", sig := { parameters := [(.array .byte)], returnType := some (.array .byte) }, accessFlags := 1, code := some k10c0 }
def k10c1 : Code := { maxStack := 3, maxLocals := 2, code := jdk_2450_method_3_code, exceptionTable := #[], attributes := #[] }
def k10m1 : Method := { name := "decode", desc := "(Ljava/lang/String;)[B", sig := { parameters := [(.object "java/lang/String")], returnType := some (.array .byte) }, accessFlags := 1, code := some k10c1 }
def k10c2 : Code := { maxStack := 5, maxLocals := 9, code := jdk_2450_method_7_code, exceptionTable := #[], attributes := #[] }
def k10m2 : Method := { name := "decodedOutLength", desc := "([BII)I", sig := { parameters := [(.array .byte), .int, .int], returnType := some .int }, accessFlags := 2, code := some k10c2 }
def k10c3 : Code := { maxStack := 4, maxLocals := 16, code := jdk_2450_method_8_code, exceptionTable := #[], attributes := #[] }
def k10m3 : Method := { name := "decodeBlock", desc := "([BII[BIZZ)I", sig := { parameters := [(.array .byte), .int, .int, (.array .byte), .int, .boolean, .boolean], returnType := some .int }, accessFlags := 2, code := some k10c3 }
def k10c4 : Code := { maxStack := 8, maxLocals := 11, code := jdk_2450_method_9_code, exceptionTable := #[], attributes := #[] }
def k10m4 : Method := { name := "decode0", desc := "([BII[B)I", sig := { parameters := [(.array .byte), .int, .int, (.array .byte)], returnType := some .int }, accessFlags := 2, code := some k10c4 }
/-- java/util/Base64$Decoder -/
def k10 : Class := { plain "java/util/Base64$Decoder" (some 0) with
  accessFlags := 33
  interfaces := #[]
  cf := some (fileOf pool10 8 #[.nestHost 220] #[{ accessFlags := 1, nameIndex := 44, descriptorIndex := 45, attributes := #[] }, { accessFlags := 1, nameIndex := 44, descriptorIndex := 179, attributes := #[] }, { accessFlags := 2, nameIndex := 18, descriptorIndex := 19, attributes := #[] }, { accessFlags := 2, nameIndex := 113, descriptorIndex := 114, attributes := #[] }, { accessFlags := 2, nameIndex := 22, descriptorIndex := 23, attributes := #[] }] 33 2 #[] #[{ accessFlags := 18, nameIndex := 11, descriptorIndex := 12, attributes := #[] }, { accessFlags := 18, nameIndex := 15, descriptorIndex := 12, attributes := #[] }, { accessFlags := 26, nameIndex := 101, descriptorIndex := 98, attributes := #[] }, { accessFlags := 26, nameIndex := 97, descriptorIndex := 98, attributes := #[] }, { accessFlags := 24, nameIndex := 160, descriptorIndex := 161, attributes := #[] }, { accessFlags := 24, nameIndex := 164, descriptorIndex := 161, attributes := #[] }, { accessFlags := 24, nameIndex := 167, descriptorIndex := 161, attributes := #[] }])
  fields := #[{ name := "isURL", type := .boolean, accessFlags := 18, slot := 0, constantValue := 0 }, { name := "isMIME", type := .boolean, accessFlags := 18, slot := 1, constantValue := 0 }, { name := "fromBase64", type := (.array .int), accessFlags := 26, slot := 0, constantValue := 0 }, { name := "fromBase64URL", type := (.array .int), accessFlags := 26, slot := 1, constantValue := 0 }, { name := "RFC4648", type := (.object "java/util/Base64$Decoder"), accessFlags := 24, slot := 2, constantValue := 0 }, { name := "RFC4648_URLSAFE", type := (.object "java/util/Base64$Decoder"), accessFlags := 24, slot := 3, constantValue := 0 }, { name := "RFC2045", type := (.object "java/util/Base64$Decoder"), accessFlags := 24, slot := 4, constantValue := 0 }]
  methods := #[k10m0, k10m1, k10m2, k10m3, k10m4]
  instanceTypes := #[.boolean, .boolean]
  staticTypes := #[(.array .int), (.array .int), (.object "java/util/Base64$Decoder"), (.object "java/util/Base64$Decoder"), (.object "java/util/Base64$Decoder")]
  resolved := Array.replicate 226 none
  statics := some 2 }

def pool11 : Array CpInfo := pool [(18, .class_ 20), (1, u "java/nio/charset/Charset"), (0, u "cache1"), (0, u "[Ljava/lang/Object;"), (2, u "cache2"), (0, .class_ 27), (0, u "java/lang/Object"), (0, .class_ 29), (0, u "java/nio/charset/Charset$1"), (4, .class_ 36), (1, u "java/nio/charset/Charset$ThreadTrackHolder"), (21, .class_ 59), (0, u "java/nio/charset/Charset$2"), (11, .class_ 73), (1, u "java/nio/charset/Charset$ExtendedProviderHolder"), (22, u "standardProvider"), (0, u "Ljava/nio/charset/spi/CharsetProvider;"), (29, u "name"), (7, .class_ 136), (0, u "java/nio/charset/Charset$3"), (5, u "defaultCharset"), (0, u "Ljava/nio/charset/Charset;"), (14, u "zeroAliases"), (0, u "[Ljava/lang/String;"), (29, u "Ljava/lang/String;"), (2, u "aliases"), (2, u "aliasSet"), (0, u "Ljava/util/Set;"), (82, .class_ 280), (0, u "java/lang/Comparable"), (84, .class_ 366), (0, u "java/nio/charset/Charset$ExtendedProviderHolder$1")] 3

/-- java/nio/charset/Charset -/
def k11 : Class := { plain "java/nio/charset/Charset" (some 0) with
  accessFlags := 1057
  interfaces := #[3]
  cf := some (fileOf pool11 18 #[.nestMembers #[71, 365, 34, 135, 58, 28]] #[] 1057 26 #[279] #[{ accessFlags := 26, nameIndex := 96, descriptorIndex := 97, attributes := #[] }, { accessFlags := 26, nameIndex := 158, descriptorIndex := 159, attributes := #[] }, { accessFlags := 74, nameIndex := 21, descriptorIndex := 22, attributes := #[] }, { accessFlags := 74, nameIndex := 25, descriptorIndex := 22, attributes := #[] }, { accessFlags := 10, nameIndex := 142, descriptorIndex := 143, attributes := #[] }, { accessFlags := 18, nameIndex := 127, descriptorIndex := 189, attributes := #[] }, { accessFlags := 18, nameIndex := 192, descriptorIndex := 159, attributes := #[] }, { accessFlags := 2, nameIndex := 195, descriptorIndex := 196, attributes := #[] }])
  fields := #[{ name := "standardProvider", type := (.object "java/nio/charset/spi/CharsetProvider"), accessFlags := 26, slot := 0, constantValue := 0 }, { name := "zeroAliases", type := (.array (.object "java/lang/String")), accessFlags := 26, slot := 1, constantValue := 0 }, { name := "cache1", type := (.array (.object "java/lang/Object")), accessFlags := 74, slot := 2, constantValue := 0 }, { name := "cache2", type := (.array (.object "java/lang/Object")), accessFlags := 74, slot := 3, constantValue := 0 }, { name := "defaultCharset", type := (.object "java/nio/charset/Charset"), accessFlags := 10, slot := 4, constantValue := 0 }, { name := "name", type := (.object "java/lang/String"), accessFlags := 18, slot := 0, constantValue := 0 }, { name := "aliases", type := (.array (.object "java/lang/String")), accessFlags := 18, slot := 1, constantValue := 0 }, { name := "aliasSet", type := (.object "java/util/Set"), accessFlags := 2, slot := 2, constantValue := 0 }]
  methods := #[]
  instanceTypes := #[(.object "java/lang/String"), (.array (.object "java/lang/String")), (.object "java/util/Set")]
  staticTypes := #[(.object "java/nio/charset/spi/CharsetProvider"), (.array (.object "java/lang/String")), (.array (.object "java/lang/Object")), (.array (.object "java/lang/Object")), (.object "java/nio/charset/Charset")]
  resolved := Array.replicate 370 none
  statics := none }

def pool12 : Array CpInfo := pool [(1, .class_ 2), (0, u "sun/nio/cs/HistoricallyNamedCharset"), (0, .class_ 4), (0, u "java/lang/Object")] 4

/-- sun/nio/cs/HistoricallyNamedCharset -/
def k12 : Class := { plain "sun/nio/cs/HistoricallyNamedCharset" (some 0) with
  accessFlags := 1537
  interfaces := #[]
  cf := some (fileOf pool12 1 #[] #[] 1537 3 #[] #[])
  fields := #[]
  methods := #[]
  instanceTypes := #[]
  staticTypes := #[]
  resolved := Array.replicate 9 none
  statics := none }

def pool13 : Array CpInfo := pool [(10, .class_ 12), (1, u "java/nio/charset/Charset"), (0, u "<init>"), (5, .class_ 20), (0, u "sun/nio/cs/ISO_8859_1"), (0, .class_ 22), (0, u "sun/nio/cs/ISO_8859_1$Decoder"), (3, .class_ 27), (0, u "sun/nio/cs/ISO_8859_1$Encoder"), (3, u "()V"), (2, u "INSTANCE"), (0, u "Lsun/nio/cs/ISO_8859_1;"), (0, .class_ 37), (0, u "sun/nio/cs/HistoricallyNamedCharset")] 22

def k13m0 : Method := { name := "<init>", desc := "()V", sig := { parameters := [], returnType := none }, accessFlags := 1, code := none }
/-- sun/nio/cs/ISO_8859_1 -/
def k13 : Class := { plain "sun/nio/cs/ISO_8859_1" (some 11) with
  accessFlags := 33
  interfaces := #[12]
  cf := some (fileOf pool13 19 #[.nestMembers #[26, 21]] #[{ accessFlags := 1, nameIndex := 13, descriptorIndex := 31, attributes := #[] }] 33 10 #[36] #[{ accessFlags := 25, nameIndex := 34, descriptorIndex := 35, attributes := #[] }])
  fields := #[{ name := "INSTANCE", type := (.object "sun/nio/cs/ISO_8859_1"), accessFlags := 25, slot := 0, constantValue := 0 }]
  methods := #[k13m0]
  instanceTypes := #[(.object "java/lang/String"), (.array (.object "java/lang/String")), (.object "java/util/Set")]
  staticTypes := #[(.object "sun/nio/cs/ISO_8859_1")]
  resolved := Array.replicate 60 none
  statics := some 3 }

def pool14 : Array CpInfo := pool [(2, .class_ 4), (1, u "java/nio/charset/Charset"), (130, .class_ 136), (0, u "sun/nio/cs/Unicode"), (0, .class_ 138), (0, u "sun/nio/cs/HistoricallyNamedCharset")] 15

/-- sun/nio/cs/Unicode -/
def k14 : Class := { plain "sun/nio/cs/Unicode" (some 11) with
  accessFlags := 1056
  interfaces := #[12]
  cf := some (fileOf pool14 135 #[] #[] 1056 2 #[137] #[])
  fields := #[]
  methods := #[]
  instanceTypes := #[(.object "java/lang/String"), (.array (.object "java/lang/String")), (.object "java/util/Set")]
  staticTypes := #[]
  resolved := Array.replicate 154 none
  statics := none }

def pool15 : Array CpInfo := pool [(10, .class_ 12), (1, u "sun/nio/cs/Unicode"), (0, u "<init>"), (3, .class_ 18), (0, u "sun/nio/cs/UTF_8$Decoder"), (3, .class_ 23), (0, u "sun/nio/cs/UTF_8$Encoder"), (15, .class_ 40), (0, u "sun/nio/cs/UTF_8"), (2, u "()V"), (2, u "INSTANCE"), (0, u "Lsun/nio/cs/UTF_8;"), (8, u "JLA"), (0, u "Ljdk/internal/access/JavaLangAccess;")] 26

def k15m0 : Method := { name := "<init>", desc := "()V", sig := { parameters := [], returnType := none }, accessFlags := 1, code := none }
/-- sun/nio/cs/UTF_8 -/
def k15 : Class := { plain "sun/nio/cs/UTF_8" (some 14) with
  accessFlags := 49
  interfaces := #[]
  cf := some (fileOf pool15 39 #[.nestMembers #[22, 17]] #[{ accessFlags := 1, nameIndex := 13, descriptorIndex := 43, attributes := #[] }] 49 10 #[] #[{ accessFlags := 25, nameIndex := 46, descriptorIndex := 47, attributes := #[] }, { accessFlags := 26, nameIndex := 56, descriptorIndex := 57, attributes := #[] }])
  fields := #[{ name := "INSTANCE", type := (.object "sun/nio/cs/UTF_8"), accessFlags := 25, slot := 0, constantValue := 0 }, { name := "JLA", type := (.object "jdk/internal/access/JavaLangAccess"), accessFlags := 26, slot := 1, constantValue := 0 }]
  methods := #[k15m0]
  instanceTypes := #[(.object "java/lang/String"), (.array (.object "java/lang/String")), (.object "java/util/Set")]
  staticTypes := #[(.object "sun/nio/cs/UTF_8"), (.object "jdk/internal/access/JavaLangAccess")]
  resolved := Array.replicate 84 none
  statics := some 4 }

def pool16 : Array CpInfo := pool [(1, .class_ 2), (0, u "java/lang/Cloneable"), (0, .class_ 4), (0, u "java/lang/Object")] 2

/-- java/lang/Cloneable -/
def k16 : Class := { plain "java/lang/Cloneable" (some 0) with
  accessFlags := 1537
  interfaces := #[]
  cf := some (fileOf pool16 1 #[] #[] 1537 3 #[] #[])
  fields := #[]
  methods := #[]
  instanceTypes := #[]
  staticTypes := #[]
  resolved := Array.replicate 7 none
  statics := none }

def pool17 : Array CpInfo := pool [(2, .class_ 4), (1, u "java/lang/Object"), (0, u "<init>"), (1, .fieldref 8 9), (0, .class_ 10), (0, .nameAndType 11 12), (0, u "java/util/Base64$Encoder"), (0, u "isURL"), (0, u "Z"), (2, u "newline"), (0, u "[B"), (0, .fieldref 8 18), (0, .nameAndType 19 20), (0, u "linemax"), (0, u "I"), (0, .fieldref 8 22), (0, .nameAndType 23 12), (0, u "doPadding"), (0, .methodref 25 26), (0, .class_ 27), (0, .nameAndType 28 29), (0, u "java/lang/Math"), (0, u "addExact"), (0, u "(II)I"), (0, .methodref 25 31), (0, .nameAndType 32 29), (0, u "multiplyExact"), (9, .methodref 8 43), (0, .nameAndType 44 45), (0, u "encodedOutLength"), (0, u "(IZ)I"), (0, .methodref 8 47), (0, .nameAndType 48 49), (0, u "encode0"), (0, u "([BII[B)I"), (11, .methodref 8 62), (0, .nameAndType 63 64), (0, u "encode"), (0, u "([B)[B"), (0, .class_ 66), (0, u "java/lang/String"), (0, .methodref 65 68), (0, .nameAndType 5 69), (0, u "([BIII)V"), (41, .fieldref 8 112), (0, .nameAndType 113 114), (0, u "toBase64URL"), (0, u "[C"), (2, u "toBase64"), (6, .methodref 25 125), (0, .nameAndType 126 29), (0, u "min"), (0, .methodref 8 128), (0, .nameAndType 129 130), (0, u "encodeBlock"), (0, u "([BII[BIZ)V"), (2, u "CRLF"), (2, u "RFC4648"), (0, u "Ljava/util/Base64$Encoder;"), (2, u "RFC4648_URLSAFE"), (2, u "RFC2045"), (0, u "MIMELINEMAX"), (18, u "encodeToString"), (0, u "([B)Ljava/lang/String;"), (34, .class_ 200), (0, u "java/util/Base64")] 3

def k17c0 : Code := { maxStack := 3, maxLocals := 5, code := jdk_2452_method_2_code, exceptionTable := #[{ startPc := 2, endPc := 79, handlerPc := 82, catchType := 33 }], attributes := #[] }
def k17m0 : Method := { name := "encodedOutLength", desc := "(IZ)I", sig := { parameters := [.int, .boolean], returnType := some .int }, accessFlags := 18, code := some k17c0 }
def k17c1 : Code := { maxStack := 5, maxLocals := 5, code := jdk_2452_method_3_code, exceptionTable := #[], attributes := #[] }
def k17m1 : Method := { name := "encode", desc := "([B)[B", sig := { parameters := [(.array .byte)], returnType := some (.array .byte) }, accessFlags := 1, code := some k17c1 }
def k17c2 : Code := { maxStack := 6, maxLocals := 3, code := jdk_2452_method_5_code, exceptionTable := #[], attributes := #[] }
def k17m2 : Method := { name := "encodeToString", desc := "([B)Ljava/lang/String;", sig := { parameters := [(.array .byte)], returnType := some (.object "java/lang/String") }, accessFlags := 1, code := some k17c2 }
def k17c3 : Code := { maxStack := 5, maxLocals := 11, code := jdk_2452_method_9_code, exceptionTable := #[], attributes := #[] }
def k17m3 : Method := { name := "encodeBlock", desc := "([BII[BIZ)V", sig := { parameters := [(.array .byte), .int, .int, (.array .byte), .int, .boolean], returnType := none }, accessFlags := 2, code := some k17c3 }
def k17c4 : Code := { maxStack := 7, maxLocals := 16, code := jdk_2452_method_10_code, exceptionTable := #[], attributes := #[] }
def k17m4 : Method := { name := "encode0", desc := "([BII[B)I", sig := { parameters := [(.array .byte), .int, .int, (.array .byte)], returnType := some .int }, accessFlags := 2, code := some k17c4 }
/-- java/util/Base64$Encoder -/
def k17 : Class := { plain "java/util/Base64$Encoder" (some 0) with
  accessFlags := 33
  interfaces := #[]
  cf := some (fileOf pool17 8 #[.nestHost 199] #[{ accessFlags := 18, nameIndex := 44, descriptorIndex := 45, attributes := #[] }, { accessFlags := 1, nameIndex := 63, descriptorIndex := 64, attributes := #[] }, { accessFlags := 1, nameIndex := 163, descriptorIndex := 164, attributes := #[] }, { accessFlags := 2, nameIndex := 129, descriptorIndex := 130, attributes := #[] }, { accessFlags := 2, nameIndex := 48, descriptorIndex := 49, attributes := #[] }] 33 2 #[] #[{ accessFlags := 18, nameIndex := 15, descriptorIndex := 16, attributes := #[] }, { accessFlags := 18, nameIndex := 19, descriptorIndex := 20, attributes := #[] }, { accessFlags := 18, nameIndex := 11, descriptorIndex := 12, attributes := #[] }, { accessFlags := 18, nameIndex := 23, descriptorIndex := 12, attributes := #[] }, { accessFlags := 26, nameIndex := 117, descriptorIndex := 114, attributes := #[] }, { accessFlags := 26, nameIndex := 113, descriptorIndex := 114, attributes := #[] }, { accessFlags := 26, nameIndex := 144, descriptorIndex := 20, attributes := #[] }, { accessFlags := 26, nameIndex := 133, descriptorIndex := 16, attributes := #[] }, { accessFlags := 24, nameIndex := 136, descriptorIndex := 137, attributes := #[] }, { accessFlags := 24, nameIndex := 140, descriptorIndex := 137, attributes := #[] }, { accessFlags := 24, nameIndex := 143, descriptorIndex := 137, attributes := #[] }])
  fields := #[{ name := "newline", type := (.array .byte), accessFlags := 18, slot := 0, constantValue := 0 }, { name := "linemax", type := .int, accessFlags := 18, slot := 1, constantValue := 0 }, { name := "isURL", type := .boolean, accessFlags := 18, slot := 2, constantValue := 0 }, { name := "doPadding", type := .boolean, accessFlags := 18, slot := 3, constantValue := 0 }, { name := "toBase64", type := (.array .char), accessFlags := 26, slot := 0, constantValue := 0 }, { name := "toBase64URL", type := (.array .char), accessFlags := 26, slot := 1, constantValue := 0 }, { name := "MIMELINEMAX", type := .int, accessFlags := 26, slot := 2, constantValue := 0 }, { name := "CRLF", type := (.array .byte), accessFlags := 26, slot := 3, constantValue := 0 }, { name := "RFC4648", type := (.object "java/util/Base64$Encoder"), accessFlags := 24, slot := 4, constantValue := 0 }, { name := "RFC4648_URLSAFE", type := (.object "java/util/Base64$Encoder"), accessFlags := 24, slot := 5, constantValue := 0 }, { name := "RFC2045", type := (.object "java/util/Base64$Encoder"), accessFlags := 24, slot := 6, constantValue := 0 }]
  methods := #[k17m0, k17m1, k17m2, k17m3, k17m4]
  instanceTypes := #[(.array .byte), .int, .boolean, .boolean]
  staticTypes := #[(.array .char), (.array .char), .int, (.array .byte), (.object "java/util/Base64$Encoder"), (.object "java/util/Base64$Encoder"), (.object "java/util/Base64$Encoder")]
  resolved := Array.replicate 204 none
  statics := some 5 }

def pool18 : Array CpInfo := pool [(1, .class_ 2), (0, u "java/lang/Math"), (1, .class_ 6), (1, u "java/lang/Object"), (0, u "<init>"), (0, u "()V"), (89, .class_ 100), (1, u "java/lang/Math$RandomNumberGeneratorHolder"), (19, u "multiplyExact"), (51, u "negativeZeroFloatBits"), (0, u "J"), (2, u "negativeZeroDoubleBits"), (24, u "min"), (43, u "$assertionsDisabled"), (0, u "Z"), (88, u "(II)I"), (2, u "twoToTheDoubleScaleDown"), (0, u "D"), (4, u "twoToTheDoubleScaleUp"), (9, u "E"), (3, u "PI"), (2, u "TAU"), (2, u "DEGREES_TO_RADIANS"), (0, u "RADIANS_TO_DEGREES"), (27, u "addExact")] 66

def k18m0 : Method := { name := "<init>", desc := "()V", sig := { parameters := [], returnType := none }, accessFlags := 2, code := none }
def k18c1 : Code := { maxStack := 3, maxLocals := 3, code := jdk_29_method_24_code, exceptionTable := #[], attributes := #[] }
def k18m1 : Method := { name := "addExact", desc := "(II)I", sig := { parameters := [.int, .int], returnType := some .int }, accessFlags := 9, code := some k18c1 }
def k18c2 : Code := { maxStack := 4, maxLocals := 4, code := jdk_29_method_28_code, exceptionTable := #[], attributes := #[] }
def k18m2 : Method := { name := "multiplyExact", desc := "(II)I", sig := { parameters := [.int, .int], returnType := some .int }, accessFlags := 9, code := some k18c2 }
def k18c3 : Code := { maxStack := 2, maxLocals := 2, code := jdk_29_method_69_code, exceptionTable := #[], attributes := #[] }
def k18m3 : Method := { name := "min", desc := "(II)I", sig := { parameters := [.int, .int], returnType := some .int }, accessFlags := 9, code := some k18c3 }
/-- java/lang/Math -/
def k18 : Class := { plain "java/lang/Math" (some 0) with
  accessFlags := 49
  interfaces := #[]
  cf := some (fileOf pool18 1 #[.nestMembers #[98]] #[{ accessFlags := 2, nameIndex := 7, descriptorIndex := 8, attributes := #[] }, { accessFlags := 9, nameIndex := 393, descriptorIndex := 335, attributes := #[] }, { accessFlags := 9, nameIndex := 120, descriptorIndex := 335, attributes := #[] }, { accessFlags := 9, nameIndex := 201, descriptorIndex := 335, attributes := #[] }] 49 4 #[] #[{ accessFlags := 25, nameIndex := 354, descriptorIndex := 339, attributes := #[] }, { accessFlags := 25, nameIndex := 358, descriptorIndex := 339, attributes := #[] }, { accessFlags := 25, nameIndex := 361, descriptorIndex := 339, attributes := #[] }, { accessFlags := 26, nameIndex := 364, descriptorIndex := 339, attributes := #[] }, { accessFlags := 26, nameIndex := 365, descriptorIndex := 339, attributes := #[] }, { accessFlags := 26, nameIndex := 172, descriptorIndex := 173, attributes := #[] }, { accessFlags := 26, nameIndex := 176, descriptorIndex := 173, attributes := #[] }, { accessFlags := 8, nameIndex := 344, descriptorIndex := 339, attributes := #[] }, { accessFlags := 8, nameIndex := 338, descriptorIndex := 339, attributes := #[] }, { accessFlags := 4120, nameIndex := 245, descriptorIndex := 246, attributes := #[] }])
  fields := #[{ name := "E", type := .double, accessFlags := 25, slot := 0, constantValue := 0 }, { name := "PI", type := .double, accessFlags := 25, slot := 1, constantValue := 0 }, { name := "TAU", type := .double, accessFlags := 25, slot := 2, constantValue := 0 }, { name := "DEGREES_TO_RADIANS", type := .double, accessFlags := 26, slot := 3, constantValue := 0 }, { name := "RADIANS_TO_DEGREES", type := .double, accessFlags := 26, slot := 4, constantValue := 0 }, { name := "negativeZeroFloatBits", type := .long, accessFlags := 26, slot := 5, constantValue := 0 }, { name := "negativeZeroDoubleBits", type := .long, accessFlags := 26, slot := 6, constantValue := 0 }, { name := "twoToTheDoubleScaleUp", type := .double, accessFlags := 8, slot := 7, constantValue := 0 }, { name := "twoToTheDoubleScaleDown", type := .double, accessFlags := 8, slot := 8, constantValue := 0 }, { name := "$assertionsDisabled", type := .boolean, accessFlags := 4120, slot := 9, constantValue := 0 }]
  methods := #[k18m0, k18m1, k18m2, k18m3]
  instanceTypes := #[]
  staticTypes := #[.double, .double, .double, .double, .double, .long, .long, .double, .double, .boolean]
  resolved := Array.replicate 460 none
  statics := none }

def pool19 : Array CpInfo := pool [(2, .class_ 4), (1, u "java/lang/Object"), (0, u "<init>"), (0, u "()V"), (17, .class_ 26), (1, u "jdk/internal/util/Preconditions"), (22, u "checkFromIndexSize"), (5, .class_ 56), (0, u "jdk/internal/util/Preconditions$4"), (57, .class_ 115), (0, u "jdk/internal/util/Preconditions$1"), (7, u "SIOOBE_FORMATTER"), (0, u "Ljava/util/function/BiFunction;"), (0, .class_ 126), (0, u "jdk/internal/util/Preconditions$2"), (3, u "AIOOBE_FORMATTER"), (0, .class_ 132), (0, u "jdk/internal/util/Preconditions$3"), (3, u "IOOBE_FORMATTER"), (46, u "(IIILjava/util/function/BiFunction;)I")] 10

def k19m0 : Method := { name := "<init>", desc := "()V", sig := { parameters := [], returnType := none }, accessFlags := 1, code := none }
def k19c1 : Code := { maxStack := 4, maxLocals := 4, code := jdk_41_method_13_code, exceptionTable := #[], attributes := #[] }
def k19m1 : Method := { name := "checkFromIndexSize", desc := "(IIILjava/util/function/BiFunction;)I", sig := { parameters := [.int, .int, .int, (.object "java/util/function/BiFunction")], returnType := some .int }, accessFlags := 9, code := some k19c1 }
/-- jdk/internal/util/Preconditions -/
def k19 : Class := { plain "jdk/internal/util/Preconditions" (some 0) with
  accessFlags := 33
  interfaces := #[]
  cf := some (fileOf pool19 24 #[.nestMembers #[55, 131, 125, 114]] #[{ accessFlags := 1, nameIndex := 5, descriptorIndex := 6, attributes := #[] }, { accessFlags := 9, nameIndex := 49, descriptorIndex := 183, attributes := #[] }] 33 2 #[] #[{ accessFlags := 25, nameIndex := 123, descriptorIndex := 124, attributes := #[] }, { accessFlags := 25, nameIndex := 130, descriptorIndex := 124, attributes := #[] }, { accessFlags := 25, nameIndex := 136, descriptorIndex := 124, attributes := #[] }])
  fields := #[{ name := "SIOOBE_FORMATTER", type := (.object "java/util/function/BiFunction"), accessFlags := 25, slot := 0, constantValue := 0 }, { name := "AIOOBE_FORMATTER", type := (.object "java/util/function/BiFunction"), accessFlags := 25, slot := 1, constantValue := 0 }, { name := "IOOBE_FORMATTER", type := (.object "java/util/function/BiFunction"), accessFlags := 25, slot := 2, constantValue := 0 }]
  methods := #[k19m0, k19m1]
  instanceTypes := #[]
  staticTypes := #[(.object "java/util/function/BiFunction"), (.object "java/util/function/BiFunction"), (.object "java/util/function/BiFunction")]
  resolved := Array.replicate 194 none
  statics := some 6 }

def pool20 : Array CpInfo := pool [(2, .class_ 4), (1, u "java/lang/Object"), (0, u "<init>"), (0, u "()V"), (7, .class_ 16), (1, u "java/util/Arrays"), (57, .class_ 76), (1, u "java/util/Arrays$NaturalOrder"), (32, u "()Ljava/lang/Object;"), (3, .class_ 115), (1, u "java/util/Arrays$LegacyMergeSort"), (1, u "Z"), (10, .nameAndType 129 109), (0, u "clone"), (9, u "copyOfRange"), (170, .methodref 311 128), (0, .class_ 312), (0, u "[B"), (29, u "([BII)[B"), (32, .class_ 376), (0, u "java/util/Arrays$ArrayList"), (68, u "$assertionsDisabled"), (269, u "MIN_ARRAY_SORT_GRAN"), (0, u "I"), (2, u "INSERTIONSORT_THRESHOLD"), (255, .class_ 976), (0, u "java/util/Arrays$ArrayItr")] 52

def k20m0 : Method := { name := "<init>", desc := "()V", sig := { parameters := [], returnType := none }, accessFlags := 2, code := none }
def k20c1 : Code := { maxStack := 3, maxLocals := 3, code := jdk_65_method_132_code, exceptionTable := #[], attributes := #[] }
def k20m1 : Method := { name := "copyOfRange", desc := "([BII)[B", sig := { parameters := [(.array .byte), .int, .int], returnType := some (.array .byte) }, accessFlags := 9, code := some k20c1 }
/-- java/util/Arrays -/
def k20 : Class := { plain "java/util/Arrays" (some 0) with
  accessFlags := 49
  interfaces := #[]
  cf := some (fileOf pool20 14 #[.nestMembers #[975, 375, 113, 74]] #[{ accessFlags := 2, nameIndex := 5, descriptorIndex := 6, attributes := #[] }, { accessFlags := 9, nameIndex := 139, descriptorIndex := 342, attributes := #[] }] 49 2 #[] #[{ accessFlags := 26, nameIndex := 715, descriptorIndex := 716, attributes := #[] }, { accessFlags := 26, nameIndex := 719, descriptorIndex := 716, attributes := #[] }, { accessFlags := 4120, nameIndex := 445, descriptorIndex := 117, attributes := #[] }])
  fields := #[{ name := "MIN_ARRAY_SORT_GRAN", type := .int, accessFlags := 26, slot := 0, constantValue := 0 }, { name := "INSERTIONSORT_THRESHOLD", type := .int, accessFlags := 26, slot := 1, constantValue := 0 }, { name := "$assertionsDisabled", type := .boolean, accessFlags := 4120, slot := 2, constantValue := 0 }]
  methods := #[k20m0, k20m1]
  instanceTypes := #[]
  staticTypes := #[.int, .int, .boolean]
  resolved := Array.replicate 1029 none
  statics := none }

def pool21 : Array CpInfo := pool [(4, .class_ 6), (1, u "java/lang/Object"), (0, u "<init>"), (0, u "()V"), (5, .class_ 16), (1, u "java/lang/StringLatin1"), (104, u "$assertionsDisabled"), (0, u "Z"), (98, .class_ 223), (1, u "java/lang/StringLatin1$LinesSpliterator"), (57, u "equals"), (0, u "([B[B)Z"), (107, .class_ 391), (0, u "java/lang/StringLatin1$CharsSpliterator")] 3

def k21m0 : Method := { name := "<init>", desc := "()V", sig := { parameters := [], returnType := none }, accessFlags := 0, code := none }
def k21c1 : Code := { maxStack := 3, maxLocals := 3, code := jdk_43_method_13_code, exceptionTable := #[], attributes := #[] }
def k21m1 : Method := { name := "equals", desc := "([B[B)Z", sig := { parameters := [(.array .byte), (.array .byte)], returnType := some .boolean }, accessFlags := 9, code := some k21c1 }
/-- java/lang/StringLatin1 -/
def k21 : Class := { plain "java/lang/StringLatin1" (some 0) with
  accessFlags := 48
  interfaces := #[]
  cf := some (fileOf pool21 14 #[.nestMembers #[390, 221]] #[{ accessFlags := 0, nameIndex := 7, descriptorIndex := 8, attributes := #[] }, { accessFlags := 9, nameIndex := 281, descriptorIndex := 282, attributes := #[] }] 48 4 #[] #[{ accessFlags := 4120, nameIndex := 121, descriptorIndex := 122, attributes := #[] }])
  fields := #[{ name := "$assertionsDisabled", type := .boolean, accessFlags := 4120, slot := 0, constantValue := 0 }]
  methods := #[k21m0, k21m1]
  instanceTypes := #[]
  staticTypes := #[.boolean]
  resolved := Array.replicate 395 none
  statics := none }

def pool22 : Array CpInfo := pool [(9, u "<init>"), (6, .class_ 18), (1, u "java/lang/Object"), (0, u "()V"), (1, .class_ 23), (1, u "jdk/internal/util/ArraysSupport"), (0, u "LOG2_ARRAY_LONG_INDEX_SCALE"), (0, u "I"), (2, u "U"), (0, u "Ljdk/internal/misc/Unsafe;"), (8, u "BIG_ENDIAN"), (0, u "Z"), (8, u "LOG2_BYTE_BIT_SIZE"), (4, u "LOG2_ARRAY_INT_INDEX_SCALE"), (54, u "JLA"), (0, u "Ljdk/internal/access/JavaLangAccess;"), (11, u "LOG2_ARRAY_BOOLEAN_INDEX_SCALE"), (9, u "LOG2_ARRAY_BYTE_INDEX_SCALE"), (5, u "LOG2_ARRAY_CHAR_INDEX_SCALE"), (5, u "LOG2_ARRAY_SHORT_INDEX_SCALE"), (18, u "LOG2_ARRAY_FLOAT_INDEX_SCALE"), (24, u "LOG2_ARRAY_DOUBLE_INDEX_SCALE"), (89, u "T_BOOLEAN"), (2, u "T_CHAR"), (1, u "T_FLOAT"), (1, u "T_DOUBLE"), (1, u "T_BYTE"), (1, u "T_SHORT"), (1, u "T_INT"), (1, u "T_LONG"), (1, u "SOFT_MAX_ARRAY_LENGTH")] 83

def k22m0 : Method := { name := "<init>", desc := "()V", sig := { parameters := [], returnType := none }, accessFlags := 2, code := none }
/-- jdk/internal/util/ArraysSupport -/
def k22 : Class := { plain "jdk/internal/util/ArraysSupport" (some 0) with
  accessFlags := 33
  interfaces := #[]
  cf := some (fileOf pool22 21 #[] #[{ accessFlags := 2, nameIndex := 9, descriptorIndex := 19, attributes := #[] }] 33 16 #[] #[{ accessFlags := 24, nameIndex := 28, descriptorIndex := 29, attributes := #[] }, { accessFlags := 26, nameIndex := 38, descriptorIndex := 39, attributes := #[] }, { accessFlags := 25, nameIndex := 121, descriptorIndex := 25, attributes := #[] }, { accessFlags := 25, nameIndex := 131, descriptorIndex := 25, attributes := #[] }, { accessFlags := 25, nameIndex := 137, descriptorIndex := 25, attributes := #[] }, { accessFlags := 25, nameIndex := 143, descriptorIndex := 25, attributes := #[] }, { accessFlags := 25, nameIndex := 53, descriptorIndex := 25, attributes := #[] }, { accessFlags := 25, nameIndex := 24, descriptorIndex := 25, attributes := #[] }, { accessFlags := 25, nameIndex := 162, descriptorIndex := 25, attributes := #[] }, { accessFlags := 25, nameIndex := 187, descriptorIndex := 25, attributes := #[] }, { accessFlags := 26, nameIndex := 48, descriptorIndex := 25, attributes := #[] }, { accessFlags := 25, nameIndex := 277, descriptorIndex := 25, attributes := #[] }, { accessFlags := 25, nameIndex := 280, descriptorIndex := 25, attributes := #[] }, { accessFlags := 25, nameIndex := 282, descriptorIndex := 25, attributes := #[] }, { accessFlags := 25, nameIndex := 284, descriptorIndex := 25, attributes := #[] }, { accessFlags := 25, nameIndex := 286, descriptorIndex := 25, attributes := #[] }, { accessFlags := 25, nameIndex := 288, descriptorIndex := 25, attributes := #[] }, { accessFlags := 25, nameIndex := 290, descriptorIndex := 25, attributes := #[] }, { accessFlags := 25, nameIndex := 292, descriptorIndex := 25, attributes := #[] }, { accessFlags := 26, nameIndex := 108, descriptorIndex := 109, attributes := #[] }, { accessFlags := 25, nameIndex := 294, descriptorIndex := 25, attributes := #[] }])
  fields := #[{ name := "U", type := (.object "jdk/internal/misc/Unsafe"), accessFlags := 24, slot := 0, constantValue := 0 }, { name := "BIG_ENDIAN", type := .boolean, accessFlags := 26, slot := 1, constantValue := 0 }, { name := "LOG2_ARRAY_BOOLEAN_INDEX_SCALE", type := .int, accessFlags := 25, slot := 2, constantValue := 0 }, { name := "LOG2_ARRAY_BYTE_INDEX_SCALE", type := .int, accessFlags := 25, slot := 3, constantValue := 0 }, { name := "LOG2_ARRAY_CHAR_INDEX_SCALE", type := .int, accessFlags := 25, slot := 4, constantValue := 0 }, { name := "LOG2_ARRAY_SHORT_INDEX_SCALE", type := .int, accessFlags := 25, slot := 5, constantValue := 0 }, { name := "LOG2_ARRAY_INT_INDEX_SCALE", type := .int, accessFlags := 25, slot := 6, constantValue := 0 }, { name := "LOG2_ARRAY_LONG_INDEX_SCALE", type := .int, accessFlags := 25, slot := 7, constantValue := 0 }, { name := "LOG2_ARRAY_FLOAT_INDEX_SCALE", type := .int, accessFlags := 25, slot := 8, constantValue := 0 }, { name := "LOG2_ARRAY_DOUBLE_INDEX_SCALE", type := .int, accessFlags := 25, slot := 9, constantValue := 0 }, { name := "LOG2_BYTE_BIT_SIZE", type := .int, accessFlags := 26, slot := 10, constantValue := 0 }, { name := "T_BOOLEAN", type := .int, accessFlags := 25, slot := 11, constantValue := 0 }, { name := "T_CHAR", type := .int, accessFlags := 25, slot := 12, constantValue := 0 }, { name := "T_FLOAT", type := .int, accessFlags := 25, slot := 13, constantValue := 0 }, { name := "T_DOUBLE", type := .int, accessFlags := 25, slot := 14, constantValue := 0 }, { name := "T_BYTE", type := .int, accessFlags := 25, slot := 15, constantValue := 0 }, { name := "T_SHORT", type := .int, accessFlags := 25, slot := 16, constantValue := 0 }, { name := "T_INT", type := .int, accessFlags := 25, slot := 17, constantValue := 0 }, { name := "T_LONG", type := .int, accessFlags := 25, slot := 18, constantValue := 0 }, { name := "JLA", type := (.object "jdk/internal/access/JavaLangAccess"), accessFlags := 26, slot := 19, constantValue := 0 }, { name := "SOFT_MAX_ARRAY_LENGTH", type := .int, accessFlags := 25, slot := 20, constantValue := 0 }]
  methods := #[k22m0]
  instanceTypes := #[]
  staticTypes := #[(.object "jdk/internal/misc/Unsafe"), .boolean, .int, .int, .int, .int, .int, .int, .int, .int, .int, .int, .int, .int, .int, .int, .int, .int, .int, (.object "jdk/internal/access/JavaLangAccess"), .int]
  resolved := Array.replicate 378 none
  statics := none }

/-- the primitive byte -/
def k23 : Class := { plain "byte" none with kind := .primitive 'B', accessFlags := 0x411 }
/-- [B -/
def k24 : Class := { plain "[B" (some 0) with kind := .array 23 .byte, interfaces := #[16, 2], accessFlags := 1041 }

/-- the primitive char -/
def k25 : Class := { plain "char" none with kind := .primitive 'C', accessFlags := 0x411 }
/-- [C -/
def k26 : Class := { plain "[C" (some 0) with kind := .array 25 .char, interfaces := #[16, 2], accessFlags := 1041 }

/-- the primitive int -/
def k27 : Class := { plain "int" none with kind := .primitive 'I', accessFlags := 0x411 }
/-- [I -/
def k28 : Class := { plain "[I" (some 0) with kind := .array 27 .int, interfaces := #[16, 2], accessFlags := 1041 }

def heap : Heap := #[{ cls := 7, slots := #[.long 0, .int 1, .null, .int 0, .null, .int 0, .int 0], vm := .statics 7 },
  { cls := 9, slots := #[.ref 8, .ref 7], vm := .statics 9 },
  { cls := 10, slots := #[.null, .ref 12, .null, .null, .null], vm := .statics 10 },
  { cls := 13, slots := #[.ref 10], vm := .statics 13 },
  { cls := 15, slots := #[.ref 11, .null], vm := .statics 15 },
  { cls := 17, slots := #[.null, .ref 13, .int 0, .null, .null, .null, .null], vm := .statics 17 },
  { cls := 19, slots := #[.null, .null, .null], vm := .statics 19 },
  { cls := 10, slots := #[.int 1, .int 0], vm := .none },
  { cls := 17, slots := #[.null, .int (-1), .int 1, .int 0], vm := .none },
  { cls := 22, slots := #[], vm := .none },
  { cls := 13, slots := #[.null, .null, .null], vm := .none },
  { cls := 15, slots := #[.null, .null, .null], vm := .none },
  { cls := 28, slots := #[.int (-1), .int (-1), .int (-1), .int (-1), .int (-1), .int (-1), .int (-1), .int (-1), .int (-1), .int (-1), .int (-1), .int (-1), .int (-1), .int (-1), .int (-1), .int (-1), .int (-1), .int (-1), .int (-1), .int (-1), .int (-1), .int (-1), .int (-1), .int (-1), .int (-1), .int (-1), .int (-1), .int (-1), .int (-1), .int (-1), .int (-1), .int (-1), .int (-1), .int (-1), .int (-1), .int (-1), .int (-1), .int (-1), .int (-1), .int (-1), .int (-1), .int (-1), .int (-1), .int (-1), .int (-1), .int 62, .int (-1), .int (-1), .int 52, .int 53, .int 54, .int 55, .int 56, .int 57, .int 58, .int 59, .int 60, .int 61, .int (-1), .int (-1), .int (-1), .int (-2), .int (-1), .int (-1), .int (-1), .int 0, .int 1, .int 2, .int 3, .int 4, .int 5, .int 6, .int 7, .int 8, .int 9, .int 10, .int 11, .int 12, .int 13, .int 14, .int 15, .int 16, .int 17, .int 18, .int 19, .int 20, .int 21, .int 22, .int 23, .int 24, .int 25, .int (-1), .int (-1), .int (-1), .int (-1), .int 63, .int (-1), .int 26, .int 27, .int 28, .int 29, .int 30, .int 31, .int 32, .int 33, .int 34, .int 35, .int 36, .int 37, .int 38, .int 39, .int 40, .int 41, .int 42, .int 43, .int 44, .int 45, .int 46, .int 47, .int 48, .int 49, .int 50, .int 51, .int (-1), .int (-1), .int (-1), .int (-1), .int (-1), .int (-1), .int (-1), .int (-1), .int (-1), .int (-1), .int (-1), .int (-1), .int (-1), .int (-1), .int (-1), .int (-1), .int (-1), .int (-1), .int (-1), .int (-1), .int (-1), .int (-1), .int (-1), .int (-1), .int (-1), .int (-1), .int (-1), .int (-1), .int (-1), .int (-1), .int (-1), .int (-1), .int (-1), .int (-1), .int (-1), .int (-1), .int (-1), .int (-1), .int (-1), .int (-1), .int (-1), .int (-1), .int (-1), .int (-1), .int (-1), .int (-1), .int (-1), .int (-1), .int (-1), .int (-1), .int (-1), .int (-1), .int (-1), .int (-1), .int (-1), .int (-1), .int (-1), .int (-1), .int (-1), .int (-1), .int (-1), .int (-1), .int (-1), .int (-1), .int (-1), .int (-1), .int (-1), .int (-1), .int (-1), .int (-1), .int (-1), .int (-1), .int (-1), .int (-1), .int (-1), .int (-1), .int (-1), .int (-1), .int (-1), .int (-1), .int (-1), .int (-1), .int (-1), .int (-1), .int (-1), .int (-1), .int (-1), .int (-1), .int (-1), .int (-1), .int (-1), .int (-1), .int (-1), .int (-1), .int (-1), .int (-1), .int (-1), .int (-1), .int (-1), .int (-1), .int (-1), .int (-1), .int (-1), .int (-1), .int (-1), .int (-1), .int (-1), .int (-1), .int (-1), .int (-1), .int (-1), .int (-1), .int (-1), .int (-1), .int (-1), .int (-1), .int (-1), .int (-1), .int (-1), .int (-1), .int (-1), .int (-1), .int (-1), .int (-1), .int (-1), .int (-1), .int (-1), .int (-1), .int (-1), .int (-1), .int (-1), .int (-1), .int (-1)], vm := .none },
  { cls := 26, slots := #[.int 65, .int 66, .int 67, .int 68, .int 69, .int 70, .int 71, .int 72, .int 73, .int 74, .int 75, .int 76, .int 77, .int 78, .int 79, .int 80, .int 81, .int 82, .int 83, .int 84, .int 85, .int 86, .int 87, .int 88, .int 89, .int 90, .int 97, .int 98, .int 99, .int 100, .int 101, .int 102, .int 103, .int 104, .int 105, .int 106, .int 107, .int 108, .int 109, .int 110, .int 111, .int 112, .int 113, .int 114, .int 115, .int 116, .int 117, .int 118, .int 119, .int 120, .int 121, .int 122, .int 48, .int 49, .int 50, .int 51, .int 52, .int 53, .int 54, .int 55, .int 56, .int 57, .int 45, .int 95], vm := .none }]
def classes : Array Class := #[k0, k1, k2, k3, k4, k5, k6, k7, k8, k9, k10, k11, k12, k13, k14, k15, k16, k17, k18, k19, k20, k21, k22, k23, k24, k25, k26, k27, k28]
def interned : List (Array UInt16 × Addr) := []
def slotsUsed : Nat := 359
def theMethod : MethodId := ⟨1, 2⟩
def args0 : Array Value := #[.int 5, .int 3, .int 7, .int 8, .int 1, .int 3]
def aboutOver (below : List Frame) : State where
  vm := { classes := classes, interned := interned.toArray }
  heap := heap
  slotsUsed := slotsUsed
  threads := #[{ frames := .invoking theMethod args0 :: below }]
def below0 : List Frame := [.native { method := ⟨0, 0⟩, args := #[] }]
def about1 : State := aboutOver below0
def p0 : Program := .bare "" "" ""
def e0 : Env := launch0.env 0 0 0
theorem w_frames : about1.frames = Frame.invoking theMethod args0 :: below0 := rfl
set_option maxRecDepth 65536 in
theorem w_args : argsFit about1.vm theMethod args0 = true := by decide +kernel
set_option maxRecDepth 65536 in
theorem w_heap : heapFits about1 = true := by decide +kernel
set_option maxRecDepth 65536 in
theorem w_runnable : about1.curStatus? = some .runnable := by decide +kernel
set_option maxRecDepth 65536 in
theorem w_alone : about1.alone = true := by decide +kernel
set_option maxRecDepth 65536 in
theorem w_named : about1.methodNamed? x = some theMethod := by decide +kernel
set_option maxRecDepth 65536 in
theorem w_hears : about1.hears theMethod below0 = true := by decide +kernel
set_option maxRecDepth 65536 in
theorem w_ripe : about1.ripe theMethod args0 below0 = true := by decide +kernel
theorem w_running : about1.status = .running := rfl
set_option maxRecDepth 65536 in
theorem w_room : about1.hasRoom e0.platform room_1 = true :=
  launch0.hasRoom_least _ room_1 (by decide +kernel) (by decide +kernel) (by decide +kernel) (by decide +kernel) (by decide +kernel) (by decide +kernel)
theorem allAtoms_all (ts : List Jvm.Cond) (a : Array Jvm.Value) (st : Jvm.State) : (allAtoms ts).before a st = ts.all (fun c => c.before a st) := by
  induction ts with
  | nil => rfl
  | cons c t ih =>
    show (Jvm.Cond.and c (allAtoms t)).before a st = _
    rw [Jvm.Cond.before_and, ih, List.all_cons]
def words1 : List Jvm.Cond := Jvm.Cond.code x code maxLocals ret :: tables_1
/-- a 'code' word, met by the world's own term for the bytes: nothing is compared byte by byte -/
theorem code_word {y : MethodName} {bytes : ByteArray} {mx : Nat} {rt : Option FieldType} {a : Array Value} {s : State} {m : MethodId} {meth : Method} {c : Code} (h1 : s.methodNamed? y = some m) (h2 : s.vm.method? m = some meth) (h3 : meth.code = some c) (h4 : c.code = bytes)
    (h5 : (c.maxLocals == mx && c.exceptionTable.isEmpty && decide (c.maxStack ≤ mostOperands) && decide (meth.sig.returnType = rt) && !meth.locks && decide (parseMethodDescriptor y.desc = some meth.sig)) = true) : (Jvm.Cond.code y bytes mx rt).before a s = true := by
  simp only [Bool.and_eq_true, beq_iff_eq, Bool.not_eq_true', decide_eq_true_eq] at h5
  obtain ⟨⟨⟨⟨⟨g1, g2⟩, g3⟩, g4⟩, g5⟩, g6⟩ := h5
  simp [Cond.before, Cond.holds, Cond.value, h1, h2, h3, h4, g1, g2, g3, g4, g5, g6]
def isCode : Jvm.Cond → Bool
  | .code _ _ _ _ => true
  | _ => false
theorem all_split {L : List Jvm.Cond} {P : Jvm.Cond → Bool} (h1 : L.all (fun c => isCode c || P c) = true) (h2 : ∀ c ∈ L.filter isCode, P c = true) : L.all P = true := by
  refine List.all_eq_true.mpr fun c hc => ?_
  have h := List.all_eq_true.mp h1 c hc
  rcases Bool.eq_false_or_eq_true (isCode c) with hi | hi
  · exact h2 c (List.mem_filter.mpr ⟨hc, hi⟩)
  · simpa [hi] using h
set_option maxRecDepth 65536 in
theorem w_c0 : (Jvm.Cond.code x code maxLocals ret).before args0 about1 = true := code_word (m := ⟨1, 2⟩) (meth := k1m2) (c := k1c2) (by decide +kernel) rfl rfl rfl (by decide +kernel)
set_option maxRecDepth 65536 in
theorem w_c1 : (Jvm.Cond.code ({ cls := "com/example/cartiglio/cartiglio/core/Base64UrlDecodeStrictPinLaw", name := "sym", desc := "(I)C" } : Jvm.MethodName) method_2_code (1 : Nat) (Option.some Jvm.ClassFile.FieldType.char)).before args0 about1 = true := code_word (m := ⟨1, 1⟩) (meth := k1m1) (c := k1c1) (by decide +kernel) rfl rfl rfl (by decide +kernel)
set_option maxRecDepth 65536 in
theorem w_c2 : (Jvm.Cond.code ({ cls := "java/lang/String", name := "<init>", desc := "([C)V" } : Jvm.MethodName) jdk_42_method_3_code (2 : Nat) (Option.none : Option Jvm.ClassFile.FieldType)).before args0 about1 = true := code_word (m := ⟨7, 1⟩) (meth := k7m1) (c := k7c1) (by decide +kernel) rfl rfl rfl (by decide +kernel)
set_option maxRecDepth 65536 in
theorem w_c3 : (Jvm.Cond.code ({ cls := "java/lang/String", name := "<init>", desc := "([CIILjava/lang/Void;)V" } : Jvm.MethodName) jdk_42_method_149_code (6 : Nat) (Option.none : Option Jvm.ClassFile.FieldType)).before args0 about1 = true := code_word (m := ⟨7, 8⟩) (meth := k7m8) (c := k7c8) (by decide +kernel) rfl rfl rfl (by decide +kernel)
set_option maxRecDepth 65536 in
theorem w_c4 : (Jvm.Cond.code ({ cls := "java/lang/Object", name := "<init>", desc := "()V" } : Jvm.MethodName) object_method_1_code (1 : Nat) (Option.none : Option Jvm.ClassFile.FieldType)).before args0 about1 = true := code_word (m := ⟨0, 0⟩) (meth := k0m0) (c := k0c0) (by decide +kernel) rfl rfl rfl (by decide +kernel)
set_option maxRecDepth 65536 in
theorem w_c5 : (Jvm.Cond.code ({ cls := "java/lang/StringUTF16", name := "compress", desc := "([CII)[B" } : Jvm.MethodName) jdk_52_method_16_code (6 : Nat) (Option.some (Jvm.ClassFile.FieldType.array Jvm.ClassFile.FieldType.byte))).before args0 about1 = true := code_word (m := ⟨8, 2⟩) (meth := k8m2) (c := k8c2) (by decide +kernel) rfl rfl rfl (by decide +kernel)
set_option maxRecDepth 65536 in
theorem w_c6 : (Jvm.Cond.code ({ cls := "java/lang/StringUTF16", name := "compress", desc := "([CI[BII)I" } : Jvm.MethodName) jdk_52_method_21_code (7 : Nat) (Option.some Jvm.ClassFile.FieldType.int)).before args0 about1 = true := code_word (m := ⟨8, 3⟩) (meth := k8m3) (c := k8c3) (by decide +kernel) rfl rfl rfl (by decide +kernel)
set_option maxRecDepth 65536 in
theorem w_c7 : (Jvm.Cond.code ({ cls := "java/lang/StringUTF16", name := "coderFromArrayLen", desc := "([BI)B" } : Jvm.MethodName) jdk_52_method_15_code (2 : Nat) (Option.some Jvm.ClassFile.FieldType.byte)).before args0 about1 = true := code_word (m := ⟨8, 1⟩) (meth := k8m1) (c := k8c1) (by decide +kernel) rfl rfl rfl (by decide +kernel)
set_option maxRecDepth 65536 in
theorem w_c8 : (Jvm.Cond.code ({ cls := "java/util/Base64$Decoder", name := "decode", desc := "(Ljava/lang/String;)[B" } : Jvm.MethodName) jdk_2450_method_3_code (2 : Nat) (Option.some (Jvm.ClassFile.FieldType.array Jvm.ClassFile.FieldType.byte))).before args0 about1 = true := code_word (m := ⟨10, 1⟩) (meth := k10m1) (c := k10c1) (by decide +kernel) rfl rfl rfl (by decide +kernel)
set_option maxRecDepth 65536 in
theorem w_c9 : (Jvm.Cond.code ({ cls := "java/lang/String", name := "getBytes", desc := "(Ljava/nio/charset/Charset;)[B" } : Jvm.MethodName) jdk_42_method_64_code (2 : Nat) (Option.some (Jvm.ClassFile.FieldType.array Jvm.ClassFile.FieldType.byte))).before args0 about1 = true := code_word (m := ⟨7, 6⟩) (meth := k7m6) (c := k7c6) (by decide +kernel) rfl rfl rfl (by decide +kernel)
set_option maxRecDepth 65536 in
theorem w_c10 : (Jvm.Cond.code ({ cls := "java/lang/String", name := "coder", desc := "()B" } : Jvm.MethodName) jdk_42_method_152_code (1 : Nat) (Option.some Jvm.ClassFile.FieldType.byte)).before args0 about1 = true := code_word (m := ⟨7, 9⟩) (meth := k7m9) (c := k7c9) (by decide +kernel) rfl rfl rfl (by decide +kernel)
set_option maxRecDepth 65536 in
theorem w_c11 : (Jvm.Cond.code ({ cls := "java/lang/String", name := "encode", desc := "(Ljava/nio/charset/Charset;B[B)[B" } : Jvm.MethodName) jdk_42_method_18_code (3 : Nat) (Option.some (Jvm.ClassFile.FieldType.array Jvm.ClassFile.FieldType.byte))).before args0 about1 = true := code_word (m := ⟨7, 3⟩) (meth := k7m3) (c := k7c3) (by decide +kernel) rfl rfl rfl (by decide +kernel)
set_option maxRecDepth 65536 in
theorem w_c12 : (Jvm.Cond.code ({ cls := "java/lang/String", name := "encode8859_1", desc := "(B[B)[B" } : Jvm.MethodName) jdk_42_method_26_code (2 : Nat) (Option.some (Jvm.ClassFile.FieldType.array Jvm.ClassFile.FieldType.byte))).before args0 about1 = true := code_word (m := ⟨7, 4⟩) (meth := k7m4) (c := k7c4) (by decide +kernel) rfl rfl rfl (by decide +kernel)
set_option maxRecDepth 65536 in
theorem w_c13 : (Jvm.Cond.code ({ cls := "java/lang/String", name := "encode8859_1", desc := "(B[BZ)[B" } : Jvm.MethodName) jdk_42_method_27_code (10 : Nat) (Option.some (Jvm.ClassFile.FieldType.array Jvm.ClassFile.FieldType.byte))).before args0 about1 = true := code_word (m := ⟨7, 5⟩) (meth := k7m5) (c := k7c5) (by decide +kernel) rfl rfl rfl (by decide +kernel)
set_option maxRecDepth 65536 in
theorem w_c14 : (Jvm.Cond.code ({ cls := "java/util/Base64$Decoder", name := "decode", desc := "([B)[B" } : Jvm.MethodName) jdk_2450_method_2_code (4 : Nat) (Option.some (Jvm.ClassFile.FieldType.array Jvm.ClassFile.FieldType.byte))).before args0 about1 = true := code_word (m := ⟨10, 0⟩) (meth := k10m0) (c := k10c0) (by decide +kernel) rfl rfl rfl (by decide +kernel)
set_option maxRecDepth 65536 in
theorem w_c15 : (Jvm.Cond.code ({ cls := "java/util/Base64$Decoder", name := "decodedOutLength", desc := "([BII)I" } : Jvm.MethodName) jdk_2450_method_7_code (9 : Nat) (Option.some Jvm.ClassFile.FieldType.int)).before args0 about1 = true := code_word (m := ⟨10, 2⟩) (meth := k10m2) (c := k10c2) (by decide +kernel) rfl rfl rfl (by decide +kernel)
set_option maxRecDepth 65536 in
theorem w_c16 : (Jvm.Cond.code ({ cls := "java/util/Base64$Decoder", name := "decode0", desc := "([BII[B)I" } : Jvm.MethodName) jdk_2450_method_9_code (11 : Nat) (Option.some Jvm.ClassFile.FieldType.int)).before args0 about1 = true := code_word (m := ⟨10, 4⟩) (meth := k10m4) (c := k10c4) (by decide +kernel) rfl rfl rfl (by decide +kernel)
set_option maxRecDepth 65536 in
theorem w_c17 : (Jvm.Cond.code ({ cls := "java/util/Base64$Encoder", name := "encodeToString", desc := "([B)Ljava/lang/String;" } : Jvm.MethodName) jdk_2452_method_5_code (3 : Nat) (Option.some (Jvm.ClassFile.FieldType.object "java/lang/String"))).before args0 about1 = true := code_word (m := ⟨17, 2⟩) (meth := k17m2) (c := k17c2) (by decide +kernel) rfl rfl rfl (by decide +kernel)
set_option maxRecDepth 65536 in
theorem w_c18 : (Jvm.Cond.code ({ cls := "java/util/Base64$Encoder", name := "encode", desc := "([B)[B" } : Jvm.MethodName) jdk_2452_method_3_code (5 : Nat) (Option.some (Jvm.ClassFile.FieldType.array Jvm.ClassFile.FieldType.byte))).before args0 about1 = true := code_word (m := ⟨17, 1⟩) (meth := k17m1) (c := k17c1) (by decide +kernel) rfl rfl rfl (by decide +kernel)
set_option maxRecDepth 65536 in
theorem w_c19 : (Jvm.Cond.code ({ cls := "java/lang/Math", name := "multiplyExact", desc := "(II)I" } : Jvm.MethodName) jdk_29_method_28_code (4 : Nat) (Option.some Jvm.ClassFile.FieldType.int)).before args0 about1 = true := code_word (m := ⟨18, 2⟩) (meth := k18m2) (c := k18c2) (by decide +kernel) rfl rfl rfl (by decide +kernel)
set_option maxRecDepth 65536 in
theorem w_c20 : (Jvm.Cond.code ({ cls := "java/lang/Math", name := "addExact", desc := "(II)I" } : Jvm.MethodName) jdk_29_method_24_code (3 : Nat) (Option.some Jvm.ClassFile.FieldType.int)).before args0 about1 = true := code_word (m := ⟨18, 1⟩) (meth := k18m1) (c := k18c1) (by decide +kernel) rfl rfl rfl (by decide +kernel)
set_option maxRecDepth 65536 in
theorem w_c21 : (Jvm.Cond.code ({ cls := "java/util/Base64$Encoder", name := "encode0", desc := "([BII[B)I" } : Jvm.MethodName) jdk_2452_method_10_code (16 : Nat) (Option.some Jvm.ClassFile.FieldType.int)).before args0 about1 = true := code_word (m := ⟨17, 4⟩) (meth := k17m4) (c := k17c4) (by decide +kernel) rfl rfl rfl (by decide +kernel)
set_option maxRecDepth 65536 in
theorem w_c22 : (Jvm.Cond.code ({ cls := "java/lang/Math", name := "min", desc := "(II)I" } : Jvm.MethodName) jdk_29_method_69_code (2 : Nat) (Option.some Jvm.ClassFile.FieldType.int)).before args0 about1 = true := code_word (m := ⟨18, 3⟩) (meth := k18m3) (c := k18c3) (by decide +kernel) rfl rfl rfl (by decide +kernel)
set_option maxRecDepth 65536 in
theorem w_c23 : (Jvm.Cond.code ({ cls := "java/util/Base64$Encoder", name := "encodeBlock", desc := "([BII[BIZ)V" } : Jvm.MethodName) jdk_2452_method_9_code (11 : Nat) (Option.none : Option Jvm.ClassFile.FieldType)).before args0 about1 = true := code_word (m := ⟨17, 3⟩) (meth := k17m3) (c := k17c3) (by decide +kernel) rfl rfl rfl (by decide +kernel)
set_option maxRecDepth 65536 in
theorem w_c24 : (Jvm.Cond.code ({ cls := "java/lang/String", name := "<init>", desc := "([BIII)V" } : Jvm.MethodName) jdk_42_method_7_code (7 : Nat) (Option.none : Option Jvm.ClassFile.FieldType)).before args0 about1 = true := code_word (m := ⟨7, 2⟩) (meth := k7m2) (c := k7c2) (by decide +kernel) rfl rfl rfl (by decide +kernel)
set_option maxRecDepth 65536 in
theorem w_c25 : (Jvm.Cond.code ({ cls := "java/lang/String", name := "checkBoundsOffCount", desc := "(III)I" } : Jvm.MethodName) jdk_42_method_157_code (3 : Nat) (Option.some Jvm.ClassFile.FieldType.int)).before args0 about1 = true := code_word (m := ⟨7, 10⟩) (meth := k7m10) (c := k7c10) (by decide +kernel) rfl rfl rfl (by decide +kernel)
set_option maxRecDepth 65536 in
theorem w_c26 : (Jvm.Cond.code ({ cls := "jdk/internal/util/Preconditions", name := "checkFromIndexSize", desc := "(IIILjava/util/function/BiFunction;)I" } : Jvm.MethodName) jdk_41_method_13_code (4 : Nat) (Option.some Jvm.ClassFile.FieldType.int)).before args0 about1 = true := code_word (m := ⟨19, 1⟩) (meth := k19m1) (c := k19c1) (by decide +kernel) rfl rfl rfl (by decide +kernel)
set_option maxRecDepth 65536 in
theorem w_c27 : (Jvm.Cond.code ({ cls := "java/util/Arrays", name := "copyOfRange", desc := "([BII)[B" } : Jvm.MethodName) jdk_65_method_132_code (3 : Nat) (Option.some (Jvm.ClassFile.FieldType.array Jvm.ClassFile.FieldType.byte))).before args0 about1 = true := code_word (m := ⟨20, 1⟩) (meth := k20m1) (c := k20c1) (by decide +kernel) rfl rfl rfl (by decide +kernel)
set_option maxRecDepth 65536 in
theorem w_c28 : (Jvm.Cond.code ({ cls := "java/lang/String", name := "equals", desc := "(Ljava/lang/Object;)Z" } : Jvm.MethodName) jdk_42_method_66_code (3 : Nat) (Option.some Jvm.ClassFile.FieldType.boolean)).before args0 about1 = true := code_word (m := ⟨7, 7⟩) (meth := k7m7) (c := k7c7) (by decide +kernel) rfl rfl rfl (by decide +kernel)
set_option maxRecDepth 65536 in
theorem w_c29 : (Jvm.Cond.code ({ cls := "java/lang/StringLatin1", name := "equals", desc := "([B[B)Z" } : Jvm.MethodName) jdk_43_method_13_code (3 : Nat) (Option.some Jvm.ClassFile.FieldType.boolean)).before args0 about1 = true := code_word (m := ⟨21, 1⟩) (meth := k21m1) (c := k21c1) (by decide +kernel) rfl rfl rfl (by decide +kernel)
set_option maxRecDepth 65536 in
theorem w_c30 : (Jvm.Cond.code ({ cls := "java/util/Base64$Decoder", name := "decodeBlock", desc := "([BII[BIZZ)I" } : Jvm.MethodName) jdk_2450_method_8_code (16 : Nat) (Option.some Jvm.ClassFile.FieldType.int)).before args0 about1 = true := code_word (m := ⟨10, 3⟩) (meth := k10m3) (c := k10c3) (by decide +kernel) rfl rfl rfl (by decide +kernel)
def codes1 : List Jvm.Cond := [Jvm.Cond.code x code maxLocals ret, Jvm.Cond.code ({ cls := "com/example/cartiglio/cartiglio/core/Base64UrlDecodeStrictPinLaw", name := "sym", desc := "(I)C" } : Jvm.MethodName) method_2_code (1 : Nat) (Option.some Jvm.ClassFile.FieldType.char), Jvm.Cond.code ({ cls := "java/lang/String", name := "<init>", desc := "([C)V" } : Jvm.MethodName) jdk_42_method_3_code (2 : Nat) (Option.none : Option Jvm.ClassFile.FieldType), Jvm.Cond.code ({ cls := "java/lang/String", name := "<init>", desc := "([CIILjava/lang/Void;)V" } : Jvm.MethodName) jdk_42_method_149_code (6 : Nat) (Option.none : Option Jvm.ClassFile.FieldType), Jvm.Cond.code ({ cls := "java/lang/Object", name := "<init>", desc := "()V" } : Jvm.MethodName) object_method_1_code (1 : Nat) (Option.none : Option Jvm.ClassFile.FieldType), Jvm.Cond.code ({ cls := "java/lang/StringUTF16", name := "compress", desc := "([CII)[B" } : Jvm.MethodName) jdk_52_method_16_code (6 : Nat) (Option.some (Jvm.ClassFile.FieldType.array Jvm.ClassFile.FieldType.byte)), Jvm.Cond.code ({ cls := "java/lang/StringUTF16", name := "compress", desc := "([CI[BII)I" } : Jvm.MethodName) jdk_52_method_21_code (7 : Nat) (Option.some Jvm.ClassFile.FieldType.int), Jvm.Cond.code ({ cls := "java/lang/StringUTF16", name := "coderFromArrayLen", desc := "([BI)B" } : Jvm.MethodName) jdk_52_method_15_code (2 : Nat) (Option.some Jvm.ClassFile.FieldType.byte), Jvm.Cond.code ({ cls := "java/util/Base64$Decoder", name := "decode", desc := "(Ljava/lang/String;)[B" } : Jvm.MethodName) jdk_2450_method_3_code (2 : Nat) (Option.some (Jvm.ClassFile.FieldType.array Jvm.ClassFile.FieldType.byte)), Jvm.Cond.code ({ cls := "java/lang/String", name := "getBytes", desc := "(Ljava/nio/charset/Charset;)[B" } : Jvm.MethodName) jdk_42_method_64_code (2 : Nat) (Option.some (Jvm.ClassFile.FieldType.array Jvm.ClassFile.FieldType.byte)), Jvm.Cond.code ({ cls := "java/lang/String", name := "coder", desc := "()B" } : Jvm.MethodName) jdk_42_method_152_code (1 : Nat) (Option.some Jvm.ClassFile.FieldType.byte), Jvm.Cond.code ({ cls := "java/lang/String", name := "encode", desc := "(Ljava/nio/charset/Charset;B[B)[B" } : Jvm.MethodName) jdk_42_method_18_code (3 : Nat) (Option.some (Jvm.ClassFile.FieldType.array Jvm.ClassFile.FieldType.byte)), Jvm.Cond.code ({ cls := "java/lang/String", name := "encode8859_1", desc := "(B[B)[B" } : Jvm.MethodName) jdk_42_method_26_code (2 : Nat) (Option.some (Jvm.ClassFile.FieldType.array Jvm.ClassFile.FieldType.byte)), Jvm.Cond.code ({ cls := "java/lang/String", name := "encode8859_1", desc := "(B[BZ)[B" } : Jvm.MethodName) jdk_42_method_27_code (10 : Nat) (Option.some (Jvm.ClassFile.FieldType.array Jvm.ClassFile.FieldType.byte)), Jvm.Cond.code ({ cls := "java/util/Base64$Decoder", name := "decode", desc := "([B)[B" } : Jvm.MethodName) jdk_2450_method_2_code (4 : Nat) (Option.some (Jvm.ClassFile.FieldType.array Jvm.ClassFile.FieldType.byte)), Jvm.Cond.code ({ cls := "java/util/Base64$Decoder", name := "decodedOutLength", desc := "([BII)I" } : Jvm.MethodName) jdk_2450_method_7_code (9 : Nat) (Option.some Jvm.ClassFile.FieldType.int), Jvm.Cond.code ({ cls := "java/util/Base64$Decoder", name := "decode0", desc := "([BII[B)I" } : Jvm.MethodName) jdk_2450_method_9_code (11 : Nat) (Option.some Jvm.ClassFile.FieldType.int), Jvm.Cond.code ({ cls := "java/util/Base64$Encoder", name := "encodeToString", desc := "([B)Ljava/lang/String;" } : Jvm.MethodName) jdk_2452_method_5_code (3 : Nat) (Option.some (Jvm.ClassFile.FieldType.object "java/lang/String")), Jvm.Cond.code ({ cls := "java/util/Base64$Encoder", name := "encode", desc := "([B)[B" } : Jvm.MethodName) jdk_2452_method_3_code (5 : Nat) (Option.some (Jvm.ClassFile.FieldType.array Jvm.ClassFile.FieldType.byte)), Jvm.Cond.code ({ cls := "java/lang/Math", name := "multiplyExact", desc := "(II)I" } : Jvm.MethodName) jdk_29_method_28_code (4 : Nat) (Option.some Jvm.ClassFile.FieldType.int), Jvm.Cond.code ({ cls := "java/lang/Math", name := "addExact", desc := "(II)I" } : Jvm.MethodName) jdk_29_method_24_code (3 : Nat) (Option.some Jvm.ClassFile.FieldType.int), Jvm.Cond.code ({ cls := "java/util/Base64$Encoder", name := "encode0", desc := "([BII[B)I" } : Jvm.MethodName) jdk_2452_method_10_code (16 : Nat) (Option.some Jvm.ClassFile.FieldType.int), Jvm.Cond.code ({ cls := "java/lang/Math", name := "min", desc := "(II)I" } : Jvm.MethodName) jdk_29_method_69_code (2 : Nat) (Option.some Jvm.ClassFile.FieldType.int), Jvm.Cond.code ({ cls := "java/util/Base64$Encoder", name := "encodeBlock", desc := "([BII[BIZ)V" } : Jvm.MethodName) jdk_2452_method_9_code (11 : Nat) (Option.none : Option Jvm.ClassFile.FieldType), Jvm.Cond.code ({ cls := "java/lang/String", name := "<init>", desc := "([BIII)V" } : Jvm.MethodName) jdk_42_method_7_code (7 : Nat) (Option.none : Option Jvm.ClassFile.FieldType), Jvm.Cond.code ({ cls := "java/lang/String", name := "checkBoundsOffCount", desc := "(III)I" } : Jvm.MethodName) jdk_42_method_157_code (3 : Nat) (Option.some Jvm.ClassFile.FieldType.int), Jvm.Cond.code ({ cls := "jdk/internal/util/Preconditions", name := "checkFromIndexSize", desc := "(IIILjava/util/function/BiFunction;)I" } : Jvm.MethodName) jdk_41_method_13_code (4 : Nat) (Option.some Jvm.ClassFile.FieldType.int), Jvm.Cond.code ({ cls := "java/util/Arrays", name := "copyOfRange", desc := "([BII)[B" } : Jvm.MethodName) jdk_65_method_132_code (3 : Nat) (Option.some (Jvm.ClassFile.FieldType.array Jvm.ClassFile.FieldType.byte)), Jvm.Cond.code ({ cls := "java/lang/String", name := "equals", desc := "(Ljava/lang/Object;)Z" } : Jvm.MethodName) jdk_42_method_66_code (3 : Nat) (Option.some Jvm.ClassFile.FieldType.boolean), Jvm.Cond.code ({ cls := "java/lang/StringLatin1", name := "equals", desc := "([B[B)Z" } : Jvm.MethodName) jdk_43_method_13_code (3 : Nat) (Option.some Jvm.ClassFile.FieldType.boolean), Jvm.Cond.code ({ cls := "java/util/Base64$Decoder", name := "decodeBlock", desc := "([BII[BIZZ)I" } : Jvm.MethodName) jdk_2450_method_8_code (16 : Nat) (Option.some Jvm.ClassFile.FieldType.int)]
set_option maxRecDepth 65536 in
theorem codes_eq : words1.filter isCode = codes1 := rfl
theorem w_codes : ∀ c ∈ words1.filter isCode, c.before args0 about1 = true := by
  rw [codes_eq]
  intro c hc
  simp only [codes1, List.mem_cons, List.not_mem_nil, or_false] at hc
  rcases hc with rfl | rfl | rfl | rfl | rfl | rfl | rfl | rfl | rfl | rfl | rfl | rfl | rfl | rfl | rfl | rfl | rfl | rfl | rfl | rfl | rfl | rfl | rfl | rfl | rfl | rfl | rfl | rfl | rfl | rfl | rfl
  · exact w_c0
  · exact w_c1
  · exact w_c2
  · exact w_c3
  · exact w_c4
  · exact w_c5
  · exact w_c6
  · exact w_c7
  · exact w_c8
  · exact w_c9
  · exact w_c10
  · exact w_c11
  · exact w_c12
  · exact w_c13
  · exact w_c14
  · exact w_c15
  · exact w_c16
  · exact w_c17
  · exact w_c18
  · exact w_c19
  · exact w_c20
  · exact w_c21
  · exact w_c22
  · exact w_c23
  · exact w_c24
  · exact w_c25
  · exact w_c26
  · exact w_c27
  · exact w_c28
  · exact w_c29
  · exact w_c30
set_option maxRecDepth 65536 in
theorem w_t1 : (words1.take 24).all (fun c => isCode c || c.before args0 about1) = true := by decide +kernel
set_option maxRecDepth 65536 in
theorem w_t2 : ((words1.drop 24).take 24).all (fun c => isCode c || c.before args0 about1) = true := by decide +kernel
set_option maxRecDepth 65536 in
theorem w_t3 : (((words1.drop 24).drop 24).take 24).all (fun c => isCode c || c.before args0 about1) = true := by decide +kernel
set_option maxRecDepth 65536 in
theorem w_t4 : ((((words1.drop 24).drop 24).drop 24).take 24).all (fun c => isCode c || c.before args0 about1) = true := by decide +kernel
set_option maxRecDepth 65536 in
theorem w_t5 : (((((words1.drop 24).drop 24).drop 24).drop 24).take 24).all (fun c => isCode c || c.before args0 about1) = true := by decide +kernel
set_option maxRecDepth 65536 in
theorem w_t6 : ((((((words1.drop 24).drop 24).drop 24).drop 24).drop 24).take 24).all (fun c => isCode c || c.before args0 about1) = true := by decide +kernel
set_option maxRecDepth 65536 in
theorem w_t7 : (((((((words1.drop 24).drop 24).drop 24).drop 24).drop 24).drop 24).take 24).all (fun c => isCode c || c.before args0 about1) = true := by decide +kernel
set_option maxRecDepth 65536 in
theorem w_t8 : (((((((words1.drop 24).drop 24).drop 24).drop 24).drop 24).drop 24).drop 24).all (fun c => isCode c || c.before args0 about1) = true := by decide +kernel
theorem w_tables : (allAtoms (Jvm.Cond.code x code maxLocals ret :: tables_1)).before args0 about1 = true := by
  rw [allAtoms_all]
  show words1.all (fun c => c.before args0 about1) = true
  refine all_split ?_ w_codes
  rw [← List.take_append_drop 24 words1, List.all_append, w_t1, ← List.take_append_drop 24 (words1.drop 24), List.all_append, w_t2, ← List.take_append_drop 24 ((words1.drop 24).drop 24), List.all_append, w_t3, ← List.take_append_drop 24 (((words1.drop 24).drop 24).drop 24), List.all_append, w_t4, ← List.take_append_drop 24 ((((words1.drop 24).drop 24).drop 24).drop 24), List.all_append, w_t5, ← List.take_append_drop 24 (((((words1.drop 24).drop 24).drop 24).drop 24).drop 24), List.all_append, w_t6, ← List.take_append_drop 24 ((((((words1.drop 24).drop 24).drop 24).drop 24).drop 24).drop 24), List.all_append, w_t7, w_t8]
  rfl
set_option maxRecDepth 65536 in
theorem w_rest : rest_1_c.before args0 about1 = true := by decide +kernel
set_option maxRecDepth 65536 in
theorem w_case : (Jvm.Cond.and given_1 narrow_1).before args0 about1 = true := by decide +kernel
set_option maxRecDepth 65536 in
theorem w_consts : constsHeld consts_1 about1 := Jvm.Lit.constsHeldB_iff.mp (by decide +kernel)
theorem w_applies : (headSpec (Jvm.Cond.code x code maxLocals ret :: tables_1) room_1).applies x e0.platform about1 = true :=
  (Spec.applies_iff w_frames).mpr ⟨w_running, w_runnable, w_alone, w_named, w_hears, w_ripe, w_room, w_tables⟩
theorem atStart : AtStart classFile x code maxLocals ret World_1 tables_1 room_1 Calls_1 rest_1 Pre_1 launch0 p0 e0 about1 theMethod args0 below0 :=
  ⟨lists_1, trivial, launch0.admits_env _ _ _, launch0.least_env, fairChoices_fair.cas, fairChoices_fair.clock, w_frames, w_args, w_heap, w_applies, ⟨w_consts, trivial⟩, w_rest, w_case⟩
end start1
theorem witness_1 : WitnessClaimed_1 := ⟨start1.p0, start1.e0, start1.about1, start1.theMethod, start1.args0, start1.below0, start1.atStart⟩
end Jvm.Pilot.@@N@@
