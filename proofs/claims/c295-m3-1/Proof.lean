import JvmDerived
import JvmDerived.Pilot.@@N@@Statement
import JvmDerived.Pilot.@@N@@Code
set_option linter.unusedVariables false
set_option linter.unusedSimpArgs false
namespace Jvm.RoadKit
open Sem ClassFile Op Lib Jvm.Stand Jvm.Free Jvm.LawKit
section New
variable {p : Program} {l : Launch} {e : Env} {R : Room} {s : State} {m : MethodId} {args : Array Value} {below : List Frame} {meth : Method} {c : Code} {T : State} {locs : List Loc} {cells slots : Nat}
theorem retI (X : Stand p l e R s m args below meth c T locs cells slots) (hx : p.tables.exec = Jvm.exec) {pc : Nat} {Ls : Array Slot} {z : Int32} {rest : List Value} (hret : meth.sig.returnType = some .int) (hd : decode c.code pc = .ok (.ireturn, 1)) {fs : List Frame}
    (hl : ∀ (f : JFrame) (acts : List Action), f.method = m → f.locked = none → f.entered = [] → (doReturn e (T.setTop f) acts (some (.int z))).1 = T.setFrames fs) : Steps p.tables e below (T.setTop (mkF m pc Ls (.int z :: rest))) (T.setFrames fs) := by
  have hm' : T.vm.method? m = some meth := X.method'
  have hn : narrow .int (.int z) = .int z := rfl
  show Steps p.tables e below (T.setTop { method := m, pc := pc, locals := Ls, stack := _ :: rest, locked := none }) _
  jvm_step X.here [X.here.top, hx, hd, hm', hret, hn]
  first | (intro acts; rw [hl _ acts rfl rfl rfl]) | rw [hl _ _ rfl rfl rfl]
  exact Steps.refl _
end New
end Jvm.RoadKit
/- laws to paste: pair_says (cut by pick.py; bodies as the Statement names them) -/
namespace Jvm.Pilot.@@N@@
namespace StrChars
open Jvm Sem ClassFile Op Lib Jvm.Stand Jvm.Free.XT Jvm.Free.ALB Jvm.Free.JM Jvm.Free
open Jvm.Lib.Cold (StaticIs)
/-- the byte that i2b leaves of a char -/
def lo8 (x : Int32) : Int32 := x.toInt8.toInt32
end StrChars
namespace StrChars
open Jvm Sem ClassFile Op Lib Jvm.Stand Jvm.Free.XT Jvm.Free.ALB Jvm.Free.JM Jvm.Free
open Jvm.Lib.Cold (StaticIs)
def hi8 (x : Int32) : Int32 := lo8 (x >>> ((8 : Int32) &&& 31))
/-- what StringUTF16.getChar makes of two bytes -/
def pairCh (u v : Int32) : Int32 := (((u &&& 255) <<< ((0 : Int32) &&& 31)) ||| ((v &&& 255) <<< ((8 : Int32) &&& 31))).toUInt32.toUInt16.toUInt32.toInt32
theorem lo8_and (x : Int32) : (lo8 x &&& 255).toBitVec.toNat = x.toBitVec.toNat % 256 := by
  have h : (lo8 x).toBitVec = (x.toBitVec.signExtend 8).signExtend 32 := by rw [lo8, Int8.toBitVec_toInt32, Int32.toBitVec_toInt8]
  rw [Int32.toBitVec_and, BitVec.toNat_and, h]
  have e : ((x.toBitVec.signExtend 8).signExtend 32).toNat % 256 = x.toBitVec.toNat % 256 := by
    rw [BitVec.toNat_signExtend]
    have hlt := x.toBitVec.isLt
    simp only [BitVec.toNat_setWidth, BitVec.toNat_signExtend]
    split <;> split <;> omega
  rw [← e]
  exact Nat.and_two_pow_sub_one_eq_mod _ 8
theorem pair_says {c : Int32} (h0 : ¬ c < 0) (h1 : ¬ 65535 < c) : pairCh (lo8 c) (hi8 c) = c := by
  rw [Int32.lt_iff_toInt_lt] at h0 h1
  have e0 : (0 : Int32).toInt = 0 := rfl
  have e1 : (65535 : Int32).toInt = 65535 := rfl
  have hc : c.toInt = c.toBitVec.toNat := by
    have := c.toBitVec.isLt
    have e : c.toInt = c.toBitVec.toInt := rfl
    rw [e] at h0 h1
    rw [e]
    rw [BitVec.toInt_eq_toNat_cond] at h0 h1 ⊢
    split at h0 <;> split <;> omega
  have hn : c.toBitVec.toNat < 65536 := by omega
  have a1 := lo8_and c
  have a2 : (hi8 c &&& 255).toBitVec.toNat = c.toBitVec.toNat / 256 := by
    rw [hi8, lo8_and]
    have e : ((8 : Int32) &&& 31) = 8 := by decide
    rw [e, Int32.toBitVec_shiftRight]
    have e2 : ((8 : Int32).toBitVec.smod 32) = 8#32 := by decide
    rw [e2, BitVec.sshiftRight_eq', BitVec.toNat_sshiftRight_of_msb_false (by rw [BitVec.msb_eq_false_iff_two_mul_lt]; omega)]
    show c.toBitVec.toNat >>> 8 % 256 = _
    rw [Nat.shiftRight_eq_div_pow]
    omega
  unfold pairCh
  apply Int32.toBitVec_inj.mp
  apply BitVec.eq_of_toNat_eq
  have f0 : ((0 : Int32) &&& 31) = 0 := by decide
  have f8 : ((8 : Int32) &&& 31) = 8 := by decide
  rw [f0, f8]
  have g : (((lo8 c &&& 255) <<< (0 : Int32)) ||| ((hi8 c &&& 255) <<< (8 : Int32))).toBitVec.toNat = c.toBitVec.toNat := by
    rw [Int32.toBitVec_or, Int32.toBitVec_shiftLeft, Int32.toBitVec_shiftLeft]
    have s0 : ((0 : Int32).toBitVec.smod 32) = 0#32 := by decide
    have s8 : ((8 : Int32).toBitVec.smod 32) = 8#32 := by decide
    rw [s0, s8, BitVec.toNat_or]
    simp only [BitVec.shiftLeft_eq', BitVec.toNat_shiftLeft, a1, a2]
    show (c.toBitVec.toNat % 256) <<< 0 % 2 ^ 32 ||| (c.toBitVec.toNat / 256) <<< 8 % 2 ^ 32 = _
    rw [Nat.shiftLeft_zero, Nat.mod_eq_of_lt (show c.toBitVec.toNat % 256 < 2 ^ 32 by omega), Nat.mod_eq_of_lt (show (c.toBitVec.toNat / 256) <<< 8 < 2 ^ 32 by rw [Nat.shiftLeft_eq]; omega), Nat.or_comm, ← Nat.shiftLeft_add_eq_or_of_lt (by omega), Nat.shiftLeft_eq]
    omega
  show BitVec.toNat (((((lo8 c &&& 255) <<< (0 : Int32)) ||| ((hi8 c &&& 255) <<< (8 : Int32))).toBitVec.setWidth 16).setWidth 32) = _
  rw [BitVec.toNat_setWidth, BitVec.toNat_setWidth, g]
  omega
end StrChars
end Jvm.Pilot.@@N@@

namespace Jvm.Pilot.@@N@@
open Jvm Jvm.ClassFile Sem Op Lib Jvm.Free Jvm.Stand Jvm.LawKit Jvm.RoadKit Bundle Jvm.Pilot.@@N@@.Jvm.D
def own_Rn (p : Program) (e : Env) (below : List Frame) (P : Outcome → State → Prop) (S : State) : Prop := ∃ U o, Steps p.tables e below S U ∧ U.status = .running ∧ Ended U below o ∧ P o U
theorem own_go {p : Program} {e : Env} {below : List Frame} {P : Outcome → State → Prop} {S S' : State} (k : ∀ t, Steps p.tables e below S' t → Steps p.tables e below S t) (h : own_Rn p e below P S') : own_Rn p e below P S := by
  obtain ⟨U, o, h1, h2⟩ := h
  exact ⟨U, o, k U h1, h2⟩
theorem own_ret {p : Program} {l : Launch} {e : Env} {R : Room} {s : State} {m : MethodId} {args : Array Value} {below : List Frame} {meth : Method} {c : Code} {T : State} {locs : List Loc} {cells slots : Nat} (X : Stand p l e R s m args below meth c T locs cells slots)
    {v : Option Value} (hv : meth.sig.returnType = none → v = none) {S : State} {Q : Option Value → Heap → List Loc → Prop} {C N : Nat}
    (k : ∀ fs, (∀ (f : JFrame) (acts : List Action), f.method = m → f.locked = none → f.entered = [] → (doReturn e (T.setTop f) acts v).1 = T.setFrames fs) → Steps p.tables e below S (T.setFrames fs)) (hq : Q v T.heap locs) (hc : cells ≤ C) (hs : slots ≤ N)
    (hlocks : meth.locks = false := by first | assumption | exact BodyLoose.notSynchronized (by assumption) | exact Body.notSynchronized (by assumption)) :
    own_Rn p e below (fun o U' => ∃ v L, o = .returned v ∧ Q v U'.heap L ∧ FrameEnd s o U' L C N) S := by
  obtain ⟨fs, hr, hrun, hended, hW, hsame⟩ := X.leave hv hlocks
  exact ⟨_, _, k fs hr, hrun, hended, _, _, rfl, hq, ⟨_, rfl⟩, hW, hsame.mono hc hs⟩
theorem own_nea {a b : Addr} (h : @LT.lt Nat _ a b ∨ @LT.lt Nat _ b a) : a ≠ b := by
  intro e
  have e' : @Eq Nat a b := e
  omega
theorem own_fits_byte (x : Int32) : fits .byte (.int (nar .byte x)) = true := by
  have h := c_i2b x
  have h1 : (-128 : Int32) ≤ x.toInt8.toInt32 := by rw [Int32.le_iff_toInt_le]; exact h.2.1
  have h2 : x.toInt8.toInt32 ≤ (127 : Int32) := by rw [Int32.le_iff_toInt_le]; exact Int.le_of_lt_add_one h.2.2
  simp only [fits, Bool.and_eq_true]
  exact ⟨decide_eq_true h1, decide_eq_true h2⟩
theorem own_fitsB (x : Int32) : fits .byte (.int x.toInt8.toInt32) = true := own_fits_byte x
theorem own_retS {p : Program} {l : Launch} {e : Env} {R : Room} {s : State} {m : MethodId} {args : Array Value} {below : List Frame} {meth : Method} {c : Code} {T : State} {locs : List Loc} {cells slots : Nat} {vm₁ : Vm} (X : Stand p l e R (s.setVm vm₁) m args below meth c T locs cells slots) {n : Nat} (hS : s.Since vm₁ n) (hn : n ≤ T.heap.size)
    {v : Option Value} (hv : meth.sig.returnType = none → v = none) {S : State} {Z : State} {EL : List (String × Nat)} {Q : Option Value → Heap → List Loc → Prop} {C N : Nat}
    (k : ∀ fs, (∀ (f : JFrame) (acts : List Action), f.method = m → f.locked = none → f.entered = [] → (doReturn e (T.setTop f) acts v).1 = T.setFrames fs) → Steps p.tables e below S (T.setFrames fs)) (hq : Q v T.heap locs) (hR : CHr Z EL s.vm s.heap T.vm T.heap) (hc : cells ≤ C) (hs : slots ≤ N)
    (hlocks : meth.locks = false := by first | assumption | exact BodyLoose.notSynchronized (by assumption) | exact Body.notSynchronized (by assumption)) :
    own_Rn p e below (fun o U' => ∃ v L, o = .returned v ∧ Q v U'.heap L ∧ CHr Z EL s.vm s.heap U'.vm U'.heap ∧ ReturnedEndW s o U' L C N) S := by
  obtain ⟨fs, hr, hrun, hended, h1, h2, h3, h4⟩ := X.leaveW hS hn hv hlocks
  exact ⟨_, _, k fs hr, hrun, hended, _, _, rfl, hq, hR, h1, h2, h3, h4.mono hc hs⟩
theorem own_safeAt {Z : State} {EL : List (String × Nat)} {vm vm1 : Vm} {h : Heap} {x : Addr} (A : CHr Z EL vm h vm1 h) (S : Safe Z EL vm h x) : Safe Z EL vm1 h x := by
  rcases Nat.lt_or_ge x h.size with hx | hx
  · exact A.safe hx S
  · exact Safe.new hx
theorem own_backSH {p : Program} {l : Launch} {e : Env} {R : Room} {s : State} {args : Array Value} {below : List Frame} {Z : State} {a0 : Array Value} {EL : List (String × Nat)} {h : Heap} {vm0 : Vm} {sf : List Addr}
    {y : MethodName} {bytes : ByteArray} {maxL : Nat} {ret : Option FieldType} {rm : Room} {len W : Nat} {as' : Array Value} {Q : Option Value → Heap → List Loc → Prop}
    (hM : MetFree l y (head1 [Cond.code y bytes maxL ret] rm) (fun a U => a = as' ∧ Z.Warmed39 U.vm ∧ U.heap = h ∧ CHv Z EL U.vm h ∧ ∀ x ∈ sf, Safe Z EL U.vm h x) (fun _ _ _ _ _ => True) (fun _ U o U' => ∃ v L, o = .returned v ∧ Q v U'.heap L ∧ CHr Z EL U.vm U.heap U'.vm U'.heap ∧ ReturnedEndW U o U' L rm.cells rm.slots))
    (hZ : Z.Warmed39 vm0) (wc : (Cond.code y bytes maxL ret).before a0 Z = true) (wz : (Cond.initialized y.cls).before a0 Z = true) (hf : rm.frames + 1 ≤ R.frames) (hl : W + (maxL + 11) + rm.locals ≤ R.locals) (hEL : EW Z a0 EL) (H : CHv Z EL vm0 h) (hsf : ∀ x ∈ sf, Safe Z EL vm0 h x) :
    BackS l R p e below (s.setVm vm0) args y len W (fun A a => a = as' ∧ A.U.heap = h ∧ A.cells + rm.cells ≤ R.cells ∧ A.slots + rm.slots ≤ R.slots)
      (fun A _ v B => ∃ L, Q v B.U.heap L ∧ B.locs = A.locs ++ L ∧ B.cells = A.cells + rm.cells ∧ B.slots = A.slots + rm.slots ∧ CHr Z EL vm0 h B.U.vm B.U.heap) :=
  BackS.of_freeW (bytes := bytes) (maxL := maxL) (ret := ret) (E := fun _ first o t L k n => k = rm.cells ∧ n = rm.slots ∧ (∃ v, o = .returned v ∧ Q v t.heap L) ∧ CHr Z EL first.vm first.heap t.vm t.heap) hM hf hl
    (fun m meth c A a Y hp => have hU : Z.Warmed39 A.U.vm := wtrans (s := s.setVm vm0) hZ Y.warmed
      ⟨by show (Cond.and _ .tt).before a A.U = true; rw [Cond.before_and, mv hU wc]; rfl, mv hU wc, mv hU wz, hp.2.2.1, hp.2.2.2⟩)
    (fun m meth c A a g mk Y hp => ⟨hp.1, wtrans (s := s.setVm vm0) hZ Y.warmed, hp.2.1, (CHv.at Y hZ hEL H).1, fun x hx => show Safe Z EL A.U.vm h x from own_safeAt (CHv.at Y hZ hEL H) (hsf x hx)⟩) (fun _ _ _ _ _ _ _ _ _ => trivial)
    (fun _ _ _ _ ⟨v, L, h1, h2, h3, h4⟩ => ⟨L, _, _, h4, rfl, rfl, ⟨v, h1, h2⟩, h3⟩)
    (fun m meth c A a g mk v t L k n Y hp _ _ ⟨e1, e2, ⟨v', e3, e4⟩, e5⟩ => by
      cases e3; subst e1 e2
      refine ⟨L, e4, rfl, rfl, rfl, (CHv.at Y hZ hEL H).trans ?_⟩
      rw [← hp.2.1]; exact e5)
theorem own_and255 (x : Int32) : ¬ (x &&& (255 : Int32)) < 0 ∧ ¬ (255 : Int32) < (x &&& (255 : Int32)) := by
  have h := c_and x 255 (by decide)
  have e2 : (255 : Int32).toInt = 255 := rfl
  rw [Int32.lt_iff_toInt_lt, Int32.lt_iff_toInt_lt]
  have e0 : (0 : Int32).toInt = 0 := rfl
  omega
theorem own_c16 (r : Int32) (h : ¬ r < 0 ∧ ¬ (65535 : Int32) < r) : r.toUInt32.toUInt16.toUInt32.toInt32 = r := by
  have h1 := c_i2c r
  rw [Int32.lt_iff_toInt_lt, Int32.lt_iff_toInt_lt] at h
  have e2 : (65535 : Int32).toInt = 65535 := rfl
  have e0 : (0 : Int32).toInt = 0 := rfl
  apply Int32.toInt_inj.mp
  omega
theorem own_up (r : Int32) (h : ¬ r < 0 ∧ ¬ (255 : Int32) < r) : ¬ r < 0 ∧ ¬ (65535 : Int32) < r := by
  rw [Int32.lt_iff_toInt_lt, Int32.lt_iff_toInt_lt] at *
  have e2 : (65535 : Int32).toInt = 65535 := rfl
  have e3 : (255 : Int32).toInt = 255 := rfl
  have e0 : (0 : Int32).toInt = 0 := rfl
  omega
theorem own_narC (r : Int32) (h : ¬ r < 0 ∧ ¬ (255 : Int32) < r) : nar .char r = r := own_c16 r (own_up r h)
theorem own_chr (x : Int32) : ((x &&& (255 : Int32)).toUInt32.toUInt16.toUInt32.toInt32) = x &&& 255 := own_c16 _ (own_up _ (own_and255 x))
theorem own_chr_rng (x : Int32) : ¬ ((x &&& (255 : Int32)).toUInt32.toUInt16.toUInt32.toInt32) < 0 ∧ ¬ (255 : Int32) < ((x &&& (255 : Int32)).toUInt32.toUInt16.toUInt32.toInt32) := by rw [own_chr]; exact own_and255 x
theorem own_narB (x : Int32) : nar .byte (x.toInt8.toInt32) = x.toInt8.toInt32 := by
  show (x.toInt8.toInt32).toInt8.toInt32 = x.toInt8.toInt32
  rw [Int8.toInt8_toInt32]
theorem own_shr0 (x : Int32) : x >>> ((0 : Int32) &&& 31) = x := by
  apply Int32.toInt_inj.mp
  rw [c_ishr x 0 0 rfl]; simp
theorem own_shl0 (x : Int32) : x <<< ((0 : Int32) &&& 31) = x := by
  show x <<< (0 : Int32) = x
  simp
abbrev own_bs (cs : List Int32) : List Value := (cs.map (fun c => c.toInt8.toInt32)).map Value.int
theorem own_bs_len (cs : List Int32) : (own_bs cs).length = cs.length := by simp [own_bs]
theorem own_bs_app (cs ds : List Int32) : own_bs (cs ++ ds) = own_bs cs ++ own_bs ds := by simp [own_bs]
theorem own_range_getD (vs : List Value) (d : Value) : (List.range vs.length).map (fun i => vs.getD (0 + i) d) = vs := by
  apply List.ext_getElem
  · simp
  · intro i h1 h2
    simp [List.getD_eq_getElem?_getD, h2]
theorem own_clampN {n : Nat} (h : n < 2147483648) : (Int32.ofNat n).toNatClampNeg = n := Int32.toNatClampNeg_ofNat_of_lt h
theorem own_nneg {n : Nat} (h : n < 2147483648) : ¬ Int32.ofNat n < 0 := by
  rw [Int32.lt_iff_toInt_lt, Int32.toInt_ofNat_small (by omega)]
  have e0 : (0 : Int32).toInt = 0 := rfl
  omega
theorem own_ofNat_add (a b : Nat) : Int32.ofNat (a + b) = Int32.ofNat a + Int32.ofNat b := Int32.ofNat_add a b
theorem own_le15 {n : Nat} (h : n ≤ 15) : ¬ (0 : Int32) < Int32.ofNat n - 16 := by
  have c := c_isub (Int32.ofNat n) 16
  rw [Int32.toInt_ofNat_small (by omega), show (16 : Int32).toInt = 16 from rfl] at c
  have r := rng32 (Int32.ofNat n - 16)
  rw [Int32.lt_iff_toInt_lt, show (0 : Int32).toInt = 0 from rfl]
  omega
theorem own_lt16 {n : Nat} (h : n ≤ 15) : Int32.ofNat n < (16 : Int32) := by
  rw [Int32.lt_iff_toInt_lt, Int32.toInt_ofNat_small (by omega), show (16 : Int32).toInt = 16 from rfl]; omega
theorem own_ne16 {n : Nat} (h : n ≤ 15) : ¬ Int32.ofNat n = (16 : Int32) := by
  intro e
  have := congrArg Int32.toInt e
  rw [Int32.toInt_ofNat_small (by omega), show (16 : Int32).toInt = 16 from rfl] at this
  omega
theorem own_us (ds : List Int32) (h : ds.length < 2147483648) : own_bs ds = (List.range (Int32.ofNat ds.length).toNatClampNeg).map fun i => (own_bs ds).getD ((0 : Int32).toNatClampNeg + i) (.int 0) := by
  rw [own_clampN h]
  have e : (0 : Int32).toNatClampNeg = 0 := rfl
  rw [e, ← own_bs_len ds, own_range_getD]
theorem own_cat {Z : State} {h : Heap} {b : Addr} {k : ClassId} {z : Int32} {cs ds es : List Int32} {dp nn : Int32} {m : Nat} (hes : es = cs ++ ds) (h16 : cs.length < 2147483648 ∧ ds.length < 2147483648) (hm : ds.length ≤ m) (hd : dp = Int32.ofNat cs.length) (hn : nn = Int32.ofNat ds.length)
    (F : Arv Z h b k .byte z ((own_bs cs ++ List.replicate m (Value.int 0)).take dp.toNatClampNeg ++ own_bs ds ++ (own_bs cs ++ List.replicate m (Value.int 0)).drop (dp.toNatClampNeg + nn.toNatClampNeg)) (.int 0)) : Arv Z h b k .byte z (own_bs es) (.int 0) := by
  subst hd hn
  rw [own_clampN h16.1, own_clampN h16.2] at F
  have e1 : (own_bs cs ++ List.replicate m (Value.int 0)).take cs.length = own_bs cs := by
    rw [← own_bs_len cs, List.take_left]
  have e2 : (own_bs cs ++ List.replicate m (Value.int 0)).drop (cs.length + ds.length) = List.replicate (m - ds.length) (.int 0) := by
    rw [← own_bs_len cs, List.drop_append, List.drop_replicate]
    simp
  rw [e1, e2, ← own_bs_app, ← hes] at F
  exact F.pad (fun i => (pad_rep (own_bs es) (.int 0) (m - ds.length) i).symm)
theorem own_notI {Z : State} {a0 : Array Value} {C : String} {x z : MethodName} (w : (Cond.selects C x z).before a0 Z = true) : ∃ c k, Z.vm.findClass z.cls = some c ∧ Z.vm.classes[c]? = some k ∧ k.isInterface = false := by
  obtain ⟨c, r, m, -, -, h3, -, k, h5, h6⟩ := Cond.selects_spec w
  exact ⟨m.cls, k, findClass_of_methodNamed h3, h5, h6⟩
theorem own_sameM {Z : State} {a0 : Array Value} {C : String} {x y z : MethodName} (w1 : (Cond.instanceMethod y).before a0 Z = true) (w : (Cond.selects C x z).before a0 Z = true) (e : z.cls = y.cls) (hy : y.cls ≠ "java/lang/invoke/MethodHandle" ∧ y.cls ≠ "java/lang/invoke/VarHandle") : (Cond.sameMethod y.cls y.cls y.name y.desc).before a0 Z = true := by
  obtain ⟨c, k, h1, h2, h3⟩ := own_notI w
  rw [e] at h1
  obtain ⟨mk, methM, hnamed, hmethM, -, -⟩ := Cond.instanceMethod_spec w1
  have hfound : Z.methodFound? y.cls y.name y.desc = some mk := State.methodFound?_of_named hnamed hy
  simp only [Cond.before, Cond.holds, Cond.value, h1, hfound, hnamed, h2]
  simp [h3]
theorem own_nf {s : State} {a0 : Array Value} {C : String} {x y z : MethodName} (w : (Cond.selects C x z).before a0 s = true) (e : z.cls = y.cls) : NotFace s y := by
  obtain ⟨c, k, h1, h2, h3⟩ := own_notI w
  intro r0 hr
  have := findClass_of_methodNamed hr
  rw [← e, h1] at this
  cases this
  exact ⟨k, h2, h3⟩
theorem own_selP {Z : State} {a0 : Array Value} {C : String} {y : MethodName} (w : (Cond.selects C y y).before a0 Z = true) (wp : (Cond.privateMethod y).before a0 Z = true) (wi : (Cond.instanceMethod y).before a0 Z = true) (hy : y.cls ≠ "java/lang/invoke/MethodHandle" ∧ y.cls ≠ "java/lang/invoke/VarHandle") : (Cond.selects y.cls y y).before a0 Z = true := by
  obtain ⟨c, k, h1, h2, h3⟩ := own_notI w
  exact Jvm.Stand.selects_self_of_private h1 h2 h3 (Cond.privateMethod_at wp) wi hy
theorem own_setcat (A : List Value) (v d : Value) (m : Nat) (hm : 0 < m) : (A ++ List.replicate m d).set A.length v = (A ++ [v]) ++ List.replicate (m - 1) d := by
  obtain ⟨m, rfl⟩ : ∃ k, m = k + 1 := ⟨m - 1, by omega⟩
  rw [List.set_append_right _ _ (Nat.le_refl _), Nat.sub_self, List.replicate_succ, List.set_cons_zero, List.append_assoc]; rfl
theorem own_store1 {Z : State} {h h' : Heap} {b : Addr} {k : ClassId} {ty : FieldType} {z j : Int32} {A : List Value} {v d : Value} (F : Arv Z h b k ty z A d) (hA : A.length < z.toNatClampNeg) (hv : fits ty v = true) (W : Wr h h' b j.toNatClampNeg v) (hj : j.toNatClampNeg = A.length) : Arv Z h' b k ty z (A ++ [v]) d := by
  obtain ⟨c, Ar, q, S, N, H, G⟩ := F.pad (pad_rep A d (z.toNatClampNeg - A.length))
  have r := Arv.set Ar q S N H G hv W A.length hj (by rw [List.length_append, List.length_replicate]; omega)
  rw [own_setcat A v d _ (by omega)] at r
  exact r.pad (fun i => (pad_rep (A ++ [v]) d _ i).symm)
abbrev own_lo (c : Int32) : Int32 := (c >>> ((0 : Int32) &&& 31)).toInt8.toInt32
abbrev own_hi (c : Int32) : Int32 := (c >>> ((8 : Int32) &&& 31)).toInt8.toInt32
theorem own_pairG {c : Int32} (h0 : ¬ c < 0) (h1 : ¬ 65535 < c) : ((((own_lo c) &&& (255 : Int32)) <<< ((0 : Int32) &&& 31)) ||| (((own_hi c) &&& (255 : Int32)) <<< ((8 : Int32) &&& 31))).toUInt32.toUInt16.toUInt32.toInt32 = c := by
  have h := StrChars.pair_says h0 h1
  unfold own_lo own_hi
  rw [own_shr0]
  exact h
def own_u16 : List Int32 → List Value
  | [] => []
  | c :: r => .int (own_lo c) :: .int (own_hi c) :: own_u16 r
theorem own_u16_len : ∀ cs : List Int32, (own_u16 cs).length = 2 * cs.length
  | [] => rfl
  | c :: r => by simp only [own_u16, List.length_cons, own_u16_len r]; omega
theorem own_u16_app : ∀ (cs : List Int32) (c : Int32), own_u16 (cs ++ [c]) = own_u16 cs ++ [.int (own_lo c), .int (own_hi c)]
  | [], c => rfl
  | a :: r, c => by simp only [List.cons_append, own_u16, own_u16_app r c]
theorem own_u16_at : ∀ (cs : List Int32) (q : Nat), q < cs.length → (own_u16 cs).getD (2 * q) (.int 0) = .int (own_lo (cs.getD q 0)) ∧ (own_u16 cs).getD (2 * q + 1) (.int 0) = .int (own_hi (cs.getD q 0))
  | [], q, h => absurd h (Nat.not_lt_zero _)
  | c :: r, 0, _ => ⟨rfl, rfl⟩
  | c :: r, q + 1, h => by
    have := own_u16_at r q (by simpa using h)
    simp only [own_u16]
    rw [show 2 * (q + 1) = 2 * q + 1 + 1 by omega]
    exact this
theorem own_take_succ (cs : List Int32) (q : Nat) (h : q < cs.length) : cs.take (q + 1) = cs.take q ++ [cs.getD q 0] := by
  rw [List.take_succ, List.getElem?_eq_getElem h, List.getD_eq_getElem?_getD, List.getElem?_eq_getElem h]; rfl
theorem own_mapget (cs : List Int32) (q : Nat) (h : q < cs.length) (hb : cs.length < 2147483648) (d : Value) : (cs.map Value.int).getD (Int32.ofNat q).toNatClampNeg d = .int (cs.getD q 0) := by
  rw [own_clampN (by omega), List.getD_eq_getElem?_getD, List.getD_eq_getElem?_getD, List.getElem?_map, List.getElem?_eq_getElem h]; rfl
theorem own_inb (q n : Nat) (h : q < n) (hn : n < 2147483648) : ¬ Int32.ofNat q < 0 ∧ Int32.ofNat q < Int32.ofNat n := by
  constructor
  · exact own_nneg (by omega)
  · rw [Int32.lt_iff_toInt_lt, Int32.toInt_ofNat_small (by omega), Int32.toInt_ofNat_small (by omega)]; omega
theorem own_ofNat_lt {q K : Nat} (h : q < K) (hK : K < 2147483648) : Int32.ofNat q < Int32.ofNat K := by
  rw [Int32.lt_iff_toInt_lt, Int32.toInt_ofNat_small (by omega), Int32.toInt_ofNat_small (by omega)]; omega
theorem own_ofNat_nlt {q K : Nat} (h : ¬ q < K) (hK : q < 2147483648) : ¬ Int32.ofNat q < Int32.ofNat K := by
  rw [Int32.lt_iff_toInt_lt, Int32.toInt_ofNat_small (by omega), Int32.toInt_ofNat_small (by omega)]; omega
theorem own_ofNat_inj {q K : Nat} (h : Int32.ofNat q = Int32.ofNat K) (h1 : q < 2147483648) (h2 : K < 2147483648) : q = K := by
  have := congrArg Int32.toInt h
  rw [Int32.toInt_ofNat_small h1, Int32.toInt_ofNat_small h2] at this; omega
theorem own_shl1 (n : Nat) (h : n < 1000000) : Int32.ofNat n <<< ((1 : Int32) &&& 31) = Int32.ofNat (2 * n) := by
  have c := c_ishl (Int32.ofNat n) 1 1 rfl
  rw [Int32.toInt_ofNat_small (by omega)] at c
  have r := rng32 (Int32.ofNat n <<< ((1 : Int32) &&& 31))
  apply Int32.toInt_inj.mp
  rw [Int32.toInt_ofNat_small (by omega)]
  omega
theorem own_cl0 (n : Nat) : ((((Int32.ofNat n - Int32.ofNat n).toUInt32 >>> ((31 : Int32) &&& 31).toUInt32).toInt32)).toInt8.toInt32 = 0 := by
  rw [Int32.sub_self]; decide
theorem own_cl1 (n : Nat) (h0 : 0 < n) (h : n < 1000000) : ((((Int32.ofNat n - Int32.ofNat (2 * n)).toUInt32 >>> ((31 : Int32) &&& 31).toUInt32).toInt32)).toInt8.toInt32 = 1 := by
  have c := c_isub (Int32.ofNat n) (Int32.ofNat (2 * n))
  rw [Int32.toInt_ofNat_small (by omega), Int32.toInt_ofNat_small (by omega)] at c
  have r := rng32 (Int32.ofNat n - Int32.ofNat (2 * n))
  have u := c_iushr (Int32.ofNat n - Int32.ofNat (2 * n)) 31 31 rfl (by decide)
  have e : (((Int32.ofNat n - Int32.ofNat (2 * n)).toUInt32 >>> ((31 : Int32) &&& 31).toUInt32).toInt32) = 1 := by
    apply Int32.toInt_inj.mp
    rw [u, show (1 : Int32).toInt = 1 from rfl]
    omega
  rw [e]; decide
abbrev own_isHi (c : Int32) : Prop := ¬ c < (55296 : Int32) ∧ c < (56320 : Int32)
abbrev own_isLo (c : Int32) : Prop := ¬ c < (56320 : Int32) ∧ c < (57344 : Int32)
abbrev own_isSur (c : Int32) : Prop := ¬ c < (55296 : Int32) ∧ c < (57344 : Int32)
theorem own_hi2 (c : Int32) : ¬ (56319 : Int32) < c ↔ c < (56320 : Int32) := by
  rw [Int32.lt_iff_toInt_lt, Int32.lt_iff_toInt_lt, show (56319 : Int32).toInt = 56319 from rfl, show (56320 : Int32).toInt = 56320 from rfl]; omega
theorem own_lo2 (c : Int32) : ¬ (57343 : Int32) < c ↔ c < (57344 : Int32) := by
  rw [Int32.lt_iff_toInt_lt, Int32.lt_iff_toInt_lt, show (57343 : Int32).toInt = 57343 from rfl, show (57344 : Int32).toInt = 57344 from rfl]; omega
theorem own_shr1 (n : Nat) (h : n < 1000000) : Int32.ofNat (2 * n) >>> ((1 : Int32) &&& 31) = Int32.ofNat n := by
  apply Int32.toInt_inj.mp
  rw [c_ishr (Int32.ofNat (2 * n)) 1 1 rfl, Int32.toInt_ofNat_small (by omega), Int32.toInt_ofNat_small (by omega)]
  omega
theorem own_msk (x : Int32) (K : Int32) (h : K = 3 ∨ K = 7) : ∃ k : Nat, (k : Int) ≤ K.toInt ∧ (x &&& K) = Int32.ofNat k := by
  rcases h with rfl | rfl
  · have h := c_mask x 3 2 (by decide) rfl
    exact ⟨(x &&& 3).toInt.toNat, by rw [show (3 : Int32).toInt = 3 from rfl]; omega, by apply Int32.toInt_inj.mp; rw [Int32.toInt_ofNat_small (by omega)]; omega⟩
  · have h := c_mask x 7 3 (by decide) rfl
    exact ⟨(x &&& 7).toInt.toNat, by rw [show (7 : Int32).toInt = 7 from rfl]; omega, by apply Int32.toInt_inj.mp; rw [Int32.toInt_ofNat_small (by omega)]; omega⟩
theorem own_i2c16 (x : Int32) : ¬ (x.toUInt32.toUInt16.toUInt32.toInt32) < 0 ∧ ¬ (65535 : Int32) < (x.toUInt32.toUInt16.toUInt32.toInt32) := by
  have h := c_i2c x
  rw [Int32.lt_iff_toInt_lt, Int32.lt_iff_toInt_lt, show (0 : Int32).toInt = 0 from rfl, show (65535 : Int32).toInt = 65535 from rfl]
  omega
theorem own_b255 (x : Int32) (h : ¬ x < 0 ∧ ¬ (255 : Int32) < x) : ((x.toInt8.toInt32) &&& (255 : Int32)) = x := by
  have a := c_i2b x; have b := c_mask (x.toInt8.toInt32) 255 8 (by decide) rfl
  rw [Int32.lt_iff_toInt_lt, Int32.lt_iff_toInt_lt, show (0 : Int32).toInt = 0 from rfl, show (255 : Int32).toInt = 255 from rfl] at h
  apply Int32.toInt_inj.mp
  omega
theorem own_bs_at (cs : List Int32) (q : Nat) (h : q < cs.length) : (own_bs cs).getD q (.int 0) = .int ((cs.getD q 0).toInt8.toInt32) := by
  rw [own_bs, List.getD_eq_getElem?_getD, List.getD_eq_getElem?_getD, List.getElem?_map, List.getElem?_map, List.getElem?_eq_getElem h]; rfl
abbrev own_hiI (x : Int) : Prop := 55296 ≤ x ∧ x < 56320
abbrev own_loI (x : Int) : Prop := 56320 ≤ x ∧ x < 57344
def own_pv (x y : Int) : Int := (x - 55296) * 1024 + (y - 56320) + 65536
def own_cps : List Int → List Int
  | [] => []
  | [x] => [x]
  | x :: y :: r => if own_hiI x ∧ own_loI y then own_pv x y :: own_cps r else x :: own_cps (y :: r)
def own_lex : List Int → List Int → Int
  | [], [] => 0
  | [], _ :: _ => -1
  | _ :: _, [] => 1
  | x :: a, y :: b => if x < y then -1 else if y < x then 1 else own_lex a b
def own_sg (x : Int) : Int := if x < 0 then -1 else if 0 < x then 1 else 0
theorem own_lex_same (x : Int) (a b : List Int) : own_lex (x :: a) (x :: b) = own_lex a b := by
  rw [own_lex, if_neg (Int.lt_irrefl _), if_neg (Int.lt_irrefl _)]
theorem own_lex_ne {x y : Int} (h : x ≠ y) (a b : List Int) : own_lex (x :: a) (y :: b) = own_sg (x - y) := by
  rw [own_lex, own_sg]
  rcases Int.lt_trichotomy x y with g | g | g
  · rw [if_pos g, if_pos (by omega)]
  · exact absurd g h
  · rw [if_neg (by omega), if_pos g, if_neg (by omega), if_pos (by omega)]
theorem own_lex_refl : ∀ a : List Int, own_lex a a = 0
  | [] => rfl
  | x :: a => by rw [own_lex_same, own_lex_refl a]
def own_hdc : List Int → Int
  | [] => 0
  | [x] => x
  | x :: y :: _ => if own_hiI x ∧ own_loI y then own_pv x y else x
def own_tlc : List Int → List Int
  | [] => []
  | [_] => []
  | x :: y :: r => if own_hiI x ∧ own_loI y then r else y :: r
theorem own_cps_cons (x : Int) (r : List Int) : own_cps (x :: r) = own_hdc (x :: r) :: own_cps (own_tlc (x :: r)) := by
  match r with
  | [] => rfl
  | y :: r =>
    simp only [own_cps, own_hdc, own_tlc]
    split <;> rfl
theorem own_cps_nhi {x : Int} (h : ¬ own_hiI x) (r : List Int) : own_cps (x :: r) = x :: own_cps r := by
  match r with
  | [] => rfl
  | y :: r => rw [own_cps, if_neg (fun g => h g.1)]
theorem own_cps_nlo {x y : Int} (h : ¬ own_loI y) (r : List Int) : own_cps (x :: y :: r) = x :: own_cps (y :: r) := by
  rw [own_cps, if_neg (fun g => h g.2)]
def own_last : List Int → List Int
  | [] => []
  | [x] => [x]
  | _ :: y :: r => own_last (y :: r)
theorem own_strip : ∀ (P A B : List Int), own_lex (own_cps (P ++ A)) (own_cps (P ++ B)) = own_lex (own_cps (own_last P ++ A)) (own_cps (own_last P ++ B))
  | [], A, B => rfl
  | [x], A, B => rfl
  | [x, y], A, B => by
    simp only [List.cons_append, List.nil_append, own_last]
    rw [own_cps, own_cps]
    by_cases h : own_hiI x ∧ own_loI y
    · have g : ¬ own_hiI y := fun k => by have h1 := h.2.1; have h2 := k.2; omega
      rw [if_pos h, if_pos h, own_lex_same, own_cps_nhi g, own_cps_nhi g, own_lex_same]
    · rw [if_neg h, if_neg h, own_lex_same]
  | x :: y :: z :: r, A, B => by
    have i1 := own_strip (y :: z :: r) A B
    have i2 := own_strip (z :: r) A B
    simp only [List.cons_append, own_last] at i1 i2 ⊢
    rw [own_cps, own_cps.eq_3 x y (z :: (r ++ B))]
    by_cases h : own_hiI x ∧ own_loI y
    · rw [if_pos h, if_pos h, own_lex_same, i2]
    · rw [if_neg h, if_neg h, own_lex_same, i1]
abbrev own_r16 (cs : List Int) : Prop := ∀ c ∈ cs, 0 ≤ c ∧ c ≤ 65535
theorem own_hdc_ne {x y : Int} {a b : List Int} (h : x ≠ y) (ha : own_r16 (x :: a)) (hb : own_r16 (y :: b)) : own_hdc (x :: a) ≠ own_hdc (y :: b) := by
  have hx := ha x (List.mem_cons_self ..)
  have hy := hb y (List.mem_cons_self ..)
  match a, b with
  | [], [] => exact h
  | [], v :: b =>
    simp only [own_hdc]; split
    · rename_i g; rw [own_pv]; have := g.1.1; have := g.2.1; omega
    · exact h
  | u :: a, [] =>
    simp only [own_hdc]; split
    · rename_i g; rw [own_pv]; have := g.1.1; have := g.2.1; omega
    · exact h
  | u :: a, v :: b =>
    simp only [own_hdc]; split
    · rename_i g; split
      · rename_i g'; rw [own_pv, own_pv]; have := g.1; have := g.2; have := g'.1; have := g'.2; omega
      · rw [own_pv]; have := g.1.1; have := g.2.1; omega
    · split
      · rename_i g'; rw [own_pv]; have := g'.1.1; have := g'.2.1; omega
      · exact h
/-- a mismatch where no pair is cut -/
theorem own_case1 (l : List Int) {x y : Int} {a b : List Int} (hl : l.length ≤ 1) (h : x ≠ y) (ha : own_r16 (x :: a)) (hb : own_r16 (y :: b)) (hc : ∀ z ∈ l, ¬ (own_hiI z ∧ (own_loI x ∨ own_loI y))) :
    own_lex (own_cps (l ++ x :: a)) (own_cps (l ++ y :: b)) = own_sg (own_hdc (x :: a) - own_hdc (y :: b)) := by
  have m : own_lex (own_cps (x :: a)) (own_cps (y :: b)) = own_sg (own_hdc (x :: a) - own_hdc (y :: b)) := by
    rw [own_cps_cons, own_cps_cons, own_lex_ne (own_hdc_ne h ha hb)]
  match l, hl with
  | [], _ => exact m
  | [z], _ =>
    have hz := hc z (List.mem_singleton.mpr rfl)
    by_cases hh : own_hiI z
    · show own_lex (own_cps (z :: x :: a)) (own_cps (z :: y :: b)) = _
      rw [own_cps_nlo (fun g => hz ⟨hh, Or.inl g⟩), own_cps_nlo (fun g => hz ⟨hh, Or.inr g⟩), own_lex_same, m]
    · show own_lex (own_cps (z :: x :: a)) (own_cps (z :: y :: b)) = _
      rw [own_cps_nhi hh, own_cps_nhi hh, own_lex_same, m]
/-- a mismatch behind a high unit, of which one side is a low one -/
theorem own_case2 {z x y : Int} {a b : List Int} (h : x ≠ y) (hz : own_hiI z) (hc : own_loI x ∨ own_loI y) :
    own_lex (own_cps (z :: x :: a)) (own_cps (z :: y :: b)) = own_sg (own_hdc (z :: x :: a) - own_hdc (z :: y :: b)) := by
  have hn : own_hdc (z :: x :: a) ≠ own_hdc (z :: y :: b) := by
    simp only [own_hdc]
    by_cases g : own_loI x
    · rw [if_pos ⟨hz, g⟩]
      by_cases g' : own_loI y
      · rw [if_pos ⟨hz, g'⟩, own_pv, own_pv]; omega
      · rw [if_neg (fun k => g' k.2), own_pv]; have := hz.1; have := hz.2; have := g.1; omega
    · have g' := hc.resolve_left g
      rw [if_neg (fun k => g k.2), if_pos ⟨hz, g'⟩, own_pv]; have := hz.1; have := hz.2; have := g'.1; omega
  rw [own_cps_cons, own_cps_cons z, own_lex_ne hn]
theorem own_case3 (l : List Int) (hl : l.length ≤ 1) (b : List Int) (hr : own_r16 (l ++ b)) :
    own_lex (own_cps l) (own_cps (l ++ b)) = (if b = [] then 0 else -1) ∧ own_lex (own_cps (l ++ b)) (own_cps l) = (if b = [] then 0 else 1) := by
  match l, hl, b with
  | [], _, [] => exact ⟨rfl, rfl⟩
  | [], _, x :: b => rw [List.nil_append, own_cps_cons, if_neg (by simp), if_neg (by simp)]; exact ⟨rfl, rfl⟩
  | [z], _, [] => rw [List.append_nil, if_pos rfl, if_pos rfl, own_lex_refl]; exact ⟨rfl, rfl⟩
  | [z], _, x :: b =>
    rw [if_neg (by simp), if_neg (by simp)]
    show own_lex [z] (own_cps (z :: x :: b)) = -1 ∧ own_lex (own_cps (z :: x :: b)) [z] = 1
    by_cases h : own_hiI z ∧ own_loI x
    · have e : own_cps (z :: x :: b) = own_pv z x :: own_cps b := by rw [own_cps, if_pos h]
      have k : z < own_pv z x := by rw [own_pv]; have := h.1.1; have := h.1.2; have := h.2.1; omega
      rw [e, own_lex_ne (by omega), own_lex_ne (by omega), own_sg, own_sg, if_pos (by omega), if_neg (by omega), if_pos (by omega)]
      exact ⟨rfl, rfl⟩
    · have e : own_cps (z :: x :: b) = z :: own_cps (x :: b) := by rw [own_cps, if_neg h]
      rw [e, own_lex_same, own_lex_same, own_cps_cons]
      exact ⟨rfl, rfl⟩
def own_atI (cs : List Int) (i : Nat) : Int := if i < cs.length then own_hdc (cs.drop i) else -1
def own_nx (i : Nat) (p : Int) : Nat := if p < 0 then i else if p < 65536 then i + 1 else i + 2
theorem own_hdc_rng {x : Int} {r : List Int} (h : own_r16 (x :: r)) : 0 ≤ own_hdc (x :: r) ∧ (own_hdc (x :: r) < 65536 → own_tlc (x :: r) = r) ∧ (¬ own_hdc (x :: r) < 65536 → ∃ y, r = y :: own_tlc (x :: r)) := by
  have hx := h x (List.mem_cons_self ..)
  match r with
  | [] => exact ⟨hx.1, fun _ => rfl, fun g => absurd (show x < 65536 by omega) g⟩
  | y :: r =>
    simp only [own_hdc, own_tlc]
    by_cases g : own_hiI x ∧ own_loI y
    · rw [if_pos g, if_pos g, own_pv]; have := g.1.1; have := g.2.1
      exact ⟨by omega, fun k => absurd k (by omega), fun _ => ⟨y, rfl⟩⟩
    · rw [if_neg g, if_neg g]; exact ⟨hx.1, fun _ => rfl, fun k => absurd hx.2 (by omega)⟩
theorem own_at_step (cs : List Int) (hr : own_r16 cs) (i : Nat) (h : i < cs.length) : own_cps (cs.drop i) = own_atI cs i :: own_cps (cs.drop (own_nx i (own_atI cs i))) ∧ 0 ≤ own_atI cs i ∧ i + 1 ≤ own_nx i (own_atI cs i) := by
  have e : cs.drop i = cs[i] :: cs.drop (i + 1) := List.drop_eq_getElem_cons h
  have hr' : own_r16 (cs[i] :: cs.drop (i + 1)) := fun c hc => hr c (List.mem_of_mem_drop (e ▸ hc))
  obtain ⟨h0, h1, h2⟩ := own_hdc_rng hr'
  rw [own_atI, if_pos h, e]
  rw [own_cps_cons]
  refine ⟨?_, h0, ?_⟩
  · rw [own_nx, if_neg (by omega)]
    by_cases g : own_hdc (cs[i] :: cs.drop (i + 1)) < 65536
    · rw [if_pos g, h1 g]
    · rw [if_neg g]
      obtain ⟨y, hy⟩ := h2 g
      have e2 : cs.drop (i + 2) = own_tlc (cs[i] :: cs.drop (i + 1)) := by
        have e3 : cs.drop (i + 2) = (cs.drop (i + 1)).drop 1 := by rw [List.drop_drop]
        exact e3.trans (congrArg (List.drop 1) hy)
      rw [e2]
  · rw [own_nx, if_neg (by omega)]; split <;> omega
theorem own_at_end (cs : List Int) (i : Nat) (h : ¬ i < cs.length) : cs.drop i = [] ∧ own_atI cs i = -1 ∧ own_nx i (own_atI cs i) = i := by
  refine ⟨List.drop_of_length_le (by omega), if_neg h, ?_⟩
  rw [show own_atI cs i = -1 from if_neg h]; rfl
theorem own_nx_min (cs : List Int) (hr : own_r16 cs) (i k : Nat) (h : k ≤ i ∨ cs.length ≤ i) : k + 1 ≤ own_nx i (own_atI cs i) ∨ cs.length ≤ own_nx i (own_atI cs i) := by
  by_cases g : i < cs.length
  · have := (own_at_step cs hr i g).2.2; omega
  · rw [(own_at_end cs i g).2.2]; exact Or.inr (by omega)
theorem own_ref_step (A B : List Int) (hA : own_r16 A) (hB : own_r16 B) (i j : Nat) :
    own_lex (own_cps (A.drop i)) (own_cps (B.drop j)) = if own_atI A i = own_atI B j then own_lex (own_cps (A.drop (own_nx i (own_atI A i)))) (own_cps (B.drop (own_nx j (own_atI B j)))) else own_sg (own_atI A i - own_atI B j) := by
  by_cases ha : i < A.length
  · obtain ⟨a1, a2, a3⟩ := own_at_step A hA i ha
    by_cases hb : j < B.length
    · obtain ⟨b1, b2, b3⟩ := own_at_step B hB j hb
      by_cases h : own_atI A i = own_atI B j
      · rw [if_pos h, a1, b1, h, own_lex_same]
      · rw [if_neg h, a1, b1, own_lex_ne h]
    · obtain ⟨b1, b2, b3⟩ := own_at_end B j hb
      rw [if_neg (by omega), b1, a1, b2, own_sg, if_neg (by omega), if_pos (by omega)]; rfl
  · obtain ⟨a1, a2, a3⟩ := own_at_end A i ha
    by_cases hb : j < B.length
    · obtain ⟨b1, b2, b3⟩ := own_at_step B hB j hb
      rw [if_neg (by omega), a1, b1, a2, own_sg, if_pos (by omega)]; rfl
    · obtain ⟨b1, b2, b3⟩ := own_at_end B j hb
      rw [if_pos (by omega), a3, b3]
theorem own_ref_end (A B : List Int) (i j : Nat) (hi : A.length ≤ i) (hj : B.length ≤ j) : own_lex (own_cps (A.drop i)) (own_cps (B.drop j)) = 0 := by
  rw [List.drop_of_length_le hi, List.drop_of_length_le hj]; rfl
def own_il (cs : List Int32) : List Int := cs.map Int32.toInt
theorem own_il_r16 (cs : List Int32) (h : ∀ c ∈ cs, ¬ c < 0 ∧ ¬ (65535 : Int32) < c) : own_r16 (own_il cs) := by
  intro x hx
  obtain ⟨c, hc, rfl⟩ := List.mem_map.mp hx
  have g := h c hc
  rw [Int32.lt_iff_toInt_lt, Int32.lt_iff_toInt_lt, show (0 : Int32).toInt = 0 from rfl, show (65535 : Int32).toInt = 65535 from rfl] at g
  omega
theorem own_il_hi (c : Int32) : own_isHi c ↔ own_hiI c.toInt := by
  rw [own_isHi, Int32.lt_iff_toInt_lt, Int32.lt_iff_toInt_lt, show (55296 : Int32).toInt = 55296 from rfl, show (56320 : Int32).toInt = 56320 from rfl]; exact ⟨fun h => ⟨by omega, h.2⟩, fun h => ⟨by have := h.1; omega, h.2⟩⟩
theorem own_il_lo (c : Int32) : own_isLo c ↔ own_loI c.toInt := by
  rw [own_isLo, Int32.lt_iff_toInt_lt, Int32.lt_iff_toInt_lt, show (57344 : Int32).toInt = 57344 from rfl, show (56320 : Int32).toInt = 56320 from rfl]; exact ⟨fun h => ⟨by omega, h.2⟩, fun h => ⟨by have := h.1; omega, h.2⟩⟩
theorem own_il_drop (cs : List Int32) (q : Nat) (h : q < cs.length) : (own_il cs).drop q = (cs.getD q 0).toInt :: (own_il cs).drop (q + 1) := by
  have hl : q < (own_il cs).length := by rw [own_il, List.length_map]; exact h
  rw [List.drop_eq_getElem_cons hl, List.getD_eq_getElem?_getD, List.getElem?_eq_getElem h]
  simp only [own_il, List.getElem_map]; rfl
theorem own_pairL {h l : Int32} (hh : own_isHi h) (hl : own_isLo l) : ((((h - (55296 : Int32)) <<< ((10 : Int32) &&& 31)) + (l - (56320 : Int32))) + (65536 : Int32)).toInt = own_pv h.toInt l.toInt := by
  rw [own_il_hi] at hh; rw [own_il_lo] at hl
  have a := hh.1; have b := hh.2; have c := hl.1; have d := hl.2
  have e1 := c_isub h 55296; have e2 := c_isub l 56320
  have e3 := c_ishl (h - 55296) 10 10 rfl
  have e4 := c_iadd ((h - (55296 : Int32)) <<< ((10 : Int32) &&& 31)) (l - 56320)
  have e5 := c_iadd (((h - (55296 : Int32)) <<< ((10 : Int32) &&& 31)) + (l - (56320 : Int32))) 65536
  rw [show (55296 : Int32).toInt = 55296 from rfl] at e1
  rw [show (56320 : Int32).toInt = 56320 from rfl] at e2
  rw [show (65536 : Int32).toInt = 65536 from rfl] at e5
  have r := rng32 ((((h - (55296 : Int32)) <<< ((10 : Int32) &&& 31)) + (l - (56320 : Int32))) + (65536 : Int32))
  rw [own_pv]; omega
theorem own_pairJ {h l : Int32} (hh : own_isHi h) (hl : own_isLo l) : (((h <<< ((10 : Int32) &&& 31)) + l) + (-56613888 : Int32)).toInt = own_pv h.toInt l.toInt := by
  rw [own_il_hi] at hh; rw [own_il_lo] at hl
  have a := hh.1; have b := hh.2; have c := hl.1; have d := hl.2
  have e3 := c_ishl h 10 10 rfl
  have e4 := c_iadd (h <<< ((10 : Int32) &&& 31)) l
  have e5 := c_iadd ((h <<< ((10 : Int32) &&& 31)) + l) (-56613888)
  rw [show (-56613888 : Int32).toInt = -56613888 from rfl] at e5
  have r := rng32 (((h <<< ((10 : Int32) &&& 31)) + l) + (-56613888 : Int32))
  rw [own_pv]; omega
def own_icmp (x y : Int32) : Int32 := if x < y then -1 else if x = y then 0 else 1
theorem own_icmp_sg (x y : Int32) : own_sg (own_icmp x y).toInt = own_sg (x.toInt - y.toInt) := by
  rw [own_icmp, own_sg, own_sg]
  by_cases h : x < y
  · rw [if_pos h]; rw [Int32.lt_iff_toInt_lt] at h; rw [if_pos (by decide), if_pos (by omega)]
  · rw [if_neg h]; rw [Int32.lt_iff_toInt_lt] at h
    by_cases g : x = y
    · subst g; rw [if_pos rfl, if_neg (by decide), if_neg (by decide), if_neg (by omega), if_neg (by omega)]
    · have k : x.toInt ≠ y.toInt := fun e => g (Int32.toInt_inj.mp e)
      rw [if_neg g, if_neg (by decide), if_pos (by decide), if_neg (by omega), if_pos (by omega)]
def own_spec (A B : List Int32) : Int := own_lex (own_cps (own_il A)) (own_cps (own_il B))
theorem own_last_snoc : ∀ (P : List Int) (x : Int), own_last (P ++ [x]) = [x]
  | [], x => rfl
  | [_], x => rfl
  | a :: b :: r, x => own_last_snoc (b :: r) x
def own_pre (A : List Int32) (q : Nat) : List Int := (own_il A).take q
theorem own_last_len : ∀ P : List Int, (own_last P).length ≤ 1
  | [] => Nat.zero_le _
  | [_] => Nat.le_refl _
  | _ :: y :: r => own_last_len (y :: r)
theorem own_last_take (A : List Int32) (q : Nat) (h : q ≤ A.length) : own_last ((own_il A).take q) = if q = 0 then [] else [(A.getD (q - 1) 0).toInt] := by
  obtain rfl | ⟨k, rfl⟩ : q = 0 ∨ ∃ k, q = k + 1 := by
    cases q with
    | zero => exact Or.inl rfl
    | succ k => exact Or.inr ⟨k, rfl⟩
  · rfl
  · rw [if_neg (by omega), List.take_succ_eq_append_getElem (by rw [own_il, List.length_map]; omega), own_last_snoc]
    simp only [own_il, List.getElem_map, Nat.add_sub_cancel, List.getD_eq_getElem?_getD]
    rw [List.getElem?_eq_getElem (by omega)]; rfl
theorem own_hd_nhi (cs : List Int32) (q : Nat) (h : q < cs.length) (g : ¬ own_isHi (cs.getD q 0)) : own_hdc ((own_il cs).drop q) = (cs.getD q 0).toInt := by
  rw [own_il_hi] at g
  rw [own_il_drop cs q h]
  cases (own_il cs).drop (q + 1) with
  | nil => rfl
  | cons y r => rw [own_hdc, if_neg (fun k => g k.1)]
theorem own_hd_end (cs : List Int32) (q : Nat) (h : q < cs.length) (g : ¬ q + 1 < cs.length) : own_hdc ((own_il cs).drop q) = (cs.getD q 0).toInt := by
  rw [own_il_drop cs q h, List.drop_of_length_le (by rw [own_il, List.length_map]; omega)]; rfl
theorem own_hd_nlo (cs : List Int32) (q : Nat) (h : q + 1 < cs.length) (g : ¬ own_isLo (cs.getD (q + 1) 0)) : own_hdc ((own_il cs).drop q) = (cs.getD q 0).toInt := by
  rw [own_il_lo] at g
  rw [own_il_drop cs q (by omega), own_il_drop cs (q + 1) h, own_hdc, if_neg (fun k => g k.2)]
theorem own_hd_pair (cs : List Int32) (q : Nat) (h : q + 1 < cs.length) (g1 : own_isHi (cs.getD q 0)) (g2 : own_isLo (cs.getD (q + 1) 0)) : own_hdc ((own_il cs).drop q) = own_pv (cs.getD q 0).toInt (cs.getD (q + 1) 0).toInt := by
  rw [own_il_hi] at g1; rw [own_il_lo] at g2
  rw [own_il_drop cs q (by omega), own_il_drop cs (q + 1) h, own_hdc, if_pos ⟨g1, g2⟩]
theorem own_at_in (cs : List Int32) (q : Nat) (h : q < cs.length) : own_atI (own_il cs) q = own_hdc ((own_il cs).drop q) := if_pos (by rw [own_il, List.length_map]; exact h)
theorem own_split_at (A : List Int32) (q : Nat) : own_il A = (own_il A).take q ++ (own_il A).drop q := (List.take_append_drop q _).symm
theorem own_r16_drop (A : List Int32) (q : Nat) (h : ∀ c ∈ A, ¬ c < 0 ∧ ¬ (65535 : Int32) < c) : own_r16 ((own_il A).drop q) := fun c hc => own_il_r16 A h c (List.mem_of_mem_drop hc)
theorem own_strip2 (A B : List Int32) (q : Nat) (he : (own_il A).take q = (own_il B).take q) : own_spec A B = own_lex (own_cps (own_last ((own_il A).take q) ++ (own_il A).drop q)) (own_cps (own_last ((own_il A).take q) ++ (own_il B).drop q)) := by
  rw [own_spec, ← own_strip, List.take_append_drop, he, List.take_append_drop]
/-- the code's answer where the first units that differ cut no pair -/
theorem own_ans1 (A B : List Int32) (q : Nat) (hA : ∀ c ∈ A, ¬ c < 0 ∧ ¬ (65535 : Int32) < c) (hB : ∀ c ∈ B, ¬ c < 0 ∧ ¬ (65535 : Int32) < c) (ha : q < A.length) (hb : q < B.length) (he : (own_il A).take q = (own_il B).take q) (hne : ¬ A.getD q 0 = B.getD q 0)
    (hc : q = 0 ∨ ¬ (own_isHi (A.getD (q - 1) 0) ∧ (own_isLo (A.getD q 0) ∨ own_isLo (B.getD q 0)))) : own_sg (own_hdc ((own_il A).drop q) - own_hdc ((own_il B).drop q)) = own_spec A B := by
  rw [own_strip2 A B q he, own_last_take A q (by omega)]
  have rA := own_r16_drop A q hA
  have rB := own_r16_drop B q hB
  have hn : (A.getD q 0).toInt ≠ (B.getD q 0).toInt := fun e => hne (Int32.toInt_inj.mp e)
  rw [own_il_drop A q ha] at rA ⊢
  rw [own_il_drop B q hb] at rB ⊢
  refine (own_case1 _ ?_ hn rA rB ?_).symm
  · split <;> simp
  · intro z hz
    split at hz
    · exact nomatch hz
    · rename_i h0
      rw [List.mem_singleton] at hz
      subst hz
      rw [← own_il_hi, ← own_il_lo, ← own_il_lo]
      exact hc.resolve_left h0
theorem own_ans2 (A B : List Int32) (q : Nat) (ha : q < A.length) (hb : q < B.length) (he : (own_il A).take q = (own_il B).take q) (hne : ¬ A.getD q 0 = B.getD q 0) (h0 : 0 < q)
    (h1 : own_isHi (A.getD (q - 1) 0)) (h2 : own_isLo (A.getD q 0) ∨ own_isLo (B.getD q 0)) : own_sg (own_hdc ((own_il A).drop (q - 1)) - own_hdc ((own_il B).drop (q - 1))) = own_spec A B := by
  have hn : (A.getD q 0).toInt ≠ (B.getD q 0).toInt := fun e => hne (Int32.toInt_inj.mp e)
  have hl : (A.getD (q - 1) 0).toInt = (B.getD (q - 1) 0).toInt := by
    have e := congrArg own_last he
    rw [own_last_take A q (by omega), own_last_take B q (by omega), if_neg (by omega), if_neg (by omega)] at e
    exact (List.cons.inj e).1
  have s1 : (own_il A).drop (q - 1) = (A.getD (q - 1) 0).toInt :: (A.getD q 0).toInt :: (own_il A).drop (q + 1) := by
    have e := own_il_drop A (q - 1) (by omega)
    rwa [show q - 1 + 1 = q by omega, own_il_drop A q ha] at e
  have s2 : (own_il B).drop (q - 1) = (A.getD (q - 1) 0).toInt :: (B.getD q 0).toInt :: (own_il B).drop (q + 1) := by
    have e := own_il_drop B (q - 1) (by omega)
    rwa [show q - 1 + 1 = q by omega, own_il_drop B q hb, ← hl] at e
  rw [own_strip2 A B q he, own_last_take A q (by omega), if_neg (by omega), s1, s2, own_il_drop A q ha, own_il_drop B q hb]
  rw [own_il_hi] at h1
  rw [own_il_lo, own_il_lo] at h2
  exact (own_case2 hn h1 h2).symm
theorem own_ans3 (A B : List Int32) (q : Nat) (hA : ∀ c ∈ A, ¬ c < 0 ∧ ¬ (65535 : Int32) < c) (hB : ∀ c ∈ B, ¬ c < 0 ∧ ¬ (65535 : Int32) < c) (he : (own_il A).take q = (own_il B).take q) (ha : q ≤ A.length) (hb : q ≤ B.length) (hq : q = A.length ∨ q = B.length) :
    own_sg ((A.length : Int) - B.length) = own_spec A B := by
  have la : (own_il A).length = A.length := by rw [own_il, List.length_map]
  have lb : (own_il B).length = B.length := by rw [own_il, List.length_map]
  rw [own_strip2 A B q he]
  have hl := own_last_len ((own_il A).take q)
  have hm : ∀ c ∈ own_last ((own_il A).take q), 0 ≤ c ∧ c ≤ 65535 := by
    intro c hc
    rw [own_last_take A q ha] at hc
    split at hc
    · exact nomatch hc
    · rename_i h0
      rw [List.mem_singleton] at hc
      subst hc
      have e := own_il_drop A (q - 1) (by omega)
      exact own_r16_drop A (q - 1) hA _ (by rw [e]; exact List.mem_cons_self ..)
  rcases hq with h | h
  · have e : (own_il A).drop q = [] := List.drop_of_length_le (by omega)
    have r : own_r16 (own_last ((own_il A).take q) ++ (own_il B).drop q) := fun c hc => by
      rcases List.mem_append.mp hc with h | h
      · exact hm c h
      · exact own_r16_drop B q hB c h
    rw [e, List.append_nil, (own_case3 _ hl _ r).1, own_sg]
    by_cases g : B.length = q
    · rw [if_neg (by omega), if_neg (by omega), if_pos (List.drop_of_length_le (by omega))]
    · rw [if_pos (by omega), if_neg]
      intro k
      have := congrArg List.length k
      rw [List.length_drop, lb] at this
      simp only [List.length_nil] at this; omega
  · have e : (own_il B).drop q = [] := List.drop_of_length_le (by omega)
    have r : own_r16 (own_last ((own_il A).take q) ++ (own_il A).drop q) := fun c hc => by
      rcases List.mem_append.mp hc with h | h
      · exact hm c h
      · exact own_r16_drop A q hA c h
    rw [e, List.append_nil, (own_case3 _ hl _ r).2, own_sg]
    by_cases g : A.length = q
    · rw [if_neg (by omega), if_neg (by omega), if_pos (List.drop_of_length_le (by omega))]
    · rw [if_neg (by omega), if_pos (by omega), if_neg]
      intro k
      have := congrArg List.length k
      rw [List.length_drop, la] at this
      simp only [List.length_nil] at this; omega
theorem own_take_eq (A B : List Int32) (q : Nat) (ha : q < A.length) (hb : q < B.length) (he : (own_il A).take q = (own_il B).take q) (h : A.getD q 0 = B.getD q 0) : (own_il A).take (q + 1) = (own_il B).take (q + 1) := by
  have la : q < (own_il A).length := by rw [own_il, List.length_map]; exact ha
  have lb : q < (own_il B).length := by rw [own_il, List.length_map]; exact hb
  rw [List.take_succ_eq_append_getElem la, List.take_succ_eq_append_getElem lb, he]
  congr 2
  simp only [own_il, List.getElem_map]
  rw [List.getD_eq_getElem?_getD, List.getElem?_eq_getElem ha, List.getD_eq_getElem?_getD, List.getElem?_eq_getElem hb] at h
  exact congrArg Int32.toInt h
theorem own_nhi255 {x : Int32} (h : ¬ x < 0 ∧ ¬ (255 : Int32) < x) : ¬ own_isHi x := by
  intro g
  have a := g.1; have b := h.2
  rw [Int32.lt_iff_toInt_lt] at a b
  rw [show (55296 : Int32).toInt = 55296 from rfl] at a
  rw [show (255 : Int32).toInt = 255 from rfl] at b
  omega
theorem own_sur_hi {x : Int32} (h : ¬ own_isSur x) : ¬ own_isHi x ∧ ¬ own_isLo x := by
  rw [own_isSur, Int32.lt_iff_toInt_lt, Int32.lt_iff_toInt_lt, show (55296 : Int32).toInt = 55296 from rfl, show (57344 : Int32).toInt = 57344 from rfl] at h
  rw [own_il_hi, own_il_lo]
  exact ⟨fun g => by have a := g.1; have b := g.2; omega, fun g => by have a := g.1; have b := g.2; omega⟩
theorem own_ans0 (A B : List Int32) (q : Nat) (hA : ∀ c ∈ A, ¬ c < 0 ∧ ¬ (65535 : Int32) < c) (hB : ∀ c ∈ B, ¬ c < 0 ∧ ¬ (65535 : Int32) < c) (ha : q < A.length) (hb : q < B.length) (he : (own_il A).take q = (own_il B).take q) (hne : ¬ A.getD q 0 = B.getD q 0)
    (h1 : ¬ own_isSur (A.getD q 0)) (h2 : ¬ own_isSur (B.getD q 0)) : own_sg (A.getD q 0 - B.getD q 0).toInt = own_spec A B := by
  have g1 := own_sur_hi h1; have g2 := own_sur_hi h2
  rw [← own_ans1 A B q hA hB ha hb he hne (Or.inr (fun g => g.2.elim g1.2 g2.2)), own_hd_nhi A q ha g1.1, own_hd_nhi B q hb g2.1]
  have e := c_isub (A.getD q 0) (B.getD q 0)
  have ra := own_r16_drop A q hA (A.getD q 0).toInt (by rw [own_il_drop A q ha]; exact List.mem_cons_self ..)
  have rb := own_r16_drop B q hB (B.getD q 0).toInt (by rw [own_il_drop B q hb]; exact List.mem_cons_self ..)
  have r := rng32 (A.getD q 0 - B.getD q 0)
  congr 1
  omega
theorem own_nx0 {q : Nat} {p : Int32} (h : p < 0) : own_nx q p.toInt = q := by
  rw [Int32.lt_iff_toInt_lt] at h; exact if_pos h
theorem own_nx1 {q : Nat} {p : Int32} (h : ¬ p < 0) (g : p < (65536 : Int32)) : own_nx q p.toInt = q + 1 := by
  rw [Int32.lt_iff_toInt_lt] at h g; exact (if_neg h).trans (if_pos g)
theorem own_nx2 {q : Nat} {p : Int32} (h : ¬ p < 0) (g : ¬ p < (65536 : Int32)) : own_nx q p.toInt = q + 2 := by
  rw [Int32.lt_iff_toInt_lt] at h g; exact (if_neg h).trans (if_neg g)
theorem own_add2 (n : Nat) : Int32.ofNat n + (2 : Int32) = Int32.ofNat (n + 2) := by
  rw [inc_ofNat (n + 1), inc_ofNat n, Int32.add_assoc]; rfl
theorem own_nx_le (q : Nat) (p : Int) : own_nx q p ≤ q + 2 := by
  rw [own_nx]; split <;> try split
  all_goals omega
theorem own_sg_lt {x y : Int32} (h : x < y) : own_sg (-1 : Int32).toInt = own_sg (x.toInt - y.toInt) := by
  rw [Int32.lt_iff_toInt_lt] at h
  rw [own_sg, own_sg, if_pos (by decide), if_pos (by omega)]
theorem own_sg_gt {x y : Int32} (h : ¬ x < y) (g : ¬ x = y) : own_sg (1 : Int32).toInt = own_sg (x.toInt - y.toInt) := by
  have k : x.toInt ≠ y.toInt := fun e => g (Int32.toInt_inj.mp e)
  rw [Int32.lt_iff_toInt_lt] at h
  rw [own_sg, own_sg, if_neg (by decide), if_pos (by decide), if_neg (by omega), if_pos (by omega)]
theorem own_sg_eq {r e : Int32} (h : own_sg r.toInt = own_sg e.toInt) : (r < 0 ↔ e < 0) ∧ (0 < r ↔ 0 < e) := by
  rw [Int32.lt_iff_toInt_lt, Int32.lt_iff_toInt_lt, Int32.lt_iff_toInt_lt, Int32.lt_iff_toInt_lt, show (0 : Int32).toInt = 0 from rfl]
  rw [own_sg, own_sg] at h
  split at h <;> split at h <;> (try split at h) <;> (try split at h) <;> omega
def own_l8 : List Int32 := [97, 98, 55296, 56319, 56320, 57343, 57344, 65535]
def own_tk (K : Nat) (a b c : Int32) : List Int32 := [a, b, c].take K

theorem own_ef_rmNBL (m : MethodId) (nn : Nat) : entryFrame m #[(.int (Int32.ofNat nn))] 1 = mkF m 0 #[.val (.int (Int32.ofNat nn))] [] := by first | (simp [entryFrame, mkF, argsToLocals, Value.category]; done) | rfl
theorem own_pn_java_lang_StringUTF16 : plainName "java/lang/StringUTF16" = true := by first | (simp [plainName, overriddenIn]; done) | decide +kernel
theorem own_d17_0 : decode jdk_52_method_3_code 0 = .ok (.iload_n 0, 1) := by decide +kernel
theorem own_d17_1 : decode jdk_52_method_3_code 1 = .ok (.ifCond .ge 11, 3) := by decide +kernel
theorem own_d17_12 : decode jdk_52_method_3_code 12 = .ok (.iload_n 0, 1) := by decide +kernel
theorem own_d17_13 : decode jdk_52_method_3_code 13 = .ok (.ldc 20, 2) := by decide +kernel
theorem own_d17_15 : decode jdk_52_method_3_code 15 = .ok (.if_icmp .lt 40, 3) := by decide +kernel
theorem own_d17_55 : decode jdk_52_method_3_code 55 = .ok (.iload_n 0, 1) := by decide +kernel
theorem own_d17_56 : decode jdk_52_method_3_code 56 = .ok (.iconst 1, 1) := by decide +kernel
theorem own_d17_57 : decode jdk_52_method_3_code 57 = .ok (.ishl, 1) := by decide +kernel
theorem own_d17_58 : decode jdk_52_method_3_code 58 = .ok (.ireturn, 1) := by decide +kernel
def Q_rmNBL (Z : State) (nn : Nat) (h0 : Heap) (n0 : Nat) (v : Option Value) (h : Heap) (L : List Loc) : Prop := v = some (.int (Int32.ofNat (2 * nn))) ∧ Fr n0 L ∧ h = h0
set_option maxRecDepth 65536 in
set_option maxHeartbeats 40000000 in
theorem rmNBL (l : Launch) (Z : State) (a0 : Array Value) (hw : ∀ d ∈ tables_1, d.before a0 Z = true) (ws : List Jvm.Cond) (nn : Nat) (h0 : Heap) (n0 : Nat) (Z0 : n0 ≤ h0.size) (hn : (nn ≤ 3)) :
    MetFree l (⟨"java/lang/StringUTF16", "newBytesLength", "(I)I"⟩ : MethodName) (head1 (Jvm.Cond.code (⟨"java/lang/StringUTF16", "newBytesLength", "(I)I"⟩ : MethodName) jdk_52_method_3_code 1 (some .int) :: ws) ({ frames := 0, cells := 0, slots := 0, locals := 0 } : Room)) (fun a U => a = #[(.int (Int32.ofNat nn))] ∧ Z.Warmed39 U.vm ∧ U.heap = h0) (fun _ _ _ _ _ => True) (fun _ U o U' => ∃ v L, o = .returned v ∧ Q_rmNBL Z nn h0 n0 v U'.heap L ∧ FrameEnd U o U' L ({ frames := 0, cells := 0, slots := 0, locals := 0 } : Room).cells ({ frames := 0, cells := 0, slots := 0, locals := 0 } : Room).slots) := by
  refine MetFree.of_bodySF (plainFor_of_name own_pn_java_lang_StringUTF16) hisR ?_
  intro p e s m args below meth c s₁ Bd hml0 hP hK
  obtain ⟨rfl, hZ, hh⟩ := hP
  have hx := Bd.exec
  have hby := Bd.bytes
  have hml : c.maxLocals = 1 := hml0
  have hown : s.vm.findClass "java/lang/StringUTF16" = some m.cls := findClass_of_methodNamed Bd.named
  have hnm := (name_of_methodNamed Bd.named Bd.method).1
  have X0 : Stand p l e ({ frames := 0, cells := 0, slots := 0, locals := 0 } : Room) s m #[(.int (Int32.ofNat nn))] below meth c s₁ [] 0 0 := Stand.of_body Bd
  have e0 : s₁.heap = h0 := by rw [← hh, Bd.state]; rfl
  have N0 := Fr.nil n0
  have K0 : Keep h0 h0 [] := Keep.refl _ _
  refine own_go (S' := s₁.setTop (mkF m 0 #[.val (.int (Int32.ofNat nn))] [])) (fun tq kq => castTop (own_ef_rmNBL m nn) kq) ?_
  refine own_go (fun tq kq => XS.iloadN X0.here hx rfl (hb hby own_d17_0) rfl kq) ?_
  show own_Rn p e below _ (s₁.setTop (mkF m 1 #[.val (.int (Int32.ofNat nn))] [(.int (Int32.ofNat nn))]))
  refine own_go (fun tq kq => XS.ifYes X0.here hx rfl (pc0 := 1) (pc' := 12) rfl (hb hby own_d17_1) rfl ((if0 _ _).trans (flt (own_nneg (by omega) : ¬ ((Int32.ofNat nn) < (0 : Int32)))).2.1) (by decide) (by decide) kq) ?_
  show own_Rn p e below _ (s₁.setTop (mkF m 12 #[.val (.int (Int32.ofNat nn))] []))
  refine own_go (fun tq kq => XS.iloadN X0.here hx rfl (hb hby own_d17_12) rfl kq) ?_
  show own_Rn p e below _ (s₁.setTop (mkF m 13 #[.val (.int (Int32.ofNat nn))] [(.int (Int32.ofNat nn))]))
  refine own_go (fun tq kq => X0.ldcInt hx hown (mvT hZ (hw _ (List.mem_of_getElem? (i := 84) rfl))) (g := (mkF m 13 #[.val (.int (Int32.ofNat nn))] [(.int (Int32.ofNat nn))])) rfl (hb hby own_d17_13) _ kq) ?_
  show own_Rn p e below _ (s₁.setTop (mkF m 15 #[.val (.int (Int32.ofNat nn))] [(.int (1073741823 : Int32)), (.int (Int32.ofNat nn))]))
  refine own_go (fun tq kq => XS.icmpYes X0.here hx rfl (pc0 := 15) (pc' := 55) rfl (hb hby own_d17_15) rfl (tlt (own_ofNat_lt (K := 1073741823) (by omega) (by decide) : (Int32.ofNat nn) < (1073741823 : Int32))).1 (by decide) (by decide) kq) ?_
  show own_Rn p e below _ (s₁.setTop (mkF m 55 #[.val (.int (Int32.ofNat nn))] []))
  refine own_go (fun tq kq => XS.iloadN X0.here hx rfl (hb hby own_d17_55) rfl kq) ?_
  show own_Rn p e below _ (s₁.setTop (mkF m 56 #[.val (.int (Int32.ofNat nn))] [(.int (Int32.ofNat nn))]))
  refine own_go (fun tq kq => XS.iconst X0.here hx rfl (hb hby own_d17_56) kq) ?_
  show own_Rn p e below _ (s₁.setTop (mkF m 57 #[.val (.int (Int32.ofNat nn))] [(.int (1 : Int32)), (.int (Int32.ofNat nn))]))
  refine own_go (fun tq kq => XS.ishl X0.here hx rfl (hb hby own_d17_57) rfl kq) ?_
  show own_Rn p e below _ (s₁.setTop (mkF m 58 #[.val (.int (Int32.ofNat nn))] [(.int ((Int32.ofNat nn) <<< ((1 : Int32) &&& 31)))]))
  rw [show ((Int32.ofNat nn) <<< ((1 : Int32) &&& 31)) = (Int32.ofNat (2 * nn)) from own_shl1 nn (by omega)]
  show own_Rn p e below _ (s₁.setTop (mkF m 58 #[.val (.int (Int32.ofNat nn))] [(.int (Int32.ofNat (2 * nn)))]))
  exact own_ret X0 (v := some (.int (Int32.ofNat (2 * nn)))) (fun h => by rw [Bd.returns] at h; cases h) (fun fs hr => retI X0 hx Bd.returns (hb hby own_d17_58) hr) (by rw [e0]; exact ⟨rfl, N0, rfl⟩) (by decide) (by decide)
theorem own_ef_rmNBF (m : MethodId) (nn : Nat) : entryFrame m #[(.int (Int32.ofNat nn))] 1 = mkF m 0 #[.val (.int (Int32.ofNat nn))] [] := by first | (simp [entryFrame, mkF, argsToLocals, Value.category]; done) | rfl
theorem own_d16_0 : decode jdk_52_method_2_code 0 = .ok (.iload_n 0, 1) := by decide +kernel
theorem own_d16_1 : decode jdk_52_method_2_code 1 = .ok (.invokestatic 11, 3) := by decide +kernel
theorem own_pd_28I29I : parseMethodDescriptor "(I)I" = some ⟨[.int], some .int⟩ := by decide +kernel
theorem own_d16_4 : decode jdk_52_method_2_code 4 = .ok (.newarray .byte, 2) := by decide +kernel
theorem own_d16_6 : decode jdk_52_method_2_code 6 = .ok (.areturn, 1) := by decide +kernel
def Q_rmNBF (Z : State) (nn : Nat) (h0 : Heap) (n0 : Nat) (v : Option Value) (h : Heap) (L : List Loc) : Prop := ∃ (t : Addr), ∃ (kb : ClassId), v = some (.ref t) ∧ Fr n0 L ∧ Keep h0 h [] ∧ h0.size ≤ t ∧ n0 ≤ t ∧ Arv Z h t kb .byte (Int32.ofNat (2 * nn)) [] (.int 0)
set_option maxRecDepth 65536 in
set_option maxHeartbeats 40000000 in
theorem rmNBF (l : Launch) (Z : State) (a0 : Array Value) (hw : ∀ d ∈ tables_1, d.before a0 Z = true) (ws : List Jvm.Cond) (nn : Nat) (h0 : Heap) (n0 : Nat) (Z0 : n0 ≤ h0.size) (hn : (nn ≤ 3)) :
    MetFree l (⟨"java/lang/StringUTF16", "newBytesFor", "(I)[B"⟩ : MethodName) (head1 (Jvm.Cond.code (⟨"java/lang/StringUTF16", "newBytesFor", "(I)[B"⟩ : MethodName) jdk_52_method_2_code 1 (some (.array .byte)) :: ws) ({ frames := 1, cells := 1, slots := 6, locals := 12 } : Room)) (fun a U => a = #[(.int (Int32.ofNat nn))] ∧ Z.Warmed39 U.vm ∧ U.heap = h0) (fun _ _ _ _ _ => True) (fun _ U o U' => ∃ v L, o = .returned v ∧ Q_rmNBF Z nn h0 n0 v U'.heap L ∧ FrameEnd U o U' L ({ frames := 1, cells := 1, slots := 6, locals := 12 } : Room).cells ({ frames := 1, cells := 1, slots := 6, locals := 12 } : Room).slots) := by
  refine MetFree.of_bodySF (plainFor_of_name own_pn_java_lang_StringUTF16) hisR ?_
  intro p e s m args below meth c s₁ Bd hml0 hP hK
  obtain ⟨rfl, hZ, hh⟩ := hP
  have hx := Bd.exec
  have hby := Bd.bytes
  have hml : c.maxLocals = 1 := hml0
  have hown : s.vm.findClass "java/lang/StringUTF16" = some m.cls := findClass_of_methodNamed Bd.named
  have hnm := (name_of_methodNamed Bd.named Bd.method).1
  have X0 : Stand p l e ({ frames := 1, cells := 1, slots := 6, locals := 12 } : Room) s m #[(.int (Int32.ofNat nn))] below meth c s₁ [] 0 0 := Stand.of_body Bd
  have e0 : s₁.heap = h0 := by rw [← hh, Bd.state]; rfl
  have N0 := Fr.nil n0
  have K0 : Keep h0 h0 [] := Keep.refl _ _
  refine own_go (S' := s₁.setTop (mkF m 0 #[.val (.int (Int32.ofNat nn))] [])) (fun tq kq => castTop (own_ef_rmNBF m nn) kq) ?_
  refine own_go (fun tq kq => XS.iloadN X0.here hx rfl (hb hby own_d16_0) rfl kq) ?_
  show own_Rn p e below _ (s₁.setTop (mkF m 1 #[.val (.int (Int32.ofNat nn))] [(.int (Int32.ofNat nn))]))
  have Zn1 : n0 ≤ h0.size := by omega
  obtain ⟨rv1, _, ⟨T1, L1, k1, n1⟩, -, X1, ⟨Lc1, hQ1, l1, y1, z1⟩, st1⟩ := Jvm.LawKit.callS X0 hx (y := (⟨"java/lang/StringUTF16", "newBytesLength", "(I)I"⟩ : MethodName)) hown (mvT hZ (hw _ (List.mem_of_getElem? (i := 81) rfl))) (mvT hZ (hw _ (List.mem_of_getElem? (i := 82) rfl))) (mvT hZ (hw _ (List.mem_of_getElem? (i := 70) rfl))) (mvT hZ (hw _ (List.mem_of_getElem? (i := 83) rfl))) (by decide) (backOf (W := 0) (rmNBL l Z a0 hw [] (nn) h0 n0 Zn1 (hn)) hZ (hw _ (List.mem_of_getElem? (i := 83) rfl)) (hw _ (List.mem_of_getElem? (i := 70) rfl)) (by decide) (by decide)) (g := (mkF m 1 #[.val (.int (Int32.ofNat nn))] [(.int (Int32.ofNat nn))])) rfl (by rw [hml]; rfl) (argsL := [(.int (Int32.ofNat nn))]) (rest := []) (lenOf own_pd_28I29I rfl) rfl (by show 2 * 0 + _ ≤ _; exact Nat.le_of_eq rfl) (hb hby own_d16_1) (fun _ _ => ⟨rfl, e0, (by decide : 0 + 0 ≤ _), (by decide : 0 + 0 ≤ _)⟩)
  dsimp only [Pt.U, Pt.locs, Pt.cells, Pt.slots] at X1 l1 y1 z1 st1 hQ1
  subst l1 y1 z1
  obtain ⟨rfl, Nq1, eh1⟩ := hQ1
  have N1 := Fr.app N0 Nq1
  refine own_go st1 ?_
  show own_Rn p e below _ (T1.setTop (mkF m 4 #[.val (.int (Int32.ofNat nn))] [(.int (Int32.ofNat (2 * nn)))]))
  obtain ⟨T2, h2, k2, X2, e2, E2, A2, st2⟩ := newP X1 hx hZ (hw _ (List.mem_of_getElem? (i := 29) rfl)) eh1 (g := (mkF m 4 #[.val (.int (Int32.ofNat nn))] [(.int (Int32.ofNat (2 * nn)))])) rfl (hb hby own_d16_4) rfl (own_nneg (by omega)) (cap := 6) (by rw [own_clampN (by omega)]; omega) (by decide) (by decide) (by decide)
  obtain ⟨b2, g2⟩ : ∃ z, z = h0.size := ⟨_, rfl⟩
  rw [← g2] at A2 st2
  refine own_go st2 ?_
  have sz3 : h0.size ≤ h2.size := E2.1
  have K3 := K0.ext E2
  have gn2 : n0 ≤ b2 := by omega
  have V2 : Arv Z h2 b2 k2 .byte (Int32.ofNat (2 * nn)) [] (.int (0 : Int32)) := Arv.new A2 (own_nneg (by omega))
  have lt4 : @LT.lt Nat _ b2 h2.size := V2.lt
  show own_Rn p e below _ (T2.setTop (mkF m 6 #[.val (.int (Int32.ofNat nn))] [(.ref b2)]))
  exact own_ret X2 (v := some (.ref b2)) (fun h => by rw [Bd.returns] at h; cases h) (fun fs hr => X2.areturnOut hx rfl Bd.returns rfl (hb hby own_d16_6) hr) (by rw [e2]; exact ⟨b2, k2, rfl, N1, K3, (by omega), gn2, V2⟩) (by decide) (by decide)
theorem own_ef_rmPut (m : MethodId) (bv : Addr) (kb : ClassId) (ds : List Int32) (nn : Nat) (ch : Int32) (qq : Nat) : entryFrame m #[(.ref bv), (.int (Int32.ofNat qq)), (.int ch)] 3 = mkF m 0 #[.val (.ref bv), .val (.int (Int32.ofNat qq)), .val (.int ch)] [] := by first | (simp [entryFrame, mkF, argsToLocals, Value.category]; done) | rfl
theorem own_d18_0 : decode jdk_52_method_4_code 0 = .ok (.getstatic 44, 3) := by decide +kernel
theorem own_d18_3 : decode jdk_52_method_4_code 3 = .ok (.ifCond .ne 25, 3) := by decide +kernel
theorem own_d18_28 : decode jdk_52_method_4_code 28 = .ok (.iload_n 1, 1) := by decide +kernel
theorem own_d18_29 : decode jdk_52_method_4_code 29 = .ok (.iconst 1, 1) := by decide +kernel
theorem own_d18_30 : decode jdk_52_method_4_code 30 = .ok (.ishl, 1) := by decide +kernel
theorem own_d18_31 : decode jdk_52_method_4_code 31 = .ok (.istore_n 1, 1) := by decide +kernel
theorem own_d18_32 : decode jdk_52_method_4_code 32 = .ok (.aload_n 0, 1) := by decide +kernel
theorem own_d18_33 : decode jdk_52_method_4_code 33 = .ok (.iload_n 1, 1) := by decide +kernel
theorem own_d18_34 : decode jdk_52_method_4_code 34 = .ok (.iinc 1 1, 3) := by decide +kernel
theorem own_d18_37 : decode jdk_52_method_4_code 37 = .ok (.iload_n 2, 1) := by decide +kernel
theorem own_d18_38 : decode jdk_52_method_4_code 38 = .ok (.getstatic 59, 3) := by decide +kernel
theorem own_d18_41 : decode jdk_52_method_4_code 41 = .ok (.ishr, 1) := by decide +kernel
theorem own_d18_42 : decode jdk_52_method_4_code 42 = .ok (.i2b, 1) := by decide +kernel
theorem own_d18_43 : decode jdk_52_method_4_code 43 = .ok (.bastore, 1) := by decide +kernel
theorem own_d18_44 : decode jdk_52_method_4_code 44 = .ok (.aload_n 0, 1) := by decide +kernel
theorem own_d18_45 : decode jdk_52_method_4_code 45 = .ok (.iload_n 1, 1) := by decide +kernel
theorem own_d18_46 : decode jdk_52_method_4_code 46 = .ok (.iload_n 2, 1) := by decide +kernel
theorem own_d18_47 : decode jdk_52_method_4_code 47 = .ok (.getstatic 63, 3) := by decide +kernel
theorem own_d18_50 : decode jdk_52_method_4_code 50 = .ok (.ishr, 1) := by decide +kernel
theorem own_d18_51 : decode jdk_52_method_4_code 51 = .ok (.i2b, 1) := by decide +kernel
theorem own_d18_52 : decode jdk_52_method_4_code 52 = .ok (.bastore, 1) := by decide +kernel
theorem own_d18_53 : decode jdk_52_method_4_code 53 = .ok (.return_, 1) := by decide +kernel
def Q_rmPut (Z : State) (bv : Addr) (kb : ClassId) (ds : List Int32) (nn : Nat) (ch : Int32) (qq : Nat) (h0 : Heap) (n0 : Nat) (v : Option Value) (h : Heap) (L : List Loc) : Prop := v = none ∧ Fr n0 L ∧ Keep h0 h [bv] ∧ Arv Z h bv kb .byte (Int32.ofNat (2 * nn)) (own_u16 (ds ++ [ch])) (.int 0)
set_option maxRecDepth 65536 in
set_option maxHeartbeats 40000000 in
theorem rmPut (l : Launch) (Z : State) (a0 : Array Value) (hw : ∀ d ∈ tables_1, d.before a0 Z = true) (ws : List Jvm.Cond) (bv : Addr) (kb : ClassId) (ds : List Int32) (nn : Nat) (ch : Int32) (qq : Nat) (h0 : Heap) (n0 : Nat) (Z0 : n0 ≤ h0.size) (Pm0 : Arv Z h0 bv kb .byte (Int32.ofNat (2 * nn)) (own_u16 ds) (.int 0)) (hq : (qq < nn)) (hdl : (ds.length = qq)) (hn : (nn ≤ 3)) (gbv : n0 ≤ bv) (OAD : Sta Z Z.heap "java/lang/StringUTF16" "$assertionsDisabled" "Z" (.int (1 : Int32))) (OHI : Sta Z Z.heap "java/lang/StringUTF16" "HI_BYTE_SHIFT" "I" (.int (0 : Int32))) (OLO : Sta Z Z.heap "java/lang/StringUTF16" "LO_BYTE_SHIFT" "I" (.int (8 : Int32))) (X00 : Old Z n0 h0) :
    MetFree l (⟨"java/lang/StringUTF16", "putChar", "([BII)V"⟩ : MethodName) (head1 (Jvm.Cond.code (⟨"java/lang/StringUTF16", "putChar", "([BII)V"⟩ : MethodName) jdk_52_method_4_code 3 none :: ws) ({ frames := 0, cells := 0, slots := 0, locals := 0 } : Room)) (fun a U => a = #[(.ref bv), (.int (Int32.ofNat qq)), (.int ch)] ∧ Z.Warmed39 U.vm ∧ U.heap = h0) (fun _ _ _ _ _ => True) (fun _ U o U' => ∃ v L, o = .returned v ∧ Q_rmPut Z bv kb ds nn ch qq h0 n0 v U'.heap L ∧ FrameEnd U o U' L ({ frames := 0, cells := 0, slots := 0, locals := 0 } : Room).cells ({ frames := 0, cells := 0, slots := 0, locals := 0 } : Room).slots) := by
  refine MetFree.of_bodySF (plainFor_of_name own_pn_java_lang_StringUTF16) hisR ?_
  intro p e s m args below meth c s₁ Bd hml0 hP hK
  obtain ⟨rfl, hZ, hh⟩ := hP
  have hx := Bd.exec
  have hby := Bd.bytes
  have hml : c.maxLocals = 3 := hml0
  have hown : s.vm.findClass "java/lang/StringUTF16" = some m.cls := findClass_of_methodNamed Bd.named
  have hnm := (name_of_methodNamed Bd.named Bd.method).1
  have X0 : Stand p l e ({ frames := 0, cells := 0, slots := 0, locals := 0 } : Room) s m #[(.ref bv), (.int (Int32.ofNat qq)), (.int ch)] below meth c s₁ [] 0 0 := Stand.of_body Bd
  have e0 : s₁.heap = h0 := by rw [← hh, Bd.state]; rfl
  have N0 := Fr.nil n0
  have K0 : Keep h0 h0 [bv] := Keep.refl _ _
  refine own_go (S' := s₁.setTop (mkF m 0 #[.val (.ref bv), .val (.int (Int32.ofNat qq)), .val (.int ch)] [])) (fun tq kq => castTop (own_ef_rmPut m bv kb ds nn ch qq) kq) ?_
  have lt1 : @LT.lt Nat _ bv h0.size := Pm0.lt
  obtain ⟨T2, X2, e2, st2⟩ := getS2 X0 hx hZ hown (host := "") (Or.inl (hw _ (List.mem_of_getElem? (i := 88) rfl))) Via.refl e0 (OAD.ext X00.2) (g := (mkF m 0 #[.val (.ref bv), .val (.int (Int32.ofNat qq)), .val (.int ch)] [])) rfl (hb hby own_d18_0)
  refine own_go st2 ?_
  show own_Rn p e below _ (T2.setTop (mkF m 3 #[.val (.ref bv), .val (.int (Int32.ofNat qq)), .val (.int ch)] [(.int (1 : Int32))]))
  refine own_go (fun tq kq => XS.ifYes X2.here hx rfl (pc0 := 3) (pc' := 28) rfl (hb hby own_d18_3) rfl ((if0 _ _).trans (feq ((by decide : ¬ ((1 : Int32) = (0 : Int32))) : ¬ ((1 : Int32) = (0 : Int32)))).2) (by decide) (by decide) kq) ?_
  show own_Rn p e below _ (T2.setTop (mkF m 28 #[.val (.ref bv), .val (.int (Int32.ofNat qq)), .val (.int ch)] []))
  refine own_go (fun tq kq => XS.iloadN X2.here hx rfl (hb hby own_d18_28) rfl kq) ?_
  show own_Rn p e below _ (T2.setTop (mkF m 29 #[.val (.ref bv), .val (.int (Int32.ofNat qq)), .val (.int ch)] [(.int (Int32.ofNat qq))]))
  refine own_go (fun tq kq => XS.iconst X2.here hx rfl (hb hby own_d18_29) kq) ?_
  show own_Rn p e below _ (T2.setTop (mkF m 30 #[.val (.ref bv), .val (.int (Int32.ofNat qq)), .val (.int ch)] [(.int (1 : Int32)), (.int (Int32.ofNat qq))]))
  refine own_go (fun tq kq => XS.ishl X2.here hx rfl (hb hby own_d18_30) rfl kq) ?_
  show own_Rn p e below _ (T2.setTop (mkF m 31 #[.val (.ref bv), .val (.int (Int32.ofNat qq)), .val (.int ch)] [(.int ((Int32.ofNat qq) <<< ((1 : Int32) &&& 31)))]))
  rw [show ((Int32.ofNat qq) <<< ((1 : Int32) &&& 31)) = (Int32.ofNat (2 * qq)) from own_shl1 _ (by omega)]
  show own_Rn p e below _ (T2.setTop (mkF m 31 #[.val (.ref bv), .val (.int (Int32.ofNat qq)), .val (.int ch)] [(.int (Int32.ofNat (2 * qq)))]))
  refine own_go (fun tq kq => XS.istoreN X2.here hx rfl (hb hby own_d18_31) rfl (l' := #[.val (.ref bv), .val (.int (Int32.ofNat (2 * qq))), .val (.int ch)]) rfl kq) ?_
  show own_Rn p e below _ (T2.setTop (mkF m 32 #[.val (.ref bv), .val (.int (Int32.ofNat (2 * qq))), .val (.int ch)] []))
  refine own_go (fun tq kq => XS.aloadN X2.here hx rfl (hb hby own_d18_32) rfl rfl kq) ?_
  show own_Rn p e below _ (T2.setTop (mkF m 33 #[.val (.ref bv), .val (.int (Int32.ofNat (2 * qq))), .val (.int ch)] [(.ref bv)]))
  refine own_go (fun tq kq => XS.iloadN X2.here hx rfl (hb hby own_d18_33) rfl kq) ?_
  show own_Rn p e below _ (T2.setTop (mkF m 34 #[.val (.ref bv), .val (.int (Int32.ofNat (2 * qq))), .val (.int ch)] [(.int (Int32.ofNat (2 * qq))), (.ref bv)]))
  refine own_go (fun tq kq => XS.iinc X2.here hx rfl (hb hby own_d18_34) rfl (l' := #[.val (.ref bv), .val (.int ((Int32.ofNat (2 * qq)) + (1 : Int32))), .val (.int ch)]) rfl kq) ?_
  show own_Rn p e below _ (T2.setTop (mkF m 37 #[.val (.ref bv), .val (.int ((Int32.ofNat (2 * qq)) + (1 : Int32))), .val (.int ch)] [(.int (Int32.ofNat (2 * qq))), (.ref bv)]))
  refine own_go (fun tq kq => XS.iloadN X2.here hx rfl (hb hby own_d18_37) rfl kq) ?_
  show own_Rn p e below _ (T2.setTop (mkF m 38 #[.val (.ref bv), .val (.int ((Int32.ofNat (2 * qq)) + (1 : Int32))), .val (.int ch)] [(.int ch), (.int (Int32.ofNat (2 * qq))), (.ref bv)]))
  obtain ⟨T3, X3, e3, st3⟩ := getS2 X2 hx hZ hown (host := "") (Or.inl (hw _ (List.mem_of_getElem? (i := 89) rfl))) Via.refl e2 (OHI.ext X00.2) (g := (mkF m 38 #[.val (.ref bv), .val (.int ((Int32.ofNat (2 * qq)) + (1 : Int32))), .val (.int ch)] [(.int ch), (.int (Int32.ofNat (2 * qq))), (.ref bv)])) rfl (hb hby own_d18_38)
  refine own_go st3 ?_
  show own_Rn p e below _ (T3.setTop (mkF m 41 #[.val (.ref bv), .val (.int ((Int32.ofNat (2 * qq)) + (1 : Int32))), .val (.int ch)] [(.int (0 : Int32)), (.int ch), (.int (Int32.ofNat (2 * qq))), (.ref bv)]))
  refine own_go (fun tq kq => XS.ishr X3.here hx rfl (hb hby own_d18_41) rfl kq) ?_
  show own_Rn p e below _ (T3.setTop (mkF m 42 #[.val (.ref bv), .val (.int ((Int32.ofNat (2 * qq)) + (1 : Int32))), .val (.int ch)] [(.int (ch >>> ((0 : Int32) &&& 31))), (.int (Int32.ofNat (2 * qq))), (.ref bv)]))
  refine own_go (fun tq kq => XS.i2b X3.here hx rfl (hb hby own_d18_42) rfl kq) ?_
  show own_Rn p e below _ (T3.setTop (mkF m 43 #[.val (.ref bv), .val (.int ((Int32.ofNat (2 * qq)) + (1 : Int32))), .val (.int ch)] [(.int ((ch >>> ((0 : Int32) &&& 31)).toInt8.toInt32)), (.int (Int32.ofNat (2 * qq))), (.ref bv)]))
  have hL : (own_u16 ds).length = 2 * qq := by rw [own_u16_len, hdl]
  obtain ⟨cl4, Ar4, q4, Sz4, Nn4, Hs4, G4⟩ := id Pm0
  obtain ⟨T4, h4, X4, e4, W4, st4⟩ := stB X3 hx hZ e3 Ar4 (j := (Int32.ofNat (2 * qq))) (inb_of Sz4 (own_inb _ _ (by omega) (by omega))) (g := (mkF m 43 #[.val (.ref bv), .val (.int ((Int32.ofNat (2 * qq)) + (1 : Int32))), .val (.int ch)] [(.int ((ch >>> ((0 : Int32) &&& 31)).toInt8.toInt32)), (.int (Int32.ofNat (2 * qq))), (.ref bv)])) rfl rfl (hb hby own_d18_43)
  rw [own_narB] at W4
  refine own_go st4 ?_
  have V4 : Arv Z h4 bv kb .byte (Int32.ofNat (2 * nn)) (own_u16 ds ++ [(.int (own_lo ch))]) (.int 0) := own_store1 Pm0 (by rw [hL, own_clampN (by omega)]; omega) (own_fitsB _) W4 (by rw [own_clampN (by omega), hL])
  have N4 := Fr.snoc X4 N0 gbv
  have sz5 : h0.size ≤ h4.size := Nat.le_of_eq (Wr.size W4).symm
  have K5 := K0.wr W4 (Or.inl (List.mem_of_getElem? (i := 0) rfl))
  show own_Rn p e below _ (T4.setTop (mkF m 44 #[.val (.ref bv), .val (.int ((Int32.ofNat (2 * qq)) + (1 : Int32))), .val (.int ch)] []))
  refine own_go (fun tq kq => XS.aloadN X4.here hx rfl (hb hby own_d18_44) rfl rfl kq) ?_
  show own_Rn p e below _ (T4.setTop (mkF m 45 #[.val (.ref bv), .val (.int ((Int32.ofNat (2 * qq)) + (1 : Int32))), .val (.int ch)] [(.ref bv)]))
  refine own_go (fun tq kq => XS.iloadN X4.here hx rfl (hb hby own_d18_45) rfl kq) ?_
  show own_Rn p e below _ (T4.setTop (mkF m 46 #[.val (.ref bv), .val (.int ((Int32.ofNat (2 * qq)) + (1 : Int32))), .val (.int ch)] [(.int ((Int32.ofNat (2 * qq)) + (1 : Int32))), (.ref bv)]))
  refine own_go (fun tq kq => XS.iloadN X4.here hx rfl (hb hby own_d18_46) rfl kq) ?_
  show own_Rn p e below _ (T4.setTop (mkF m 47 #[.val (.ref bv), .val (.int ((Int32.ofNat (2 * qq)) + (1 : Int32))), .val (.int ch)] [(.int ch), (.int ((Int32.ofNat (2 * qq)) + (1 : Int32))), (.ref bv)]))
  have F6 : Old Z n0 h4 := (X00.wr W4 gbv)
  obtain ⟨T7, X7, e7, st7⟩ := getS2 X4 hx hZ hown (host := "") (Or.inl (hw _ (List.mem_of_getElem? (i := 90) rfl))) Via.refl e4 (OLO.ext F6.2) (g := (mkF m 47 #[.val (.ref bv), .val (.int ((Int32.ofNat (2 * qq)) + (1 : Int32))), .val (.int ch)] [(.int ch), (.int ((Int32.ofNat (2 * qq)) + (1 : Int32))), (.ref bv)])) rfl (hb hby own_d18_47)
  refine own_go st7 ?_
  show own_Rn p e below _ (T7.setTop (mkF m 50 #[.val (.ref bv), .val (.int ((Int32.ofNat (2 * qq)) + (1 : Int32))), .val (.int ch)] [(.int (8 : Int32)), (.int ch), (.int ((Int32.ofNat (2 * qq)) + (1 : Int32))), (.ref bv)]))
  refine own_go (fun tq kq => XS.ishr X7.here hx rfl (hb hby own_d18_50) rfl kq) ?_
  show own_Rn p e below _ (T7.setTop (mkF m 51 #[.val (.ref bv), .val (.int ((Int32.ofNat (2 * qq)) + (1 : Int32))), .val (.int ch)] [(.int (ch >>> ((8 : Int32) &&& 31))), (.int ((Int32.ofNat (2 * qq)) + (1 : Int32))), (.ref bv)]))
  refine own_go (fun tq kq => XS.i2b X7.here hx rfl (hb hby own_d18_51) rfl kq) ?_
  show own_Rn p e below _ (T7.setTop (mkF m 52 #[.val (.ref bv), .val (.int ((Int32.ofNat (2 * qq)) + (1 : Int32))), .val (.int ch)] [(.int ((ch >>> ((8 : Int32) &&& 31)).toInt8.toInt32)), (.int ((Int32.ofNat (2 * qq)) + (1 : Int32))), (.ref bv)]))
  rw [show ((Int32.ofNat (2 * qq)) + (1 : Int32)) = Int32.ofNat (2 * qq + 1) from (inc_ofNat _).symm]
  show own_Rn p e below _ (T7.setTop (mkF m 52 #[.val (.ref bv), .val (.int (Int32.ofNat (2 * qq + 1))), .val (.int ch)] [(.int ((ch >>> ((8 : Int32) &&& 31)).toInt8.toInt32)), (.int (Int32.ofNat (2 * qq + 1))), (.ref bv)]))
  obtain ⟨cl8, Ar8, q8, Sz8, Nn8, Hs8, G8⟩ := id V4
  obtain ⟨T8, h8, X8, e8, W8, st8⟩ := stB X7 hx hZ e7 Ar8 (j := (Int32.ofNat (2 * qq + 1))) (inb_of Sz8 (own_inb _ _ (by omega) (by omega))) (g := (mkF m 52 #[.val (.ref bv), .val (.int (Int32.ofNat (2 * qq + 1))), .val (.int ch)] [(.int ((ch >>> ((8 : Int32) &&& 31)).toInt8.toInt32)), (.int (Int32.ofNat (2 * qq + 1))), (.ref bv)])) rfl rfl (hb hby own_d18_52)
  rw [own_narB] at W8
  refine own_go st8 ?_
  have V8 : Arv Z h8 bv kb .byte (Int32.ofNat (2 * nn)) ((own_u16 ds ++ [(.int (own_lo ch))]) ++ [(.int (own_hi ch))]) (.int 0) := own_store1 V4 (by rw [List.length_append, hL, own_clampN (by omega)]; show _ + 1 < _; omega) (own_fitsB _) W8 (by rw [own_clampN (by omega), List.length_append, hL]; rfl)
  have N8 := Fr.snoc X8 N4 gbv
  have sz9 : h4.size ≤ h8.size := Nat.le_of_eq (Wr.size W8).symm
  have K9 := K5.wr W8 (Or.inl (List.mem_of_getElem? (i := 0) rfl))
  show own_Rn p e below _ (T8.setTop (mkF m 53 #[.val (.ref bv), .val (.int (Int32.ofNat (2 * qq + 1))), .val (.int ch)] []))
  have Vz : Arv Z h8 bv kb .byte (Int32.ofNat (2 * nn)) (own_u16 (ds ++ [ch])) (.int 0) := by rw [own_u16_app]; have h := V8; rwa [List.append_assoc] at h
  exact own_ret X8 (v := none) (fun _ => rfl) (fun fs hr => X8.returnOut hx Bd.returns (hb hby own_d18_53) hr) (by rw [e8]; exact ⟨rfl, N8, K9, Vz⟩) (by decide) (by decide)
theorem own_ef_rmGet (m : MethodId) (bv : Addr) (kb : ClassId) (cs : List Int32) (qq : Nat) : entryFrame m #[(.ref bv), (.int (Int32.ofNat qq))] 2 = mkF m 0 #[.val (.ref bv), .val (.int (Int32.ofNat qq))] [] := by first | (simp [entryFrame, mkF, argsToLocals, Value.category]; done) | rfl
theorem own_d19_0 : decode jdk_52_method_5_code 0 = .ok (.getstatic 44, 3) := by decide +kernel
theorem own_d19_3 : decode jdk_52_method_5_code 3 = .ok (.ifCond .ne 25, 3) := by decide +kernel
theorem own_d19_28 : decode jdk_52_method_5_code 28 = .ok (.iload_n 1, 1) := by decide +kernel
theorem own_d19_29 : decode jdk_52_method_5_code 29 = .ok (.iconst 1, 1) := by decide +kernel
theorem own_d19_30 : decode jdk_52_method_5_code 30 = .ok (.ishl, 1) := by decide +kernel
theorem own_d19_31 : decode jdk_52_method_5_code 31 = .ok (.istore_n 1, 1) := by decide +kernel
theorem own_d19_32 : decode jdk_52_method_5_code 32 = .ok (.aload_n 0, 1) := by decide +kernel
theorem own_d19_33 : decode jdk_52_method_5_code 33 = .ok (.iload_n 1, 1) := by decide +kernel
theorem own_d19_34 : decode jdk_52_method_5_code 34 = .ok (.iinc 1 1, 3) := by decide +kernel
theorem own_d19_37 : decode jdk_52_method_5_code 37 = .ok (.baload, 1) := by decide +kernel
theorem own_d19_38 : decode jdk_52_method_5_code 38 = .ok (.sipush 255, 3) := by decide +kernel
theorem own_d19_41 : decode jdk_52_method_5_code 41 = .ok (.iand, 1) := by decide +kernel
theorem own_d19_42 : decode jdk_52_method_5_code 42 = .ok (.getstatic 59, 3) := by decide +kernel
theorem own_d19_45 : decode jdk_52_method_5_code 45 = .ok (.ishl, 1) := by decide +kernel
theorem own_d19_46 : decode jdk_52_method_5_code 46 = .ok (.aload_n 0, 1) := by decide +kernel
theorem own_d19_47 : decode jdk_52_method_5_code 47 = .ok (.iload_n 1, 1) := by decide +kernel
theorem own_d19_48 : decode jdk_52_method_5_code 48 = .ok (.baload, 1) := by decide +kernel
theorem own_d19_49 : decode jdk_52_method_5_code 49 = .ok (.sipush 255, 3) := by decide +kernel
theorem own_d19_52 : decode jdk_52_method_5_code 52 = .ok (.iand, 1) := by decide +kernel
theorem own_d19_53 : decode jdk_52_method_5_code 53 = .ok (.getstatic 63, 3) := by decide +kernel
theorem own_d19_56 : decode jdk_52_method_5_code 56 = .ok (.ishl, 1) := by decide +kernel
theorem own_d19_57 : decode jdk_52_method_5_code 57 = .ok (.ior, 1) := by decide +kernel
theorem own_d19_58 : decode jdk_52_method_5_code 58 = .ok (.i2c, 1) := by decide +kernel
theorem own_d19_59 : decode jdk_52_method_5_code 59 = .ok (.ireturn, 1) := by decide +kernel
def Q_rmGet (Z : State) (bv : Addr) (kb : ClassId) (cs : List Int32) (qq : Nat) (h0 : Heap) (n0 : Nat) (v : Option Value) (h : Heap) (L : List Loc) : Prop := v = some (.int (cs.getD qq 0)) ∧ Fr n0 L ∧ h = h0
set_option maxRecDepth 65536 in
set_option maxHeartbeats 40000000 in
theorem rmGet (l : Launch) (Z : State) (a0 : Array Value) (hw : ∀ d ∈ tables_1, d.before a0 Z = true) (ws : List Jvm.Cond) (bv : Addr) (kb : ClassId) (cs : List Int32) (qq : Nat) (h0 : Heap) (n0 : Nat) (Z0 : n0 ≤ h0.size) (Pm0 : Arv Z h0 bv kb .byte (Int32.ofNat (2 * cs.length)) (own_u16 cs) (.int 0)) (hq : (qq < cs.length)) (hn : (cs.length ≤ 3)) (hr : (∀ c ∈ cs, ¬ c < 0 ∧ ¬ (65535 : Int32) < c)) (OAD : Sta Z Z.heap "java/lang/StringUTF16" "$assertionsDisabled" "Z" (.int (1 : Int32))) (OHI : Sta Z Z.heap "java/lang/StringUTF16" "HI_BYTE_SHIFT" "I" (.int (0 : Int32))) (OLO : Sta Z Z.heap "java/lang/StringUTF16" "LO_BYTE_SHIFT" "I" (.int (8 : Int32))) (X00 : Old Z n0 h0) :
    MetFree l (⟨"java/lang/StringUTF16", "getChar", "([BI)C"⟩ : MethodName) (head1 (Jvm.Cond.code (⟨"java/lang/StringUTF16", "getChar", "([BI)C"⟩ : MethodName) jdk_52_method_5_code 2 (some .char) :: ws) ({ frames := 0, cells := 0, slots := 0, locals := 0 } : Room)) (fun a U => a = #[(.ref bv), (.int (Int32.ofNat qq))] ∧ Z.Warmed39 U.vm ∧ U.heap = h0) (fun _ _ _ _ _ => True) (fun _ U o U' => ∃ v L, o = .returned v ∧ Q_rmGet Z bv kb cs qq h0 n0 v U'.heap L ∧ FrameEnd U o U' L ({ frames := 0, cells := 0, slots := 0, locals := 0 } : Room).cells ({ frames := 0, cells := 0, slots := 0, locals := 0 } : Room).slots) := by
  refine MetFree.of_bodySF (plainFor_of_name own_pn_java_lang_StringUTF16) hisR ?_
  intro p e s m args below meth c s₁ Bd hml0 hP hK
  obtain ⟨rfl, hZ, hh⟩ := hP
  have hx := Bd.exec
  have hby := Bd.bytes
  have hml : c.maxLocals = 2 := hml0
  have hown : s.vm.findClass "java/lang/StringUTF16" = some m.cls := findClass_of_methodNamed Bd.named
  have hnm := (name_of_methodNamed Bd.named Bd.method).1
  have X0 : Stand p l e ({ frames := 0, cells := 0, slots := 0, locals := 0 } : Room) s m #[(.ref bv), (.int (Int32.ofNat qq))] below meth c s₁ [] 0 0 := Stand.of_body Bd
  have e0 : s₁.heap = h0 := by rw [← hh, Bd.state]; rfl
  have N0 := Fr.nil n0
  have K0 : Keep h0 h0 [] := Keep.refl _ _
  refine own_go (S' := s₁.setTop (mkF m 0 #[.val (.ref bv), .val (.int (Int32.ofNat qq))] [])) (fun tq kq => castTop (own_ef_rmGet m bv kb cs qq) kq) ?_
  have lt1 : @LT.lt Nat _ bv h0.size := Pm0.lt
  obtain ⟨T2, X2, e2, st2⟩ := getS2 X0 hx hZ hown (host := "") (Or.inl (hw _ (List.mem_of_getElem? (i := 88) rfl))) Via.refl e0 (OAD.ext X00.2) (g := (mkF m 0 #[.val (.ref bv), .val (.int (Int32.ofNat qq))] [])) rfl (hb hby own_d19_0)
  refine own_go st2 ?_
  show own_Rn p e below _ (T2.setTop (mkF m 3 #[.val (.ref bv), .val (.int (Int32.ofNat qq))] [(.int (1 : Int32))]))
  refine own_go (fun tq kq => XS.ifYes X2.here hx rfl (pc0 := 3) (pc' := 28) rfl (hb hby own_d19_3) rfl ((if0 _ _).trans (feq ((by decide : ¬ ((1 : Int32) = (0 : Int32))) : ¬ ((1 : Int32) = (0 : Int32)))).2) (by decide) (by decide) kq) ?_
  show own_Rn p e below _ (T2.setTop (mkF m 28 #[.val (.ref bv), .val (.int (Int32.ofNat qq))] []))
  refine own_go (fun tq kq => XS.iloadN X2.here hx rfl (hb hby own_d19_28) rfl kq) ?_
  show own_Rn p e below _ (T2.setTop (mkF m 29 #[.val (.ref bv), .val (.int (Int32.ofNat qq))] [(.int (Int32.ofNat qq))]))
  refine own_go (fun tq kq => XS.iconst X2.here hx rfl (hb hby own_d19_29) kq) ?_
  show own_Rn p e below _ (T2.setTop (mkF m 30 #[.val (.ref bv), .val (.int (Int32.ofNat qq))] [(.int (1 : Int32)), (.int (Int32.ofNat qq))]))
  refine own_go (fun tq kq => XS.ishl X2.here hx rfl (hb hby own_d19_30) rfl kq) ?_
  show own_Rn p e below _ (T2.setTop (mkF m 31 #[.val (.ref bv), .val (.int (Int32.ofNat qq))] [(.int ((Int32.ofNat qq) <<< ((1 : Int32) &&& 31)))]))
  rw [show ((Int32.ofNat qq) <<< ((1 : Int32) &&& 31)) = (Int32.ofNat (2 * qq)) from own_shl1 _ (by omega)]
  show own_Rn p e below _ (T2.setTop (mkF m 31 #[.val (.ref bv), .val (.int (Int32.ofNat qq))] [(.int (Int32.ofNat (2 * qq)))]))
  refine own_go (fun tq kq => XS.istoreN X2.here hx rfl (hb hby own_d19_31) rfl (l' := #[.val (.ref bv), .val (.int (Int32.ofNat (2 * qq)))]) rfl kq) ?_
  show own_Rn p e below _ (T2.setTop (mkF m 32 #[.val (.ref bv), .val (.int (Int32.ofNat (2 * qq)))] []))
  refine own_go (fun tq kq => XS.aloadN X2.here hx rfl (hb hby own_d19_32) rfl rfl kq) ?_
  show own_Rn p e below _ (T2.setTop (mkF m 33 #[.val (.ref bv), .val (.int (Int32.ofNat (2 * qq)))] [(.ref bv)]))
  refine own_go (fun tq kq => XS.iloadN X2.here hx rfl (hb hby own_d19_33) rfl kq) ?_
  show own_Rn p e below _ (T2.setTop (mkF m 34 #[.val (.ref bv), .val (.int (Int32.ofNat (2 * qq)))] [(.int (Int32.ofNat (2 * qq))), (.ref bv)]))
  refine own_go (fun tq kq => XS.iinc X2.here hx rfl (hb hby own_d19_34) rfl (l' := #[.val (.ref bv), .val (.int ((Int32.ofNat (2 * qq)) + (1 : Int32)))]) rfl kq) ?_
  show own_Rn p e below _ (T2.setTop (mkF m 37 #[.val (.ref bv), .val (.int ((Int32.ofNat (2 * qq)) + (1 : Int32)))] [(.int (Int32.ofNat (2 * qq))), (.ref bv)]))
  have hm : ¬ cs.getD qq 0 < 0 ∧ ¬ (65535 : Int32) < cs.getD qq 0 := hr _ (by rw [List.getD_eq_getElem?_getD, List.getElem?_eq_getElem hq]; exact List.getElem_mem hq)
  obtain ⟨cl3, Ar3, q3, Sz3, Nn3, Hs3, G3⟩ := id Pm0
  have in3 := inb_of (j := (Int32.ofNat (2 * qq))) Sz3 (own_inb _ _ (by omega) (by omega))
  refine own_go (fun tq kq => X2.baloadBytes hx (j := (Int32.ofNat (2 * qq))) (v := (.int (own_lo (cs.getD qq 0)))) (by rw [e2]; exact Ar3.1) (State.isArrayOf_alike hZ.alike Ar3.2.1) Ar3.2.2 in3 (Hs3.at in3 (by rw [own_clampN (by omega)]; exact (own_u16_at cs qq hq).1)) (g := (mkF m 37 #[.val (.ref bv), .val (.int ((Int32.ofNat (2 * qq)) + (1 : Int32)))] [(.int (Int32.ofNat (2 * qq))), (.ref bv)])) rfl rfl (hb hby own_d19_37) tq kq) ?_
  show own_Rn p e below _ (T2.setTop (mkF m 38 #[.val (.ref bv), .val (.int ((Int32.ofNat (2 * qq)) + (1 : Int32)))] [(.int (own_lo (cs.getD qq 0)))]))
  refine own_go (fun tq kq => XS.sipush X2.here hx rfl (hb hby own_d19_38) kq) ?_
  show own_Rn p e below _ (T2.setTop (mkF m 41 #[.val (.ref bv), .val (.int ((Int32.ofNat (2 * qq)) + (1 : Int32)))] [(.int (255 : Int32)), (.int (own_lo (cs.getD qq 0)))]))
  refine own_go (fun tq kq => XS.iand X2.here hx rfl (hb hby own_d19_41) rfl kq) ?_
  show own_Rn p e below _ (T2.setTop (mkF m 42 #[.val (.ref bv), .val (.int ((Int32.ofNat (2 * qq)) + (1 : Int32)))] [(.int ((own_lo (cs.getD qq 0)) &&& (255 : Int32)))]))
  obtain ⟨T4, X4, e4, st4⟩ := getS2 X2 hx hZ hown (host := "") (Or.inl (hw _ (List.mem_of_getElem? (i := 89) rfl))) Via.refl e2 (OHI.ext X00.2) (g := (mkF m 42 #[.val (.ref bv), .val (.int ((Int32.ofNat (2 * qq)) + (1 : Int32)))] [(.int ((own_lo (cs.getD qq 0)) &&& (255 : Int32)))])) rfl (hb hby own_d19_42)
  refine own_go st4 ?_
  show own_Rn p e below _ (T4.setTop (mkF m 45 #[.val (.ref bv), .val (.int ((Int32.ofNat (2 * qq)) + (1 : Int32)))] [(.int (0 : Int32)), (.int ((own_lo (cs.getD qq 0)) &&& (255 : Int32)))]))
  refine own_go (fun tq kq => XS.ishl X4.here hx rfl (hb hby own_d19_45) rfl kq) ?_
  show own_Rn p e below _ (T4.setTop (mkF m 46 #[.val (.ref bv), .val (.int ((Int32.ofNat (2 * qq)) + (1 : Int32)))] [(.int (((own_lo (cs.getD qq 0)) &&& (255 : Int32)) <<< ((0 : Int32) &&& 31)))]))
  refine own_go (fun tq kq => XS.aloadN X4.here hx rfl (hb hby own_d19_46) rfl rfl kq) ?_
  show own_Rn p e below _ (T4.setTop (mkF m 47 #[.val (.ref bv), .val (.int ((Int32.ofNat (2 * qq)) + (1 : Int32)))] [(.ref bv), (.int (((own_lo (cs.getD qq 0)) &&& (255 : Int32)) <<< ((0 : Int32) &&& 31)))]))
  refine own_go (fun tq kq => XS.iloadN X4.here hx rfl (hb hby own_d19_47) rfl kq) ?_
  show own_Rn p e below _ (T4.setTop (mkF m 48 #[.val (.ref bv), .val (.int ((Int32.ofNat (2 * qq)) + (1 : Int32)))] [(.int ((Int32.ofNat (2 * qq)) + (1 : Int32))), (.ref bv), (.int (((own_lo (cs.getD qq 0)) &&& (255 : Int32)) <<< ((0 : Int32) &&& 31)))]))
  rw [show ((Int32.ofNat (2 * qq)) + (1 : Int32)) = Int32.ofNat (2 * qq + 1) from (inc_ofNat _).symm]
  show own_Rn p e below _ (T4.setTop (mkF m 48 #[.val (.ref bv), .val (.int (Int32.ofNat (2 * qq + 1)))] [(.int (Int32.ofNat (2 * qq + 1))), (.ref bv), (.int (((own_lo (cs.getD qq 0)) &&& (255 : Int32)) <<< ((0 : Int32) &&& 31)))]))
  obtain ⟨cl5, Ar5, q5, Sz5, Nn5, Hs5, G5⟩ := id Pm0
  have in5 := inb_of (j := (Int32.ofNat (2 * qq + 1))) Sz5 (own_inb _ _ (by omega) (by omega))
  refine own_go (fun tq kq => X4.baloadBytes hx (j := (Int32.ofNat (2 * qq + 1))) (v := (.int (own_hi (cs.getD qq 0)))) (by rw [e4]; exact Ar5.1) (State.isArrayOf_alike hZ.alike Ar5.2.1) Ar5.2.2 in5 (Hs5.at in5 (by rw [own_clampN (by omega)]; exact (own_u16_at cs qq hq).2)) (g := (mkF m 48 #[.val (.ref bv), .val (.int (Int32.ofNat (2 * qq + 1)))] [(.int (Int32.ofNat (2 * qq + 1))), (.ref bv), (.int (((own_lo (cs.getD qq 0)) &&& (255 : Int32)) <<< ((0 : Int32) &&& 31)))])) rfl rfl (hb hby own_d19_48) tq kq) ?_
  show own_Rn p e below _ (T4.setTop (mkF m 49 #[.val (.ref bv), .val (.int (Int32.ofNat (2 * qq + 1)))] [(.int (own_hi (cs.getD qq 0))), (.int (((own_lo (cs.getD qq 0)) &&& (255 : Int32)) <<< ((0 : Int32) &&& 31)))]))
  refine own_go (fun tq kq => XS.sipush X4.here hx rfl (hb hby own_d19_49) kq) ?_
  show own_Rn p e below _ (T4.setTop (mkF m 52 #[.val (.ref bv), .val (.int (Int32.ofNat (2 * qq + 1)))] [(.int (255 : Int32)), (.int (own_hi (cs.getD qq 0))), (.int (((own_lo (cs.getD qq 0)) &&& (255 : Int32)) <<< ((0 : Int32) &&& 31)))]))
  refine own_go (fun tq kq => XS.iand X4.here hx rfl (hb hby own_d19_52) rfl kq) ?_
  show own_Rn p e below _ (T4.setTop (mkF m 53 #[.val (.ref bv), .val (.int (Int32.ofNat (2 * qq + 1)))] [(.int ((own_hi (cs.getD qq 0)) &&& (255 : Int32))), (.int (((own_lo (cs.getD qq 0)) &&& (255 : Int32)) <<< ((0 : Int32) &&& 31)))]))
  obtain ⟨T6, X6, e6, st6⟩ := getS2 X4 hx hZ hown (host := "") (Or.inl (hw _ (List.mem_of_getElem? (i := 90) rfl))) Via.refl e4 (OLO.ext X00.2) (g := (mkF m 53 #[.val (.ref bv), .val (.int (Int32.ofNat (2 * qq + 1)))] [(.int ((own_hi (cs.getD qq 0)) &&& (255 : Int32))), (.int (((own_lo (cs.getD qq 0)) &&& (255 : Int32)) <<< ((0 : Int32) &&& 31)))])) rfl (hb hby own_d19_53)
  refine own_go st6 ?_
  show own_Rn p e below _ (T6.setTop (mkF m 56 #[.val (.ref bv), .val (.int (Int32.ofNat (2 * qq + 1)))] [(.int (8 : Int32)), (.int ((own_hi (cs.getD qq 0)) &&& (255 : Int32))), (.int (((own_lo (cs.getD qq 0)) &&& (255 : Int32)) <<< ((0 : Int32) &&& 31)))]))
  refine own_go (fun tq kq => XS.ishl X6.here hx rfl (hb hby own_d19_56) rfl kq) ?_
  show own_Rn p e below _ (T6.setTop (mkF m 57 #[.val (.ref bv), .val (.int (Int32.ofNat (2 * qq + 1)))] [(.int (((own_hi (cs.getD qq 0)) &&& (255 : Int32)) <<< ((8 : Int32) &&& 31))), (.int (((own_lo (cs.getD qq 0)) &&& (255 : Int32)) <<< ((0 : Int32) &&& 31)))]))
  refine own_go (fun tq kq => XS.ior X6.here hx rfl (hb hby own_d19_57) rfl kq) ?_
  show own_Rn p e below _ (T6.setTop (mkF m 58 #[.val (.ref bv), .val (.int (Int32.ofNat (2 * qq + 1)))] [(.int ((((own_lo (cs.getD qq 0)) &&& (255 : Int32)) <<< ((0 : Int32) &&& 31)) ||| (((own_hi (cs.getD qq 0)) &&& (255 : Int32)) <<< ((8 : Int32) &&& 31))))]))
  refine own_go (fun tq kq => XS.i2c X6.here hx rfl (hb hby own_d19_58) rfl kq) ?_
  show own_Rn p e below _ (T6.setTop (mkF m 59 #[.val (.ref bv), .val (.int (Int32.ofNat (2 * qq + 1)))] [(.int (((((own_lo (cs.getD qq 0)) &&& (255 : Int32)) <<< ((0 : Int32) &&& 31)) ||| (((own_hi (cs.getD qq 0)) &&& (255 : Int32)) <<< ((8 : Int32) &&& 31))).toUInt32.toUInt16.toUInt32.toInt32))]))
  rw [show (((((own_lo (cs.getD qq 0)) &&& (255 : Int32)) <<< ((0 : Int32) &&& 31)) ||| (((own_hi (cs.getD qq 0)) &&& (255 : Int32)) <<< ((8 : Int32) &&& 31))).toUInt32.toUInt16.toUInt32.toInt32) = (cs.getD qq 0) from own_pairG hm.1 hm.2]
  show own_Rn p e below _ (T6.setTop (mkF m 59 #[.val (.ref bv), .val (.int (Int32.ofNat (2 * qq + 1)))] [(.int (cs.getD qq 0))]))
  exact own_ret X6 (v := some (.int (nar .char (cs.getD qq 0)))) (fun h => by rw [Bd.returns] at h; cases h) (fun fs hr => retN X6 hx (t := .char) Bd.returns (by simp) (hb hby own_d19_59) hr) (by rw [e6]; exact ⟨congrArg (fun z => some (Value.int z)) (own_c16 _ hm), N0, rfl⟩) (by decide) (by decide)
theorem own_ef_rmTB (m : MethodId) (sa : Addr) (ka : ClassId) (cs : List Int32) (dv : Value) : entryFrame m #[(.ref sa), (.int (0 : Int32)), (.int (Int32.ofNat cs.length))] 5 = mkF m 0 #[.val (.ref sa), .val (.int (0 : Int32)), .val (.int (Int32.ofNat cs.length)), .unset, .unset] [] := by first | (simp [entryFrame, mkF, argsToLocals, Value.category]; done) | rfl
theorem own_d15_0 : decode jdk_52_method_14_code 0 = .ok (.iload_n 2, 1) := by decide +kernel
theorem own_d15_1 : decode jdk_52_method_14_code 1 = .ok (.invokestatic 107, 3) := by decide +kernel
theorem own_pd_28I295bB : parseMethodDescriptor "(I)[B" = some ⟨[.int], some (.array .byte)⟩ := by decide +kernel
theorem own_d15_4 : decode jdk_52_method_14_code 4 = .ok (.astore_n 3, 1) := by decide +kernel
theorem own_d15_5 : decode jdk_52_method_14_code 5 = .ok (.iconst 0, 1) := by decide +kernel
theorem own_d15_6 : decode jdk_52_method_14_code 6 = .ok (.istore 4, 2) := by decide +kernel
theorem own_d15_8 : decode jdk_52_method_14_code 8 = .ok (.iload 4, 2) := by decide +kernel
theorem own_d15_10 : decode jdk_52_method_14_code 10 = .ok (.iload_n 2, 1) := by decide +kernel
theorem own_d15_11 : decode jdk_52_method_14_code 11 = .ok (.if_icmp .ge 21, 3) := by decide +kernel
theorem own_d15_32 : decode jdk_52_method_14_code 32 = .ok (.aload_n 3, 1) := by decide +kernel
theorem own_d15_33 : decode jdk_52_method_14_code 33 = .ok (.areturn, 1) := by decide +kernel
theorem own_d15_14 : decode jdk_52_method_14_code 14 = .ok (.aload_n 3, 1) := by decide +kernel
theorem own_d15_15 : decode jdk_52_method_14_code 15 = .ok (.iload 4, 2) := by decide +kernel
theorem own_d15_17 : decode jdk_52_method_14_code 17 = .ok (.aload_n 0, 1) := by decide +kernel
theorem own_d15_18 : decode jdk_52_method_14_code 18 = .ok (.iload_n 1, 1) := by decide +kernel
theorem own_d15_19 : decode jdk_52_method_14_code 19 = .ok (.caload, 1) := by decide +kernel
theorem own_d15_20 : decode jdk_52_method_14_code 20 = .ok (.invokestatic 111, 3) := by decide +kernel
theorem own_pd_285bBII29V : parseMethodDescriptor "([BII)V" = some ⟨[(.array .byte), .int, .int], none⟩ := by decide +kernel
theorem own_d15_23 : decode jdk_52_method_14_code 23 = .ok (.iinc 1 1, 3) := by decide +kernel
theorem own_d15_26 : decode jdk_52_method_14_code 26 = .ok (.iinc 4 1, 3) := by decide +kernel
theorem own_d15_29 : decode jdk_52_method_14_code 29 = .ok (.goto (-21), 3) := by decide +kernel
def Q_rmTB (Z : State) (sa : Addr) (ka : ClassId) (cs : List Int32) (dv : Value) (h0 : Heap) (n0 : Nat) (v : Option Value) (h : Heap) (L : List Loc) : Prop := ∃ (t : Addr), ∃ (kt : ClassId), v = some (.ref t) ∧ Fr n0 L ∧ Keep h0 h [] ∧ h0.size ≤ t ∧ n0 ≤ t ∧ Arv Z h t kt .byte (Int32.ofNat (2 * cs.length)) (own_u16 cs) (.int 0)
set_option maxRecDepth 65536 in
set_option maxHeartbeats 40000000 in
theorem rmTB (l : Launch) (Z : State) (a0 : Array Value) (hw : ∀ d ∈ tables_1, d.before a0 Z = true) (ws : List Jvm.Cond) (sa : Addr) (ka : ClassId) (cs : List Int32) (dv : Value) (h0 : Heap) (n0 : Nat) (Z0 : n0 ≤ h0.size) (Pm0 : Arv Z h0 sa ka .char (Int32.ofNat cs.length) (cs.map Value.int) dv) (hn : (cs.length ≤ 3)) (h0n : (0 < cs.length)) (hr : (∀ c ∈ cs, ¬ c < 0 ∧ ¬ (65535 : Int32) < c)) (OAD : Sta Z Z.heap "java/lang/StringUTF16" "$assertionsDisabled" "Z" (.int (1 : Int32))) (OHI : Sta Z Z.heap "java/lang/StringUTF16" "HI_BYTE_SHIFT" "I" (.int (0 : Int32))) (OLO : Sta Z Z.heap "java/lang/StringUTF16" "LO_BYTE_SHIFT" "I" (.int (8 : Int32))) (X00 : Old Z n0 h0) :
    MetFree l (⟨"java/lang/StringUTF16", "toBytes", "([CII)[B"⟩ : MethodName) (head1 (Jvm.Cond.code (⟨"java/lang/StringUTF16", "toBytes", "([CII)[B"⟩ : MethodName) jdk_52_method_14_code 5 (some (.array .byte)) :: ws) ({ frames := 2, cells := 1, slots := 6, locals := 24 } : Room)) (fun a U => a = #[(.ref sa), (.int (0 : Int32)), (.int (Int32.ofNat cs.length))] ∧ Z.Warmed39 U.vm ∧ U.heap = h0) (fun _ _ _ _ _ => True) (fun _ U o U' => ∃ v L, o = .returned v ∧ Q_rmTB Z sa ka cs dv h0 n0 v U'.heap L ∧ FrameEnd U o U' L ({ frames := 2, cells := 1, slots := 6, locals := 24 } : Room).cells ({ frames := 2, cells := 1, slots := 6, locals := 24 } : Room).slots) := by
  refine MetFree.of_bodySF (plainFor_of_name own_pn_java_lang_StringUTF16) hisR ?_
  intro p e s m args below meth c s₁ Bd hml0 hP hK
  obtain ⟨rfl, hZ, hh⟩ := hP
  have hx := Bd.exec
  have hby := Bd.bytes
  have hml : c.maxLocals = 5 := hml0
  have hown : s.vm.findClass "java/lang/StringUTF16" = some m.cls := findClass_of_methodNamed Bd.named
  have hnm := (name_of_methodNamed Bd.named Bd.method).1
  have X0 : Stand p l e ({ frames := 2, cells := 1, slots := 6, locals := 24 } : Room) s m #[(.ref sa), (.int (0 : Int32)), (.int (Int32.ofNat cs.length))] below meth c s₁ [] 0 0 := Stand.of_body Bd
  have e0 : s₁.heap = h0 := by rw [← hh, Bd.state]; rfl
  have N0 := Fr.nil n0
  have K0 : Keep h0 h0 [] := Keep.refl _ _
  refine own_go (S' := s₁.setTop (mkF m 0 #[.val (.ref sa), .val (.int (0 : Int32)), .val (.int (Int32.ofNat cs.length)), .unset, .unset] [])) (fun tq kq => castTop (own_ef_rmTB m sa ka cs dv) kq) ?_
  have lt1 : @LT.lt Nat _ sa h0.size := Pm0.lt
  refine own_go (fun tq kq => XS.iloadN X0.here hx rfl (hb hby own_d15_0) rfl kq) ?_
  show own_Rn p e below _ (s₁.setTop (mkF m 1 #[.val (.ref sa), .val (.int (0 : Int32)), .val (.int (Int32.ofNat cs.length)), .unset, .unset] [(.int (Int32.ofNat cs.length))]))
  have Zn2 : n0 ≤ h0.size := by omega
  obtain ⟨rv2, _, ⟨T2, L2, k2, n2⟩, -, X2, ⟨Lc2, hQ2, l2, y2, z2⟩, st2⟩ := Jvm.LawKit.callS X0 hx (y := (⟨"java/lang/StringUTF16", "newBytesFor", "(I)[B"⟩ : MethodName)) hown (mvT hZ (hw _ (List.mem_of_getElem? (i := 78) rfl))) (mvT hZ (hw _ (List.mem_of_getElem? (i := 79) rfl))) (mvT hZ (hw _ (List.mem_of_getElem? (i := 70) rfl))) (mvT hZ (hw _ (List.mem_of_getElem? (i := 80) rfl))) (by decide) (backOf (W := 0) (rmNBF l Z a0 hw [] (cs.length) h0 n0 Zn2 (hn)) hZ (hw _ (List.mem_of_getElem? (i := 80) rfl)) (hw _ (List.mem_of_getElem? (i := 70) rfl)) (by decide) (by decide)) (g := (mkF m 1 #[.val (.ref sa), .val (.int (0 : Int32)), .val (.int (Int32.ofNat cs.length)), .unset, .unset] [(.int (Int32.ofNat cs.length))])) rfl (by rw [hml]; rfl) (argsL := [(.int (Int32.ofNat cs.length))]) (rest := []) (lenOf own_pd_28I295bB rfl) rfl (by show 2 * 0 + _ ≤ _; exact Nat.le_of_eq rfl) (hb hby own_d15_1) (fun _ _ => ⟨rfl, e0, (by decide : 0 + 1 ≤ _), (by decide : 0 + 6 ≤ _)⟩)
  dsimp only [Pt.U, Pt.locs, Pt.cells, Pt.slots] at X2 l2 y2 z2 st2 hQ2
  subst l2 y2 z2
  obtain ⟨bt, kt, rfl, Nq2, Kq2, G0_2, G1_2, G2_2⟩ := hQ2
  have N2 := Fr.app N0 Nq2
  have sz3 : h0.size ≤ T2.heap.size := Kq2.1
  have K3 := K0.trans Kq2 all0
  have lt4 : @LT.lt Nat _ bt T2.heap.size := G2_2.lt
  refine own_go st2 ?_
  show own_Rn p e below _ (T2.setTop (mkF m 4 #[.val (.ref sa), .val (.int (0 : Int32)), .val (.int (Int32.ofNat cs.length)), .unset, .unset] [(.ref bt)]))
  refine own_go (fun tq kq => XS.astoreN X2.here hx rfl (hb hby own_d15_4) rfl rfl (l' := #[.val (.ref sa), .val (.int (0 : Int32)), .val (.int (Int32.ofNat cs.length)), .val (.ref bt), .unset]) rfl kq) ?_
  show own_Rn p e below _ (T2.setTop (mkF m 5 #[.val (.ref sa), .val (.int (0 : Int32)), .val (.int (Int32.ofNat cs.length)), .val (.ref bt), .unset] []))
  refine own_go (fun tq kq => XS.iconst X2.here hx rfl (hb hby own_d15_5) kq) ?_
  show own_Rn p e below _ (T2.setTop (mkF m 6 #[.val (.ref sa), .val (.int (0 : Int32)), .val (.int (Int32.ofNat cs.length)), .val (.ref bt), .unset] [(.int (0 : Int32))]))
  refine own_go (fun tq kq => XS.istore X2.here hx rfl (hb hby own_d15_6) rfl (l' := #[.val (.ref sa), .val (.int (0 : Int32)), .val (.int (Int32.ofNat cs.length)), .val (.ref bt), .val (.int (0 : Int32))]) rfl kq) ?_
  show own_Rn p e below _ (T2.setTop (mkF m 8 #[.val (.ref sa), .val (.int (0 : Int32)), .val (.int (Int32.ofNat cs.length)), .val (.ref bt), .val (.int (0 : Int32))] []))
  have hbf : h0.size ≤ bt := by omega
  have loop : ∀ (mm qq : Nat) (Tl : State) (hl : Heap) (ls : List Loc), qq + mm = cs.length → Stand p l e ({ frames := 2, cells := 1, slots := 6, locals := 24 } : Room) s m #[(.ref sa), (.int (0 : Int32)), (.int (Int32.ofNat cs.length))] below meth c Tl ls 1 6 → Tl.heap = hl → Fr n0 ls → Keep h0 hl [] → Old Z n0 hl → Arv Z hl sa ka .char (Int32.ofNat cs.length) (cs.map Value.int) dv → Arv Z hl bt kt .byte (Int32.ofNat (2 * cs.length)) (own_u16 (cs.take qq)) (.int 0) → own_Rn p e below (fun o U' => ∃ v L, o = .returned v ∧ Q_rmTB Z sa ka cs dv h0 n0 v U'.heap L ∧ FrameEnd s o U' L ({ frames := 2, cells := 1, slots := 6, locals := 24 } : Room).cells ({ frames := 2, cells := 1, slots := 6, locals := 24 } : Room).slots) (Tl.setTop (mkF m 8 #[.val (.ref sa), .val (.int (Int32.ofNat qq)), .val (.int (Int32.ofNat cs.length)), .val (.ref bt), .val (.int (Int32.ofNat qq))] [])) := by
    intro mm
    induction mm with
    | zero =>
      intro qq Tl hl ls hqm Xl el Nl Kl Ol As Ab
      have szl : h0.size ≤ hl.size := Kl.1
      have lt5 : @LT.lt Nat _ sa hl.size := As.lt
      have lt6 : @LT.lt Nat _ bt hl.size := Ab.lt
      refine own_go (fun tq kq => XS.iload Xl.here hx rfl (hb hby own_d15_8) rfl kq) ?_
      show own_Rn p e below _ (Tl.setTop (mkF m 10 #[.val (.ref sa), .val (.int (Int32.ofNat qq)), .val (.int (Int32.ofNat cs.length)), .val (.ref bt), .val (.int (Int32.ofNat qq))] [(.int (Int32.ofNat qq))]))
      refine own_go (fun tq kq => XS.iloadN Xl.here hx rfl (hb hby own_d15_10) rfl kq) ?_
      show own_Rn p e below _ (Tl.setTop (mkF m 11 #[.val (.ref sa), .val (.int (Int32.ofNat qq)), .val (.int (Int32.ofNat cs.length)), .val (.ref bt), .val (.int (Int32.ofNat qq))] [(.int (Int32.ofNat cs.length)), (.int (Int32.ofNat qq))]))
      refine own_go (fun tq kq => XS.icmpYes Xl.here hx rfl (pc0 := 11) (pc' := 32) rfl (hb hby own_d15_11) rfl (flt (own_ofNat_nlt (by omega) (by omega) : ¬ ((Int32.ofNat qq) < (Int32.ofNat cs.length)))).2.1 (by decide) (by decide) kq) ?_
      show own_Rn p e below _ (Tl.setTop (mkF m 32 #[.val (.ref sa), .val (.int (Int32.ofNat qq)), .val (.int (Int32.ofNat cs.length)), .val (.ref bt), .val (.int (Int32.ofNat qq))] []))
      refine own_go (fun tq kq => XS.aloadN Xl.here hx rfl (hb hby own_d15_32) rfl rfl kq) ?_
      show own_Rn p e below _ (Tl.setTop (mkF m 33 #[.val (.ref sa), .val (.int (Int32.ofNat qq)), .val (.int (Int32.ofNat cs.length)), .val (.ref bt), .val (.int (Int32.ofNat qq))] [(.ref bt)]))
      rw [List.take_of_length_le (by omega)] at Ab
      exact own_ret Xl (v := some (.ref bt)) (fun h => by rw [Bd.returns] at h; cases h) (fun fs hr => Xl.areturnOut hx rfl Bd.returns rfl (hb hby own_d15_33) hr) (by rw [el]; exact ⟨bt, kt, rfl, Nl, Kl, (by omega), G1_2, Ab⟩) (by decide) (by decide)
    | succ mm ih =>
      intro qq Tl hl ls hqm Xl el Nl Kl Ol As Ab
      have szl : h0.size ≤ hl.size := Kl.1
      have lt7 : @LT.lt Nat _ sa hl.size := As.lt
      have lt8 : @LT.lt Nat _ bt hl.size := Ab.lt
      refine own_go (fun tq kq => XS.iload Xl.here hx rfl (hb hby own_d15_8) rfl kq) ?_
      show own_Rn p e below _ (Tl.setTop (mkF m 10 #[.val (.ref sa), .val (.int (Int32.ofNat qq)), .val (.int (Int32.ofNat cs.length)), .val (.ref bt), .val (.int (Int32.ofNat qq))] [(.int (Int32.ofNat qq))]))
      refine own_go (fun tq kq => XS.iloadN Xl.here hx rfl (hb hby own_d15_10) rfl kq) ?_
      show own_Rn p e below _ (Tl.setTop (mkF m 11 #[.val (.ref sa), .val (.int (Int32.ofNat qq)), .val (.int (Int32.ofNat cs.length)), .val (.ref bt), .val (.int (Int32.ofNat qq))] [(.int (Int32.ofNat cs.length)), (.int (Int32.ofNat qq))]))
      refine own_go (fun tq kq => XS.icmpNo Xl.here hx rfl (hb hby own_d15_11) rfl (tlt (own_ofNat_lt (by omega) (by omega) : (Int32.ofNat qq) < (Int32.ofNat cs.length))).2.1 kq) ?_
      show own_Rn p e below _ (Tl.setTop (mkF m 14 #[.val (.ref sa), .val (.int (Int32.ofNat qq)), .val (.int (Int32.ofNat cs.length)), .val (.ref bt), .val (.int (Int32.ofNat qq))] []))
      refine own_go (fun tq kq => XS.aloadN Xl.here hx rfl (hb hby own_d15_14) rfl rfl kq) ?_
      show own_Rn p e below _ (Tl.setTop (mkF m 15 #[.val (.ref sa), .val (.int (Int32.ofNat qq)), .val (.int (Int32.ofNat cs.length)), .val (.ref bt), .val (.int (Int32.ofNat qq))] [(.ref bt)]))
      refine own_go (fun tq kq => XS.iload Xl.here hx rfl (hb hby own_d15_15) rfl kq) ?_
      show own_Rn p e below _ (Tl.setTop (mkF m 17 #[.val (.ref sa), .val (.int (Int32.ofNat qq)), .val (.int (Int32.ofNat cs.length)), .val (.ref bt), .val (.int (Int32.ofNat qq))] [(.int (Int32.ofNat qq)), (.ref bt)]))
      refine own_go (fun tq kq => XS.aloadN Xl.here hx rfl (hb hby own_d15_17) rfl rfl kq) ?_
      show own_Rn p e below _ (Tl.setTop (mkF m 18 #[.val (.ref sa), .val (.int (Int32.ofNat qq)), .val (.int (Int32.ofNat cs.length)), .val (.ref bt), .val (.int (Int32.ofNat qq))] [(.ref sa), (.int (Int32.ofNat qq)), (.ref bt)]))
      refine own_go (fun tq kq => XS.iloadN Xl.here hx rfl (hb hby own_d15_18) rfl kq) ?_
      show own_Rn p e below _ (Tl.setTop (mkF m 19 #[.val (.ref sa), .val (.int (Int32.ofNat qq)), .val (.int (Int32.ofNat cs.length)), .val (.ref bt), .val (.int (Int32.ofNat qq))] [(.int (Int32.ofNat qq)), (.ref sa), (.int (Int32.ofNat qq)), (.ref bt)]))
      have ltsa : @LT.lt Nat _ sa h0.size := Pm0.lt
      have nsb : sa ≠ bt := own_nea (by omega)
      obtain ⟨cl9, Ar9, q9, Sz9, Nn9, Hs9, G9⟩ := id As
      have in9 := inb_of (j := (Int32.ofNat qq)) Sz9 (own_inb _ _ (by omega) (by omega))
      refine own_go (fun tq kq => Xl.caload hx (j := (Int32.ofNat qq)) (v := (.int (cs.getD qq 0))) (by rw [el]; exact Ar9.1) (State.isArrayOf_alike hZ.alike Ar9.2.1) Ar9.2.2 in9 (Hs9.at in9 (own_mapget cs qq (by omega) (by omega) dv)) (g := (mkF m 19 #[.val (.ref sa), .val (.int (Int32.ofNat qq)), .val (.int (Int32.ofNat cs.length)), .val (.ref bt), .val (.int (Int32.ofNat qq))] [(.int (Int32.ofNat qq)), (.ref sa), (.int (Int32.ofNat qq)), (.ref bt)])) rfl rfl (hb hby own_d15_19) tq kq) ?_
      show own_Rn p e below _ (Tl.setTop (mkF m 20 #[.val (.ref sa), .val (.int (Int32.ofNat qq)), .val (.int (Int32.ofNat cs.length)), .val (.ref bt), .val (.int (Int32.ofNat qq))] [(.int (cs.getD qq 0)), (.int (Int32.ofNat qq)), (.ref bt)]))
      have htl : (cs.take qq).length = qq := by rw [List.length_take]; omega
      have Zn10 : n0 ≤ hl.size := by omega
      obtain ⟨rv10, _, ⟨T10, L10, k10, n10⟩, -, X10, ⟨Lc10, hQ10, l10, y10, z10⟩, st10⟩ := Jvm.LawKit.callS Xl hx (y := (⟨"java/lang/StringUTF16", "putChar", "([BII)V"⟩ : MethodName)) hown (mvT hZ (hw _ (List.mem_of_getElem? (i := 85) rfl))) (mvT hZ (hw _ (List.mem_of_getElem? (i := 86) rfl))) (mvT hZ (hw _ (List.mem_of_getElem? (i := 70) rfl))) (mvT hZ (hw _ (List.mem_of_getElem? (i := 87) rfl))) (by decide) (backOf (W := 0) (rmPut l Z a0 hw [] (bt) (kt) ((cs.take qq)) (cs.length) ((cs.getD qq 0)) (qq) hl n0 Zn10 Ab (by omega) (htl) (hn) G1_2 (OAD) (OHI) (OLO) Ol) hZ (hw _ (List.mem_of_getElem? (i := 87) rfl)) (hw _ (List.mem_of_getElem? (i := 70) rfl)) (by decide) (by decide)) (g := (mkF m 20 #[.val (.ref sa), .val (.int (Int32.ofNat qq)), .val (.int (Int32.ofNat cs.length)), .val (.ref bt), .val (.int (Int32.ofNat qq))] [(.int (cs.getD qq 0)), (.int (Int32.ofNat qq)), (.ref bt)])) rfl (by rw [hml]; rfl) (argsL := [(.ref bt), (.int (Int32.ofNat qq)), (.int (cs.getD qq 0))]) (rest := []) (lenOf own_pd_285bBII29V rfl) rfl (by show 2 * 0 + _ ≤ _; exact Nat.le_of_eq rfl) (hb hby own_d15_20) (fun _ _ => ⟨rfl, el, (by decide : 1 + 0 ≤ _), (by decide : 6 + 0 ≤ _)⟩)
      dsimp only [Pt.U, Pt.locs, Pt.cells, Pt.slots] at X10 l10 y10 z10 st10 hQ10
      subst l10 y10 z10
      obtain ⟨rfl, Nq10, Kq10, G0_10⟩ := hQ10
      have N10 := Fr.app Nl Nq10
      have sz11 : hl.size ≤ T10.heap.size := Kq10.1
      have K11 := Kl.trans Kq10 (allS (Or.inr (by omega)) all0)
      refine own_go st10 ?_
      show own_Rn p e below _ (T10.setTop (mkF m 23 #[.val (.ref sa), .val (.int (Int32.ofNat qq)), .val (.int (Int32.ofNat cs.length)), .val (.ref bt), .val (.int (Int32.ofNat qq))] []))
      refine own_go (fun tq kq => XS.iinc X10.here hx rfl (hb hby own_d15_23) rfl (l' := #[.val (.ref sa), .val (.int ((Int32.ofNat qq) + (1 : Int32))), .val (.int (Int32.ofNat cs.length)), .val (.ref bt), .val (.int (Int32.ofNat qq))]) rfl kq) ?_
      show own_Rn p e below _ (T10.setTop (mkF m 26 #[.val (.ref sa), .val (.int ((Int32.ofNat qq) + (1 : Int32))), .val (.int (Int32.ofNat cs.length)), .val (.ref bt), .val (.int (Int32.ofNat qq))] []))
      refine own_go (fun tq kq => XS.iinc X10.here hx rfl (hb hby own_d15_26) rfl (l' := #[.val (.ref sa), .val (.int ((Int32.ofNat qq) + (1 : Int32))), .val (.int (Int32.ofNat cs.length)), .val (.ref bt), .val (.int ((Int32.ofNat qq) + (1 : Int32)))]) rfl kq) ?_
      show own_Rn p e below _ (T10.setTop (mkF m 29 #[.val (.ref sa), .val (.int ((Int32.ofNat qq) + (1 : Int32))), .val (.int (Int32.ofNat cs.length)), .val (.ref bt), .val (.int ((Int32.ofNat qq) + (1 : Int32)))] []))
      refine own_go (fun tq kq => XS.goto X10.here hx rfl (pc0 := 29) (pc' := 8) rfl (hb hby own_d15_29) (by decide) (by decide) kq) ?_
      show own_Rn p e below _ (T10.setTop (mkF m 8 #[.val (.ref sa), .val (.int ((Int32.ofNat qq) + (1 : Int32))), .val (.int (Int32.ofNat cs.length)), .val (.ref bt), .val (.int ((Int32.ofNat qq) + (1 : Int32)))] []))
      have F12 : Arv Z T10.heap sa ka .char (Int32.ofNat cs.length) (cs.map Value.int) dv := (As.keep Kq10 (ninS nsb nin0))
      have F13 : Old Z n0 T10.heap := (Ol.keep Kq10 (allS G1_2 all0))
      rw [show (Int32.ofNat qq + (1 : Int32)) = Int32.ofNat (qq + 1) from (inc_ofNat qq).symm]
      exact ih (qq + 1) _ _ _ (by omega) X10 rfl N10 K11 F13 F12 (by rw [own_take_succ cs qq (by omega)]; exact G0_10)
  have F14 : Old Z n0 T2.heap := (X00.keep Kq2 all0)
  have F15 : Arv Z T2.heap sa ka .char (Int32.ofNat cs.length) (cs.map Value.int) dv := (Pm0.keep Kq2 nin0)
  exact loop cs.length 0 _ _ _ (by omega) X2 rfl N2 K3 F14 F15 G2_2
theorem own_ef_rmC5 (m : MethodId) (sa : Addr) (ka : ClassId) (cs : List Int32) (dv : Value) (bv : Addr) (kb : ClassId) : entryFrame m #[(.ref sa), (.int (0 : Int32)), (.ref bv), (.int (0 : Int32)), (.int (Int32.ofNat cs.length))] 7 = mkF m 0 #[.val (.ref sa), .val (.int (0 : Int32)), .val (.ref bv), .val (.int (0 : Int32)), .val (.int (Int32.ofNat cs.length)), .unset, .unset] [] := by first | (simp [entryFrame, mkF, argsToLocals, Value.category]; done) | rfl
theorem own_d14_0 : decode jdk_52_method_21_code 0 = .ok (.iconst 0, 1) := by decide +kernel
theorem own_d14_1 : decode jdk_52_method_21_code 1 = .ok (.istore 5, 2) := by decide +kernel
theorem own_d14_3 : decode jdk_52_method_21_code 3 = .ok (.iload 5, 2) := by decide +kernel
theorem own_d14_5 : decode jdk_52_method_21_code 5 = .ok (.iload 4, 2) := by decide +kernel
theorem own_d14_7 : decode jdk_52_method_21_code 7 = .ok (.if_icmp .ge 37, 3) := by decide +kernel
theorem own_d14_44 : decode jdk_52_method_21_code 44 = .ok (.iload 4, 2) := by decide +kernel
theorem own_d14_46 : decode jdk_52_method_21_code 46 = .ok (.ireturn, 1) := by decide +kernel
theorem own_d14_10 : decode jdk_52_method_21_code 10 = .ok (.aload_n 0, 1) := by decide +kernel
theorem own_d14_11 : decode jdk_52_method_21_code 11 = .ok (.iload_n 1, 1) := by decide +kernel
theorem own_d14_12 : decode jdk_52_method_21_code 12 = .ok (.caload, 1) := by decide +kernel
theorem own_d14_13 : decode jdk_52_method_21_code 13 = .ok (.istore 6, 2) := by decide +kernel
theorem own_d14_15 : decode jdk_52_method_21_code 15 = .ok (.iload 6, 2) := by decide +kernel
theorem own_d14_17 : decode jdk_52_method_21_code 17 = .ok (.sipush 255, 3) := by decide +kernel
theorem own_d14_20 : decode jdk_52_method_21_code 20 = .ok (.if_icmp .le 6, 3) := by decide +kernel
theorem own_d14_23 : decode jdk_52_method_21_code 23 = .ok (.iload 5, 2) := by decide +kernel
theorem own_d14_25 : decode jdk_52_method_21_code 25 = .ok (.ireturn, 1) := by decide +kernel
theorem own_d14_26 : decode jdk_52_method_21_code 26 = .ok (.aload_n 2, 1) := by decide +kernel
theorem own_d14_27 : decode jdk_52_method_21_code 27 = .ok (.iload_n 3, 1) := by decide +kernel
theorem own_d14_28 : decode jdk_52_method_21_code 28 = .ok (.iload 6, 2) := by decide +kernel
theorem own_d14_30 : decode jdk_52_method_21_code 30 = .ok (.i2b, 1) := by decide +kernel
theorem own_d14_31 : decode jdk_52_method_21_code 31 = .ok (.bastore, 1) := by decide +kernel
theorem own_d14_32 : decode jdk_52_method_21_code 32 = .ok (.iinc 1 1, 3) := by decide +kernel
theorem own_d14_35 : decode jdk_52_method_21_code 35 = .ok (.iinc 3 1, 3) := by decide +kernel
theorem own_d14_38 : decode jdk_52_method_21_code 38 = .ok (.iinc 5 1, 3) := by decide +kernel
theorem own_d14_41 : decode jdk_52_method_21_code 41 = .ok (.goto (-38), 3) := by decide +kernel
def Q_rmC5 (Z : State) (sa : Addr) (ka : ClassId) (cs : List Int32) (dv : Value) (bv : Addr) (kb : ClassId) (h0 : Heap) (n0 : Nat) (v : Option Value) (h : Heap) (L : List Loc) : Prop := ∃ (jj : Nat), v = some (.int (Int32.ofNat jj)) ∧ Fr n0 L ∧ Keep h0 h [bv] ∧ (jj ≤ cs.length) ∧ (jj < cs.length → (255 : Int32) < cs.getD jj 0) ∧ (jj = cs.length → (∀ c ∈ cs, ¬ (255 : Int32) < c) ∧ Arv Z h bv kb .byte (Int32.ofNat cs.length) (own_bs cs) (.int 0))
set_option maxRecDepth 65536 in
set_option maxHeartbeats 40000000 in
theorem rmC5 (l : Launch) (Z : State) (a0 : Array Value) (hw : ∀ d ∈ tables_1, d.before a0 Z = true) (ws : List Jvm.Cond) (sa : Addr) (ka : ClassId) (cs : List Int32) (dv : Value) (bv : Addr) (kb : ClassId) (h0 : Heap) (n0 : Nat) (Z0 : n0 ≤ h0.size) (Pm0 : Arv Z h0 sa ka .char (Int32.ofNat cs.length) (cs.map Value.int) dv) (hn : (cs.length ≤ 3)) (h0n : (0 < cs.length)) (hr : (∀ c ∈ cs, ¬ c < 0 ∧ ¬ (65535 : Int32) < c)) (Pm4 : Arv Z h0 bv kb .byte (Int32.ofNat cs.length) [] (.int 0)) (gbv : n0 ≤ bv) (nsb : (sa ≠ bv)) (X00 : Old Z n0 h0) :
    MetFree l (⟨"java/lang/StringUTF16", "compress", "([CI[BII)I"⟩ : MethodName) (head1 (Jvm.Cond.code (⟨"java/lang/StringUTF16", "compress", "([CI[BII)I"⟩ : MethodName) jdk_52_method_21_code 7 (some .int) :: ws) ({ frames := 0, cells := 0, slots := 0, locals := 0 } : Room)) (fun a U => a = #[(.ref sa), (.int (0 : Int32)), (.ref bv), (.int (0 : Int32)), (.int (Int32.ofNat cs.length))] ∧ Z.Warmed39 U.vm ∧ U.heap = h0) (fun _ _ _ _ _ => True) (fun _ U o U' => ∃ v L, o = .returned v ∧ Q_rmC5 Z sa ka cs dv bv kb h0 n0 v U'.heap L ∧ FrameEnd U o U' L ({ frames := 0, cells := 0, slots := 0, locals := 0 } : Room).cells ({ frames := 0, cells := 0, slots := 0, locals := 0 } : Room).slots) := by
  refine MetFree.of_bodySF (plainFor_of_name own_pn_java_lang_StringUTF16) hisR ?_
  intro p e s m args below meth c s₁ Bd hml0 hP hK
  obtain ⟨rfl, hZ, hh⟩ := hP
  have hx := Bd.exec
  have hby := Bd.bytes
  have hml : c.maxLocals = 7 := hml0
  have hown : s.vm.findClass "java/lang/StringUTF16" = some m.cls := findClass_of_methodNamed Bd.named
  have hnm := (name_of_methodNamed Bd.named Bd.method).1
  have X0 : Stand p l e ({ frames := 0, cells := 0, slots := 0, locals := 0 } : Room) s m #[(.ref sa), (.int (0 : Int32)), (.ref bv), (.int (0 : Int32)), (.int (Int32.ofNat cs.length))] below meth c s₁ [] 0 0 := Stand.of_body Bd
  have e0 : s₁.heap = h0 := by rw [← hh, Bd.state]; rfl
  have N0 := Fr.nil n0
  have K0 : Keep h0 h0 [bv] := Keep.refl _ _
  refine own_go (S' := s₁.setTop (mkF m 0 #[.val (.ref sa), .val (.int (0 : Int32)), .val (.ref bv), .val (.int (0 : Int32)), .val (.int (Int32.ofNat cs.length)), .unset, .unset] [])) (fun tq kq => castTop (own_ef_rmC5 m sa ka cs dv bv kb) kq) ?_
  have lt1 : @LT.lt Nat _ sa h0.size := Pm0.lt
  have lt2 : @LT.lt Nat _ bv h0.size := Pm4.lt
  refine own_go (fun tq kq => XS.iconst X0.here hx rfl (hb hby own_d14_0) kq) ?_
  show own_Rn p e below _ (s₁.setTop (mkF m 1 #[.val (.ref sa), .val (.int (0 : Int32)), .val (.ref bv), .val (.int (0 : Int32)), .val (.int (Int32.ofNat cs.length)), .unset, .unset] [(.int (0 : Int32))]))
  refine own_go (fun tq kq => XS.istore X0.here hx rfl (hb hby own_d14_1) rfl (l' := #[.val (.ref sa), .val (.int (0 : Int32)), .val (.ref bv), .val (.int (0 : Int32)), .val (.int (Int32.ofNat cs.length)), .val (.int (0 : Int32)), .unset]) rfl kq) ?_
  show own_Rn p e below _ (s₁.setTop (mkF m 3 #[.val (.ref sa), .val (.int (0 : Int32)), .val (.ref bv), .val (.int (0 : Int32)), .val (.int (Int32.ofNat cs.length)), .val (.int (0 : Int32)), .unset] []))
  have loop : ∀ (mm qq : Nat) (Tl : State) (hl : Heap) (ls : List Loc) (z6 : Slot), qq + mm = cs.length → Stand p l e ({ frames := 0, cells := 0, slots := 0, locals := 0 } : Room) s m #[(.ref sa), (.int (0 : Int32)), (.ref bv), (.int (0 : Int32)), (.int (Int32.ofNat cs.length))] below meth c Tl ls 0 0 → Tl.heap = hl → Fr n0 ls → Keep h0 hl [bv] → Old Z n0 hl → (∀ c ∈ cs.take qq, ¬ (255 : Int32) < c) → Arv Z hl sa ka .char (Int32.ofNat cs.length) (cs.map Value.int) dv → Arv Z hl bv kb .byte (Int32.ofNat cs.length) (own_bs (cs.take qq)) (.int 0) → One z6 → own_Rn p e below (fun o U' => ∃ v L, o = .returned v ∧ Q_rmC5 Z sa ka cs dv bv kb h0 n0 v U'.heap L ∧ FrameEnd s o U' L ({ frames := 0, cells := 0, slots := 0, locals := 0 } : Room).cells ({ frames := 0, cells := 0, slots := 0, locals := 0 } : Room).slots) (Tl.setTop (mkF m 3 #[.val (.ref sa), .val (.int (Int32.ofNat qq)), .val (.ref bv), .val (.int (Int32.ofNat qq)), .val (.int (Int32.ofNat cs.length)), .val (.int (Int32.ofNat qq)), z6] [])) := by
    intro mm
    induction mm with
    | zero =>
      intro qq Tl hl ls z6 hqm Xl el Nl Kl Ol hall As Ab o6
      have szl : h0.size ≤ hl.size := Kl.1
      have lt3 : @LT.lt Nat _ sa hl.size := As.lt
      have lt4 : @LT.lt Nat _ bv hl.size := Ab.lt
      refine own_go (fun tq kq => XS.iload Xl.here hx rfl (hb hby own_d14_3) rfl kq) ?_
      show own_Rn p e below _ (Tl.setTop (mkF m 5 #[.val (.ref sa), .val (.int (Int32.ofNat qq)), .val (.ref bv), .val (.int (Int32.ofNat qq)), .val (.int (Int32.ofNat cs.length)), .val (.int (Int32.ofNat qq)), z6] [(.int (Int32.ofNat qq))]))
      refine own_go (fun tq kq => XS.iload Xl.here hx rfl (hb hby own_d14_5) rfl kq) ?_
      show own_Rn p e below _ (Tl.setTop (mkF m 7 #[.val (.ref sa), .val (.int (Int32.ofNat qq)), .val (.ref bv), .val (.int (Int32.ofNat qq)), .val (.int (Int32.ofNat cs.length)), .val (.int (Int32.ofNat qq)), z6] [(.int (Int32.ofNat cs.length)), (.int (Int32.ofNat qq))]))
      refine own_go (fun tq kq => XS.icmpYes Xl.here hx rfl (pc0 := 7) (pc' := 44) rfl (hb hby own_d14_7) rfl (flt (own_ofNat_nlt (by omega) (by omega) : ¬ ((Int32.ofNat qq) < (Int32.ofNat cs.length)))).2.1 (by decide) (by decide) kq) ?_
      show own_Rn p e below _ (Tl.setTop (mkF m 44 #[.val (.ref sa), .val (.int (Int32.ofNat qq)), .val (.ref bv), .val (.int (Int32.ofNat qq)), .val (.int (Int32.ofNat cs.length)), .val (.int (Int32.ofNat qq)), z6] []))
      refine own_go (fun tq kq => XS.iload Xl.here hx rfl (hb hby own_d14_44) rfl kq) ?_
      show own_Rn p e below _ (Tl.setTop (mkF m 46 #[.val (.ref sa), .val (.int (Int32.ofNat qq)), .val (.ref bv), .val (.int (Int32.ofNat qq)), .val (.int (Int32.ofNat cs.length)), .val (.int (Int32.ofNat qq)), z6] [(.int (Int32.ofNat cs.length))]))
      rw [List.take_of_length_le (by omega)] at Ab hall
      exact own_ret Xl (v := some (.int (Int32.ofNat cs.length))) (fun h => by rw [Bd.returns] at h; cases h) (fun fs hr => retI Xl hx Bd.returns (hb hby own_d14_46) hr) (by rw [el]; exact ⟨cs.length, rfl, Nl, Kl, Nat.le_refl _, fun h => absurd h (Nat.lt_irrefl _), fun _ => ⟨hall, Ab⟩⟩) (by decide) (by decide)
    | succ mm ih =>
      intro qq Tl hl ls z6 hqm Xl el Nl Kl Ol hall As Ab o6
      have szl : h0.size ≤ hl.size := Kl.1
      have lt5 : @LT.lt Nat _ sa hl.size := As.lt
      have lt6 : @LT.lt Nat _ bv hl.size := Ab.lt
      refine own_go (fun tq kq => XS.iload Xl.here hx rfl (hb hby own_d14_3) rfl kq) ?_
      show own_Rn p e below _ (Tl.setTop (mkF m 5 #[.val (.ref sa), .val (.int (Int32.ofNat qq)), .val (.ref bv), .val (.int (Int32.ofNat qq)), .val (.int (Int32.ofNat cs.length)), .val (.int (Int32.ofNat qq)), z6] [(.int (Int32.ofNat qq))]))
      refine own_go (fun tq kq => XS.iload Xl.here hx rfl (hb hby own_d14_5) rfl kq) ?_
      show own_Rn p e below _ (Tl.setTop (mkF m 7 #[.val (.ref sa), .val (.int (Int32.ofNat qq)), .val (.ref bv), .val (.int (Int32.ofNat qq)), .val (.int (Int32.ofNat cs.length)), .val (.int (Int32.ofNat qq)), z6] [(.int (Int32.ofNat cs.length)), (.int (Int32.ofNat qq))]))
      refine own_go (fun tq kq => XS.icmpNo Xl.here hx rfl (hb hby own_d14_7) rfl (tlt (own_ofNat_lt (by omega) (by omega) : (Int32.ofNat qq) < (Int32.ofNat cs.length))).2.1 kq) ?_
      show own_Rn p e below _ (Tl.setTop (mkF m 10 #[.val (.ref sa), .val (.int (Int32.ofNat qq)), .val (.ref bv), .val (.int (Int32.ofNat qq)), .val (.int (Int32.ofNat cs.length)), .val (.int (Int32.ofNat qq)), z6] []))
      refine own_go (fun tq kq => XS.aloadN Xl.here hx rfl (hb hby own_d14_10) rfl rfl kq) ?_
      show own_Rn p e below _ (Tl.setTop (mkF m 11 #[.val (.ref sa), .val (.int (Int32.ofNat qq)), .val (.ref bv), .val (.int (Int32.ofNat qq)), .val (.int (Int32.ofNat cs.length)), .val (.int (Int32.ofNat qq)), z6] [(.ref sa)]))
      refine own_go (fun tq kq => XS.iloadN Xl.here hx rfl (hb hby own_d14_11) rfl kq) ?_
      show own_Rn p e below _ (Tl.setTop (mkF m 12 #[.val (.ref sa), .val (.int (Int32.ofNat qq)), .val (.ref bv), .val (.int (Int32.ofNat qq)), .val (.int (Int32.ofNat cs.length)), .val (.int (Int32.ofNat qq)), z6] [(.int (Int32.ofNat qq)), (.ref sa)]))
      obtain ⟨cl7, Ar7, q7, Sz7, Nn7, Hs7, G7⟩ := id As
      have in7 := inb_of (j := (Int32.ofNat qq)) Sz7 (own_inb _ _ (by omega) (by omega))
      refine own_go (fun tq kq => Xl.caload hx (j := (Int32.ofNat qq)) (v := (.int (cs.getD qq 0))) (by rw [el]; exact Ar7.1) (State.isArrayOf_alike hZ.alike Ar7.2.1) Ar7.2.2 in7 (Hs7.at in7 (own_mapget cs qq (by omega) (by omega) dv)) (g := (mkF m 12 #[.val (.ref sa), .val (.int (Int32.ofNat qq)), .val (.ref bv), .val (.int (Int32.ofNat qq)), .val (.int (Int32.ofNat cs.length)), .val (.int (Int32.ofNat qq)), z6] [(.int (Int32.ofNat qq)), (.ref sa)])) rfl rfl (hb hby own_d14_12) tq kq) ?_
      show own_Rn p e below _ (Tl.setTop (mkF m 13 #[.val (.ref sa), .val (.int (Int32.ofNat qq)), .val (.ref bv), .val (.int (Int32.ofNat qq)), .val (.int (Int32.ofNat cs.length)), .val (.int (Int32.ofNat qq)), z6] [(.int (cs.getD qq 0))]))
      have os8 : storeLocals #[.val (.ref sa), .val (.int (Int32.ofNat qq)), .val (.ref bv), .val (.int (Int32.ofNat qq)), .val (.int (Int32.ofNat cs.length)), .val (.int (Int32.ofNat qq)), z6] 6 (.int (cs.getD qq 0)) = some #[.val (.ref sa), .val (.int (Int32.ofNat qq)), .val (.ref bv), .val (.int (Int32.ofNat qq)), .val (.int (Int32.ofNat cs.length)), .val (.int (Int32.ofNat qq)), .val (.int (cs.getD qq 0))] := by
        rcases o6 with rfl | ⟨w, rfl, hw⟩
        · rfl
        · cases w <;> first | rfl | (simp [Value.category] at hw)
      refine own_go (fun tq kq => XS.istore Xl.here hx rfl (hb hby own_d14_13) rfl (l' := #[.val (.ref sa), .val (.int (Int32.ofNat qq)), .val (.ref bv), .val (.int (Int32.ofNat qq)), .val (.int (Int32.ofNat cs.length)), .val (.int (Int32.ofNat qq)), .val (.int (cs.getD qq 0))]) os8 kq) ?_
      show own_Rn p e below _ (Tl.setTop (mkF m 15 #[.val (.ref sa), .val (.int (Int32.ofNat qq)), .val (.ref bv), .val (.int (Int32.ofNat qq)), .val (.int (Int32.ofNat cs.length)), .val (.int (Int32.ofNat qq)), .val (.int (cs.getD qq 0))] []))
      refine own_go (fun tq kq => XS.iload Xl.here hx rfl (hb hby own_d14_15) rfl kq) ?_
      show own_Rn p e below _ (Tl.setTop (mkF m 17 #[.val (.ref sa), .val (.int (Int32.ofNat qq)), .val (.ref bv), .val (.int (Int32.ofNat qq)), .val (.int (Int32.ofNat cs.length)), .val (.int (Int32.ofNat qq)), .val (.int (cs.getD qq 0))] [(.int (cs.getD qq 0))]))
      refine own_go (fun tq kq => XS.sipush Xl.here hx rfl (hb hby own_d14_17) kq) ?_
      show own_Rn p e below _ (Tl.setTop (mkF m 20 #[.val (.ref sa), .val (.int (Int32.ofNat qq)), .val (.ref bv), .val (.int (Int32.ofNat qq)), .val (.int (Int32.ofNat cs.length)), .val (.int (Int32.ofNat qq)), .val (.int (cs.getD qq 0))] [(.int (255 : Int32)), (.int (cs.getD qq 0))]))
      by_cases h255 : (255 : Int32) < (cs.getD qq 0)
      · skip
        refine own_go (fun tq kq => XS.icmpNo Xl.here hx rfl (hb hby own_d14_20) rfl (tlt (h255 : (255 : Int32) < (cs.getD qq 0))).2.2.2 kq) ?_
        show own_Rn p e below _ (Tl.setTop (mkF m 23 #[.val (.ref sa), .val (.int (Int32.ofNat qq)), .val (.ref bv), .val (.int (Int32.ofNat qq)), .val (.int (Int32.ofNat cs.length)), .val (.int (Int32.ofNat qq)), .val (.int (cs.getD qq 0))] []))
        refine own_go (fun tq kq => XS.iload Xl.here hx rfl (hb hby own_d14_23) rfl kq) ?_
        show own_Rn p e below _ (Tl.setTop (mkF m 25 #[.val (.ref sa), .val (.int (Int32.ofNat qq)), .val (.ref bv), .val (.int (Int32.ofNat qq)), .val (.int (Int32.ofNat cs.length)), .val (.int (Int32.ofNat qq)), .val (.int (cs.getD qq 0))] [(.int (Int32.ofNat qq))]))
        exact own_ret Xl (v := some (.int (Int32.ofNat qq))) (fun h => by rw [Bd.returns] at h; cases h) (fun fs hr => retI Xl hx Bd.returns (hb hby own_d14_25) hr) (by rw [el]; exact ⟨qq, rfl, Nl, Kl, by omega, fun _ => h255, fun h => absurd h (by omega)⟩) (by decide) (by decide)
      · skip
        refine own_go (fun tq kq => XS.icmpYes Xl.here hx rfl (pc0 := 20) (pc' := 26) rfl (hb hby own_d14_20) rfl (flt (h255 : ¬ ((255 : Int32) < (cs.getD qq 0)))).2.2.2 (by decide) (by decide) kq) ?_
        show own_Rn p e below _ (Tl.setTop (mkF m 26 #[.val (.ref sa), .val (.int (Int32.ofNat qq)), .val (.ref bv), .val (.int (Int32.ofNat qq)), .val (.int (Int32.ofNat cs.length)), .val (.int (Int32.ofNat qq)), .val (.int (cs.getD qq 0))] []))
        refine own_go (fun tq kq => XS.aloadN Xl.here hx rfl (hb hby own_d14_26) rfl rfl kq) ?_
        show own_Rn p e below _ (Tl.setTop (mkF m 27 #[.val (.ref sa), .val (.int (Int32.ofNat qq)), .val (.ref bv), .val (.int (Int32.ofNat qq)), .val (.int (Int32.ofNat cs.length)), .val (.int (Int32.ofNat qq)), .val (.int (cs.getD qq 0))] [(.ref bv)]))
        refine own_go (fun tq kq => XS.iloadN Xl.here hx rfl (hb hby own_d14_27) rfl kq) ?_
        show own_Rn p e below _ (Tl.setTop (mkF m 28 #[.val (.ref sa), .val (.int (Int32.ofNat qq)), .val (.ref bv), .val (.int (Int32.ofNat qq)), .val (.int (Int32.ofNat cs.length)), .val (.int (Int32.ofNat qq)), .val (.int (cs.getD qq 0))] [(.int (Int32.ofNat qq)), (.ref bv)]))
        refine own_go (fun tq kq => XS.iload Xl.here hx rfl (hb hby own_d14_28) rfl kq) ?_
        show own_Rn p e below _ (Tl.setTop (mkF m 30 #[.val (.ref sa), .val (.int (Int32.ofNat qq)), .val (.ref bv), .val (.int (Int32.ofNat qq)), .val (.int (Int32.ofNat cs.length)), .val (.int (Int32.ofNat qq)), .val (.int (cs.getD qq 0))] [(.int (cs.getD qq 0)), (.int (Int32.ofNat qq)), (.ref bv)]))
        refine own_go (fun tq kq => XS.i2b Xl.here hx rfl (hb hby own_d14_30) rfl kq) ?_
        show own_Rn p e below _ (Tl.setTop (mkF m 31 #[.val (.ref sa), .val (.int (Int32.ofNat qq)), .val (.ref bv), .val (.int (Int32.ofNat qq)), .val (.int (Int32.ofNat cs.length)), .val (.int (Int32.ofNat qq)), .val (.int (cs.getD qq 0))] [(.int ((cs.getD qq 0).toInt8.toInt32)), (.int (Int32.ofNat qq)), (.ref bv)]))
        have htl : (own_bs (cs.take qq)).length = qq := by rw [own_bs_len, List.length_take]; omega
        obtain ⟨cl9, Ar9, q9, Sz9, Nn9, Hs9, G9⟩ := id Ab
        obtain ⟨T9, h9, X9, e9, W9, st9⟩ := stB Xl hx hZ el Ar9 (j := (Int32.ofNat qq)) (inb_of Sz9 (own_inb _ _ (by omega) (by omega))) (g := (mkF m 31 #[.val (.ref sa), .val (.int (Int32.ofNat qq)), .val (.ref bv), .val (.int (Int32.ofNat qq)), .val (.int (Int32.ofNat cs.length)), .val (.int (Int32.ofNat qq)), .val (.int (cs.getD qq 0))] [(.int ((cs.getD qq 0).toInt8.toInt32)), (.int (Int32.ofNat qq)), (.ref bv)])) rfl rfl (hb hby own_d14_31)
        rw [own_narB] at W9
        refine own_go st9 ?_
        have V9 : Arv Z h9 bv kb .byte (Int32.ofNat cs.length) (own_bs (cs.take qq) ++ [(.int ((cs.getD qq 0).toInt8.toInt32))]) (.int 0) := own_store1 Ab (by rw [htl, own_clampN (by omega)]; omega) (own_fitsB _) W9 (by rw [own_clampN (by omega), htl])
        have N9 := Fr.snoc X9 Nl gbv
        have sz10 : hl.size ≤ h9.size := Nat.le_of_eq (Wr.size W9).symm
        have K10 := Kl.wr W9 (Or.inl (List.mem_of_getElem? (i := 0) rfl))
        show own_Rn p e below _ (T9.setTop (mkF m 32 #[.val (.ref sa), .val (.int (Int32.ofNat qq)), .val (.ref bv), .val (.int (Int32.ofNat qq)), .val (.int (Int32.ofNat cs.length)), .val (.int (Int32.ofNat qq)), .val (.int (cs.getD qq 0))] []))
        refine own_go (fun tq kq => XS.iinc X9.here hx rfl (hb hby own_d14_32) rfl (l' := #[.val (.ref sa), .val (.int ((Int32.ofNat qq) + (1 : Int32))), .val (.ref bv), .val (.int (Int32.ofNat qq)), .val (.int (Int32.ofNat cs.length)), .val (.int (Int32.ofNat qq)), .val (.int (cs.getD qq 0))]) rfl kq) ?_
        show own_Rn p e below _ (T9.setTop (mkF m 35 #[.val (.ref sa), .val (.int ((Int32.ofNat qq) + (1 : Int32))), .val (.ref bv), .val (.int (Int32.ofNat qq)), .val (.int (Int32.ofNat cs.length)), .val (.int (Int32.ofNat qq)), .val (.int (cs.getD qq 0))] []))
        refine own_go (fun tq kq => XS.iinc X9.here hx rfl (hb hby own_d14_35) rfl (l' := #[.val (.ref sa), .val (.int ((Int32.ofNat qq) + (1 : Int32))), .val (.ref bv), .val (.int ((Int32.ofNat qq) + (1 : Int32))), .val (.int (Int32.ofNat cs.length)), .val (.int (Int32.ofNat qq)), .val (.int (cs.getD qq 0))]) rfl kq) ?_
        show own_Rn p e below _ (T9.setTop (mkF m 38 #[.val (.ref sa), .val (.int ((Int32.ofNat qq) + (1 : Int32))), .val (.ref bv), .val (.int ((Int32.ofNat qq) + (1 : Int32))), .val (.int (Int32.ofNat cs.length)), .val (.int (Int32.ofNat qq)), .val (.int (cs.getD qq 0))] []))
        refine own_go (fun tq kq => XS.iinc X9.here hx rfl (hb hby own_d14_38) rfl (l' := #[.val (.ref sa), .val (.int ((Int32.ofNat qq) + (1 : Int32))), .val (.ref bv), .val (.int ((Int32.ofNat qq) + (1 : Int32))), .val (.int (Int32.ofNat cs.length)), .val (.int ((Int32.ofNat qq) + (1 : Int32))), .val (.int (cs.getD qq 0))]) rfl kq) ?_
        show own_Rn p e below _ (T9.setTop (mkF m 41 #[.val (.ref sa), .val (.int ((Int32.ofNat qq) + (1 : Int32))), .val (.ref bv), .val (.int ((Int32.ofNat qq) + (1 : Int32))), .val (.int (Int32.ofNat cs.length)), .val (.int ((Int32.ofNat qq) + (1 : Int32))), .val (.int (cs.getD qq 0))] []))
        refine own_go (fun tq kq => XS.goto X9.here hx rfl (pc0 := 41) (pc' := 3) rfl (hb hby own_d14_41) (by decide) (by decide) kq) ?_
        show own_Rn p e below _ (T9.setTop (mkF m 3 #[.val (.ref sa), .val (.int ((Int32.ofNat qq) + (1 : Int32))), .val (.ref bv), .val (.int ((Int32.ofNat qq) + (1 : Int32))), .val (.int (Int32.ofNat cs.length)), .val (.int ((Int32.ofNat qq) + (1 : Int32))), .val (.int (cs.getD qq 0))] []))
        have F11 : Arv Z h9 sa ka .char (Int32.ofNat cs.length) (cs.map Value.int) dv := (As.other W9 nsb)
        have F12 : Old Z n0 h9 := (Ol.wr W9 gbv)
        rw [show (Int32.ofNat qq + (1 : Int32)) = Int32.ofNat (qq + 1) from (inc_ofNat qq).symm]
        have hall2 : ∀ c ∈ cs.take (qq + 1), ¬ (255 : Int32) < c := by
          intro c hc
          rw [own_take_succ cs qq (by omega), List.mem_append, List.mem_singleton] at hc
          rcases hc with hc | rfl
          · exact hall c hc
          · exact h255
        exact ih (qq + 1) _ _ _ _ (by omega) X9 e9 N9 K10 F12 hall2 F11 (by rw [own_take_succ cs qq (by omega), own_bs_app]; exact V9) (One.val rfl)
  exact loop cs.length 0 _ _ _ _ (by omega) X0 e0 N0 K0 X00 (fun c hc => nomatch hc) Pm0 Pm4 One.u
theorem own_ef_rmC3 (m : MethodId) (sa : Addr) (ka : ClassId) (cs : List Int32) (dv : Value) : entryFrame m #[(.ref sa), (.int (0 : Int32)), (.int (Int32.ofNat cs.length))] 6 = mkF m 0 #[.val (.ref sa), .val (.int (0 : Int32)), .val (.int (Int32.ofNat cs.length)), .unset, .unset, .unset] [] := by first | (simp [entryFrame, mkF, argsToLocals, Value.category]; done) | rfl
theorem own_d13_0 : decode jdk_52_method_16_code 0 = .ok (.iload_n 2, 1) := by decide +kernel
theorem own_d13_1 : decode jdk_52_method_16_code 1 = .ok (.newarray .byte, 2) := by decide +kernel
theorem own_d13_3 : decode jdk_52_method_16_code 3 = .ok (.astore_n 3, 1) := by decide +kernel
theorem own_d13_4 : decode jdk_52_method_16_code 4 = .ok (.aload_n 0, 1) := by decide +kernel
theorem own_d13_5 : decode jdk_52_method_16_code 5 = .ok (.iload_n 1, 1) := by decide +kernel
theorem own_d13_6 : decode jdk_52_method_16_code 6 = .ok (.aload_n 3, 1) := by decide +kernel
theorem own_d13_7 : decode jdk_52_method_16_code 7 = .ok (.iconst 0, 1) := by decide +kernel
theorem own_d13_8 : decode jdk_52_method_16_code 8 = .ok (.iload_n 2, 1) := by decide +kernel
theorem own_d13_9 : decode jdk_52_method_16_code 9 = .ok (.invokestatic 115, 3) := by decide +kernel
theorem own_pd_285bCI5bBII29I : parseMethodDescriptor "([CI[BII)I" = some ⟨[(.array .char), .int, (.array .byte), .int, .int], some .int⟩ := by decide +kernel
theorem own_d13_12 : decode jdk_52_method_16_code 12 = .ok (.istore 4, 2) := by decide +kernel
theorem own_d13_14 : decode jdk_52_method_16_code 14 = .ok (.iload 4, 2) := by decide +kernel
theorem own_d13_16 : decode jdk_52_method_16_code 16 = .ok (.iload_n 2, 1) := by decide +kernel
theorem own_d13_17 : decode jdk_52_method_16_code 17 = .ok (.if_icmp .eq 40, 3) := by decide +kernel
theorem own_d13_57 : decode jdk_52_method_16_code 57 = .ok (.aload_n 3, 1) := by decide +kernel
theorem own_d13_58 : decode jdk_52_method_16_code 58 = .ok (.areturn, 1) := by decide +kernel
theorem own_d13_20 : decode jdk_52_method_16_code 20 = .ok (.aload_n 0, 1) := by decide +kernel
theorem own_d13_21 : decode jdk_52_method_16_code 21 = .ok (.iload_n 1, 1) := by decide +kernel
theorem own_d13_22 : decode jdk_52_method_16_code 22 = .ok (.iload_n 2, 1) := by decide +kernel
theorem own_d13_23 : decode jdk_52_method_16_code 23 = .ok (.invokestatic 119, 3) := by decide +kernel
theorem own_pd_285bCII295bB : parseMethodDescriptor "([CII)[B" = some ⟨[(.array .char), .int, .int], some (.array .byte)⟩ := by decide +kernel
theorem own_d13_26 : decode jdk_52_method_16_code 26 = .ok (.astore 5, 2) := by decide +kernel
theorem own_d13_28 : decode jdk_52_method_16_code 28 = .ok (.aload 5, 2) := by decide +kernel
theorem own_d13_30 : decode jdk_52_method_16_code 30 = .ok (.iload 4, 2) := by decide +kernel
theorem own_d13_32 : decode jdk_52_method_16_code 32 = .ok (.invokestatic 71, 3) := by decide +kernel
theorem own_pd_285bBI29C : parseMethodDescriptor "([BI)C" = some ⟨[(.array .byte), .int], some .char⟩ := by decide +kernel
theorem own_d13_35 : decode jdk_52_method_16_code 35 = .ok (.sipush 255, 3) := by decide +kernel
theorem own_d13_38 : decode jdk_52_method_16_code 38 = .ok (.if_icmp .gt 16, 3) := by decide +kernel
theorem own_d13_54 : decode jdk_52_method_16_code 54 = .ok (.aload 5, 2) := by decide +kernel
theorem own_d13_56 : decode jdk_52_method_16_code 56 = .ok (.areturn, 1) := by decide +kernel
def Q_rmC3 (Z : State) (sa : Addr) (ka : ClassId) (cs : List Int32) (dv : Value) (h0 : Heap) (n0 : Nat) (v : Option Value) (h : Heap) (L : List Loc) : Prop := ∃ (t : Addr), ∃ (kt : ClassId), ∃ (N : Int32), ∃ (vs : List Value), v = some (.ref t) ∧ Fr n0 L ∧ Keep h0 h [] ∧ h0.size ≤ t ∧ n0 ≤ t ∧ Arv Z h t kt .byte N vs (.int 0) ∧ ((N = (Int32.ofNat cs.length) ∧ vs = own_bs cs ∧ ∀ c ∈ cs, ¬ (255 : Int32) < c) ∨ (N = (Int32.ofNat (2 * cs.length)) ∧ vs = own_u16 cs))
set_option maxRecDepth 65536 in
set_option maxHeartbeats 40000000 in
theorem rmC3 (l : Launch) (Z : State) (a0 : Array Value) (hw : ∀ d ∈ tables_1, d.before a0 Z = true) (ws : List Jvm.Cond) (sa : Addr) (ka : ClassId) (cs : List Int32) (dv : Value) (h0 : Heap) (n0 : Nat) (Z0 : n0 ≤ h0.size) (Pm0 : Arv Z h0 sa ka .char (Int32.ofNat cs.length) (cs.map Value.int) dv) (hn : (cs.length ≤ 3)) (h0n : (0 < cs.length)) (hr : (∀ c ∈ cs, ¬ c < 0 ∧ ¬ (65535 : Int32) < c)) (OAD : Sta Z Z.heap "java/lang/StringUTF16" "$assertionsDisabled" "Z" (.int (1 : Int32))) (OHI : Sta Z Z.heap "java/lang/StringUTF16" "HI_BYTE_SHIFT" "I" (.int (0 : Int32))) (OLO : Sta Z Z.heap "java/lang/StringUTF16" "LO_BYTE_SHIFT" "I" (.int (8 : Int32))) (X00 : Old Z n0 h0) :
    MetFree l (⟨"java/lang/StringUTF16", "compress", "([CII)[B"⟩ : MethodName) (head1 (Jvm.Cond.code (⟨"java/lang/StringUTF16", "compress", "([CII)[B"⟩ : MethodName) jdk_52_method_16_code 6 (some (.array .byte)) :: ws) ({ frames := 3, cells := 2, slots := 9, locals := 40 } : Room)) (fun a U => a = #[(.ref sa), (.int (0 : Int32)), (.int (Int32.ofNat cs.length))] ∧ Z.Warmed39 U.vm ∧ U.heap = h0) (fun _ _ _ _ _ => True) (fun _ U o U' => ∃ v L, o = .returned v ∧ Q_rmC3 Z sa ka cs dv h0 n0 v U'.heap L ∧ FrameEnd U o U' L ({ frames := 3, cells := 2, slots := 9, locals := 40 } : Room).cells ({ frames := 3, cells := 2, slots := 9, locals := 40 } : Room).slots) := by
  refine MetFree.of_bodySF (plainFor_of_name own_pn_java_lang_StringUTF16) hisR ?_
  intro p e s m args below meth c s₁ Bd hml0 hP hK
  obtain ⟨rfl, hZ, hh⟩ := hP
  have hx := Bd.exec
  have hby := Bd.bytes
  have hml : c.maxLocals = 6 := hml0
  have hown : s.vm.findClass "java/lang/StringUTF16" = some m.cls := findClass_of_methodNamed Bd.named
  have hnm := (name_of_methodNamed Bd.named Bd.method).1
  have X0 : Stand p l e ({ frames := 3, cells := 2, slots := 9, locals := 40 } : Room) s m #[(.ref sa), (.int (0 : Int32)), (.int (Int32.ofNat cs.length))] below meth c s₁ [] 0 0 := Stand.of_body Bd
  have e0 : s₁.heap = h0 := by rw [← hh, Bd.state]; rfl
  have N0 := Fr.nil n0
  have K0 : Keep h0 h0 [] := Keep.refl _ _
  refine own_go (S' := s₁.setTop (mkF m 0 #[.val (.ref sa), .val (.int (0 : Int32)), .val (.int (Int32.ofNat cs.length)), .unset, .unset, .unset] [])) (fun tq kq => castTop (own_ef_rmC3 m sa ka cs dv) kq) ?_
  have lt1 : @LT.lt Nat _ sa h0.size := Pm0.lt
  refine own_go (fun tq kq => XS.iloadN X0.here hx rfl (hb hby own_d13_0) rfl kq) ?_
  show own_Rn p e below _ (s₁.setTop (mkF m 1 #[.val (.ref sa), .val (.int (0 : Int32)), .val (.int (Int32.ofNat cs.length)), .unset, .unset, .unset] [(.int (Int32.ofNat cs.length))]))
  obtain ⟨T2, h2, k2, X2, e2, E2, A2, st2⟩ := newP X0 hx hZ (hw _ (List.mem_of_getElem? (i := 29) rfl)) e0 (g := (mkF m 1 #[.val (.ref sa), .val (.int (0 : Int32)), .val (.int (Int32.ofNat cs.length)), .unset, .unset, .unset] [(.int (Int32.ofNat cs.length))])) rfl (hb hby own_d13_1) rfl (own_nneg (by omega)) (cap := 3) (by rw [own_clampN (by omega)]; omega) (by decide) (by decide) (by decide)
  obtain ⟨b2, g2⟩ : ∃ z, z = h0.size := ⟨_, rfl⟩
  rw [← g2] at A2 st2
  refine own_go st2 ?_
  have sz3 : h0.size ≤ h2.size := E2.1
  have K3 := K0.ext E2
  have gn2 : n0 ≤ b2 := by omega
  have V2 : Arv Z h2 b2 k2 .byte (Int32.ofNat cs.length) [] (.int (0 : Int32)) := Arv.new A2 (own_nneg (by omega))
  have lt4 : @LT.lt Nat _ b2 h2.size := V2.lt
  show own_Rn p e below _ (T2.setTop (mkF m 3 #[.val (.ref sa), .val (.int (0 : Int32)), .val (.int (Int32.ofNat cs.length)), .unset, .unset, .unset] [(.ref b2)]))
  refine own_go (fun tq kq => XS.astoreN X2.here hx rfl (hb hby own_d13_3) rfl rfl (l' := #[.val (.ref sa), .val (.int (0 : Int32)), .val (.int (Int32.ofNat cs.length)), .val (.ref b2), .unset, .unset]) rfl kq) ?_
  show own_Rn p e below _ (T2.setTop (mkF m 4 #[.val (.ref sa), .val (.int (0 : Int32)), .val (.int (Int32.ofNat cs.length)), .val (.ref b2), .unset, .unset] []))
  refine own_go (fun tq kq => XS.aloadN X2.here hx rfl (hb hby own_d13_4) rfl rfl kq) ?_
  show own_Rn p e below _ (T2.setTop (mkF m 5 #[.val (.ref sa), .val (.int (0 : Int32)), .val (.int (Int32.ofNat cs.length)), .val (.ref b2), .unset, .unset] [(.ref sa)]))
  refine own_go (fun tq kq => XS.iloadN X2.here hx rfl (hb hby own_d13_5) rfl kq) ?_
  show own_Rn p e below _ (T2.setTop (mkF m 6 #[.val (.ref sa), .val (.int (0 : Int32)), .val (.int (Int32.ofNat cs.length)), .val (.ref b2), .unset, .unset] [(.int (0 : Int32)), (.ref sa)]))
  refine own_go (fun tq kq => XS.aloadN X2.here hx rfl (hb hby own_d13_6) rfl rfl kq) ?_
  show own_Rn p e below _ (T2.setTop (mkF m 7 #[.val (.ref sa), .val (.int (0 : Int32)), .val (.int (Int32.ofNat cs.length)), .val (.ref b2), .unset, .unset] [(.ref b2), (.int (0 : Int32)), (.ref sa)]))
  refine own_go (fun tq kq => XS.iconst X2.here hx rfl (hb hby own_d13_7) kq) ?_
  show own_Rn p e below _ (T2.setTop (mkF m 8 #[.val (.ref sa), .val (.int (0 : Int32)), .val (.int (Int32.ofNat cs.length)), .val (.ref b2), .unset, .unset] [(.int (0 : Int32)), (.ref b2), (.int (0 : Int32)), (.ref sa)]))
  refine own_go (fun tq kq => XS.iloadN X2.here hx rfl (hb hby own_d13_8) rfl kq) ?_
  show own_Rn p e below _ (T2.setTop (mkF m 9 #[.val (.ref sa), .val (.int (0 : Int32)), .val (.int (Int32.ofNat cs.length)), .val (.ref b2), .unset, .unset] [(.int (Int32.ofNat cs.length)), (.int (0 : Int32)), (.ref b2), (.int (0 : Int32)), (.ref sa)]))
  have ne5 : sa ≠ b2 := own_nea (by omega)
  have Zn6 : n0 ≤ h2.size := by omega
  have F7 : Arv Z h2 sa ka .char (Int32.ofNat cs.length) (cs.map Value.int) dv := (Pm0.ext E2)
  have F8 : Old Z n0 h2 := (X00.ext E2)
  obtain ⟨rv6, _, ⟨T6, L6, k6, n6⟩, -, X6, ⟨Lc6, hQ6, l6, y6, z6⟩, st6⟩ := Jvm.LawKit.callS X2 hx (y := (⟨"java/lang/StringUTF16", "compress", "([CI[BII)I"⟩ : MethodName)) hown (mvT hZ (hw _ (List.mem_of_getElem? (i := 72) rfl))) (mvT hZ (hw _ (List.mem_of_getElem? (i := 73) rfl))) (mvT hZ (hw _ (List.mem_of_getElem? (i := 70) rfl))) (mvT hZ (hw _ (List.mem_of_getElem? (i := 74) rfl))) (by decide) (backOf (W := 0) (rmC5 l Z a0 hw [] (sa) (ka) (cs) (dv) (b2) (k2) h2 n0 Zn6 F7 (hn) (h0n) (hr) V2 gn2 (ne5) F8) hZ (hw _ (List.mem_of_getElem? (i := 74) rfl)) (hw _ (List.mem_of_getElem? (i := 70) rfl)) (by decide) (by decide)) (g := (mkF m 9 #[.val (.ref sa), .val (.int (0 : Int32)), .val (.int (Int32.ofNat cs.length)), .val (.ref b2), .unset, .unset] [(.int (Int32.ofNat cs.length)), (.int (0 : Int32)), (.ref b2), (.int (0 : Int32)), (.ref sa)])) rfl (by rw [hml]; rfl) (argsL := [(.ref sa), (.int (0 : Int32)), (.ref b2), (.int (0 : Int32)), (.int (Int32.ofNat cs.length))]) (rest := []) (lenOf own_pd_285bCI5bBII29I rfl) rfl (by show 2 * 0 + _ ≤ _; exact Nat.le_of_eq rfl) (hb hby own_d13_9) (fun _ _ => ⟨rfl, e2, (by decide : 1 + 0 ≤ _), (by decide : 3 + 0 ≤ _)⟩)
  dsimp only [Pt.U, Pt.locs, Pt.cells, Pt.slots] at X6 l6 y6 z6 st6 hQ6
  subst l6 y6 z6
  obtain ⟨jj, rfl, Nq6, Kq6, J1_6, J2_6, J3_6⟩ := hQ6
  have N6 := Fr.app N0 Nq6
  have sz9 : h2.size ≤ T6.heap.size := Kq6.1
  have K9 := K3.trans Kq6 (allS (Or.inr (by omega)) all0)
  refine own_go st6 ?_
  show own_Rn p e below _ (T6.setTop (mkF m 12 #[.val (.ref sa), .val (.int (0 : Int32)), .val (.int (Int32.ofNat cs.length)), .val (.ref b2), .unset, .unset] [(.int (Int32.ofNat jj))]))
  refine own_go (fun tq kq => XS.istore X6.here hx rfl (hb hby own_d13_12) rfl (l' := #[.val (.ref sa), .val (.int (0 : Int32)), .val (.int (Int32.ofNat cs.length)), .val (.ref b2), .val (.int (Int32.ofNat jj)), .unset]) rfl kq) ?_
  show own_Rn p e below _ (T6.setTop (mkF m 14 #[.val (.ref sa), .val (.int (0 : Int32)), .val (.int (Int32.ofNat cs.length)), .val (.ref b2), .val (.int (Int32.ofNat jj)), .unset] []))
  refine own_go (fun tq kq => XS.iload X6.here hx rfl (hb hby own_d13_14) rfl kq) ?_
  show own_Rn p e below _ (T6.setTop (mkF m 16 #[.val (.ref sa), .val (.int (0 : Int32)), .val (.int (Int32.ofNat cs.length)), .val (.ref b2), .val (.int (Int32.ofNat jj)), .unset] [(.int (Int32.ofNat jj))]))
  refine own_go (fun tq kq => XS.iloadN X6.here hx rfl (hb hby own_d13_16) rfl kq) ?_
  show own_Rn p e below _ (T6.setTop (mkF m 17 #[.val (.ref sa), .val (.int (0 : Int32)), .val (.int (Int32.ofNat cs.length)), .val (.ref b2), .val (.int (Int32.ofNat jj)), .unset] [(.int (Int32.ofNat cs.length)), (.int (Int32.ofNat jj))]))
  by_cases hje : (Int32.ofNat jj) = (Int32.ofNat cs.length)
  · skip
    refine own_go (fun tq kq => XS.icmpYes X6.here hx rfl (pc0 := 17) (pc' := 57) rfl (hb hby own_d13_17) rfl (teq (hje : (Int32.ofNat jj) = (Int32.ofNat cs.length))).1 (by decide) (by decide) kq) ?_
    show own_Rn p e below _ (T6.setTop (mkF m 57 #[.val (.ref sa), .val (.int (0 : Int32)), .val (.int (Int32.ofNat cs.length)), .val (.ref b2), .val (.int (Int32.ofNat jj)), .unset] []))
    have hj := own_ofNat_inj hje (by omega) (by omega)
    obtain ⟨hal, Ab⟩ := J3_6 hj
    refine own_go (fun tq kq => XS.aloadN X6.here hx rfl (hb hby own_d13_57) rfl rfl kq) ?_
    show own_Rn p e below _ (T6.setTop (mkF m 58 #[.val (.ref sa), .val (.int (0 : Int32)), .val (.int (Int32.ofNat cs.length)), .val (.ref b2), .val (.int (Int32.ofNat jj)), .unset] [(.ref b2)]))
    exact own_ret X6 (v := some (.ref b2)) (fun h => by rw [Bd.returns] at h; cases h) (fun fs hr => X6.areturnOut hx rfl Bd.returns rfl (hb hby own_d13_58) hr) (⟨b2, k2, (Int32.ofNat cs.length), (own_bs cs), rfl, N6, K9, (by omega), gn2, Ab, Or.inl ⟨rfl, rfl, hal⟩⟩) (by decide) (by decide)
  · skip
    refine own_go (fun tq kq => XS.icmpNo X6.here hx rfl (hb hby own_d13_17) rfl (feq (hje : ¬ ((Int32.ofNat jj) = (Int32.ofNat cs.length)))).1 kq) ?_
    show own_Rn p e below _ (T6.setTop (mkF m 20 #[.val (.ref sa), .val (.int (0 : Int32)), .val (.int (Int32.ofNat cs.length)), .val (.ref b2), .val (.int (Int32.ofNat jj)), .unset] []))
    have hjl : jj < cs.length := by
      rcases Nat.lt_or_ge jj cs.length with h | h
      · exact h
      · exact absurd (congrArg Int32.ofNat (show jj = cs.length by omega)) hje
    refine own_go (fun tq kq => XS.aloadN X6.here hx rfl (hb hby own_d13_20) rfl rfl kq) ?_
    show own_Rn p e below _ (T6.setTop (mkF m 21 #[.val (.ref sa), .val (.int (0 : Int32)), .val (.int (Int32.ofNat cs.length)), .val (.ref b2), .val (.int (Int32.ofNat jj)), .unset] [(.ref sa)]))
    refine own_go (fun tq kq => XS.iloadN X6.here hx rfl (hb hby own_d13_21) rfl kq) ?_
    show own_Rn p e below _ (T6.setTop (mkF m 22 #[.val (.ref sa), .val (.int (0 : Int32)), .val (.int (Int32.ofNat cs.length)), .val (.ref b2), .val (.int (Int32.ofNat jj)), .unset] [(.int (0 : Int32)), (.ref sa)]))
    refine own_go (fun tq kq => XS.iloadN X6.here hx rfl (hb hby own_d13_22) rfl kq) ?_
    show own_Rn p e below _ (T6.setTop (mkF m 23 #[.val (.ref sa), .val (.int (0 : Int32)), .val (.int (Int32.ofNat cs.length)), .val (.ref b2), .val (.int (Int32.ofNat jj)), .unset] [(.int (Int32.ofNat cs.length)), (.int (0 : Int32)), (.ref sa)]))
    have Zn10 : n0 ≤ T6.heap.size := by omega
    have F11 : Arv Z T6.heap sa ka .char (Int32.ofNat cs.length) (cs.map Value.int) dv := (F7.keep Kq6 (ninS ne5 nin0))
    have F12 : Old Z n0 T6.heap := (F8.keep Kq6 (allS gn2 all0))
    obtain ⟨rv10, _, ⟨T10, L10, k10, n10⟩, -, X10, ⟨Lc10, hQ10, l10, y10, z10⟩, st10⟩ := Jvm.LawKit.callS X6 hx (y := (⟨"java/lang/StringUTF16", "toBytes", "([CII)[B"⟩ : MethodName)) hown (mvT hZ (hw _ (List.mem_of_getElem? (i := 75) rfl))) (mvT hZ (hw _ (List.mem_of_getElem? (i := 76) rfl))) (mvT hZ (hw _ (List.mem_of_getElem? (i := 70) rfl))) (mvT hZ (hw _ (List.mem_of_getElem? (i := 77) rfl))) (by decide) (backOf (W := 0) (rmTB l Z a0 hw [] (sa) (ka) (cs) (dv) T6.heap n0 Zn10 F11 (hn) (h0n) (hr) (OAD) (OHI) (OLO) F12) hZ (hw _ (List.mem_of_getElem? (i := 77) rfl)) (hw _ (List.mem_of_getElem? (i := 70) rfl)) (by decide) (by decide)) (g := (mkF m 23 #[.val (.ref sa), .val (.int (0 : Int32)), .val (.int (Int32.ofNat cs.length)), .val (.ref b2), .val (.int (Int32.ofNat jj)), .unset] [(.int (Int32.ofNat cs.length)), (.int (0 : Int32)), (.ref sa)])) rfl (by rw [hml]; rfl) (argsL := [(.ref sa), (.int (0 : Int32)), (.int (Int32.ofNat cs.length))]) (rest := []) (lenOf own_pd_285bCII295bB rfl) rfl (by show 2 * 0 + _ ≤ _; exact Nat.le_of_eq rfl) (hb hby own_d13_23) (fun _ _ => ⟨rfl, rfl, (by decide : 1 + 1 ≤ _), (by decide : 3 + 6 ≤ _)⟩)
    dsimp only [Pt.U, Pt.locs, Pt.cells, Pt.slots] at X10 l10 y10 z10 st10 hQ10
    subst l10 y10 z10
    obtain ⟨tu, ku, rfl, Nq10, Kq10, G0_10, G1_10, G2_10⟩ := hQ10
    have N10 := Fr.app N6 Nq10
    have sz13 : T6.heap.size ≤ T10.heap.size := Kq10.1
    have K13 := K9.trans Kq10 all0
    have lt14 : @LT.lt Nat _ tu T10.heap.size := G2_10.lt
    refine own_go st10 ?_
    show own_Rn p e below _ (T10.setTop (mkF m 26 #[.val (.ref sa), .val (.int (0 : Int32)), .val (.int (Int32.ofNat cs.length)), .val (.ref b2), .val (.int (Int32.ofNat jj)), .unset] [(.ref tu)]))
    refine own_go (fun tq kq => XS.astore X10.here hx rfl (hb hby own_d13_26) rfl rfl (l' := #[.val (.ref sa), .val (.int (0 : Int32)), .val (.int (Int32.ofNat cs.length)), .val (.ref b2), .val (.int (Int32.ofNat jj)), .val (.ref tu)]) rfl kq) ?_
    show own_Rn p e below _ (T10.setTop (mkF m 28 #[.val (.ref sa), .val (.int (0 : Int32)), .val (.int (Int32.ofNat cs.length)), .val (.ref b2), .val (.int (Int32.ofNat jj)), .val (.ref tu)] []))
    refine own_go (fun tq kq => XS.aload X10.here hx rfl (hb hby own_d13_28) rfl rfl kq) ?_
    show own_Rn p e below _ (T10.setTop (mkF m 30 #[.val (.ref sa), .val (.int (0 : Int32)), .val (.int (Int32.ofNat cs.length)), .val (.ref b2), .val (.int (Int32.ofNat jj)), .val (.ref tu)] [(.ref tu)]))
    refine own_go (fun tq kq => XS.iload X10.here hx rfl (hb hby own_d13_30) rfl kq) ?_
    show own_Rn p e below _ (T10.setTop (mkF m 32 #[.val (.ref sa), .val (.int (0 : Int32)), .val (.int (Int32.ofNat cs.length)), .val (.ref b2), .val (.int (Int32.ofNat jj)), .val (.ref tu)] [(.int (Int32.ofNat jj)), (.ref tu)]))
    have Zn15 : n0 ≤ T10.heap.size := by omega
    have F16 : Old Z n0 T10.heap := (F12.keep Kq10 all0)
    obtain ⟨rv15, _, ⟨T15, L15, k15, n15⟩, -, X15, ⟨Lc15, hQ15, l15, y15, z15⟩, st15⟩ := Jvm.LawKit.callS X10 hx (y := (⟨"java/lang/StringUTF16", "getChar", "([BI)C"⟩ : MethodName)) hown (mvT hZ (hw _ (List.mem_of_getElem? (i := 91) rfl))) (mvT hZ (hw _ (List.mem_of_getElem? (i := 92) rfl))) (mvT hZ (hw _ (List.mem_of_getElem? (i := 70) rfl))) (mvT hZ (hw _ (List.mem_of_getElem? (i := 93) rfl))) (by decide) (backOf (W := 0) (rmGet l Z a0 hw [] (tu) (ku) (cs) (jj) T10.heap n0 Zn15 G2_10 (hjl) (hn) (hr) (OAD) (OHI) (OLO) F16) hZ (hw _ (List.mem_of_getElem? (i := 93) rfl)) (hw _ (List.mem_of_getElem? (i := 70) rfl)) (by decide) (by decide)) (g := (mkF m 32 #[.val (.ref sa), .val (.int (0 : Int32)), .val (.int (Int32.ofNat cs.length)), .val (.ref b2), .val (.int (Int32.ofNat jj)), .val (.ref tu)] [(.int (Int32.ofNat jj)), (.ref tu)])) rfl (by rw [hml]; rfl) (argsL := [(.ref tu), (.int (Int32.ofNat jj))]) (rest := []) (lenOf own_pd_285bBI29C rfl) rfl (by show 2 * 0 + _ ≤ _; exact Nat.le_of_eq rfl) (hb hby own_d13_32) (fun _ _ => ⟨rfl, rfl, (by decide : 2 + 0 ≤ _), (by decide : 9 + 0 ≤ _)⟩)
    dsimp only [Pt.U, Pt.locs, Pt.cells, Pt.slots] at X15 l15 y15 z15 st15 hQ15
    subst l15 y15 z15
    obtain ⟨rfl, Nq15, eh15⟩ := hQ15
    have N15 := Fr.app N10 Nq15
    refine own_go st15 ?_
    show own_Rn p e below _ (T15.setTop (mkF m 35 #[.val (.ref sa), .val (.int (0 : Int32)), .val (.int (Int32.ofNat cs.length)), .val (.ref b2), .val (.int (Int32.ofNat jj)), .val (.ref tu)] [(.int (cs.getD jj 0))]))
    refine own_go (fun tq kq => XS.sipush X15.here hx rfl (hb hby own_d13_35) kq) ?_
    show own_Rn p e below _ (T15.setTop (mkF m 38 #[.val (.ref sa), .val (.int (0 : Int32)), .val (.int (Int32.ofNat cs.length)), .val (.ref b2), .val (.int (Int32.ofNat jj)), .val (.ref tu)] [(.int (255 : Int32)), (.int (cs.getD jj 0))]))
    refine own_go (fun tq kq => XS.icmpYes X15.here hx rfl (pc0 := 38) (pc' := 54) rfl (hb hby own_d13_38) rfl (tlt (J2_6 hjl : (255 : Int32) < (cs.getD jj 0))).2.2.1 (by decide) (by decide) kq) ?_
    show own_Rn p e below _ (T15.setTop (mkF m 54 #[.val (.ref sa), .val (.int (0 : Int32)), .val (.int (Int32.ofNat cs.length)), .val (.ref b2), .val (.int (Int32.ofNat jj)), .val (.ref tu)] []))
    refine own_go (fun tq kq => XS.aload X15.here hx rfl (hb hby own_d13_54) rfl rfl kq) ?_
    show own_Rn p e below _ (T15.setTop (mkF m 56 #[.val (.ref sa), .val (.int (0 : Int32)), .val (.int (Int32.ofNat cs.length)), .val (.ref b2), .val (.int (Int32.ofNat jj)), .val (.ref tu)] [(.ref tu)]))
    exact own_ret X15 (v := some (.ref tu)) (fun h => by rw [Bd.returns] at h; cases h) (fun fs hr => X15.areturnOut hx rfl Bd.returns rfl (hb hby own_d13_56) hr) (by rw [eh15]; exact ⟨tu, ku, (Int32.ofNat (2 * cs.length)), (own_u16 cs), rfl, N15, K13, (by omega), G1_10, G2_10, Or.inr ⟨rfl, rfl⟩⟩) (by decide) (by decide)
theorem own_ef_rmCF0 (m : MethodId) (bv : Addr) (kb : ClassId) (cs : List Int32) (vs : List Value) : entryFrame m #[(.ref bv), (.int (Int32.ofNat cs.length))] 2 = mkF m 0 #[.val (.ref bv), .val (.int (Int32.ofNat cs.length))] [] := by first | (simp [entryFrame, mkF, argsToLocals, Value.category]; done) | rfl
theorem own_d20_0 : decode jdk_52_method_15_code 0 = .ok (.iload_n 1, 1) := by decide +kernel
theorem own_d20_1 : decode jdk_52_method_15_code 1 = .ok (.aload_n 0, 1) := by decide +kernel
theorem own_d20_2 : decode jdk_52_method_15_code 2 = .ok (.arraylength, 1) := by decide +kernel
theorem own_d20_3 : decode jdk_52_method_15_code 3 = .ok (.isub, 1) := by decide +kernel
theorem own_d20_4 : decode jdk_52_method_15_code 4 = .ok (.bipush 31, 2) := by decide +kernel
theorem own_d20_6 : decode jdk_52_method_15_code 6 = .ok (.iushr, 1) := by decide +kernel
theorem own_d20_7 : decode jdk_52_method_15_code 7 = .ok (.i2b, 1) := by decide +kernel
theorem own_d20_8 : decode jdk_52_method_15_code 8 = .ok (.ireturn, 1) := by decide +kernel
def Q_rmCF0 (Z : State) (bv : Addr) (kb : ClassId) (cs : List Int32) (vs : List Value) (h0 : Heap) (n0 : Nat) (v : Option Value) (h : Heap) (L : List Loc) : Prop := v = some (.int (0 : Int32)) ∧ Fr n0 L ∧ h = h0
set_option maxRecDepth 65536 in
set_option maxHeartbeats 40000000 in
theorem rmCF0 (l : Launch) (Z : State) (a0 : Array Value) (hw : ∀ d ∈ tables_1, d.before a0 Z = true) (ws : List Jvm.Cond) (bv : Addr) (kb : ClassId) (cs : List Int32) (vs : List Value) (h0 : Heap) (n0 : Nat) (Z0 : n0 ≤ h0.size) (Pm0 : Arv Z h0 bv kb .byte (Int32.ofNat cs.length) vs (.int 0)) (hn : (cs.length ≤ 3)) (h0n : (0 < cs.length)) :
    MetFree l (⟨"java/lang/StringUTF16", "coderFromArrayLen", "([BI)B"⟩ : MethodName) (head1 (Jvm.Cond.code (⟨"java/lang/StringUTF16", "coderFromArrayLen", "([BI)B"⟩ : MethodName) jdk_52_method_15_code 2 (some .byte) :: ws) ({ frames := 0, cells := 0, slots := 0, locals := 0 } : Room)) (fun a U => a = #[(.ref bv), (.int (Int32.ofNat cs.length))] ∧ Z.Warmed39 U.vm ∧ U.heap = h0) (fun _ _ _ _ _ => True) (fun _ U o U' => ∃ v L, o = .returned v ∧ Q_rmCF0 Z bv kb cs vs h0 n0 v U'.heap L ∧ FrameEnd U o U' L ({ frames := 0, cells := 0, slots := 0, locals := 0 } : Room).cells ({ frames := 0, cells := 0, slots := 0, locals := 0 } : Room).slots) := by
  refine MetFree.of_bodySF (plainFor_of_name own_pn_java_lang_StringUTF16) hisR ?_
  intro p e s m args below meth c s₁ Bd hml0 hP hK
  obtain ⟨rfl, hZ, hh⟩ := hP
  have hx := Bd.exec
  have hby := Bd.bytes
  have hml : c.maxLocals = 2 := hml0
  have hown : s.vm.findClass "java/lang/StringUTF16" = some m.cls := findClass_of_methodNamed Bd.named
  have hnm := (name_of_methodNamed Bd.named Bd.method).1
  have X0 : Stand p l e ({ frames := 0, cells := 0, slots := 0, locals := 0 } : Room) s m #[(.ref bv), (.int (Int32.ofNat cs.length))] below meth c s₁ [] 0 0 := Stand.of_body Bd
  have e0 : s₁.heap = h0 := by rw [← hh, Bd.state]; rfl
  have N0 := Fr.nil n0
  have K0 : Keep h0 h0 [] := Keep.refl _ _
  refine own_go (S' := s₁.setTop (mkF m 0 #[.val (.ref bv), .val (.int (Int32.ofNat cs.length))] [])) (fun tq kq => castTop (own_ef_rmCF0 m bv kb cs vs) kq) ?_
  have lt1 : @LT.lt Nat _ bv h0.size := Pm0.lt
  refine own_go (fun tq kq => XS.iloadN X0.here hx rfl (hb hby own_d20_0) rfl kq) ?_
  show own_Rn p e below _ (s₁.setTop (mkF m 1 #[.val (.ref bv), .val (.int (Int32.ofNat cs.length))] [(.int (Int32.ofNat cs.length))]))
  refine own_go (fun tq kq => XS.aloadN X0.here hx rfl (hb hby own_d20_1) rfl rfl kq) ?_
  show own_Rn p e below _ (s₁.setTop (mkF m 2 #[.val (.ref bv), .val (.int (Int32.ofNat cs.length))] [(.ref bv), (.int (Int32.ofNat cs.length))]))
  obtain ⟨cl2, Ar2, -, Sz2, Nn2, -, -⟩ := id Pm0
  refine own_go (fun tq kq => X0.arraylength hx (cell := cl2) (by rw [e0]; exact Ar2.1) (State.isArrayOf_alike hZ.alike Ar2.2.1) (g := (mkF m 2 #[.val (.ref bv), .val (.int (Int32.ofNat cs.length))] [(.ref bv), (.int (Int32.ofNat cs.length))])) rfl rfl (hb hby own_d20_2) tq kq) ?_
  rw [len_of Sz2 Nn2]
  show own_Rn p e below _ (s₁.setTop (mkF m 3 #[.val (.ref bv), .val (.int (Int32.ofNat cs.length))] [(.int (Int32.ofNat cs.length)), (.int (Int32.ofNat cs.length))]))
  refine own_go (fun tq kq => XS.isub X0.here hx rfl (hb hby own_d20_3) rfl kq) ?_
  show own_Rn p e below _ (s₁.setTop (mkF m 4 #[.val (.ref bv), .val (.int (Int32.ofNat cs.length))] [(.int ((Int32.ofNat cs.length) - (Int32.ofNat cs.length)))]))
  refine own_go (fun tq kq => XS.bipush X0.here hx rfl (hb hby own_d20_4) kq) ?_
  show own_Rn p e below _ (s₁.setTop (mkF m 6 #[.val (.ref bv), .val (.int (Int32.ofNat cs.length))] [(.int (31 : Int32)), (.int ((Int32.ofNat cs.length) - (Int32.ofNat cs.length)))]))
  refine own_go (fun tq kq => XS.iushr X0.here hx rfl (hb hby own_d20_6) rfl kq) ?_
  show own_Rn p e below _ (s₁.setTop (mkF m 7 #[.val (.ref bv), .val (.int (Int32.ofNat cs.length))] [(.int ((((Int32.ofNat cs.length) - (Int32.ofNat cs.length)).toUInt32 >>> ((31 : Int32) &&& 31).toUInt32).toInt32))]))
  refine own_go (fun tq kq => XS.i2b X0.here hx rfl (hb hby own_d20_7) rfl kq) ?_
  show own_Rn p e below _ (s₁.setTop (mkF m 8 #[.val (.ref bv), .val (.int (Int32.ofNat cs.length))] [(.int (((((Int32.ofNat cs.length) - (Int32.ofNat cs.length)).toUInt32 >>> ((31 : Int32) &&& 31).toUInt32).toInt32).toInt8.toInt32))]))
  rw [show (((((Int32.ofNat cs.length) - (Int32.ofNat cs.length)).toUInt32 >>> ((31 : Int32) &&& 31).toUInt32).toInt32).toInt8.toInt32) = (0 : Int32) from own_cl0 _]
  show own_Rn p e below _ (s₁.setTop (mkF m 8 #[.val (.ref bv), .val (.int (Int32.ofNat cs.length))] [(.int (0 : Int32))]))
  exact own_ret X0 (v := some (.int (nar .byte (0 : Int32)))) (fun h => by rw [Bd.returns] at h; cases h) (fun fs hr => retN X0 hx (t := .byte) Bd.returns (by simp) (hb hby own_d20_8) hr) (by rw [e0]; exact ⟨rfl, N0, rfl⟩) (by decide) (by decide)
theorem own_ef_rmCF1 (m : MethodId) (bv : Addr) (kb : ClassId) (cs : List Int32) (vs : List Value) : entryFrame m #[(.ref bv), (.int (Int32.ofNat cs.length))] 2 = mkF m 0 #[.val (.ref bv), .val (.int (Int32.ofNat cs.length))] [] := by first | (simp [entryFrame, mkF, argsToLocals, Value.category]; done) | rfl
def Q_rmCF1 (Z : State) (bv : Addr) (kb : ClassId) (cs : List Int32) (vs : List Value) (h0 : Heap) (n0 : Nat) (v : Option Value) (h : Heap) (L : List Loc) : Prop := v = some (.int (1 : Int32)) ∧ Fr n0 L ∧ h = h0
set_option maxRecDepth 65536 in
set_option maxHeartbeats 40000000 in
theorem rmCF1 (l : Launch) (Z : State) (a0 : Array Value) (hw : ∀ d ∈ tables_1, d.before a0 Z = true) (ws : List Jvm.Cond) (bv : Addr) (kb : ClassId) (cs : List Int32) (vs : List Value) (h0 : Heap) (n0 : Nat) (Z0 : n0 ≤ h0.size) (Pm0 : Arv Z h0 bv kb .byte (Int32.ofNat (2 * cs.length)) vs (.int 0)) (hn : (cs.length ≤ 3)) (h0n : (0 < cs.length)) :
    MetFree l (⟨"java/lang/StringUTF16", "coderFromArrayLen", "([BI)B"⟩ : MethodName) (head1 (Jvm.Cond.code (⟨"java/lang/StringUTF16", "coderFromArrayLen", "([BI)B"⟩ : MethodName) jdk_52_method_15_code 2 (some .byte) :: ws) ({ frames := 0, cells := 0, slots := 0, locals := 0 } : Room)) (fun a U => a = #[(.ref bv), (.int (Int32.ofNat cs.length))] ∧ Z.Warmed39 U.vm ∧ U.heap = h0) (fun _ _ _ _ _ => True) (fun _ U o U' => ∃ v L, o = .returned v ∧ Q_rmCF1 Z bv kb cs vs h0 n0 v U'.heap L ∧ FrameEnd U o U' L ({ frames := 0, cells := 0, slots := 0, locals := 0 } : Room).cells ({ frames := 0, cells := 0, slots := 0, locals := 0 } : Room).slots) := by
  refine MetFree.of_bodySF (plainFor_of_name own_pn_java_lang_StringUTF16) hisR ?_
  intro p e s m args below meth c s₁ Bd hml0 hP hK
  obtain ⟨rfl, hZ, hh⟩ := hP
  have hx := Bd.exec
  have hby := Bd.bytes
  have hml : c.maxLocals = 2 := hml0
  have hown : s.vm.findClass "java/lang/StringUTF16" = some m.cls := findClass_of_methodNamed Bd.named
  have hnm := (name_of_methodNamed Bd.named Bd.method).1
  have X0 : Stand p l e ({ frames := 0, cells := 0, slots := 0, locals := 0 } : Room) s m #[(.ref bv), (.int (Int32.ofNat cs.length))] below meth c s₁ [] 0 0 := Stand.of_body Bd
  have e0 : s₁.heap = h0 := by rw [← hh, Bd.state]; rfl
  have N0 := Fr.nil n0
  have K0 : Keep h0 h0 [] := Keep.refl _ _
  refine own_go (S' := s₁.setTop (mkF m 0 #[.val (.ref bv), .val (.int (Int32.ofNat cs.length))] [])) (fun tq kq => castTop (own_ef_rmCF1 m bv kb cs vs) kq) ?_
  have lt1 : @LT.lt Nat _ bv h0.size := Pm0.lt
  refine own_go (fun tq kq => XS.iloadN X0.here hx rfl (hb hby own_d20_0) rfl kq) ?_
  show own_Rn p e below _ (s₁.setTop (mkF m 1 #[.val (.ref bv), .val (.int (Int32.ofNat cs.length))] [(.int (Int32.ofNat cs.length))]))
  refine own_go (fun tq kq => XS.aloadN X0.here hx rfl (hb hby own_d20_1) rfl rfl kq) ?_
  show own_Rn p e below _ (s₁.setTop (mkF m 2 #[.val (.ref bv), .val (.int (Int32.ofNat cs.length))] [(.ref bv), (.int (Int32.ofNat cs.length))]))
  obtain ⟨cl2, Ar2, -, Sz2, Nn2, -, -⟩ := id Pm0
  refine own_go (fun tq kq => X0.arraylength hx (cell := cl2) (by rw [e0]; exact Ar2.1) (State.isArrayOf_alike hZ.alike Ar2.2.1) (g := (mkF m 2 #[.val (.ref bv), .val (.int (Int32.ofNat cs.length))] [(.ref bv), (.int (Int32.ofNat cs.length))])) rfl rfl (hb hby own_d20_2) tq kq) ?_
  rw [len_of Sz2 Nn2]
  show own_Rn p e below _ (s₁.setTop (mkF m 3 #[.val (.ref bv), .val (.int (Int32.ofNat cs.length))] [(.int (Int32.ofNat (2 * cs.length))), (.int (Int32.ofNat cs.length))]))
  refine own_go (fun tq kq => XS.isub X0.here hx rfl (hb hby own_d20_3) rfl kq) ?_
  show own_Rn p e below _ (s₁.setTop (mkF m 4 #[.val (.ref bv), .val (.int (Int32.ofNat cs.length))] [(.int ((Int32.ofNat cs.length) - (Int32.ofNat (2 * cs.length))))]))
  refine own_go (fun tq kq => XS.bipush X0.here hx rfl (hb hby own_d20_4) kq) ?_
  show own_Rn p e below _ (s₁.setTop (mkF m 6 #[.val (.ref bv), .val (.int (Int32.ofNat cs.length))] [(.int (31 : Int32)), (.int ((Int32.ofNat cs.length) - (Int32.ofNat (2 * cs.length))))]))
  refine own_go (fun tq kq => XS.iushr X0.here hx rfl (hb hby own_d20_6) rfl kq) ?_
  show own_Rn p e below _ (s₁.setTop (mkF m 7 #[.val (.ref bv), .val (.int (Int32.ofNat cs.length))] [(.int ((((Int32.ofNat cs.length) - (Int32.ofNat (2 * cs.length))).toUInt32 >>> ((31 : Int32) &&& 31).toUInt32).toInt32))]))
  refine own_go (fun tq kq => XS.i2b X0.here hx rfl (hb hby own_d20_7) rfl kq) ?_
  show own_Rn p e below _ (s₁.setTop (mkF m 8 #[.val (.ref bv), .val (.int (Int32.ofNat cs.length))] [(.int (((((Int32.ofNat cs.length) - (Int32.ofNat (2 * cs.length))).toUInt32 >>> ((31 : Int32) &&& 31).toUInt32).toInt32).toInt8.toInt32))]))
  rw [show (((((Int32.ofNat cs.length) - (Int32.ofNat (2 * cs.length))).toUInt32 >>> ((31 : Int32) &&& 31).toUInt32).toInt32).toInt8.toInt32) = (1 : Int32) from own_cl1 _ h0n (by omega)]
  show own_Rn p e below _ (s₁.setTop (mkF m 8 #[.val (.ref bv), .val (.int (Int32.ofNat cs.length))] [(.int (1 : Int32))]))
  exact own_ret X0 (v := some (.int (nar .byte (1 : Int32)))) (fun h => by rw [Bd.returns] at h; cases h) (fun fs hr => retN X0 hx (t := .byte) Bd.returns (by simp) (hb hby own_d20_8) hr) (by rw [e0]; exact ⟨rfl, N0, rfl⟩) (by decide) (by decide)
theorem own_ef_rmI4 (m : MethodId) (x : Addr) (sa : Addr) (ka : ClassId) (cs : List Int32) (dv : Value) (G1 : Int32) : entryFrame m #[(.ref x), (.ref sa), (.int (0 : Int32)), (.int (Int32.ofNat cs.length)), .null] 6 = mkF m 0 #[.val (.ref x), .val (.ref sa), .val (.int (0 : Int32)), .val (.int (Int32.ofNat cs.length)), .val .null, .unset] [] := by first | (simp [entryFrame, mkF, argsToLocals, Value.category]; done) | rfl
theorem own_pn_java_lang_String : plainName "java/lang/String" = true := by first | (simp [plainName, overriddenIn]; done) | decide +kernel
theorem own_d3_0 : decode jdk_42_method_149_code 0 = .ok (.aload_n 0, 1) := by decide +kernel
theorem own_d3_1 : decode jdk_42_method_149_code 1 = .ok (.invokespecial 1, 3) := by decide +kernel
theorem own_d3_4 : decode jdk_42_method_149_code 4 = .ok (.iload_n 3, 1) := by decide +kernel
theorem own_d3_5 : decode jdk_42_method_149_code 5 = .ok (.ifCond .ne 22, 3) := by decide +kernel
theorem own_d3_27 : decode jdk_42_method_149_code 27 = .ok (.getstatic 38, 3) := by decide +kernel
theorem own_d3_30 : decode jdk_42_method_149_code 30 = .ok (.ifCond .eq 28, 3) := by decide +kernel
theorem own_d3_33 : decode jdk_42_method_149_code 33 = .ok (.aload_n 1, 1) := by decide +kernel
theorem own_d3_34 : decode jdk_42_method_149_code 34 = .ok (.iload_n 2, 1) := by decide +kernel
theorem own_d3_35 : decode jdk_42_method_149_code 35 = .ok (.iload_n 3, 1) := by decide +kernel
theorem own_d3_36 : decode jdk_42_method_149_code 36 = .ok (.invokestatic 177, 3) := by decide +kernel
theorem own_d3_39 : decode jdk_42_method_149_code 39 = .ok (.astore 5, 2) := by decide +kernel
theorem own_d3_41 : decode jdk_42_method_149_code 41 = .ok (.aload_n 0, 1) := by decide +kernel
theorem own_d3_42 : decode jdk_42_method_149_code 42 = .ok (.aload 5, 2) := by decide +kernel
theorem own_d3_44 : decode jdk_42_method_149_code 44 = .ok (.iload_n 3, 1) := by decide +kernel
theorem own_d3_45 : decode jdk_42_method_149_code 45 = .ok (.invokestatic 47, 3) := by decide +kernel
theorem own_pd_285bBI29B : parseMethodDescriptor "([BI)B" = some ⟨[(.array .byte), .int], some .byte⟩ := by decide +kernel
theorem own_d3_48 : decode jdk_42_method_149_code 48 = .ok (.putfield 15, 3) := by decide +kernel
theorem own_fd_B : parseFieldDescriptor "B" = some .byte := by decide +kernel
theorem own_d3_51 : decode jdk_42_method_149_code 51 = .ok (.aload_n 0, 1) := by decide +kernel
theorem own_d3_52 : decode jdk_42_method_149_code 52 = .ok (.aload 5, 2) := by decide +kernel
theorem own_d3_54 : decode jdk_42_method_149_code 54 = .ok (.putfield 9, 3) := by decide +kernel
theorem own_fd_5bB : parseFieldDescriptor "[B" = some (.array .byte) := by decide +kernel
theorem own_d3_57 : decode jdk_42_method_149_code 57 = .ok (.return_, 1) := by decide +kernel
def Q_rmI4 (Z : State) (x : Addr) (sa : Addr) (ka : ClassId) (cs : List Int32) (dv : Value) (G1 : Int32) (h0 : Heap) (n0 : Nat) (v : Option Value) (h : Heap) (L : List Loc) : Prop := ∃ (t : Addr), ∃ (kt : ClassId), ∃ (N : Int32), ∃ (vs : List Value), ∃ (cd : Int32), v = none ∧ Fr n0 L ∧ Keep h0 h [x] ∧ h0.size ≤ t ∧ n0 ≤ t ∧ Fld Z h x "java/lang/String" "value" "[B" (.ref t) ∧ Fld Z h x "java/lang/String" "coder" "B" (.int cd) ∧ Arv Z h t kt .byte N vs (.int 0) ∧ ((cd = 0 ∧ N = (Int32.ofNat cs.length) ∧ vs = own_bs cs ∧ ∀ c ∈ cs, ¬ (255 : Int32) < c) ∨ (cd = 1 ∧ N = (Int32.ofNat (2 * cs.length)) ∧ vs = own_u16 cs))
set_option maxRecDepth 65536 in
set_option maxHeartbeats 40000000 in
theorem rmI4 (l : Launch) (Z : State) (a0 : Array Value) (hw : ∀ d ∈ tables_1, d.before a0 Z = true) (ws : List Jvm.Cond) (x : Addr) (sa : Addr) (ka : ClassId) (cs : List Int32) (dv : Value) (G1 : Int32) (h0 : Heap) (n0 : Nat) (Z0 : n0 ≤ h0.size) (Pm0 : Exa Z h0 x "java/lang/String") (Pm1 : Fld Z h0 x "java/lang/String" "value" "[B" .null) (Pm2 : Fld Z h0 x "java/lang/String" "coder" "B" (.int (0 : Int32))) (Pm3 : n0 ≤ x) (Pm4 : Arv Z h0 sa ka .char (Int32.ofNat cs.length) (cs.map Value.int) dv) (hn : (cs.length ≤ 3)) (h0n : (0 < cs.length)) (hr : (∀ c ∈ cs, ¬ c < 0 ∧ ¬ (65535 : Int32) < c)) (OAD : Sta Z Z.heap "java/lang/StringUTF16" "$assertionsDisabled" "Z" (.int (1 : Int32))) (OHI : Sta Z Z.heap "java/lang/StringUTF16" "HI_BYTE_SHIFT" "I" (.int (0 : Int32))) (OLO : Sta Z Z.heap "java/lang/StringUTF16" "LO_BYTE_SHIFT" "I" (.int (8 : Int32))) (O2 : Sta Z Z.heap "java/lang/String" "COMPACT_STRINGS" "Z" (.int G1)) (P5 : (¬ (G1 = (0 : Int32)))) (X00 : Old Z n0 h0) :
    MetFree l (⟨"java/lang/String", "<init>", "([CIILjava/lang/Void;)V"⟩ : MethodName) (head1 (Jvm.Cond.code (⟨"java/lang/String", "<init>", "([CIILjava/lang/Void;)V"⟩ : MethodName) jdk_42_method_149_code 6 none :: ws) ({ frames := 4, cells := 2, slots := 9, locals := 57 } : Room)) (fun a U => a = #[(.ref x), (.ref sa), (.int (0 : Int32)), (.int (Int32.ofNat cs.length)), .null] ∧ Z.Warmed39 U.vm ∧ U.heap = h0) (fun _ _ _ _ _ => True) (fun _ U o U' => ∃ v L, o = .returned v ∧ Q_rmI4 Z x sa ka cs dv G1 h0 n0 v U'.heap L ∧ FrameEnd U o U' L ({ frames := 4, cells := 2, slots := 9, locals := 57 } : Room).cells ({ frames := 4, cells := 2, slots := 9, locals := 57 } : Room).slots) := by
  refine MetFree.of_bodySF (plainFor_of_name own_pn_java_lang_String) hisR ?_
  intro p e s m args below meth c s₁ Bd hml0 hP hK
  obtain ⟨rfl, hZ, hh⟩ := hP
  have hx := Bd.exec
  have hby := Bd.bytes
  have hml : c.maxLocals = 6 := hml0
  have hown : s.vm.findClass "java/lang/String" = some m.cls := findClass_of_methodNamed Bd.named
  have hnm := (name_of_methodNamed Bd.named Bd.method).1
  have X0 : Stand p l e ({ frames := 4, cells := 2, slots := 9, locals := 57 } : Room) s m #[(.ref x), (.ref sa), (.int (0 : Int32)), (.int (Int32.ofNat cs.length)), .null] below meth c s₁ [] 0 0 := Stand.of_body Bd
  have e0 : s₁.heap = h0 := by rw [← hh, Bd.state]; rfl
  have N0 := Fr.nil n0
  have K0 : Keep h0 h0 [x] := Keep.refl _ _
  refine own_go (S' := s₁.setTop (mkF m 0 #[.val (.ref x), .val (.ref sa), .val (.int (0 : Int32)), .val (.int (Int32.ofNat cs.length)), .val .null, .unset] [])) (fun tq kq => castTop (own_ef_rmI4 m x sa ka cs dv G1) kq) ?_
  have lt1 : @LT.lt Nat _ x h0.size := Pm0.lt
  have lt2 : @LT.lt Nat _ sa h0.size := Pm4.lt
  refine own_go (fun tq kq => XS.aloadN X0.here hx rfl (hb hby own_d3_0) rfl rfl kq) ?_
  show own_Rn p e below _ (s₁.setTop (mkF m 1 #[.val (.ref x), .val (.ref sa), .val (.int (0 : Int32)), .val (.int (Int32.ofNat cs.length)), .val .null, .unset] [(.ref x)]))
  obtain ⟨T3, X3, e3, st3⟩ := initO X0 hx hZ hown (hw _ (List.mem_of_getElem? (i := 25) rfl)) (hw _ (List.mem_of_getElem? (i := 26) rfl)) (hw _ (List.mem_of_getElem? (i := 27) rfl)) e0 (g := (mkF m 1 #[.val (.ref x), .val (.ref sa), .val (.int (0 : Int32)), .val (.int (Int32.ofNat cs.length)), .val .null, .unset] [(.ref x)])) rfl (by rw [hml]; rfl) rfl (hb hby own_d3_1) (by decide) (W := 0) (by show 2 * 0 + _ ≤ _; exact Nat.le_of_eq rfl) (by decide)
  refine own_go st3 ?_
  show own_Rn p e below _ (T3.setTop (mkF m 4 #[.val (.ref x), .val (.ref sa), .val (.int (0 : Int32)), .val (.int (Int32.ofNat cs.length)), .val .null, .unset] []))
  refine own_go (fun tq kq => XS.iloadN X3.here hx rfl (hb hby own_d3_4) rfl kq) ?_
  show own_Rn p e below _ (T3.setTop (mkF m 5 #[.val (.ref x), .val (.ref sa), .val (.int (0 : Int32)), .val (.int (Int32.ofNat cs.length)), .val .null, .unset] [(.int (Int32.ofNat cs.length))]))
  refine own_go (fun tq kq => XS.ifYes X3.here hx rfl (pc0 := 5) (pc' := 27) rfl (hb hby own_d3_5) rfl ((if0 _ _).trans (feq ((fun h => absurd (own_ofNat_inj (K := 0) h (by omega) (by decide)) (by omega)) : ¬ ((Int32.ofNat cs.length) = (0 : Int32)))).2) (by decide) (by decide) kq) ?_
  show own_Rn p e below _ (T3.setTop (mkF m 27 #[.val (.ref x), .val (.ref sa), .val (.int (0 : Int32)), .val (.int (Int32.ofNat cs.length)), .val .null, .unset] []))
  obtain ⟨T4, X4, e4, st4⟩ := getS2 X3 hx hZ hown (host := "") (Or.inl (hw _ (List.mem_of_getElem? (i := 50) rfl))) Via.refl e3 (O2.ext X00.2) (g := (mkF m 27 #[.val (.ref x), .val (.ref sa), .val (.int (0 : Int32)), .val (.int (Int32.ofNat cs.length)), .val .null, .unset] [])) rfl (hb hby own_d3_27)
  refine own_go st4 ?_
  show own_Rn p e below _ (T4.setTop (mkF m 30 #[.val (.ref x), .val (.ref sa), .val (.int (0 : Int32)), .val (.int (Int32.ofNat cs.length)), .val .null, .unset] [(.int G1)]))
  refine own_go (fun tq kq => XS.ifNo X4.here hx rfl (hb hby own_d3_30) rfl ((if0 _ _).trans (feq (P5 : ¬ (G1 = (0 : Int32)))).1) kq) ?_
  show own_Rn p e below _ (T4.setTop (mkF m 33 #[.val (.ref x), .val (.ref sa), .val (.int (0 : Int32)), .val (.int (Int32.ofNat cs.length)), .val .null, .unset] []))
  refine own_go (fun tq kq => XS.aloadN X4.here hx rfl (hb hby own_d3_33) rfl rfl kq) ?_
  show own_Rn p e below _ (T4.setTop (mkF m 34 #[.val (.ref x), .val (.ref sa), .val (.int (0 : Int32)), .val (.int (Int32.ofNat cs.length)), .val .null, .unset] [(.ref sa)]))
  refine own_go (fun tq kq => XS.iloadN X4.here hx rfl (hb hby own_d3_34) rfl kq) ?_
  show own_Rn p e below _ (T4.setTop (mkF m 35 #[.val (.ref x), .val (.ref sa), .val (.int (0 : Int32)), .val (.int (Int32.ofNat cs.length)), .val .null, .unset] [(.int (0 : Int32)), (.ref sa)]))
  refine own_go (fun tq kq => XS.iloadN X4.here hx rfl (hb hby own_d3_35) rfl kq) ?_
  show own_Rn p e below _ (T4.setTop (mkF m 36 #[.val (.ref x), .val (.ref sa), .val (.int (0 : Int32)), .val (.int (Int32.ofNat cs.length)), .val .null, .unset] [(.int (Int32.ofNat cs.length)), (.int (0 : Int32)), (.ref sa)]))
  have Zn5 : n0 ≤ h0.size := by omega
  obtain ⟨rv5, _, ⟨T5, L5, k5, n5⟩, -, X5, ⟨Lc5, hQ5, l5, y5, z5⟩, st5⟩ := Jvm.LawKit.callS X4 hx (y := (⟨"java/lang/StringUTF16", "compress", "([CII)[B"⟩ : MethodName)) hown (mvT hZ (hw _ (List.mem_of_getElem? (i := 68) rfl))) (mvT hZ (hw _ (List.mem_of_getElem? (i := 69) rfl))) (mvT hZ (hw _ (List.mem_of_getElem? (i := 70) rfl))) (mvT hZ (hw _ (List.mem_of_getElem? (i := 71) rfl))) (by decide) (backOf (W := 0) (rmC3 l Z a0 hw [] (sa) (ka) (cs) (dv) h0 n0 Zn5 Pm4 (hn) (h0n) (hr) (OAD) (OHI) (OLO) X00) hZ (hw _ (List.mem_of_getElem? (i := 71) rfl)) (hw _ (List.mem_of_getElem? (i := 70) rfl)) (by decide) (by decide)) (g := (mkF m 36 #[.val (.ref x), .val (.ref sa), .val (.int (0 : Int32)), .val (.int (Int32.ofNat cs.length)), .val .null, .unset] [(.int (Int32.ofNat cs.length)), (.int (0 : Int32)), (.ref sa)])) rfl (by rw [hml]; rfl) (argsL := [(.ref sa), (.int (0 : Int32)), (.int (Int32.ofNat cs.length))]) (rest := []) (lenOf own_pd_285bCII295bB rfl) rfl (by show 2 * 0 + _ ≤ _; exact Nat.le_of_eq rfl) (hb hby own_d3_36) (fun _ _ => ⟨rfl, e4, (by decide : 0 + 2 ≤ _), (by decide : 0 + 9 ≤ _)⟩)
  dsimp only [Pt.U, Pt.locs, Pt.cells, Pt.slots] at X5 l5 y5 z5 st5 hQ5
  subst l5 y5 z5
  obtain ⟨tt, ktt, NN, vv, rfl, Nq5, Kq5, G0_5, G1_5, G2_5, RL_5⟩ := hQ5
  have N5 := Fr.app N0 Nq5
  have sz6 : h0.size ≤ T5.heap.size := Kq5.1
  have K6 := K0.trans Kq5 all0
  have lt7 : @LT.lt Nat _ tt T5.heap.size := G2_5.lt
  refine own_go st5 ?_
  show own_Rn p e below _ (T5.setTop (mkF m 39 #[.val (.ref x), .val (.ref sa), .val (.int (0 : Int32)), .val (.int (Int32.ofNat cs.length)), .val .null, .unset] [(.ref tt)]))
  refine own_go (fun tq kq => XS.astore X5.here hx rfl (hb hby own_d3_39) rfl rfl (l' := #[.val (.ref x), .val (.ref sa), .val (.int (0 : Int32)), .val (.int (Int32.ofNat cs.length)), .val .null, .val (.ref tt)]) rfl kq) ?_
  show own_Rn p e below _ (T5.setTop (mkF m 41 #[.val (.ref x), .val (.ref sa), .val (.int (0 : Int32)), .val (.int (Int32.ofNat cs.length)), .val .null, .val (.ref tt)] []))
  refine own_go (fun tq kq => XS.aloadN X5.here hx rfl (hb hby own_d3_41) rfl rfl kq) ?_
  show own_Rn p e below _ (T5.setTop (mkF m 42 #[.val (.ref x), .val (.ref sa), .val (.int (0 : Int32)), .val (.int (Int32.ofNat cs.length)), .val .null, .val (.ref tt)] [(.ref x)]))
  refine own_go (fun tq kq => XS.aload X5.here hx rfl (hb hby own_d3_42) rfl rfl kq) ?_
  show own_Rn p e below _ (T5.setTop (mkF m 44 #[.val (.ref x), .val (.ref sa), .val (.int (0 : Int32)), .val (.int (Int32.ofNat cs.length)), .val .null, .val (.ref tt)] [(.ref tt), (.ref x)]))
  refine own_go (fun tq kq => XS.iloadN X5.here hx rfl (hb hby own_d3_44) rfl kq) ?_
  show own_Rn p e below _ (T5.setTop (mkF m 45 #[.val (.ref x), .val (.ref sa), .val (.int (0 : Int32)), .val (.int (Int32.ofNat cs.length)), .val .null, .val (.ref tt)] [(.int (Int32.ofNat cs.length)), (.ref tt), (.ref x)]))
  rcases RL_5 with ⟨rfl, rfl, hal⟩ | ⟨rfl, rfl⟩
  · skip
    have Zn8 : n0 ≤ T5.heap.size := by omega
    obtain ⟨rv8, _, ⟨T8, L8, k8, n8⟩, -, X8, ⟨Lc8, hQ8, l8, y8, z8⟩, st8⟩ := Jvm.LawKit.callS X5 hx (y := (⟨"java/lang/StringUTF16", "coderFromArrayLen", "([BI)B"⟩ : MethodName)) hown (mvT hZ (hw _ (List.mem_of_getElem? (i := 94) rfl))) (mvT hZ (hw _ (List.mem_of_getElem? (i := 95) rfl))) (mvT hZ (hw _ (List.mem_of_getElem? (i := 70) rfl))) (mvT hZ (hw _ (List.mem_of_getElem? (i := 96) rfl))) (by decide) (backOf (W := 1) (rmCF0 l Z a0 hw [] (tt) (ktt) (cs) ((own_bs cs)) T5.heap n0 Zn8 G2_5 (hn) (h0n)) hZ (hw _ (List.mem_of_getElem? (i := 96) rfl)) (hw _ (List.mem_of_getElem? (i := 70) rfl)) (by decide) (by decide)) (g := (mkF m 45 #[.val (.ref x), .val (.ref sa), .val (.int (0 : Int32)), .val (.int (Int32.ofNat cs.length)), .val .null, .val (.ref tt)] [(.int (Int32.ofNat cs.length)), (.ref tt), (.ref x)])) rfl (by rw [hml]; rfl) (argsL := [(.ref tt), (.int (Int32.ofNat cs.length))]) (rest := [(.ref x)]) (lenOf own_pd_285bBI29B rfl) rfl (by show 2 * 0 + _ ≤ _; exact Nat.le_of_eq rfl) (hb hby own_d3_45) (fun _ _ => ⟨rfl, rfl, (by decide : 2 + 0 ≤ _), (by decide : 9 + 0 ≤ _)⟩)
    dsimp only [Pt.U, Pt.locs, Pt.cells, Pt.slots] at X8 l8 y8 z8 st8 hQ8
    subst l8 y8 z8
    obtain ⟨rfl, Nq8, eh8⟩ := hQ8
    have N8 := Fr.app N5 Nq8
    refine own_go st8 ?_
    show own_Rn p e below _ (T8.setTop (mkF m 48 #[.val (.ref x), .val (.ref sa), .val (.int (0 : Int32)), .val (.int (Int32.ofNat cs.length)), .val .null, .val (.ref tt)] [(.int (0 : Int32)), (.ref x)]))
    have F9 : Fld Z T5.heap x "java/lang/String" "coder" "B" (.int (0 : Int32)) := (Pm2.keep Kq5 nin0)
    have F10 : Exa Z T5.heap x "java/lang/String" := (Pm0.keep Kq5)
    obtain ⟨T11, h11, X11, e11, W11, st11⟩ := putFN X8 hx hZ hown (hw _ (List.mem_of_getElem? (i := 35) rfl)) Via.refl eh8 F9 F10 (Or.inr ⟨(hw _ (List.mem_of_getElem? (i := 31) rfl)), rfl, hnm⟩) (hw _ (List.mem_of_getElem? (i := 16) rfl)) (ty := .byte) (v' := (.int ((0 : Int32)))) own_fd_B rfl (by decide) (g := (mkF m 48 #[.val (.ref x), .val (.ref sa), .val (.int (0 : Int32)), .val (.int (Int32.ofNat cs.length)), .val .null, .val (.ref tt)] [(.int (0 : Int32)), (.ref x)])) rfl rfl (hb hby own_d3_48)
    refine own_go st11 ?_
    have N11 := Fr.snoc X11 N8 Pm3
    have Fw11 := F9.same W11
    have sz12 : T5.heap.size ≤ h11.size := Nat.le_of_eq (Wr.size W11).symm
    have K12 := K6.wr W11 (Or.inl (List.mem_of_getElem? (i := 0) rfl))
    show own_Rn p e below _ (T11.setTop (mkF m 51 #[.val (.ref x), .val (.ref sa), .val (.int (0 : Int32)), .val (.int (Int32.ofNat cs.length)), .val .null, .val (.ref tt)] []))
    refine own_go (fun tq kq => XS.aloadN X11.here hx rfl (hb hby own_d3_51) rfl rfl kq) ?_
    show own_Rn p e below _ (T11.setTop (mkF m 52 #[.val (.ref x), .val (.ref sa), .val (.int (0 : Int32)), .val (.int (Int32.ofNat cs.length)), .val .null, .val (.ref tt)] [(.ref x)]))
    refine own_go (fun tq kq => XS.aload X11.here hx rfl (hb hby own_d3_52) rfl rfl kq) ?_
    show own_Rn p e below _ (T11.setTop (mkF m 54 #[.val (.ref x), .val (.ref sa), .val (.int (0 : Int32)), .val (.int (Int32.ofNat cs.length)), .val .null, .val (.ref tt)] [(.ref tt), (.ref x)]))
    have F13 : Fld Z h11 x "java/lang/String" "value" "[B" .null := ((Pm1.keep Kq5 nin0).other W11 (Or.inr (slot_ne (Or.inr (hw _ (List.mem_of_getElem? (i := 30) rfl))) (Or.inr (hw _ (List.mem_of_getElem? (i := 31) rfl))) (by decide) (t := (.array .byte)) (t' := .byte) own_fd_5bB own_fd_B)))
    have F14 : Exa Z h11 x "java/lang/String" := (F10.wr W11)
    obtain ⟨T15, h15, X15, e15, W15, st15⟩ := putF X11 hx hZ hown (host := "") (Or.inl (hw _ (List.mem_of_getElem? (i := 34) rfl))) Via.refl e11 F13 F14 (Or.inr ⟨(hw _ (List.mem_of_getElem? (i := 30) rfl)), rfl, hnm⟩) (hw _ (List.mem_of_getElem? (i := 16) rfl)) (ty := (.array .byte)) own_fd_5bB rfl rfl (g := (mkF m 54 #[.val (.ref x), .val (.ref sa), .val (.int (0 : Int32)), .val (.int (Int32.ofNat cs.length)), .val .null, .val (.ref tt)] [(.ref tt), (.ref x)])) rfl rfl (hb hby own_d3_54)
    refine own_go st15 ?_
    have N15 := Fr.snoc X15 N11 Pm3
    have Fw15 := F13.same W15
    have sz16 : h11.size ≤ h15.size := Nat.le_of_eq (Wr.size W15).symm
    have K16 := K12.wr W15 (Or.inl (List.mem_of_getElem? (i := 0) rfl))
    show own_Rn p e below _ (T15.setTop (mkF m 57 #[.val (.ref x), .val (.ref sa), .val (.int (0 : Int32)), .val (.int (Int32.ofNat cs.length)), .val .null, .val (.ref tt)] []))
    have F17 : Fld Z h15 x "java/lang/String" "coder" "B" (.int (0 : Int32)) := (Fw11.other W15 (Or.inr (slot_ne (Or.inr (hw _ (List.mem_of_getElem? (i := 31) rfl))) (Or.inr (hw _ (List.mem_of_getElem? (i := 30) rfl))) (by decide) (t := .byte) (t' := (.array .byte)) own_fd_B own_fd_5bB)))
    have ne18 : tt ≠ x := own_nea (by omega)
    have F19 : Arv Z h15 tt ktt .byte (Int32.ofNat cs.length) (own_bs cs) (.int 0) := ((G2_5.other W11 ne18).other W15 ne18)
    exact own_ret X15 (v := none) (fun _ => rfl) (fun fs hr => X15.returnOut hx Bd.returns (hb hby own_d3_57) hr) (by rw [e15]; exact ⟨tt, ktt, (Int32.ofNat cs.length), (own_bs cs), (0 : Int32), rfl, N15, K16, (by omega), G1_5, Fw15, F17, F19, Or.inl ⟨rfl, rfl, rfl, hal⟩⟩) (by decide) (by decide)
  · skip
    have Zn20 : n0 ≤ T5.heap.size := by omega
    obtain ⟨rv20, _, ⟨T20, L20, k20, n20⟩, -, X20, ⟨Lc20, hQ20, l20, y20, z20⟩, st20⟩ := Jvm.LawKit.callS X5 hx (y := (⟨"java/lang/StringUTF16", "coderFromArrayLen", "([BI)B"⟩ : MethodName)) hown (mvT hZ (hw _ (List.mem_of_getElem? (i := 94) rfl))) (mvT hZ (hw _ (List.mem_of_getElem? (i := 95) rfl))) (mvT hZ (hw _ (List.mem_of_getElem? (i := 70) rfl))) (mvT hZ (hw _ (List.mem_of_getElem? (i := 96) rfl))) (by decide) (backOf (W := 1) (rmCF1 l Z a0 hw [] (tt) (ktt) (cs) ((own_u16 cs)) T5.heap n0 Zn20 G2_5 (hn) (h0n)) hZ (hw _ (List.mem_of_getElem? (i := 96) rfl)) (hw _ (List.mem_of_getElem? (i := 70) rfl)) (by decide) (by decide)) (g := (mkF m 45 #[.val (.ref x), .val (.ref sa), .val (.int (0 : Int32)), .val (.int (Int32.ofNat cs.length)), .val .null, .val (.ref tt)] [(.int (Int32.ofNat cs.length)), (.ref tt), (.ref x)])) rfl (by rw [hml]; rfl) (argsL := [(.ref tt), (.int (Int32.ofNat cs.length))]) (rest := [(.ref x)]) (lenOf own_pd_285bBI29B rfl) rfl (by show 2 * 0 + _ ≤ _; exact Nat.le_of_eq rfl) (hb hby own_d3_45) (fun _ _ => ⟨rfl, rfl, (by decide : 2 + 0 ≤ _), (by decide : 9 + 0 ≤ _)⟩)
    dsimp only [Pt.U, Pt.locs, Pt.cells, Pt.slots] at X20 l20 y20 z20 st20 hQ20
    subst l20 y20 z20
    obtain ⟨rfl, Nq20, eh20⟩ := hQ20
    have N20 := Fr.app N5 Nq20
    refine own_go st20 ?_
    show own_Rn p e below _ (T20.setTop (mkF m 48 #[.val (.ref x), .val (.ref sa), .val (.int (0 : Int32)), .val (.int (Int32.ofNat cs.length)), .val .null, .val (.ref tt)] [(.int (1 : Int32)), (.ref x)]))
    have F21 : Fld Z T5.heap x "java/lang/String" "coder" "B" (.int (0 : Int32)) := (Pm2.keep Kq5 nin0)
    have F22 : Exa Z T5.heap x "java/lang/String" := (Pm0.keep Kq5)
    obtain ⟨T23, h23, X23, e23, W23, st23⟩ := putFN X20 hx hZ hown (hw _ (List.mem_of_getElem? (i := 35) rfl)) Via.refl eh20 F21 F22 (Or.inr ⟨(hw _ (List.mem_of_getElem? (i := 31) rfl)), rfl, hnm⟩) (hw _ (List.mem_of_getElem? (i := 16) rfl)) (ty := .byte) (v' := (.int ((1 : Int32)))) own_fd_B rfl (by decide) (g := (mkF m 48 #[.val (.ref x), .val (.ref sa), .val (.int (0 : Int32)), .val (.int (Int32.ofNat cs.length)), .val .null, .val (.ref tt)] [(.int (1 : Int32)), (.ref x)])) rfl rfl (hb hby own_d3_48)
    refine own_go st23 ?_
    have N23 := Fr.snoc X23 N20 Pm3
    have Fw23 := F21.same W23
    have sz24 : T5.heap.size ≤ h23.size := Nat.le_of_eq (Wr.size W23).symm
    have K24 := K6.wr W23 (Or.inl (List.mem_of_getElem? (i := 0) rfl))
    show own_Rn p e below _ (T23.setTop (mkF m 51 #[.val (.ref x), .val (.ref sa), .val (.int (0 : Int32)), .val (.int (Int32.ofNat cs.length)), .val .null, .val (.ref tt)] []))
    refine own_go (fun tq kq => XS.aloadN X23.here hx rfl (hb hby own_d3_51) rfl rfl kq) ?_
    show own_Rn p e below _ (T23.setTop (mkF m 52 #[.val (.ref x), .val (.ref sa), .val (.int (0 : Int32)), .val (.int (Int32.ofNat cs.length)), .val .null, .val (.ref tt)] [(.ref x)]))
    refine own_go (fun tq kq => XS.aload X23.here hx rfl (hb hby own_d3_52) rfl rfl kq) ?_
    show own_Rn p e below _ (T23.setTop (mkF m 54 #[.val (.ref x), .val (.ref sa), .val (.int (0 : Int32)), .val (.int (Int32.ofNat cs.length)), .val .null, .val (.ref tt)] [(.ref tt), (.ref x)]))
    have F25 : Fld Z h23 x "java/lang/String" "value" "[B" .null := ((Pm1.keep Kq5 nin0).other W23 (Or.inr (slot_ne (Or.inr (hw _ (List.mem_of_getElem? (i := 30) rfl))) (Or.inr (hw _ (List.mem_of_getElem? (i := 31) rfl))) (by decide) (t := (.array .byte)) (t' := .byte) own_fd_5bB own_fd_B)))
    have F26 : Exa Z h23 x "java/lang/String" := (F22.wr W23)
    obtain ⟨T27, h27, X27, e27, W27, st27⟩ := putF X23 hx hZ hown (host := "") (Or.inl (hw _ (List.mem_of_getElem? (i := 34) rfl))) Via.refl e23 F25 F26 (Or.inr ⟨(hw _ (List.mem_of_getElem? (i := 30) rfl)), rfl, hnm⟩) (hw _ (List.mem_of_getElem? (i := 16) rfl)) (ty := (.array .byte)) own_fd_5bB rfl rfl (g := (mkF m 54 #[.val (.ref x), .val (.ref sa), .val (.int (0 : Int32)), .val (.int (Int32.ofNat cs.length)), .val .null, .val (.ref tt)] [(.ref tt), (.ref x)])) rfl rfl (hb hby own_d3_54)
    refine own_go st27 ?_
    have N27 := Fr.snoc X27 N23 Pm3
    have Fw27 := F25.same W27
    have sz28 : h23.size ≤ h27.size := Nat.le_of_eq (Wr.size W27).symm
    have K28 := K24.wr W27 (Or.inl (List.mem_of_getElem? (i := 0) rfl))
    show own_Rn p e below _ (T27.setTop (mkF m 57 #[.val (.ref x), .val (.ref sa), .val (.int (0 : Int32)), .val (.int (Int32.ofNat cs.length)), .val .null, .val (.ref tt)] []))
    have F29 : Fld Z h27 x "java/lang/String" "coder" "B" (.int (1 : Int32)) := (Fw23.other W27 (Or.inr (slot_ne (Or.inr (hw _ (List.mem_of_getElem? (i := 31) rfl))) (Or.inr (hw _ (List.mem_of_getElem? (i := 30) rfl))) (by decide) (t := .byte) (t' := (.array .byte)) own_fd_B own_fd_5bB)))
    have ne30 : tt ≠ x := own_nea (by omega)
    have F31 : Arv Z h27 tt ktt .byte (Int32.ofNat (2 * cs.length)) (own_u16 cs) (.int 0) := ((G2_5.other W23 ne30).other W27 ne30)
    exact own_ret X27 (v := none) (fun _ => rfl) (fun fs hr => X27.returnOut hx Bd.returns (hb hby own_d3_57) hr) (by rw [e27]; exact ⟨tt, ktt, (Int32.ofNat (2 * cs.length)), (own_u16 cs), (1 : Int32), rfl, N27, K28, (by omega), G1_5, Fw27, F29, F31, Or.inr ⟨rfl, rfl, rfl⟩⟩) (by decide) (by decide)
theorem own_ef_rmI1 (m : MethodId) (x : Addr) (sa : Addr) (ka : ClassId) (cs : List Int32) (dv : Value) (G1 : Int32) : entryFrame m #[(.ref x), (.ref sa)] 2 = mkF m 0 #[.val (.ref x), .val (.ref sa)] [] := by first | (simp [entryFrame, mkF, argsToLocals, Value.category]; done) | rfl
theorem own_d2_0 : decode jdk_42_method_3_code 0 = .ok (.aload_n 0, 1) := by decide +kernel
theorem own_d2_1 : decode jdk_42_method_3_code 1 = .ok (.aload_n 1, 1) := by decide +kernel
theorem own_d2_2 : decode jdk_42_method_3_code 2 = .ok (.iconst 0, 1) := by decide +kernel
theorem own_d2_3 : decode jdk_42_method_3_code 3 = .ok (.aload_n 1, 1) := by decide +kernel
theorem own_d2_4 : decode jdk_42_method_3_code 4 = .ok (.arraylength, 1) := by decide +kernel
theorem own_d2_5 : decode jdk_42_method_3_code 5 = .ok (.aconst_null, 1) := by decide +kernel
theorem own_d2_6 : decode jdk_42_method_3_code 6 = .ok (.invokespecial 27, 3) := by decide +kernel
theorem own_pd_285bCIILjava2flang2fVoid3b29V : parseMethodDescriptor "([CIILjava/lang/Void;)V" = some ⟨[(.array .char), .int, .int, (.object "java/lang/Void")], none⟩ := by decide +kernel
theorem own_d2_9 : decode jdk_42_method_3_code 9 = .ok (.return_, 1) := by decide +kernel
def Q_rmI1 (Z : State) (x : Addr) (sa : Addr) (ka : ClassId) (cs : List Int32) (dv : Value) (G1 : Int32) (h0 : Heap) (n0 : Nat) (v : Option Value) (h : Heap) (L : List Loc) : Prop := ∃ (t : Addr), ∃ (kt : ClassId), ∃ (N : Int32), ∃ (vs : List Value), ∃ (cd : Int32), v = none ∧ Fr n0 L ∧ Keep h0 h [x] ∧ h0.size ≤ t ∧ n0 ≤ t ∧ Fld Z h x "java/lang/String" "value" "[B" (.ref t) ∧ Fld Z h x "java/lang/String" "coder" "B" (.int cd) ∧ Arv Z h t kt .byte N vs (.int 0) ∧ ((cd = 0 ∧ N = (Int32.ofNat cs.length) ∧ vs = own_bs cs ∧ ∀ c ∈ cs, ¬ (255 : Int32) < c) ∨ (cd = 1 ∧ N = (Int32.ofNat (2 * cs.length)) ∧ vs = own_u16 cs))
set_option maxRecDepth 65536 in
set_option maxHeartbeats 40000000 in
theorem rmI1 (l : Launch) (Z : State) (a0 : Array Value) (hw : ∀ d ∈ tables_1, d.before a0 Z = true) (ws : List Jvm.Cond) (x : Addr) (sa : Addr) (ka : ClassId) (cs : List Int32) (dv : Value) (G1 : Int32) (h0 : Heap) (n0 : Nat) (Z0 : n0 ≤ h0.size) (Pm0 : Exa Z h0 x "java/lang/String") (Pm1 : Fld Z h0 x "java/lang/String" "value" "[B" .null) (Pm2 : Fld Z h0 x "java/lang/String" "coder" "B" (.int (0 : Int32))) (Pm3 : n0 ≤ x) (Pm4 : Arv Z h0 sa ka .char (Int32.ofNat cs.length) (cs.map Value.int) dv) (hn : (cs.length ≤ 3)) (h0n : (0 < cs.length)) (hr : (∀ c ∈ cs, ¬ c < 0 ∧ ¬ (65535 : Int32) < c)) (OAD : Sta Z Z.heap "java/lang/StringUTF16" "$assertionsDisabled" "Z" (.int (1 : Int32))) (OHI : Sta Z Z.heap "java/lang/StringUTF16" "HI_BYTE_SHIFT" "I" (.int (0 : Int32))) (OLO : Sta Z Z.heap "java/lang/StringUTF16" "LO_BYTE_SHIFT" "I" (.int (8 : Int32))) (O2 : Sta Z Z.heap "java/lang/String" "COMPACT_STRINGS" "Z" (.int G1)) (P5 : (¬ (G1 = (0 : Int32)))) (X00 : Old Z n0 h0) :
    MetFree l (⟨"java/lang/String", "<init>", "([C)V"⟩ : MethodName) (head1 (Jvm.Cond.code (⟨"java/lang/String", "<init>", "([C)V"⟩ : MethodName) jdk_42_method_3_code 2 none :: ws) ({ frames := 5, cells := 2, slots := 9, locals := 74 } : Room)) (fun a U => a = #[(.ref x), (.ref sa)] ∧ Z.Warmed39 U.vm ∧ U.heap = h0) (fun _ _ _ _ _ => True) (fun _ U o U' => ∃ v L, o = .returned v ∧ Q_rmI1 Z x sa ka cs dv G1 h0 n0 v U'.heap L ∧ FrameEnd U o U' L ({ frames := 5, cells := 2, slots := 9, locals := 74 } : Room).cells ({ frames := 5, cells := 2, slots := 9, locals := 74 } : Room).slots) := by
  refine MetFree.of_bodySF (plainFor_of_name own_pn_java_lang_String) hisR ?_
  intro p e s m args below meth c s₁ Bd hml0 hP hK
  obtain ⟨rfl, hZ, hh⟩ := hP
  have hx := Bd.exec
  have hby := Bd.bytes
  have hml : c.maxLocals = 2 := hml0
  have hown : s.vm.findClass "java/lang/String" = some m.cls := findClass_of_methodNamed Bd.named
  have hnm := (name_of_methodNamed Bd.named Bd.method).1
  have X0 : Stand p l e ({ frames := 5, cells := 2, slots := 9, locals := 74 } : Room) s m #[(.ref x), (.ref sa)] below meth c s₁ [] 0 0 := Stand.of_body Bd
  have e0 : s₁.heap = h0 := by rw [← hh, Bd.state]; rfl
  have N0 := Fr.nil n0
  have K0 : Keep h0 h0 [x] := Keep.refl _ _
  refine own_go (S' := s₁.setTop (mkF m 0 #[.val (.ref x), .val (.ref sa)] [])) (fun tq kq => castTop (own_ef_rmI1 m x sa ka cs dv G1) kq) ?_
  have lt1 : @LT.lt Nat _ x h0.size := Pm0.lt
  have lt2 : @LT.lt Nat _ sa h0.size := Pm4.lt
  refine own_go (fun tq kq => XS.aloadN X0.here hx rfl (hb hby own_d2_0) rfl rfl kq) ?_
  show own_Rn p e below _ (s₁.setTop (mkF m 1 #[.val (.ref x), .val (.ref sa)] [(.ref x)]))
  refine own_go (fun tq kq => XS.aloadN X0.here hx rfl (hb hby own_d2_1) rfl rfl kq) ?_
  show own_Rn p e below _ (s₁.setTop (mkF m 2 #[.val (.ref x), .val (.ref sa)] [(.ref sa), (.ref x)]))
  refine own_go (fun tq kq => XS.iconst X0.here hx rfl (hb hby own_d2_2) kq) ?_
  show own_Rn p e below _ (s₁.setTop (mkF m 3 #[.val (.ref x), .val (.ref sa)] [(.int (0 : Int32)), (.ref sa), (.ref x)]))
  refine own_go (fun tq kq => XS.aloadN X0.here hx rfl (hb hby own_d2_3) rfl rfl kq) ?_
  show own_Rn p e below _ (s₁.setTop (mkF m 4 #[.val (.ref x), .val (.ref sa)] [(.ref sa), (.int (0 : Int32)), (.ref sa), (.ref x)]))
  obtain ⟨cl3, Ar3, -, Sz3, Nn3, -, -⟩ := id Pm4
  refine own_go (fun tq kq => X0.arraylength hx (cell := cl3) (by rw [e0]; exact Ar3.1) (State.isArrayOf_alike hZ.alike Ar3.2.1) (g := (mkF m 4 #[.val (.ref x), .val (.ref sa)] [(.ref sa), (.int (0 : Int32)), (.ref sa), (.ref x)])) rfl rfl (hb hby own_d2_4) tq kq) ?_
  rw [len_of Sz3 Nn3]
  show own_Rn p e below _ (s₁.setTop (mkF m 5 #[.val (.ref x), .val (.ref sa)] [(.int (Int32.ofNat cs.length)), (.int (0 : Int32)), (.ref sa), (.ref x)]))
  refine own_go (fun tq kq => XS.aconstNull X0.here hx rfl (hb hby own_d2_5) kq) ?_
  show own_Rn p e below _ (s₁.setTop (mkF m 6 #[.val (.ref x), .val (.ref sa)] [.null, (.int (Int32.ofNat cs.length)), (.int (0 : Int32)), (.ref sa), (.ref x)]))
  have Zn4 : n0 ≤ h0.size := by omega
  obtain ⟨rv4, _, ⟨T4, L4, k4, n4⟩, -, X4, ⟨Lc4, hQ4, l4, y4, z4⟩, st4⟩ := X0.specialBack hx (y := (⟨"java/lang/String", "<init>", "([CIILjava/lang/Void;)V"⟩ : MethodName)) rfl hown (mvT hZ (hw _ (List.mem_of_getElem? (i := 21) rfl))) (mvT hZ (hw _ (List.mem_of_getElem? (i := 22) rfl))) (mvT hZ (hw _ (List.mem_of_getElem? (i := 24) rfl))) (by decide) (backOf (W := 0) (rmI4 l Z a0 hw [] (x) (sa) (ka) (cs) (dv) (G1) h0 n0 Zn4 Pm0 Pm1 Pm2 Pm3 Pm4 (hn) (h0n) (hr) (OAD) (OHI) (OLO) (O2) (P5) X00) hZ (hw _ (List.mem_of_getElem? (i := 24) rfl)) (hw _ (List.mem_of_getElem? (i := 17) rfl)) (by decide) (by decide)) (g := (mkF m 6 #[.val (.ref x), .val (.ref sa)] [.null, (.int (Int32.ofNat cs.length)), (.int (0 : Int32)), (.ref sa), (.ref x)])) rfl (by rw [hml]; rfl) (Steps.refl _) (a := x) (argsL := [(.ref sa), (.int (0 : Int32)), (.int (Int32.ofNat cs.length)), .null]) (rest := []) (lenOf own_pd_285bCIILjava2flang2fVoid3b29V rfl) rfl (by show 2 * 0 + _ ≤ _; exact Nat.le_of_eq rfl) (hb hby own_d2_6) (fun _ _ => ⟨rfl, e0, (by decide : 0 + 2 ≤ _), (by decide : 0 + 9 ≤ _)⟩)
  dsimp only [Pt.U, Pt.locs, Pt.cells, Pt.slots] at X4 l4 y4 z4 st4 hQ4
  subst l4 y4 z4
  obtain ⟨tt, ktt, NN, vv, cc, rfl, Nq4, Kq4, G0_4, G1_4, G2_4, G3_4, G4_4, RL_4⟩ := hQ4
  have N4 := Fr.app N0 Nq4
  have sz5 : h0.size ≤ T4.heap.size := Kq4.1
  have K5 := K0.trans Kq4 (allS (Or.inl (List.mem_of_getElem? (i := 0) rfl)) all0)
  have lt6 : @LT.lt Nat _ tt T4.heap.size := G4_4.lt
  refine own_go (fun tq kq => st4.trans kq) ?_
  show own_Rn p e below _ (T4.setTop (mkF m 9 #[.val (.ref x), .val (.ref sa)] []))
  exact own_ret X4 (v := none) (fun _ => rfl) (fun fs hr => X4.returnOut hx Bd.returns (hb hby own_d2_9) hr) (⟨tt, ktt, NN, vv, cc, rfl, N4, K5, (by omega), G1_4, G2_4, G3_4, G4_4, RL_4⟩) (by decide) (by decide)
theorem own_ef_rmHiJ (m : MethodId) (ch : Int32) : entryFrame m #[(.int ch)] 1 = mkF m 0 #[.val (.int ch)] [] := by first | (simp [entryFrame, mkF, argsToLocals, Value.category]; done) | rfl
theorem own_pn_java_lang_Character : plainName "java/lang/Character" = true := by first | (simp [plainName, overriddenIn]; done) | decide +kernel
theorem own_d32_0 : decode jdk_89_method_14_code 0 = .ok (.iload_n 0, 1) := by decide +kernel
theorem own_d32_1 : decode jdk_89_method_14_code 1 = .ok (.ldc 75, 2) := by decide +kernel
theorem own_d32_3 : decode jdk_89_method_14_code 3 = .ok (.if_icmp .lt 13, 3) := by decide +kernel
theorem own_d32_16 : decode jdk_89_method_14_code 16 = .ok (.iconst 0, 1) := by decide +kernel
theorem own_d32_17 : decode jdk_89_method_14_code 17 = .ok (.ireturn, 1) := by decide +kernel
theorem own_d32_6 : decode jdk_89_method_14_code 6 = .ok (.iload_n 0, 1) := by decide +kernel
theorem own_d32_7 : decode jdk_89_method_14_code 7 = .ok (.ldc 76, 2) := by decide +kernel
theorem own_d32_9 : decode jdk_89_method_14_code 9 = .ok (.if_icmp .ge 7, 3) := by decide +kernel
theorem own_d32_12 : decode jdk_89_method_14_code 12 = .ok (.iconst 1, 1) := by decide +kernel
theorem own_d32_13 : decode jdk_89_method_14_code 13 = .ok (.goto 4, 3) := by decide +kernel
def Q_rmHiJ (Z : State) (ch : Int32) (h0 : Heap) (n0 : Nat) (v : Option Value) (h : Heap) (L : List Loc) : Prop := v = some (.int (if own_isHi ch then (1 : Int32) else 0)) ∧ Fr n0 L ∧ h = h0
set_option maxRecDepth 65536 in
set_option maxHeartbeats 40000000 in
theorem rmHiJ (l : Launch) (Z : State) (a0 : Array Value) (hw : ∀ d ∈ tables_1, d.before a0 Z = true) (ws : List Jvm.Cond) (ch : Int32) (h0 : Heap) (n0 : Nat) (Z0 : n0 ≤ h0.size)  :
    MetFree l (⟨"java/lang/Character", "isHighSurrogate", "(C)Z"⟩ : MethodName) (head1 (Jvm.Cond.code (⟨"java/lang/Character", "isHighSurrogate", "(C)Z"⟩ : MethodName) jdk_89_method_14_code 1 (some .boolean) :: ws) ({ frames := 0, cells := 0, slots := 0, locals := 0 } : Room)) (fun a U => a = #[(.int ch)] ∧ Z.Warmed39 U.vm ∧ U.heap = h0) (fun _ _ _ _ _ => True) (fun _ U o U' => ∃ v L, o = .returned v ∧ Q_rmHiJ Z ch h0 n0 v U'.heap L ∧ FrameEnd U o U' L ({ frames := 0, cells := 0, slots := 0, locals := 0 } : Room).cells ({ frames := 0, cells := 0, slots := 0, locals := 0 } : Room).slots) := by
  refine MetFree.of_bodySF (plainFor_of_name own_pn_java_lang_Character) hisR ?_
  intro p e s m args below meth c s₁ Bd hml0 hP hK
  obtain ⟨rfl, hZ, hh⟩ := hP
  have hx := Bd.exec
  have hby := Bd.bytes
  have hml : c.maxLocals = 1 := hml0
  have hown : s.vm.findClass "java/lang/Character" = some m.cls := findClass_of_methodNamed Bd.named
  have hnm := (name_of_methodNamed Bd.named Bd.method).1
  have X0 : Stand p l e ({ frames := 0, cells := 0, slots := 0, locals := 0 } : Room) s m #[(.int ch)] below meth c s₁ [] 0 0 := Stand.of_body Bd
  have e0 : s₁.heap = h0 := by rw [← hh, Bd.state]; rfl
  have N0 := Fr.nil n0
  have K0 : Keep h0 h0 [] := Keep.refl _ _
  refine own_go (S' := s₁.setTop (mkF m 0 #[.val (.int ch)] [])) (fun tq kq => castTop (own_ef_rmHiJ m ch) kq) ?_
  refine own_go (fun tq kq => XS.iloadN X0.here hx rfl (hb hby own_d32_0) rfl kq) ?_
  show own_Rn p e below _ (s₁.setTop (mkF m 1 #[.val (.int ch)] [(.int ch)]))
  refine own_go (fun tq kq => X0.ldcInt hx hown (mvT hZ (hw _ (List.mem_of_getElem? (i := 128) rfl))) (g := (mkF m 1 #[.val (.int ch)] [(.int ch)])) rfl (hb hby own_d32_1) _ kq) ?_
  show own_Rn p e below _ (s₁.setTop (mkF m 3 #[.val (.int ch)] [(.int (55296 : Int32)), (.int ch)]))
  by_cases h1 : ch < (55296 : Int32)
  · skip
    refine own_go (fun tq kq => XS.icmpYes X0.here hx rfl (pc0 := 3) (pc' := 16) rfl (hb hby own_d32_3) rfl (tlt (h1 : ch < (55296 : Int32))).1 (by decide) (by decide) kq) ?_
    show own_Rn p e below _ (s₁.setTop (mkF m 16 #[.val (.int ch)] []))
    refine own_go (fun tq kq => XS.iconst X0.here hx rfl (hb hby own_d32_16) kq) ?_
    show own_Rn p e below _ (s₁.setTop (mkF m 17 #[.val (.int ch)] [(.int (0 : Int32))]))
    exact own_ret X0 (v := some (.int (nar .boolean (0 : Int32)))) (fun h => by rw [Bd.returns] at h; cases h) (fun fs hr => retN X0 hx (t := .boolean) Bd.returns (by simp) (hb hby own_d32_17) hr) (by rw [e0]; exact ⟨by rw [if_neg (fun g => g.1 h1)]; rfl, N0, rfl⟩) (by decide) (by decide)
  · skip
    refine own_go (fun tq kq => XS.icmpNo X0.here hx rfl (hb hby own_d32_3) rfl (flt (h1 : ¬ (ch < (55296 : Int32)))).1 kq) ?_
    show own_Rn p e below _ (s₁.setTop (mkF m 6 #[.val (.int ch)] []))
    refine own_go (fun tq kq => XS.iloadN X0.here hx rfl (hb hby own_d32_6) rfl kq) ?_
    show own_Rn p e below _ (s₁.setTop (mkF m 7 #[.val (.int ch)] [(.int ch)]))
    refine own_go (fun tq kq => X0.ldcInt hx hown (mvT hZ (hw _ (List.mem_of_getElem? (i := 145) rfl))) (g := (mkF m 7 #[.val (.int ch)] [(.int ch)])) rfl (hb hby own_d32_7) _ kq) ?_
    show own_Rn p e below _ (s₁.setTop (mkF m 9 #[.val (.int ch)] [(.int (56320 : Int32)), (.int ch)]))
    by_cases h2 : ch < (56320 : Int32)
    · skip
      refine own_go (fun tq kq => XS.icmpNo X0.here hx rfl (hb hby own_d32_9) rfl (tlt (h2 : ch < (56320 : Int32))).2.1 kq) ?_
      show own_Rn p e below _ (s₁.setTop (mkF m 12 #[.val (.int ch)] []))
      refine own_go (fun tq kq => XS.iconst X0.here hx rfl (hb hby own_d32_12) kq) ?_
      show own_Rn p e below _ (s₁.setTop (mkF m 13 #[.val (.int ch)] [(.int (1 : Int32))]))
      refine own_go (fun tq kq => XS.goto X0.here hx rfl (pc0 := 13) (pc' := 17) rfl (hb hby own_d32_13) (by decide) (by decide) kq) ?_
      show own_Rn p e below _ (s₁.setTop (mkF m 17 #[.val (.int ch)] [(.int (1 : Int32))]))
      exact own_ret X0 (v := some (.int (nar .boolean (1 : Int32)))) (fun h => by rw [Bd.returns] at h; cases h) (fun fs hr => retN X0 hx (t := .boolean) Bd.returns (by simp) (hb hby own_d32_17) hr) (by rw [e0]; exact ⟨by rw [if_pos (⟨h1, h2⟩)]; rfl, N0, rfl⟩) (by decide) (by decide)
    · skip
      refine own_go (fun tq kq => XS.icmpYes X0.here hx rfl (pc0 := 9) (pc' := 16) rfl (hb hby own_d32_9) rfl (flt (h2 : ¬ (ch < (56320 : Int32)))).2.1 (by decide) (by decide) kq) ?_
      show own_Rn p e below _ (s₁.setTop (mkF m 16 #[.val (.int ch)] []))
      refine own_go (fun tq kq => XS.iconst X0.here hx rfl (hb hby own_d32_16) kq) ?_
      show own_Rn p e below _ (s₁.setTop (mkF m 17 #[.val (.int ch)] [(.int (0 : Int32))]))
      exact own_ret X0 (v := some (.int (nar .boolean (0 : Int32)))) (fun h => by rw [Bd.returns] at h; cases h) (fun fs hr => retN X0 hx (t := .boolean) Bd.returns (by simp) (hb hby own_d32_17) hr) (by rw [e0]; exact ⟨by rw [if_neg (fun g => h2 g.2)]; rfl, N0, rfl⟩) (by decide) (by decide)
theorem own_ef_rmLoJ (m : MethodId) (ch : Int32) : entryFrame m #[(.int ch)] 1 = mkF m 0 #[.val (.int ch)] [] := by first | (simp [entryFrame, mkF, argsToLocals, Value.category]; done) | rfl
theorem own_d35_0 : decode jdk_89_method_15_code 0 = .ok (.iload_n 0, 1) := by decide +kernel
theorem own_d35_1 : decode jdk_89_method_15_code 1 = .ok (.ldc 76, 2) := by decide +kernel
theorem own_d35_3 : decode jdk_89_method_15_code 3 = .ok (.if_icmp .lt 13, 3) := by decide +kernel
theorem own_d35_16 : decode jdk_89_method_15_code 16 = .ok (.iconst 0, 1) := by decide +kernel
theorem own_d35_17 : decode jdk_89_method_15_code 17 = .ok (.ireturn, 1) := by decide +kernel
theorem own_d35_6 : decode jdk_89_method_15_code 6 = .ok (.iload_n 0, 1) := by decide +kernel
theorem own_d35_7 : decode jdk_89_method_15_code 7 = .ok (.ldc 77, 2) := by decide +kernel
theorem own_d35_9 : decode jdk_89_method_15_code 9 = .ok (.if_icmp .ge 7, 3) := by decide +kernel
theorem own_d35_12 : decode jdk_89_method_15_code 12 = .ok (.iconst 1, 1) := by decide +kernel
theorem own_d35_13 : decode jdk_89_method_15_code 13 = .ok (.goto 4, 3) := by decide +kernel
def Q_rmLoJ (Z : State) (ch : Int32) (h0 : Heap) (n0 : Nat) (v : Option Value) (h : Heap) (L : List Loc) : Prop := v = some (.int (if own_isLo ch then (1 : Int32) else 0)) ∧ Fr n0 L ∧ h = h0
set_option maxRecDepth 65536 in
set_option maxHeartbeats 40000000 in
theorem rmLoJ (l : Launch) (Z : State) (a0 : Array Value) (hw : ∀ d ∈ tables_1, d.before a0 Z = true) (ws : List Jvm.Cond) (ch : Int32) (h0 : Heap) (n0 : Nat) (Z0 : n0 ≤ h0.size)  :
    MetFree l (⟨"java/lang/Character", "isLowSurrogate", "(C)Z"⟩ : MethodName) (head1 (Jvm.Cond.code (⟨"java/lang/Character", "isLowSurrogate", "(C)Z"⟩ : MethodName) jdk_89_method_15_code 1 (some .boolean) :: ws) ({ frames := 0, cells := 0, slots := 0, locals := 0 } : Room)) (fun a U => a = #[(.int ch)] ∧ Z.Warmed39 U.vm ∧ U.heap = h0) (fun _ _ _ _ _ => True) (fun _ U o U' => ∃ v L, o = .returned v ∧ Q_rmLoJ Z ch h0 n0 v U'.heap L ∧ FrameEnd U o U' L ({ frames := 0, cells := 0, slots := 0, locals := 0 } : Room).cells ({ frames := 0, cells := 0, slots := 0, locals := 0 } : Room).slots) := by
  refine MetFree.of_bodySF (plainFor_of_name own_pn_java_lang_Character) hisR ?_
  intro p e s m args below meth c s₁ Bd hml0 hP hK
  obtain ⟨rfl, hZ, hh⟩ := hP
  have hx := Bd.exec
  have hby := Bd.bytes
  have hml : c.maxLocals = 1 := hml0
  have hown : s.vm.findClass "java/lang/Character" = some m.cls := findClass_of_methodNamed Bd.named
  have hnm := (name_of_methodNamed Bd.named Bd.method).1
  have X0 : Stand p l e ({ frames := 0, cells := 0, slots := 0, locals := 0 } : Room) s m #[(.int ch)] below meth c s₁ [] 0 0 := Stand.of_body Bd
  have e0 : s₁.heap = h0 := by rw [← hh, Bd.state]; rfl
  have N0 := Fr.nil n0
  have K0 : Keep h0 h0 [] := Keep.refl _ _
  refine own_go (S' := s₁.setTop (mkF m 0 #[.val (.int ch)] [])) (fun tq kq => castTop (own_ef_rmLoJ m ch) kq) ?_
  refine own_go (fun tq kq => XS.iloadN X0.here hx rfl (hb hby own_d35_0) rfl kq) ?_
  show own_Rn p e below _ (s₁.setTop (mkF m 1 #[.val (.int ch)] [(.int ch)]))
  refine own_go (fun tq kq => X0.ldcInt hx hown (mvT hZ (hw _ (List.mem_of_getElem? (i := 145) rfl))) (g := (mkF m 1 #[.val (.int ch)] [(.int ch)])) rfl (hb hby own_d35_1) _ kq) ?_
  show own_Rn p e below _ (s₁.setTop (mkF m 3 #[.val (.int ch)] [(.int (56320 : Int32)), (.int ch)]))
  by_cases h1 : ch < (56320 : Int32)
  · skip
    refine own_go (fun tq kq => XS.icmpYes X0.here hx rfl (pc0 := 3) (pc' := 16) rfl (hb hby own_d35_3) rfl (tlt (h1 : ch < (56320 : Int32))).1 (by decide) (by decide) kq) ?_
    show own_Rn p e below _ (s₁.setTop (mkF m 16 #[.val (.int ch)] []))
    refine own_go (fun tq kq => XS.iconst X0.here hx rfl (hb hby own_d35_16) kq) ?_
    show own_Rn p e below _ (s₁.setTop (mkF m 17 #[.val (.int ch)] [(.int (0 : Int32))]))
    exact own_ret X0 (v := some (.int (nar .boolean (0 : Int32)))) (fun h => by rw [Bd.returns] at h; cases h) (fun fs hr => retN X0 hx (t := .boolean) Bd.returns (by simp) (hb hby own_d35_17) hr) (by rw [e0]; exact ⟨by rw [if_neg (fun g => g.1 h1)]; rfl, N0, rfl⟩) (by decide) (by decide)
  · skip
    refine own_go (fun tq kq => XS.icmpNo X0.here hx rfl (hb hby own_d35_3) rfl (flt (h1 : ¬ (ch < (56320 : Int32)))).1 kq) ?_
    show own_Rn p e below _ (s₁.setTop (mkF m 6 #[.val (.int ch)] []))
    refine own_go (fun tq kq => XS.iloadN X0.here hx rfl (hb hby own_d35_6) rfl kq) ?_
    show own_Rn p e below _ (s₁.setTop (mkF m 7 #[.val (.int ch)] [(.int ch)]))
    refine own_go (fun tq kq => X0.ldcInt hx hown (mvT hZ (hw _ (List.mem_of_getElem? (i := 129) rfl))) (g := (mkF m 7 #[.val (.int ch)] [(.int ch)])) rfl (hb hby own_d35_7) _ kq) ?_
    show own_Rn p e below _ (s₁.setTop (mkF m 9 #[.val (.int ch)] [(.int (57344 : Int32)), (.int ch)]))
    by_cases h2 : ch < (57344 : Int32)
    · skip
      refine own_go (fun tq kq => XS.icmpNo X0.here hx rfl (hb hby own_d35_9) rfl (tlt (h2 : ch < (57344 : Int32))).2.1 kq) ?_
      show own_Rn p e below _ (s₁.setTop (mkF m 12 #[.val (.int ch)] []))
      refine own_go (fun tq kq => XS.iconst X0.here hx rfl (hb hby own_d35_12) kq) ?_
      show own_Rn p e below _ (s₁.setTop (mkF m 13 #[.val (.int ch)] [(.int (1 : Int32))]))
      refine own_go (fun tq kq => XS.goto X0.here hx rfl (pc0 := 13) (pc' := 17) rfl (hb hby own_d35_13) (by decide) (by decide) kq) ?_
      show own_Rn p e below _ (s₁.setTop (mkF m 17 #[.val (.int ch)] [(.int (1 : Int32))]))
      exact own_ret X0 (v := some (.int (nar .boolean (1 : Int32)))) (fun h => by rw [Bd.returns] at h; cases h) (fun fs hr => retN X0 hx (t := .boolean) Bd.returns (by simp) (hb hby own_d35_17) hr) (by rw [e0]; exact ⟨by rw [if_pos (⟨h1, h2⟩)]; rfl, N0, rfl⟩) (by decide) (by decide)
    · skip
      refine own_go (fun tq kq => XS.icmpYes X0.here hx rfl (pc0 := 9) (pc' := 16) rfl (hb hby own_d35_9) rfl (flt (h2 : ¬ (ch < (57344 : Int32)))).2.1 (by decide) (by decide) kq) ?_
      show own_Rn p e below _ (s₁.setTop (mkF m 16 #[.val (.int ch)] []))
      refine own_go (fun tq kq => XS.iconst X0.here hx rfl (hb hby own_d35_16) kq) ?_
      show own_Rn p e below _ (s₁.setTop (mkF m 17 #[.val (.int ch)] [(.int (0 : Int32))]))
      exact own_ret X0 (v := some (.int (nar .boolean (0 : Int32)))) (fun h => by rw [Bd.returns] at h; cases h) (fun fs hr => retN X0 hx (t := .boolean) Bd.returns (by simp) (hb hby own_d35_17) hr) (by rw [e0]; exact ⟨by rw [if_neg (fun g => h2 g.2)]; rfl, N0, rfl⟩) (by decide) (by decide)
theorem own_ef_rmSuJ (m : MethodId) (ch : Int32) : entryFrame m #[(.int ch)] 1 = mkF m 0 #[.val (.int ch)] [] := by first | (simp [entryFrame, mkF, argsToLocals, Value.category]; done) | rfl
theorem own_d28_0 : decode jdk_89_method_16_code 0 = .ok (.iload_n 0, 1) := by decide +kernel
theorem own_d28_1 : decode jdk_89_method_16_code 1 = .ok (.ldc 75, 2) := by decide +kernel
theorem own_d28_3 : decode jdk_89_method_16_code 3 = .ok (.if_icmp .lt 13, 3) := by decide +kernel
theorem own_d28_16 : decode jdk_89_method_16_code 16 = .ok (.iconst 0, 1) := by decide +kernel
theorem own_d28_17 : decode jdk_89_method_16_code 17 = .ok (.ireturn, 1) := by decide +kernel
theorem own_d28_6 : decode jdk_89_method_16_code 6 = .ok (.iload_n 0, 1) := by decide +kernel
theorem own_d28_7 : decode jdk_89_method_16_code 7 = .ok (.ldc 77, 2) := by decide +kernel
theorem own_d28_9 : decode jdk_89_method_16_code 9 = .ok (.if_icmp .ge 7, 3) := by decide +kernel
theorem own_d28_12 : decode jdk_89_method_16_code 12 = .ok (.iconst 1, 1) := by decide +kernel
theorem own_d28_13 : decode jdk_89_method_16_code 13 = .ok (.goto 4, 3) := by decide +kernel
def Q_rmSuJ (Z : State) (ch : Int32) (h0 : Heap) (n0 : Nat) (v : Option Value) (h : Heap) (L : List Loc) : Prop := v = some (.int (if own_isSur ch then (1 : Int32) else 0)) ∧ Fr n0 L ∧ h = h0
set_option maxRecDepth 65536 in
set_option maxHeartbeats 40000000 in
theorem rmSuJ (l : Launch) (Z : State) (a0 : Array Value) (hw : ∀ d ∈ tables_1, d.before a0 Z = true) (ws : List Jvm.Cond) (ch : Int32) (h0 : Heap) (n0 : Nat) (Z0 : n0 ≤ h0.size)  :
    MetFree l (⟨"java/lang/Character", "isSurrogate", "(C)Z"⟩ : MethodName) (head1 (Jvm.Cond.code (⟨"java/lang/Character", "isSurrogate", "(C)Z"⟩ : MethodName) jdk_89_method_16_code 1 (some .boolean) :: ws) ({ frames := 0, cells := 0, slots := 0, locals := 0 } : Room)) (fun a U => a = #[(.int ch)] ∧ Z.Warmed39 U.vm ∧ U.heap = h0) (fun _ _ _ _ _ => True) (fun _ U o U' => ∃ v L, o = .returned v ∧ Q_rmSuJ Z ch h0 n0 v U'.heap L ∧ FrameEnd U o U' L ({ frames := 0, cells := 0, slots := 0, locals := 0 } : Room).cells ({ frames := 0, cells := 0, slots := 0, locals := 0 } : Room).slots) := by
  refine MetFree.of_bodySF (plainFor_of_name own_pn_java_lang_Character) hisR ?_
  intro p e s m args below meth c s₁ Bd hml0 hP hK
  obtain ⟨rfl, hZ, hh⟩ := hP
  have hx := Bd.exec
  have hby := Bd.bytes
  have hml : c.maxLocals = 1 := hml0
  have hown : s.vm.findClass "java/lang/Character" = some m.cls := findClass_of_methodNamed Bd.named
  have hnm := (name_of_methodNamed Bd.named Bd.method).1
  have X0 : Stand p l e ({ frames := 0, cells := 0, slots := 0, locals := 0 } : Room) s m #[(.int ch)] below meth c s₁ [] 0 0 := Stand.of_body Bd
  have e0 : s₁.heap = h0 := by rw [← hh, Bd.state]; rfl
  have N0 := Fr.nil n0
  have K0 : Keep h0 h0 [] := Keep.refl _ _
  refine own_go (S' := s₁.setTop (mkF m 0 #[.val (.int ch)] [])) (fun tq kq => castTop (own_ef_rmSuJ m ch) kq) ?_
  refine own_go (fun tq kq => XS.iloadN X0.here hx rfl (hb hby own_d28_0) rfl kq) ?_
  show own_Rn p e below _ (s₁.setTop (mkF m 1 #[.val (.int ch)] [(.int ch)]))
  refine own_go (fun tq kq => X0.ldcInt hx hown (mvT hZ (hw _ (List.mem_of_getElem? (i := 128) rfl))) (g := (mkF m 1 #[.val (.int ch)] [(.int ch)])) rfl (hb hby own_d28_1) _ kq) ?_
  show own_Rn p e below _ (s₁.setTop (mkF m 3 #[.val (.int ch)] [(.int (55296 : Int32)), (.int ch)]))
  by_cases h1 : ch < (55296 : Int32)
  · skip
    refine own_go (fun tq kq => XS.icmpYes X0.here hx rfl (pc0 := 3) (pc' := 16) rfl (hb hby own_d28_3) rfl (tlt (h1 : ch < (55296 : Int32))).1 (by decide) (by decide) kq) ?_
    show own_Rn p e below _ (s₁.setTop (mkF m 16 #[.val (.int ch)] []))
    refine own_go (fun tq kq => XS.iconst X0.here hx rfl (hb hby own_d28_16) kq) ?_
    show own_Rn p e below _ (s₁.setTop (mkF m 17 #[.val (.int ch)] [(.int (0 : Int32))]))
    exact own_ret X0 (v := some (.int (nar .boolean (0 : Int32)))) (fun h => by rw [Bd.returns] at h; cases h) (fun fs hr => retN X0 hx (t := .boolean) Bd.returns (by simp) (hb hby own_d28_17) hr) (by rw [e0]; exact ⟨by rw [if_neg (fun g => g.1 h1)]; rfl, N0, rfl⟩) (by decide) (by decide)
  · skip
    refine own_go (fun tq kq => XS.icmpNo X0.here hx rfl (hb hby own_d28_3) rfl (flt (h1 : ¬ (ch < (55296 : Int32)))).1 kq) ?_
    show own_Rn p e below _ (s₁.setTop (mkF m 6 #[.val (.int ch)] []))
    refine own_go (fun tq kq => XS.iloadN X0.here hx rfl (hb hby own_d28_6) rfl kq) ?_
    show own_Rn p e below _ (s₁.setTop (mkF m 7 #[.val (.int ch)] [(.int ch)]))
    refine own_go (fun tq kq => X0.ldcInt hx hown (mvT hZ (hw _ (List.mem_of_getElem? (i := 129) rfl))) (g := (mkF m 7 #[.val (.int ch)] [(.int ch)])) rfl (hb hby own_d28_7) _ kq) ?_
    show own_Rn p e below _ (s₁.setTop (mkF m 9 #[.val (.int ch)] [(.int (57344 : Int32)), (.int ch)]))
    by_cases h2 : ch < (57344 : Int32)
    · skip
      refine own_go (fun tq kq => XS.icmpNo X0.here hx rfl (hb hby own_d28_9) rfl (tlt (h2 : ch < (57344 : Int32))).2.1 kq) ?_
      show own_Rn p e below _ (s₁.setTop (mkF m 12 #[.val (.int ch)] []))
      refine own_go (fun tq kq => XS.iconst X0.here hx rfl (hb hby own_d28_12) kq) ?_
      show own_Rn p e below _ (s₁.setTop (mkF m 13 #[.val (.int ch)] [(.int (1 : Int32))]))
      refine own_go (fun tq kq => XS.goto X0.here hx rfl (pc0 := 13) (pc' := 17) rfl (hb hby own_d28_13) (by decide) (by decide) kq) ?_
      show own_Rn p e below _ (s₁.setTop (mkF m 17 #[.val (.int ch)] [(.int (1 : Int32))]))
      exact own_ret X0 (v := some (.int (nar .boolean (1 : Int32)))) (fun h => by rw [Bd.returns] at h; cases h) (fun fs hr => retN X0 hx (t := .boolean) Bd.returns (by simp) (hb hby own_d28_17) hr) (by rw [e0]; exact ⟨by rw [if_pos (⟨h1, h2⟩)]; rfl, N0, rfl⟩) (by decide) (by decide)
    · skip
      refine own_go (fun tq kq => XS.icmpYes X0.here hx rfl (pc0 := 9) (pc' := 16) rfl (hb hby own_d28_9) rfl (flt (h2 : ¬ (ch < (57344 : Int32)))).2.1 (by decide) (by decide) kq) ?_
      show own_Rn p e below _ (s₁.setTop (mkF m 16 #[.val (.int ch)] []))
      refine own_go (fun tq kq => XS.iconst X0.here hx rfl (hb hby own_d28_16) kq) ?_
      show own_Rn p e below _ (s₁.setTop (mkF m 17 #[.val (.int ch)] [(.int (0 : Int32))]))
      exact own_ret X0 (v := some (.int (nar .boolean (0 : Int32)))) (fun h => by rw [Bd.returns] at h; cases h) (fun fs hr => retN X0 hx (t := .boolean) Bd.returns (by simp) (hb hby own_d28_17) hr) (by rw [e0]; exact ⟨by rw [if_neg (fun g => h2 g.2)]; rfl, N0, rfl⟩) (by decide) (by decide)
theorem own_ef_rmHiL (m : MethodId) (ch : Int32) : entryFrame m #[(.int ch)] 1 = mkF m 0 #[.val (.int ch)] [] := by first | (simp [entryFrame, mkF, argsToLocals, Value.category]; done) | rfl
theorem own_pn_com_example_words_into_queries_wordsintoqueries_CodePointOrderComparePinLaw : plainName "com/example/words_into_queries/wordsintoqueries/CodePointOrderComparePinLaw" = true := by first | (simp [plainName, overriddenIn]; done) | decide +kernel
theorem own_d33_0 : decode method_4_code 0 = .ok (.iload_n 0, 1) := by decide +kernel
theorem own_d33_1 : decode method_4_code 1 = .ok (.ldc 9, 2) := by decide +kernel
theorem own_d33_3 : decode method_4_code 3 = .ok (.if_icmp .lt 13, 3) := by decide +kernel
theorem own_d33_16 : decode method_4_code 16 = .ok (.iconst 0, 1) := by decide +kernel
theorem own_d33_17 : decode method_4_code 17 = .ok (.ireturn, 1) := by decide +kernel
theorem own_d33_6 : decode method_4_code 6 = .ok (.iload_n 0, 1) := by decide +kernel
theorem own_d33_7 : decode method_4_code 7 = .ok (.ldc 10, 2) := by decide +kernel
theorem own_d33_9 : decode method_4_code 9 = .ok (.if_icmp .gt 7, 3) := by decide +kernel
theorem own_d33_12 : decode method_4_code 12 = .ok (.iconst 1, 1) := by decide +kernel
theorem own_d33_13 : decode method_4_code 13 = .ok (.goto 4, 3) := by decide +kernel
def Q_rmHiL (Z : State) (ch : Int32) (h0 : Heap) (n0 : Nat) (v : Option Value) (h : Heap) (L : List Loc) : Prop := v = some (.int (if own_isHi ch then (1 : Int32) else 0)) ∧ Fr n0 L ∧ h = h0
set_option maxRecDepth 65536 in
set_option maxHeartbeats 40000000 in
theorem rmHiL (l : Launch) (Z : State) (a0 : Array Value) (hw : ∀ d ∈ tables_1, d.before a0 Z = true) (ws : List Jvm.Cond) (ch : Int32) (h0 : Heap) (n0 : Nat) (Z0 : n0 ≤ h0.size)  :
    MetFree l (⟨"com/example/words_into_queries/wordsintoqueries/CodePointOrderComparePinLaw", "high", "(C)Z"⟩ : MethodName) (head1 (Jvm.Cond.code (⟨"com/example/words_into_queries/wordsintoqueries/CodePointOrderComparePinLaw", "high", "(C)Z"⟩ : MethodName) method_4_code 1 (some .boolean) :: ws) ({ frames := 0, cells := 0, slots := 0, locals := 0 } : Room)) (fun a U => a = #[(.int ch)] ∧ Z.Warmed39 U.vm ∧ U.heap = h0) (fun _ _ _ _ _ => True) (fun _ U o U' => ∃ v L, o = .returned v ∧ Q_rmHiL Z ch h0 n0 v U'.heap L ∧ FrameEnd U o U' L ({ frames := 0, cells := 0, slots := 0, locals := 0 } : Room).cells ({ frames := 0, cells := 0, slots := 0, locals := 0 } : Room).slots) := by
  refine MetFree.of_bodySF (plainFor_of_name own_pn_com_example_words_into_queries_wordsintoqueries_CodePointOrderComparePinLaw) hisR ?_
  intro p e s m args below meth c s₁ Bd hml0 hP hK
  obtain ⟨rfl, hZ, hh⟩ := hP
  have hx := Bd.exec
  have hby := Bd.bytes
  have hml : c.maxLocals = 1 := hml0
  have hown : s.vm.findClass "com/example/words_into_queries/wordsintoqueries/CodePointOrderComparePinLaw" = some m.cls := findClass_of_methodNamed Bd.named
  have hnm := (name_of_methodNamed Bd.named Bd.method).1
  have X0 : Stand p l e ({ frames := 0, cells := 0, slots := 0, locals := 0 } : Room) s m #[(.int ch)] below meth c s₁ [] 0 0 := Stand.of_body Bd
  have e0 : s₁.heap = h0 := by rw [← hh, Bd.state]; rfl
  have N0 := Fr.nil n0
  have K0 : Keep h0 h0 [] := Keep.refl _ _
  refine own_go (S' := s₁.setTop (mkF m 0 #[.val (.int ch)] [])) (fun tq kq => castTop (own_ef_rmHiL m ch) kq) ?_
  refine own_go (fun tq kq => XS.iloadN X0.here hx rfl (hb hby own_d33_0) rfl kq) ?_
  show own_Rn p e below _ (s₁.setTop (mkF m 1 #[.val (.int ch)] [(.int ch)]))
  refine own_go (fun tq kq => X0.ldcInt hx hown (mvT hZ (hw _ (List.mem_of_getElem? (i := 6) rfl))) (g := (mkF m 1 #[.val (.int ch)] [(.int ch)])) rfl (hb hby own_d33_1) _ kq) ?_
  show own_Rn p e below _ (s₁.setTop (mkF m 3 #[.val (.int ch)] [(.int (55296 : Int32)), (.int ch)]))
  by_cases h1 : ch < (55296 : Int32)
  · skip
    refine own_go (fun tq kq => XS.icmpYes X0.here hx rfl (pc0 := 3) (pc' := 16) rfl (hb hby own_d33_3) rfl (tlt (h1 : ch < (55296 : Int32))).1 (by decide) (by decide) kq) ?_
    show own_Rn p e below _ (s₁.setTop (mkF m 16 #[.val (.int ch)] []))
    refine own_go (fun tq kq => XS.iconst X0.here hx rfl (hb hby own_d33_16) kq) ?_
    show own_Rn p e below _ (s₁.setTop (mkF m 17 #[.val (.int ch)] [(.int (0 : Int32))]))
    exact own_ret X0 (v := some (.int (nar .boolean (0 : Int32)))) (fun h => by rw [Bd.returns] at h; cases h) (fun fs hr => retN X0 hx (t := .boolean) Bd.returns (by simp) (hb hby own_d33_17) hr) (by rw [e0]; exact ⟨by rw [if_neg (fun g => g.1 h1)]; rfl, N0, rfl⟩) (by decide) (by decide)
  · skip
    refine own_go (fun tq kq => XS.icmpNo X0.here hx rfl (hb hby own_d33_3) rfl (flt (h1 : ¬ (ch < (55296 : Int32)))).1 kq) ?_
    show own_Rn p e below _ (s₁.setTop (mkF m 6 #[.val (.int ch)] []))
    refine own_go (fun tq kq => XS.iloadN X0.here hx rfl (hb hby own_d33_6) rfl kq) ?_
    show own_Rn p e below _ (s₁.setTop (mkF m 7 #[.val (.int ch)] [(.int ch)]))
    refine own_go (fun tq kq => X0.ldcInt hx hown (mvT hZ (hw _ (List.mem_of_getElem? (i := 7) rfl))) (g := (mkF m 7 #[.val (.int ch)] [(.int ch)])) rfl (hb hby own_d33_7) _ kq) ?_
    show own_Rn p e below _ (s₁.setTop (mkF m 9 #[.val (.int ch)] [(.int (56319 : Int32)), (.int ch)]))
    by_cases h2 : (56319 : Int32) < ch
    · skip
      refine own_go (fun tq kq => XS.icmpYes X0.here hx rfl (pc0 := 9) (pc' := 16) rfl (hb hby own_d33_9) rfl (tlt (h2 : (56319 : Int32) < ch)).2.2.1 (by decide) (by decide) kq) ?_
      show own_Rn p e below _ (s₁.setTop (mkF m 16 #[.val (.int ch)] []))
      refine own_go (fun tq kq => XS.iconst X0.here hx rfl (hb hby own_d33_16) kq) ?_
      show own_Rn p e below _ (s₁.setTop (mkF m 17 #[.val (.int ch)] [(.int (0 : Int32))]))
      exact own_ret X0 (v := some (.int (nar .boolean (0 : Int32)))) (fun h => by rw [Bd.returns] at h; cases h) (fun fs hr => retN X0 hx (t := .boolean) Bd.returns (by simp) (hb hby own_d33_17) hr) (by rw [e0]; exact ⟨by rw [if_neg (fun g => (own_hi2 ch).mpr g.2 h2)]; rfl, N0, rfl⟩) (by decide) (by decide)
    · skip
      refine own_go (fun tq kq => XS.icmpNo X0.here hx rfl (hb hby own_d33_9) rfl (flt (h2 : ¬ ((56319 : Int32) < ch))).2.2.1 kq) ?_
      show own_Rn p e below _ (s₁.setTop (mkF m 12 #[.val (.int ch)] []))
      refine own_go (fun tq kq => XS.iconst X0.here hx rfl (hb hby own_d33_12) kq) ?_
      show own_Rn p e below _ (s₁.setTop (mkF m 13 #[.val (.int ch)] [(.int (1 : Int32))]))
      refine own_go (fun tq kq => XS.goto X0.here hx rfl (pc0 := 13) (pc' := 17) rfl (hb hby own_d33_13) (by decide) (by decide) kq) ?_
      show own_Rn p e below _ (s₁.setTop (mkF m 17 #[.val (.int ch)] [(.int (1 : Int32))]))
      exact own_ret X0 (v := some (.int (nar .boolean (1 : Int32)))) (fun h => by rw [Bd.returns] at h; cases h) (fun fs hr => retN X0 hx (t := .boolean) Bd.returns (by simp) (hb hby own_d33_17) hr) (by rw [e0]; exact ⟨by rw [if_pos (⟨h1, (own_hi2 ch).mp h2⟩)]; rfl, N0, rfl⟩) (by decide) (by decide)
theorem own_ef_rmLoL (m : MethodId) (ch : Int32) : entryFrame m #[(.int ch)] 1 = mkF m 0 #[.val (.int ch)] [] := by first | (simp [entryFrame, mkF, argsToLocals, Value.category]; done) | rfl
theorem own_d37_0 : decode method_5_code 0 = .ok (.iload_n 0, 1) := by decide +kernel
theorem own_d37_1 : decode method_5_code 1 = .ok (.ldc 11, 2) := by decide +kernel
theorem own_d37_3 : decode method_5_code 3 = .ok (.if_icmp .lt 13, 3) := by decide +kernel
theorem own_d37_16 : decode method_5_code 16 = .ok (.iconst 0, 1) := by decide +kernel
theorem own_d37_17 : decode method_5_code 17 = .ok (.ireturn, 1) := by decide +kernel
theorem own_d37_6 : decode method_5_code 6 = .ok (.iload_n 0, 1) := by decide +kernel
theorem own_d37_7 : decode method_5_code 7 = .ok (.ldc 12, 2) := by decide +kernel
theorem own_d37_9 : decode method_5_code 9 = .ok (.if_icmp .gt 7, 3) := by decide +kernel
theorem own_d37_12 : decode method_5_code 12 = .ok (.iconst 1, 1) := by decide +kernel
theorem own_d37_13 : decode method_5_code 13 = .ok (.goto 4, 3) := by decide +kernel
def Q_rmLoL (Z : State) (ch : Int32) (h0 : Heap) (n0 : Nat) (v : Option Value) (h : Heap) (L : List Loc) : Prop := v = some (.int (if own_isLo ch then (1 : Int32) else 0)) ∧ Fr n0 L ∧ h = h0
set_option maxRecDepth 65536 in
set_option maxHeartbeats 40000000 in
theorem rmLoL (l : Launch) (Z : State) (a0 : Array Value) (hw : ∀ d ∈ tables_1, d.before a0 Z = true) (ws : List Jvm.Cond) (ch : Int32) (h0 : Heap) (n0 : Nat) (Z0 : n0 ≤ h0.size)  :
    MetFree l (⟨"com/example/words_into_queries/wordsintoqueries/CodePointOrderComparePinLaw", "low", "(C)Z"⟩ : MethodName) (head1 (Jvm.Cond.code (⟨"com/example/words_into_queries/wordsintoqueries/CodePointOrderComparePinLaw", "low", "(C)Z"⟩ : MethodName) method_5_code 1 (some .boolean) :: ws) ({ frames := 0, cells := 0, slots := 0, locals := 0 } : Room)) (fun a U => a = #[(.int ch)] ∧ Z.Warmed39 U.vm ∧ U.heap = h0) (fun _ _ _ _ _ => True) (fun _ U o U' => ∃ v L, o = .returned v ∧ Q_rmLoL Z ch h0 n0 v U'.heap L ∧ FrameEnd U o U' L ({ frames := 0, cells := 0, slots := 0, locals := 0 } : Room).cells ({ frames := 0, cells := 0, slots := 0, locals := 0 } : Room).slots) := by
  refine MetFree.of_bodySF (plainFor_of_name own_pn_com_example_words_into_queries_wordsintoqueries_CodePointOrderComparePinLaw) hisR ?_
  intro p e s m args below meth c s₁ Bd hml0 hP hK
  obtain ⟨rfl, hZ, hh⟩ := hP
  have hx := Bd.exec
  have hby := Bd.bytes
  have hml : c.maxLocals = 1 := hml0
  have hown : s.vm.findClass "com/example/words_into_queries/wordsintoqueries/CodePointOrderComparePinLaw" = some m.cls := findClass_of_methodNamed Bd.named
  have hnm := (name_of_methodNamed Bd.named Bd.method).1
  have X0 : Stand p l e ({ frames := 0, cells := 0, slots := 0, locals := 0 } : Room) s m #[(.int ch)] below meth c s₁ [] 0 0 := Stand.of_body Bd
  have e0 : s₁.heap = h0 := by rw [← hh, Bd.state]; rfl
  have N0 := Fr.nil n0
  have K0 : Keep h0 h0 [] := Keep.refl _ _
  refine own_go (S' := s₁.setTop (mkF m 0 #[.val (.int ch)] [])) (fun tq kq => castTop (own_ef_rmLoL m ch) kq) ?_
  refine own_go (fun tq kq => XS.iloadN X0.here hx rfl (hb hby own_d37_0) rfl kq) ?_
  show own_Rn p e below _ (s₁.setTop (mkF m 1 #[.val (.int ch)] [(.int ch)]))
  refine own_go (fun tq kq => X0.ldcInt hx hown (mvT hZ (hw _ (List.mem_of_getElem? (i := 8) rfl))) (g := (mkF m 1 #[.val (.int ch)] [(.int ch)])) rfl (hb hby own_d37_1) _ kq) ?_
  show own_Rn p e below _ (s₁.setTop (mkF m 3 #[.val (.int ch)] [(.int (56320 : Int32)), (.int ch)]))
  by_cases h1 : ch < (56320 : Int32)
  · skip
    refine own_go (fun tq kq => XS.icmpYes X0.here hx rfl (pc0 := 3) (pc' := 16) rfl (hb hby own_d37_3) rfl (tlt (h1 : ch < (56320 : Int32))).1 (by decide) (by decide) kq) ?_
    show own_Rn p e below _ (s₁.setTop (mkF m 16 #[.val (.int ch)] []))
    refine own_go (fun tq kq => XS.iconst X0.here hx rfl (hb hby own_d37_16) kq) ?_
    show own_Rn p e below _ (s₁.setTop (mkF m 17 #[.val (.int ch)] [(.int (0 : Int32))]))
    exact own_ret X0 (v := some (.int (nar .boolean (0 : Int32)))) (fun h => by rw [Bd.returns] at h; cases h) (fun fs hr => retN X0 hx (t := .boolean) Bd.returns (by simp) (hb hby own_d37_17) hr) (by rw [e0]; exact ⟨by rw [if_neg (fun g => g.1 h1)]; rfl, N0, rfl⟩) (by decide) (by decide)
  · skip
    refine own_go (fun tq kq => XS.icmpNo X0.here hx rfl (hb hby own_d37_3) rfl (flt (h1 : ¬ (ch < (56320 : Int32)))).1 kq) ?_
    show own_Rn p e below _ (s₁.setTop (mkF m 6 #[.val (.int ch)] []))
    refine own_go (fun tq kq => XS.iloadN X0.here hx rfl (hb hby own_d37_6) rfl kq) ?_
    show own_Rn p e below _ (s₁.setTop (mkF m 7 #[.val (.int ch)] [(.int ch)]))
    refine own_go (fun tq kq => X0.ldcInt hx hown (mvT hZ (hw _ (List.mem_of_getElem? (i := 9) rfl))) (g := (mkF m 7 #[.val (.int ch)] [(.int ch)])) rfl (hb hby own_d37_7) _ kq) ?_
    show own_Rn p e below _ (s₁.setTop (mkF m 9 #[.val (.int ch)] [(.int (57343 : Int32)), (.int ch)]))
    by_cases h2 : (57343 : Int32) < ch
    · skip
      refine own_go (fun tq kq => XS.icmpYes X0.here hx rfl (pc0 := 9) (pc' := 16) rfl (hb hby own_d37_9) rfl (tlt (h2 : (57343 : Int32) < ch)).2.2.1 (by decide) (by decide) kq) ?_
      show own_Rn p e below _ (s₁.setTop (mkF m 16 #[.val (.int ch)] []))
      refine own_go (fun tq kq => XS.iconst X0.here hx rfl (hb hby own_d37_16) kq) ?_
      show own_Rn p e below _ (s₁.setTop (mkF m 17 #[.val (.int ch)] [(.int (0 : Int32))]))
      exact own_ret X0 (v := some (.int (nar .boolean (0 : Int32)))) (fun h => by rw [Bd.returns] at h; cases h) (fun fs hr => retN X0 hx (t := .boolean) Bd.returns (by simp) (hb hby own_d37_17) hr) (by rw [e0]; exact ⟨by rw [if_neg (fun g => (own_lo2 ch).mpr g.2 h2)]; rfl, N0, rfl⟩) (by decide) (by decide)
    · skip
      refine own_go (fun tq kq => XS.icmpNo X0.here hx rfl (hb hby own_d37_9) rfl (flt (h2 : ¬ ((57343 : Int32) < ch))).2.2.1 kq) ?_
      show own_Rn p e below _ (s₁.setTop (mkF m 12 #[.val (.int ch)] []))
      refine own_go (fun tq kq => XS.iconst X0.here hx rfl (hb hby own_d37_12) kq) ?_
      show own_Rn p e below _ (s₁.setTop (mkF m 13 #[.val (.int ch)] [(.int (1 : Int32))]))
      refine own_go (fun tq kq => XS.goto X0.here hx rfl (pc0 := 13) (pc' := 17) rfl (hb hby own_d37_13) (by decide) (by decide) kq) ?_
      show own_Rn p e below _ (s₁.setTop (mkF m 17 #[.val (.int ch)] [(.int (1 : Int32))]))
      exact own_ret X0 (v := some (.int (nar .boolean (1 : Int32)))) (fun h => by rw [Bd.returns] at h; cases h) (fun fs hr => retN X0 hx (t := .boolean) Bd.returns (by simp) (hb hby own_d37_17) hr) (by rw [e0]; exact ⟨by rw [if_pos (⟨h1, (own_lo2 ch).mp h2⟩)]; rfl, N0, rfl⟩) (by decide) (by decide)
theorem own_ef_rmPCn (m : MethodId) (qq : Nat) (nn : Nat) : entryFrame m #[(.int (Int32.ofNat qq)), (.int (Int32.ofNat nn)), .null] 3 = mkF m 0 #[.val (.int (Int32.ofNat qq)), .val (.int (Int32.ofNat nn)), .val .null] [] := by first | (simp [entryFrame, mkF, argsToLocals, Value.category]; done) | rfl
theorem own_pn_jdk_internal_util_Preconditions : plainName "jdk/internal/util/Preconditions" = true := by first | (simp [plainName, overriddenIn]; done) | decide +kernel
theorem own_d27_0 : decode jdk_41_method_11_code 0 = .ok (.iload_n 0, 1) := by decide +kernel
theorem own_d27_1 : decode jdk_41_method_11_code 1 = .ok (.ifCond .lt 8, 3) := by decide +kernel
theorem own_d27_4 : decode jdk_41_method_11_code 4 = .ok (.iload_n 0, 1) := by decide +kernel
theorem own_d27_5 : decode jdk_41_method_11_code 5 = .ok (.iload_n 1, 1) := by decide +kernel
theorem own_d27_6 : decode jdk_41_method_11_code 6 = .ok (.if_icmp .lt 10, 3) := by decide +kernel
theorem own_d27_16 : decode jdk_41_method_11_code 16 = .ok (.iload_n 0, 1) := by decide +kernel
theorem own_d27_17 : decode jdk_41_method_11_code 17 = .ok (.ireturn, 1) := by decide +kernel
def Q_rmPCn (Z : State) (qq : Nat) (nn : Nat) (h0 : Heap) (n0 : Nat) (v : Option Value) (h : Heap) (L : List Loc) : Prop := v = some (.int (Int32.ofNat qq)) ∧ Fr n0 L ∧ h = h0
set_option maxRecDepth 65536 in
set_option maxHeartbeats 40000000 in
theorem rmPCn (l : Launch) (Z : State) (a0 : Array Value) (hw : ∀ d ∈ tables_1, d.before a0 Z = true) (ws : List Jvm.Cond) (qq : Nat) (nn : Nat) (h0 : Heap) (n0 : Nat) (Z0 : n0 ≤ h0.size) (hq : (qq < nn)) (hn : (nn ≤ 6)) :
    MetFree l (⟨"jdk/internal/util/Preconditions", "checkIndex", "(IILjava/util/function/BiFunction;)I"⟩ : MethodName) (head1 (Jvm.Cond.code (⟨"jdk/internal/util/Preconditions", "checkIndex", "(IILjava/util/function/BiFunction;)I"⟩ : MethodName) jdk_41_method_11_code 3 (some .int) :: ws) ({ frames := 0, cells := 0, slots := 0, locals := 0 } : Room)) (fun a U => a = #[(.int (Int32.ofNat qq)), (.int (Int32.ofNat nn)), .null] ∧ Z.Warmed39 U.vm ∧ U.heap = h0) (fun _ _ _ _ _ => True) (fun _ U o U' => ∃ v L, o = .returned v ∧ Q_rmPCn Z qq nn h0 n0 v U'.heap L ∧ FrameEnd U o U' L ({ frames := 0, cells := 0, slots := 0, locals := 0 } : Room).cells ({ frames := 0, cells := 0, slots := 0, locals := 0 } : Room).slots) := by
  refine MetFree.of_bodySF (plainFor_of_name own_pn_jdk_internal_util_Preconditions) hisR ?_
  intro p e s m args below meth c s₁ Bd hml0 hP hK
  obtain ⟨rfl, hZ, hh⟩ := hP
  have hx := Bd.exec
  have hby := Bd.bytes
  have hml : c.maxLocals = 3 := hml0
  have hown : s.vm.findClass "jdk/internal/util/Preconditions" = some m.cls := findClass_of_methodNamed Bd.named
  have hnm := (name_of_methodNamed Bd.named Bd.method).1
  have X0 : Stand p l e ({ frames := 0, cells := 0, slots := 0, locals := 0 } : Room) s m #[(.int (Int32.ofNat qq)), (.int (Int32.ofNat nn)), .null] below meth c s₁ [] 0 0 := Stand.of_body Bd
  have e0 : s₁.heap = h0 := by rw [← hh, Bd.state]; rfl
  have N0 := Fr.nil n0
  have K0 : Keep h0 h0 [] := Keep.refl _ _
  refine own_go (S' := s₁.setTop (mkF m 0 #[.val (.int (Int32.ofNat qq)), .val (.int (Int32.ofNat nn)), .val .null] [])) (fun tq kq => castTop (own_ef_rmPCn m qq nn) kq) ?_
  refine own_go (fun tq kq => XS.iloadN X0.here hx rfl (hb hby own_d27_0) rfl kq) ?_
  show own_Rn p e below _ (s₁.setTop (mkF m 1 #[.val (.int (Int32.ofNat qq)), .val (.int (Int32.ofNat nn)), .val .null] [(.int (Int32.ofNat qq))]))
  refine own_go (fun tq kq => XS.ifNo X0.here hx rfl (hb hby own_d27_1) rfl ((if0 _ _).trans (flt (own_nneg (by omega) : ¬ ((Int32.ofNat qq) < (0 : Int32)))).1) kq) ?_
  show own_Rn p e below _ (s₁.setTop (mkF m 4 #[.val (.int (Int32.ofNat qq)), .val (.int (Int32.ofNat nn)), .val .null] []))
  refine own_go (fun tq kq => XS.iloadN X0.here hx rfl (hb hby own_d27_4) rfl kq) ?_
  show own_Rn p e below _ (s₁.setTop (mkF m 5 #[.val (.int (Int32.ofNat qq)), .val (.int (Int32.ofNat nn)), .val .null] [(.int (Int32.ofNat qq))]))
  refine own_go (fun tq kq => XS.iloadN X0.here hx rfl (hb hby own_d27_5) rfl kq) ?_
  show own_Rn p e below _ (s₁.setTop (mkF m 6 #[.val (.int (Int32.ofNat qq)), .val (.int (Int32.ofNat nn)), .val .null] [(.int (Int32.ofNat nn)), (.int (Int32.ofNat qq))]))
  refine own_go (fun tq kq => XS.icmpYes X0.here hx rfl (pc0 := 6) (pc' := 16) rfl (hb hby own_d27_6) rfl (tlt (own_ofNat_lt hq (by omega) : (Int32.ofNat qq) < (Int32.ofNat nn))).1 (by decide) (by decide) kq) ?_
  show own_Rn p e below _ (s₁.setTop (mkF m 16 #[.val (.int (Int32.ofNat qq)), .val (.int (Int32.ofNat nn)), .val .null] []))
  refine own_go (fun tq kq => XS.iloadN X0.here hx rfl (hb hby own_d27_16) rfl kq) ?_
  show own_Rn p e below _ (s₁.setTop (mkF m 17 #[.val (.int (Int32.ofNat qq)), .val (.int (Int32.ofNat nn)), .val .null] [(.int (Int32.ofNat qq))]))
  exact own_ret X0 (v := some (.int (Int32.ofNat qq))) (fun h => by rw [Bd.returns] at h; cases h) (fun fs hr => retI X0 hx Bd.returns (hb hby own_d27_17) hr) (by rw [e0]; exact ⟨rfl, N0, rfl⟩) (by decide) (by decide)
theorem own_ef_rmPCr (m : MethodId) (qq : Nat) (nn : Nat) (ga : Addr) : entryFrame m #[(.int (Int32.ofNat qq)), (.int (Int32.ofNat nn)), (.ref ga)] 3 = mkF m 0 #[.val (.int (Int32.ofNat qq)), .val (.int (Int32.ofNat nn)), .val (.ref ga)] [] := by first | (simp [entryFrame, mkF, argsToLocals, Value.category]; done) | rfl
def Q_rmPCr (Z : State) (qq : Nat) (nn : Nat) (ga : Addr) (h0 : Heap) (n0 : Nat) (v : Option Value) (h : Heap) (L : List Loc) : Prop := v = some (.int (Int32.ofNat qq)) ∧ Fr n0 L ∧ h = h0
set_option maxRecDepth 65536 in
set_option maxHeartbeats 40000000 in
theorem rmPCr (l : Launch) (Z : State) (a0 : Array Value) (hw : ∀ d ∈ tables_1, d.before a0 Z = true) (ws : List Jvm.Cond) (qq : Nat) (nn : Nat) (ga : Addr) (h0 : Heap) (n0 : Nat) (Z0 : n0 ≤ h0.size) (hq : (qq < nn)) (hn : (nn ≤ 6)) :
    MetFree l (⟨"jdk/internal/util/Preconditions", "checkIndex", "(IILjava/util/function/BiFunction;)I"⟩ : MethodName) (head1 (Jvm.Cond.code (⟨"jdk/internal/util/Preconditions", "checkIndex", "(IILjava/util/function/BiFunction;)I"⟩ : MethodName) jdk_41_method_11_code 3 (some .int) :: ws) ({ frames := 0, cells := 0, slots := 0, locals := 0 } : Room)) (fun a U => a = #[(.int (Int32.ofNat qq)), (.int (Int32.ofNat nn)), (.ref ga)] ∧ Z.Warmed39 U.vm ∧ U.heap = h0) (fun _ _ _ _ _ => True) (fun _ U o U' => ∃ v L, o = .returned v ∧ Q_rmPCr Z qq nn ga h0 n0 v U'.heap L ∧ FrameEnd U o U' L ({ frames := 0, cells := 0, slots := 0, locals := 0 } : Room).cells ({ frames := 0, cells := 0, slots := 0, locals := 0 } : Room).slots) := by
  refine MetFree.of_bodySF (plainFor_of_name own_pn_jdk_internal_util_Preconditions) hisR ?_
  intro p e s m args below meth c s₁ Bd hml0 hP hK
  obtain ⟨rfl, hZ, hh⟩ := hP
  have hx := Bd.exec
  have hby := Bd.bytes
  have hml : c.maxLocals = 3 := hml0
  have hown : s.vm.findClass "jdk/internal/util/Preconditions" = some m.cls := findClass_of_methodNamed Bd.named
  have hnm := (name_of_methodNamed Bd.named Bd.method).1
  have X0 : Stand p l e ({ frames := 0, cells := 0, slots := 0, locals := 0 } : Room) s m #[(.int (Int32.ofNat qq)), (.int (Int32.ofNat nn)), (.ref ga)] below meth c s₁ [] 0 0 := Stand.of_body Bd
  have e0 : s₁.heap = h0 := by rw [← hh, Bd.state]; rfl
  have N0 := Fr.nil n0
  have K0 : Keep h0 h0 [] := Keep.refl _ _
  refine own_go (S' := s₁.setTop (mkF m 0 #[.val (.int (Int32.ofNat qq)), .val (.int (Int32.ofNat nn)), .val (.ref ga)] [])) (fun tq kq => castTop (own_ef_rmPCr m qq nn ga) kq) ?_
  refine own_go (fun tq kq => XS.iloadN X0.here hx rfl (hb hby own_d27_0) rfl kq) ?_
  show own_Rn p e below _ (s₁.setTop (mkF m 1 #[.val (.int (Int32.ofNat qq)), .val (.int (Int32.ofNat nn)), .val (.ref ga)] [(.int (Int32.ofNat qq))]))
  refine own_go (fun tq kq => XS.ifNo X0.here hx rfl (hb hby own_d27_1) rfl ((if0 _ _).trans (flt (own_nneg (by omega) : ¬ ((Int32.ofNat qq) < (0 : Int32)))).1) kq) ?_
  show own_Rn p e below _ (s₁.setTop (mkF m 4 #[.val (.int (Int32.ofNat qq)), .val (.int (Int32.ofNat nn)), .val (.ref ga)] []))
  refine own_go (fun tq kq => XS.iloadN X0.here hx rfl (hb hby own_d27_4) rfl kq) ?_
  show own_Rn p e below _ (s₁.setTop (mkF m 5 #[.val (.int (Int32.ofNat qq)), .val (.int (Int32.ofNat nn)), .val (.ref ga)] [(.int (Int32.ofNat qq))]))
  refine own_go (fun tq kq => XS.iloadN X0.here hx rfl (hb hby own_d27_5) rfl kq) ?_
  show own_Rn p e below _ (s₁.setTop (mkF m 6 #[.val (.int (Int32.ofNat qq)), .val (.int (Int32.ofNat nn)), .val (.ref ga)] [(.int (Int32.ofNat nn)), (.int (Int32.ofNat qq))]))
  refine own_go (fun tq kq => XS.icmpYes X0.here hx rfl (pc0 := 6) (pc' := 16) rfl (hb hby own_d27_6) rfl (tlt (own_ofNat_lt hq (by omega) : (Int32.ofNat qq) < (Int32.ofNat nn))).1 (by decide) (by decide) kq) ?_
  show own_Rn p e below _ (s₁.setTop (mkF m 16 #[.val (.int (Int32.ofNat qq)), .val (.int (Int32.ofNat nn)), .val (.ref ga)] []))
  refine own_go (fun tq kq => XS.iloadN X0.here hx rfl (hb hby own_d27_16) rfl kq) ?_
  show own_Rn p e below _ (s₁.setTop (mkF m 17 #[.val (.int (Int32.ofNat qq)), .val (.int (Int32.ofNat nn)), .val (.ref ga)] [(.int (Int32.ofNat qq))]))
  exact own_ret X0 (v := some (.int (Int32.ofNat qq))) (fun h => by rw [Bd.returns] at h; cases h) (fun fs hr => retI X0 hx Bd.returns (hb hby own_d27_17) hr) (by rw [e0]; exact ⟨rfl, N0, rfl⟩) (by decide) (by decide)
theorem own_ef_rmSCI (m : MethodId) (qq : Nat) (nn : Nat) (G3 : Value) : entryFrame m #[(.int (Int32.ofNat qq)), (.int (Int32.ofNat nn))] 2 = mkF m 0 #[.val (.int (Int32.ofNat qq)), .val (.int (Int32.ofNat nn))] [] := by first | (simp [entryFrame, mkF, argsToLocals, Value.category]; done) | rfl
theorem own_d26_0 : decode jdk_42_method_155_code 0 = .ok (.iload_n 0, 1) := by decide +kernel
theorem own_d26_1 : decode jdk_42_method_155_code 1 = .ok (.iload_n 1, 1) := by decide +kernel
theorem own_d26_2 : decode jdk_42_method_155_code 2 = .ok (.getstatic 1053, 3) := by decide +kernel
theorem own_d26_5 : decode jdk_42_method_155_code 5 = .ok (.invokestatic 1059, 3) := by decide +kernel
theorem own_pd_28IILjava2futil2ffunction2fBiFunction3b29I : parseMethodDescriptor "(IILjava/util/function/BiFunction;)I" = some ⟨[.int, .int, (.object "java/util/function/BiFunction")], some .int⟩ := by decide +kernel
theorem own_d26_8 : decode jdk_42_method_155_code 8 = .ok (.pop, 1) := by decide +kernel
theorem own_d26_9 : decode jdk_42_method_155_code 9 = .ok (.return_, 1) := by decide +kernel
def Q_rmSCI (Z : State) (qq : Nat) (nn : Nat) (G3 : Value) (h0 : Heap) (n0 : Nat) (v : Option Value) (h : Heap) (L : List Loc) : Prop := v = none ∧ Fr n0 L ∧ h = h0
set_option maxRecDepth 65536 in
set_option maxHeartbeats 40000000 in
theorem rmSCI (l : Launch) (Z : State) (a0 : Array Value) (hw : ∀ d ∈ tables_1, d.before a0 Z = true) (ws : List Jvm.Cond) (qq : Nat) (nn : Nat) (G3 : Value) (h0 : Heap) (n0 : Nat) (Z0 : n0 ≤ h0.size) (hq : (qq < nn)) (hn : (nn ≤ 6)) (O4 : Sta Z Z.heap "jdk/internal/util/Preconditions" "SIOOBE_FORMATTER" "Ljava/util/function/BiFunction;" G3) (hG3 : (G3 = .null ∨ ∃ ga, G3 = .ref ga)) (X00 : Old Z n0 h0) :
    MetFree l (⟨"java/lang/String", "checkIndex", "(II)V"⟩ : MethodName) (head1 (Jvm.Cond.code (⟨"java/lang/String", "checkIndex", "(II)V"⟩ : MethodName) jdk_42_method_155_code 2 none :: ws) ({ frames := 1, cells := 0, slots := 0, locals := 14 } : Room)) (fun a U => a = #[(.int (Int32.ofNat qq)), (.int (Int32.ofNat nn))] ∧ Z.Warmed39 U.vm ∧ U.heap = h0) (fun _ _ _ _ _ => True) (fun _ U o U' => ∃ v L, o = .returned v ∧ Q_rmSCI Z qq nn G3 h0 n0 v U'.heap L ∧ FrameEnd U o U' L ({ frames := 1, cells := 0, slots := 0, locals := 14 } : Room).cells ({ frames := 1, cells := 0, slots := 0, locals := 14 } : Room).slots) := by
  refine MetFree.of_bodySF (plainFor_of_name own_pn_java_lang_String) hisR ?_
  intro p e s m args below meth c s₁ Bd hml0 hP hK
  obtain ⟨rfl, hZ, hh⟩ := hP
  have hx := Bd.exec
  have hby := Bd.bytes
  have hml : c.maxLocals = 2 := hml0
  have hown : s.vm.findClass "java/lang/String" = some m.cls := findClass_of_methodNamed Bd.named
  have hnm := (name_of_methodNamed Bd.named Bd.method).1
  have X0 : Stand p l e ({ frames := 1, cells := 0, slots := 0, locals := 14 } : Room) s m #[(.int (Int32.ofNat qq)), (.int (Int32.ofNat nn))] below meth c s₁ [] 0 0 := Stand.of_body Bd
  have e0 : s₁.heap = h0 := by rw [← hh, Bd.state]; rfl
  have N0 := Fr.nil n0
  have K0 : Keep h0 h0 [] := Keep.refl _ _
  refine own_go (S' := s₁.setTop (mkF m 0 #[.val (.int (Int32.ofNat qq)), .val (.int (Int32.ofNat nn))] [])) (fun tq kq => castTop (own_ef_rmSCI m qq nn G3) kq) ?_
  refine own_go (fun tq kq => XS.iloadN X0.here hx rfl (hb hby own_d26_0) rfl kq) ?_
  show own_Rn p e below _ (s₁.setTop (mkF m 1 #[.val (.int (Int32.ofNat qq)), .val (.int (Int32.ofNat nn))] [(.int (Int32.ofNat qq))]))
  refine own_go (fun tq kq => XS.iloadN X0.here hx rfl (hb hby own_d26_1) rfl kq) ?_
  show own_Rn p e below _ (s₁.setTop (mkF m 2 #[.val (.int (Int32.ofNat qq)), .val (.int (Int32.ofNat nn))] [(.int (Int32.ofNat nn)), (.int (Int32.ofNat qq))]))
  obtain ⟨T1, X1, e1, st1⟩ := getS2 X0 hx hZ hown (host := "") (Or.inl (hw _ (List.mem_of_getElem? (i := 119) rfl))) Via.refl e0 (O4.ext X00.2) (g := (mkF m 2 #[.val (.int (Int32.ofNat qq)), .val (.int (Int32.ofNat nn))] [(.int (Int32.ofNat nn)), (.int (Int32.ofNat qq))])) rfl (hb hby own_d26_2)
  refine own_go st1 ?_
  show own_Rn p e below _ (T1.setTop (mkF m 5 #[.val (.int (Int32.ofNat qq)), .val (.int (Int32.ofNat nn))] [G3, (.int (Int32.ofNat nn)), (.int (Int32.ofNat qq))]))
  rcases hG3 with rfl | ⟨ga, rfl⟩
  · skip
    show own_Rn p e below _ (T1.setTop (mkF m 5 #[.val (.int (Int32.ofNat qq)), .val (.int (Int32.ofNat nn))] [.null, (.int (Int32.ofNat nn)), (.int (Int32.ofNat qq))]))
    have Zn2 : n0 ≤ h0.size := by omega
    obtain ⟨rv2, _, ⟨T2, L2, k2, n2⟩, -, X2, ⟨Lc2, hQ2, l2, y2, z2⟩, st2⟩ := Jvm.LawKit.callS X1 hx (y := (⟨"jdk/internal/util/Preconditions", "checkIndex", "(IILjava/util/function/BiFunction;)I"⟩ : MethodName)) hown (mvT hZ (hw _ (List.mem_of_getElem? (i := 121) rfl))) (mvT hZ (hw _ (List.mem_of_getElem? (i := 122) rfl))) (mvT hZ (hw _ (List.mem_of_getElem? (i := 120) rfl))) (mvT hZ (hw _ (List.mem_of_getElem? (i := 123) rfl))) (by decide) (backOf (W := 0) (rmPCn l Z a0 hw [] (qq) (nn) h0 n0 Zn2 (hq) (hn)) hZ (hw _ (List.mem_of_getElem? (i := 123) rfl)) (hw _ (List.mem_of_getElem? (i := 120) rfl)) (by decide) (by decide)) (g := (mkF m 5 #[.val (.int (Int32.ofNat qq)), .val (.int (Int32.ofNat nn))] [.null, (.int (Int32.ofNat nn)), (.int (Int32.ofNat qq))])) rfl (by rw [hml]; rfl) (argsL := [(.int (Int32.ofNat qq)), (.int (Int32.ofNat nn)), .null]) (rest := []) (lenOf own_pd_28IILjava2futil2ffunction2fBiFunction3b29I rfl) rfl (by show 2 * 0 + _ ≤ _; exact Nat.le_of_eq rfl) (hb hby own_d26_5) (fun _ _ => ⟨rfl, e1, (by decide : 0 + 0 ≤ _), (by decide : 0 + 0 ≤ _)⟩)
    dsimp only [Pt.U, Pt.locs, Pt.cells, Pt.slots] at X2 l2 y2 z2 st2 hQ2
    subst l2 y2 z2
    obtain ⟨rfl, Nq2, eh2⟩ := hQ2
    have N2 := Fr.app N0 Nq2
    refine own_go st2 ?_
    show own_Rn p e below _ (T2.setTop (mkF m 8 #[.val (.int (Int32.ofNat qq)), .val (.int (Int32.ofNat nn))] [(.int (Int32.ofNat qq))]))
    refine own_go (fun tq kq => XS.pop X2.here hx rfl (hb hby own_d26_8) rfl rfl kq) ?_
    show own_Rn p e below _ (T2.setTop (mkF m 9 #[.val (.int (Int32.ofNat qq)), .val (.int (Int32.ofNat nn))] []))
    exact own_ret X2 (v := none) (fun _ => rfl) (fun fs hr => X2.returnOut hx Bd.returns (hb hby own_d26_9) hr) (by rw [eh2]; exact ⟨rfl, N2, rfl⟩) (by decide) (by decide)
  · skip
    show own_Rn p e below _ (T1.setTop (mkF m 5 #[.val (.int (Int32.ofNat qq)), .val (.int (Int32.ofNat nn))] [(.ref ga), (.int (Int32.ofNat nn)), (.int (Int32.ofNat qq))]))
    have Zn3 : n0 ≤ h0.size := by omega
    obtain ⟨rv3, _, ⟨T3, L3, k3, n3⟩, -, X3, ⟨Lc3, hQ3, l3, y3, z3⟩, st3⟩ := Jvm.LawKit.callS X1 hx (y := (⟨"jdk/internal/util/Preconditions", "checkIndex", "(IILjava/util/function/BiFunction;)I"⟩ : MethodName)) hown (mvT hZ (hw _ (List.mem_of_getElem? (i := 121) rfl))) (mvT hZ (hw _ (List.mem_of_getElem? (i := 122) rfl))) (mvT hZ (hw _ (List.mem_of_getElem? (i := 120) rfl))) (mvT hZ (hw _ (List.mem_of_getElem? (i := 123) rfl))) (by decide) (backOf (W := 0) (rmPCr l Z a0 hw [] (qq) (nn) (ga) h0 n0 Zn3 (hq) (hn)) hZ (hw _ (List.mem_of_getElem? (i := 123) rfl)) (hw _ (List.mem_of_getElem? (i := 120) rfl)) (by decide) (by decide)) (g := (mkF m 5 #[.val (.int (Int32.ofNat qq)), .val (.int (Int32.ofNat nn))] [(.ref ga), (.int (Int32.ofNat nn)), (.int (Int32.ofNat qq))])) rfl (by rw [hml]; rfl) (argsL := [(.int (Int32.ofNat qq)), (.int (Int32.ofNat nn)), (.ref ga)]) (rest := []) (lenOf own_pd_28IILjava2futil2ffunction2fBiFunction3b29I rfl) rfl (by show 2 * 0 + _ ≤ _; exact Nat.le_of_eq rfl) (hb hby own_d26_5) (fun _ _ => ⟨rfl, e1, (by decide : 0 + 0 ≤ _), (by decide : 0 + 0 ≤ _)⟩)
    dsimp only [Pt.U, Pt.locs, Pt.cells, Pt.slots] at X3 l3 y3 z3 st3 hQ3
    subst l3 y3 z3
    obtain ⟨rfl, Nq3, eh3⟩ := hQ3
    have N3 := Fr.app N0 Nq3
    refine own_go st3 ?_
    show own_Rn p e below _ (T3.setTop (mkF m 8 #[.val (.int (Int32.ofNat qq)), .val (.int (Int32.ofNat nn))] [(.int (Int32.ofNat qq))]))
    refine own_go (fun tq kq => XS.pop X3.here hx rfl (hb hby own_d26_8) rfl rfl kq) ?_
    show own_Rn p e below _ (T3.setTop (mkF m 9 #[.val (.int (Int32.ofNat qq)), .val (.int (Int32.ofNat nn))] []))
    exact own_ret X3 (v := none) (fun _ => rfl) (fun fs hr => X3.returnOut hx Bd.returns (hb hby own_d26_9) hr) (by rw [eh3]; exact ⟨rfl, N3, rfl⟩) (by decide) (by decide)
theorem own_ef_rmLCh (m : MethodId) (bv : Addr) (kb : ClassId) (cs : List Int32) (qq : Nat) (G3 : Value) : entryFrame m #[(.ref bv), (.int (Int32.ofNat qq))] 2 = mkF m 0 #[.val (.ref bv), .val (.int (Int32.ofNat qq))] [] := by first | (simp [entryFrame, mkF, argsToLocals, Value.category]; done) | rfl
theorem own_pn_java_lang_StringLatin1 : plainName "java/lang/StringLatin1" = true := by first | (simp [plainName, overriddenIn]; done) | decide +kernel
theorem own_d38_0 : decode jdk_43_method_2_code 0 = .ok (.iload_n 1, 1) := by decide +kernel
theorem own_d38_1 : decode jdk_43_method_2_code 1 = .ok (.aload_n 0, 1) := by decide +kernel
theorem own_d38_2 : decode jdk_43_method_2_code 2 = .ok (.arraylength, 1) := by decide +kernel
theorem own_d38_3 : decode jdk_43_method_2_code 3 = .ok (.invokestatic 9, 3) := by decide +kernel
theorem own_pd_28II29V : parseMethodDescriptor "(II)V" = some ⟨[.int, .int], none⟩ := by decide +kernel
theorem own_d38_6 : decode jdk_43_method_2_code 6 = .ok (.aload_n 0, 1) := by decide +kernel
theorem own_d38_7 : decode jdk_43_method_2_code 7 = .ok (.iload_n 1, 1) := by decide +kernel
theorem own_d38_8 : decode jdk_43_method_2_code 8 = .ok (.baload, 1) := by decide +kernel
theorem own_d38_9 : decode jdk_43_method_2_code 9 = .ok (.sipush 255, 3) := by decide +kernel
theorem own_d38_12 : decode jdk_43_method_2_code 12 = .ok (.iand, 1) := by decide +kernel
theorem own_d38_13 : decode jdk_43_method_2_code 13 = .ok (.i2c, 1) := by decide +kernel
theorem own_d38_14 : decode jdk_43_method_2_code 14 = .ok (.ireturn, 1) := by decide +kernel
def Q_rmLCh (Z : State) (bv : Addr) (kb : ClassId) (cs : List Int32) (qq : Nat) (G3 : Value) (h0 : Heap) (n0 : Nat) (v : Option Value) (h : Heap) (L : List Loc) : Prop := v = some (.int (cs.getD qq 0)) ∧ Fr n0 L ∧ h = h0
set_option maxRecDepth 65536 in
set_option maxHeartbeats 40000000 in
theorem rmLCh (l : Launch) (Z : State) (a0 : Array Value) (hw : ∀ d ∈ tables_1, d.before a0 Z = true) (ws : List Jvm.Cond) (bv : Addr) (kb : ClassId) (cs : List Int32) (qq : Nat) (G3 : Value) (h0 : Heap) (n0 : Nat) (Z0 : n0 ≤ h0.size) (Pm0 : Arv Z h0 bv kb .byte (Int32.ofNat cs.length) (own_bs cs) (.int 0)) (hq : (qq < cs.length)) (hn : (cs.length ≤ 3)) (hr : (∀ c ∈ cs, ¬ c < 0 ∧ ¬ (65535 : Int32) < c)) (hal : (∀ c ∈ cs, ¬ (255 : Int32) < c)) (O4 : Sta Z Z.heap "jdk/internal/util/Preconditions" "SIOOBE_FORMATTER" "Ljava/util/function/BiFunction;" G3) (hG3 : (G3 = .null ∨ ∃ ga, G3 = .ref ga)) (X00 : Old Z n0 h0) :
    MetFree l (⟨"java/lang/StringLatin1", "charAt", "([BI)C"⟩ : MethodName) (head1 (Jvm.Cond.code (⟨"java/lang/StringLatin1", "charAt", "([BI)C"⟩ : MethodName) jdk_43_method_2_code 2 (some .char) :: ws) ({ frames := 2, cells := 0, slots := 0, locals := 27 } : Room)) (fun a U => a = #[(.ref bv), (.int (Int32.ofNat qq))] ∧ Z.Warmed39 U.vm ∧ U.heap = h0) (fun _ _ _ _ _ => True) (fun _ U o U' => ∃ v L, o = .returned v ∧ Q_rmLCh Z bv kb cs qq G3 h0 n0 v U'.heap L ∧ FrameEnd U o U' L ({ frames := 2, cells := 0, slots := 0, locals := 27 } : Room).cells ({ frames := 2, cells := 0, slots := 0, locals := 27 } : Room).slots) := by
  refine MetFree.of_bodySF (plainFor_of_name own_pn_java_lang_StringLatin1) hisR ?_
  intro p e s m args below meth c s₁ Bd hml0 hP hK
  obtain ⟨rfl, hZ, hh⟩ := hP
  have hx := Bd.exec
  have hby := Bd.bytes
  have hml : c.maxLocals = 2 := hml0
  have hown : s.vm.findClass "java/lang/StringLatin1" = some m.cls := findClass_of_methodNamed Bd.named
  have hnm := (name_of_methodNamed Bd.named Bd.method).1
  have X0 : Stand p l e ({ frames := 2, cells := 0, slots := 0, locals := 27 } : Room) s m #[(.ref bv), (.int (Int32.ofNat qq))] below meth c s₁ [] 0 0 := Stand.of_body Bd
  have e0 : s₁.heap = h0 := by rw [← hh, Bd.state]; rfl
  have N0 := Fr.nil n0
  have K0 : Keep h0 h0 [] := Keep.refl _ _
  refine own_go (S' := s₁.setTop (mkF m 0 #[.val (.ref bv), .val (.int (Int32.ofNat qq))] [])) (fun tq kq => castTop (own_ef_rmLCh m bv kb cs qq G3) kq) ?_
  have lt1 : @LT.lt Nat _ bv h0.size := Pm0.lt
  have hm : ¬ cs.getD qq 0 < 0 ∧ ¬ (65535 : Int32) < cs.getD qq 0 := hr _ (by rw [List.getD_eq_getElem?_getD, List.getElem?_eq_getElem hq]; exact List.getElem_mem hq)
  have ha : ¬ cs.getD qq 0 < 0 ∧ ¬ (255 : Int32) < cs.getD qq 0 := ⟨hm.1, hal _ (by rw [List.getD_eq_getElem?_getD, List.getElem?_eq_getElem hq]; exact List.getElem_mem hq)⟩
  refine own_go (fun tq kq => XS.iloadN X0.here hx rfl (hb hby own_d38_0) rfl kq) ?_
  show own_Rn p e below _ (s₁.setTop (mkF m 1 #[.val (.ref bv), .val (.int (Int32.ofNat qq))] [(.int (Int32.ofNat qq))]))
  refine own_go (fun tq kq => XS.aloadN X0.here hx rfl (hb hby own_d38_1) rfl rfl kq) ?_
  show own_Rn p e below _ (s₁.setTop (mkF m 2 #[.val (.ref bv), .val (.int (Int32.ofNat qq))] [(.ref bv), (.int (Int32.ofNat qq))]))
  obtain ⟨cl2, Ar2, -, Sz2, Nn2, -, -⟩ := id Pm0
  refine own_go (fun tq kq => X0.arraylength hx (cell := cl2) (by rw [e0]; exact Ar2.1) (State.isArrayOf_alike hZ.alike Ar2.2.1) (g := (mkF m 2 #[.val (.ref bv), .val (.int (Int32.ofNat qq))] [(.ref bv), (.int (Int32.ofNat qq))])) rfl rfl (hb hby own_d38_2) tq kq) ?_
  rw [len_of Sz2 Nn2]
  show own_Rn p e below _ (s₁.setTop (mkF m 3 #[.val (.ref bv), .val (.int (Int32.ofNat qq))] [(.int (Int32.ofNat cs.length)), (.int (Int32.ofNat qq))]))
  have Zn3 : n0 ≤ h0.size := by omega
  obtain ⟨rv3, _, ⟨T3, L3, k3, n3⟩, -, X3, ⟨Lc3, hQ3, l3, y3, z3⟩, st3⟩ := Jvm.LawKit.callS X0 hx (y := (⟨"java/lang/String", "checkIndex", "(II)V"⟩ : MethodName)) hown (mvT hZ (hw _ (List.mem_of_getElem? (i := 167) rfl))) (mvT hZ (hw _ (List.mem_of_getElem? (i := 117) rfl))) (mvT hZ (hw _ (List.mem_of_getElem? (i := 17) rfl))) (mvT hZ (hw _ (List.mem_of_getElem? (i := 118) rfl))) (by decide) (backOf (W := 0) (rmSCI l Z a0 hw [] (qq) (cs.length) (G3) h0 n0 Zn3 (hq) (by omega) (O4) (hG3) X00) hZ (hw _ (List.mem_of_getElem? (i := 118) rfl)) (hw _ (List.mem_of_getElem? (i := 17) rfl)) (by decide) (by decide)) (g := (mkF m 3 #[.val (.ref bv), .val (.int (Int32.ofNat qq))] [(.int (Int32.ofNat cs.length)), (.int (Int32.ofNat qq))])) rfl (by rw [hml]; rfl) (argsL := [(.int (Int32.ofNat qq)), (.int (Int32.ofNat cs.length))]) (rest := []) (lenOf own_pd_28II29V rfl) rfl (by show 2 * 0 + _ ≤ _; exact Nat.le_of_eq rfl) (hb hby own_d38_3) (fun _ _ => ⟨rfl, e0, (by decide : 0 + 0 ≤ _), (by decide : 0 + 0 ≤ _)⟩)
  dsimp only [Pt.U, Pt.locs, Pt.cells, Pt.slots] at X3 l3 y3 z3 st3 hQ3
  subst l3 y3 z3
  obtain ⟨rfl, Nq3, eh3⟩ := hQ3
  have N3 := Fr.app N0 Nq3
  refine own_go st3 ?_
  show own_Rn p e below _ (T3.setTop (mkF m 6 #[.val (.ref bv), .val (.int (Int32.ofNat qq))] []))
  refine own_go (fun tq kq => XS.aloadN X3.here hx rfl (hb hby own_d38_6) rfl rfl kq) ?_
  show own_Rn p e below _ (T3.setTop (mkF m 7 #[.val (.ref bv), .val (.int (Int32.ofNat qq))] [(.ref bv)]))
  refine own_go (fun tq kq => XS.iloadN X3.here hx rfl (hb hby own_d38_7) rfl kq) ?_
  show own_Rn p e below _ (T3.setTop (mkF m 8 #[.val (.ref bv), .val (.int (Int32.ofNat qq))] [(.int (Int32.ofNat qq)), (.ref bv)]))
  obtain ⟨cl4, Ar4, q4, Sz4, Nn4, Hs4, G4⟩ := id Pm0
  have in4 := inb_of (j := (Int32.ofNat qq)) Sz4 (own_inb _ _ hq (by omega))
  refine own_go (fun tq kq => X3.baloadBytes hx (j := (Int32.ofNat qq)) (v := (.int ((cs.getD qq 0).toInt8.toInt32))) (by rw [eh3]; exact Ar4.1) (State.isArrayOf_alike hZ.alike Ar4.2.1) Ar4.2.2 in4 (Hs4.at in4 (by rw [own_clampN (by omega)]; exact own_bs_at cs qq hq)) (g := (mkF m 8 #[.val (.ref bv), .val (.int (Int32.ofNat qq))] [(.int (Int32.ofNat qq)), (.ref bv)])) rfl rfl (hb hby own_d38_8) tq kq) ?_
  show own_Rn p e below _ (T3.setTop (mkF m 9 #[.val (.ref bv), .val (.int (Int32.ofNat qq))] [(.int ((cs.getD qq 0).toInt8.toInt32))]))
  refine own_go (fun tq kq => XS.sipush X3.here hx rfl (hb hby own_d38_9) kq) ?_
  show own_Rn p e below _ (T3.setTop (mkF m 12 #[.val (.ref bv), .val (.int (Int32.ofNat qq))] [(.int (255 : Int32)), (.int ((cs.getD qq 0).toInt8.toInt32))]))
  refine own_go (fun tq kq => XS.iand X3.here hx rfl (hb hby own_d38_12) rfl kq) ?_
  show own_Rn p e below _ (T3.setTop (mkF m 13 #[.val (.ref bv), .val (.int (Int32.ofNat qq))] [(.int (((cs.getD qq 0).toInt8.toInt32) &&& (255 : Int32)))]))
  rw [show (((cs.getD qq 0).toInt8.toInt32) &&& (255 : Int32)) = (cs.getD qq 0) from own_b255 _ ha]
  show own_Rn p e below _ (T3.setTop (mkF m 13 #[.val (.ref bv), .val (.int (Int32.ofNat qq))] [(.int (cs.getD qq 0))]))
  refine own_go (fun tq kq => XS.i2c X3.here hx rfl (hb hby own_d38_13) rfl kq) ?_
  show own_Rn p e below _ (T3.setTop (mkF m 14 #[.val (.ref bv), .val (.int (Int32.ofNat qq))] [(.int ((cs.getD qq 0).toUInt32.toUInt16.toUInt32.toInt32))]))
  rw [show ((cs.getD qq 0).toUInt32.toUInt16.toUInt32.toInt32) = (cs.getD qq 0) from own_c16 _ hm]
  show own_Rn p e below _ (T3.setTop (mkF m 14 #[.val (.ref bv), .val (.int (Int32.ofNat qq))] [(.int (cs.getD qq 0))]))
  exact own_ret X3 (v := some (.int (nar .char (cs.getD qq 0)))) (fun h => by rw [Bd.returns] at h; cases h) (fun fs hr => retN X3 hx (t := .char) Bd.returns (by simp) (hb hby own_d38_14) hr) (by rw [eh3]; exact ⟨congrArg (fun z => some (Value.int z)) (own_c16 _ hm), N3, rfl⟩) (by decide) (by decide)
theorem own_ef_rmUL (m : MethodId) (bv : Addr) (kb : ClassId) (cs : List Int32) : entryFrame m #[(.ref bv)] 1 = mkF m 0 #[.val (.ref bv)] [] := by first | (simp [entryFrame, mkF, argsToLocals, Value.category]; done) | rfl
theorem own_d25_0 : decode jdk_52_method_6_code 0 = .ok (.aload_n 0, 1) := by decide +kernel
theorem own_d25_1 : decode jdk_52_method_6_code 1 = .ok (.arraylength, 1) := by decide +kernel
theorem own_d25_2 : decode jdk_52_method_6_code 2 = .ok (.iconst 1, 1) := by decide +kernel
theorem own_d25_3 : decode jdk_52_method_6_code 3 = .ok (.ishr, 1) := by decide +kernel
theorem own_d25_4 : decode jdk_52_method_6_code 4 = .ok (.ireturn, 1) := by decide +kernel
def Q_rmUL (Z : State) (bv : Addr) (kb : ClassId) (cs : List Int32) (h0 : Heap) (n0 : Nat) (v : Option Value) (h : Heap) (L : List Loc) : Prop := v = some (.int (Int32.ofNat cs.length)) ∧ Fr n0 L ∧ h = h0
set_option maxRecDepth 65536 in
set_option maxHeartbeats 40000000 in
theorem rmUL (l : Launch) (Z : State) (a0 : Array Value) (hw : ∀ d ∈ tables_1, d.before a0 Z = true) (ws : List Jvm.Cond) (bv : Addr) (kb : ClassId) (cs : List Int32) (h0 : Heap) (n0 : Nat) (Z0 : n0 ≤ h0.size) (Pm0 : Arv Z h0 bv kb .byte (Int32.ofNat (2 * cs.length)) (own_u16 cs) (.int 0)) (hn : (cs.length ≤ 3)) :
    MetFree l (⟨"java/lang/StringUTF16", "length", "([B)I"⟩ : MethodName) (head1 (Jvm.Cond.code (⟨"java/lang/StringUTF16", "length", "([B)I"⟩ : MethodName) jdk_52_method_6_code 1 (some .int) :: ws) ({ frames := 0, cells := 0, slots := 0, locals := 0 } : Room)) (fun a U => a = #[(.ref bv)] ∧ Z.Warmed39 U.vm ∧ U.heap = h0) (fun _ _ _ _ _ => True) (fun _ U o U' => ∃ v L, o = .returned v ∧ Q_rmUL Z bv kb cs h0 n0 v U'.heap L ∧ FrameEnd U o U' L ({ frames := 0, cells := 0, slots := 0, locals := 0 } : Room).cells ({ frames := 0, cells := 0, slots := 0, locals := 0 } : Room).slots) := by
  refine MetFree.of_bodySF (plainFor_of_name own_pn_java_lang_StringUTF16) hisR ?_
  intro p e s m args below meth c s₁ Bd hml0 hP hK
  obtain ⟨rfl, hZ, hh⟩ := hP
  have hx := Bd.exec
  have hby := Bd.bytes
  have hml : c.maxLocals = 1 := hml0
  have hown : s.vm.findClass "java/lang/StringUTF16" = some m.cls := findClass_of_methodNamed Bd.named
  have hnm := (name_of_methodNamed Bd.named Bd.method).1
  have X0 : Stand p l e ({ frames := 0, cells := 0, slots := 0, locals := 0 } : Room) s m #[(.ref bv)] below meth c s₁ [] 0 0 := Stand.of_body Bd
  have e0 : s₁.heap = h0 := by rw [← hh, Bd.state]; rfl
  have N0 := Fr.nil n0
  have K0 : Keep h0 h0 [] := Keep.refl _ _
  refine own_go (S' := s₁.setTop (mkF m 0 #[.val (.ref bv)] [])) (fun tq kq => castTop (own_ef_rmUL m bv kb cs) kq) ?_
  have lt1 : @LT.lt Nat _ bv h0.size := Pm0.lt
  refine own_go (fun tq kq => XS.aloadN X0.here hx rfl (hb hby own_d25_0) rfl rfl kq) ?_
  show own_Rn p e below _ (s₁.setTop (mkF m 1 #[.val (.ref bv)] [(.ref bv)]))
  obtain ⟨cl2, Ar2, -, Sz2, Nn2, -, -⟩ := id Pm0
  refine own_go (fun tq kq => X0.arraylength hx (cell := cl2) (by rw [e0]; exact Ar2.1) (State.isArrayOf_alike hZ.alike Ar2.2.1) (g := (mkF m 1 #[.val (.ref bv)] [(.ref bv)])) rfl rfl (hb hby own_d25_1) tq kq) ?_
  rw [len_of Sz2 Nn2]
  show own_Rn p e below _ (s₁.setTop (mkF m 2 #[.val (.ref bv)] [(.int (Int32.ofNat (2 * cs.length)))]))
  refine own_go (fun tq kq => XS.iconst X0.here hx rfl (hb hby own_d25_2) kq) ?_
  show own_Rn p e below _ (s₁.setTop (mkF m 3 #[.val (.ref bv)] [(.int (1 : Int32)), (.int (Int32.ofNat (2 * cs.length)))]))
  refine own_go (fun tq kq => XS.ishr X0.here hx rfl (hb hby own_d25_3) rfl kq) ?_
  show own_Rn p e below _ (s₁.setTop (mkF m 4 #[.val (.ref bv)] [(.int ((Int32.ofNat (2 * cs.length)) >>> ((1 : Int32) &&& 31)))]))
  rw [show ((Int32.ofNat (2 * cs.length)) >>> ((1 : Int32) &&& 31)) = (Int32.ofNat cs.length) from own_shr1 _ (by omega)]
  show own_Rn p e below _ (s₁.setTop (mkF m 4 #[.val (.ref bv)] [(.int (Int32.ofNat cs.length))]))
  exact own_ret X0 (v := some (.int (Int32.ofNat cs.length))) (fun h => by rw [Bd.returns] at h; cases h) (fun fs hr => retI X0 hx Bd.returns (hb hby own_d25_4) hr) (by rw [e0]; exact ⟨rfl, N0, rfl⟩) (by decide) (by decide)
theorem own_ef_rmUCI (m : MethodId) (bv : Addr) (kb : ClassId) (cs : List Int32) (qq : Nat) (G3 : Value) : entryFrame m #[(.int (Int32.ofNat qq)), (.ref bv)] 2 = mkF m 0 #[.val (.int (Int32.ofNat qq)), .val (.ref bv)] [] := by first | (simp [entryFrame, mkF, argsToLocals, Value.category]; done) | rfl
theorem own_d24_0 : decode jdk_52_method_91_code 0 = .ok (.iload_n 0, 1) := by decide +kernel
theorem own_d24_1 : decode jdk_52_method_91_code 1 = .ok (.aload_n 1, 1) := by decide +kernel
theorem own_d24_2 : decode jdk_52_method_91_code 2 = .ok (.invokestatic 48, 3) := by decide +kernel
theorem own_pd_285bB29I : parseMethodDescriptor "([B)I" = some ⟨[(.array .byte)], some .int⟩ := by decide +kernel
theorem own_d24_5 : decode jdk_52_method_91_code 5 = .ok (.invokestatic 414, 3) := by decide +kernel
theorem own_d24_8 : decode jdk_52_method_91_code 8 = .ok (.return_, 1) := by decide +kernel
def Q_rmUCI (Z : State) (bv : Addr) (kb : ClassId) (cs : List Int32) (qq : Nat) (G3 : Value) (h0 : Heap) (n0 : Nat) (v : Option Value) (h : Heap) (L : List Loc) : Prop := v = none ∧ Fr n0 L ∧ h = h0
set_option maxRecDepth 65536 in
set_option maxHeartbeats 40000000 in
theorem rmUCI (l : Launch) (Z : State) (a0 : Array Value) (hw : ∀ d ∈ tables_1, d.before a0 Z = true) (ws : List Jvm.Cond) (bv : Addr) (kb : ClassId) (cs : List Int32) (qq : Nat) (G3 : Value) (h0 : Heap) (n0 : Nat) (Z0 : n0 ≤ h0.size) (Pm0 : Arv Z h0 bv kb .byte (Int32.ofNat (2 * cs.length)) (own_u16 cs) (.int 0)) (hq : (qq < cs.length)) (hn : (cs.length ≤ 3)) (O4 : Sta Z Z.heap "jdk/internal/util/Preconditions" "SIOOBE_FORMATTER" "Ljava/util/function/BiFunction;" G3) (hG3 : (G3 = .null ∨ ∃ ga, G3 = .ref ga)) (X00 : Old Z n0 h0) :
    MetFree l (⟨"java/lang/StringUTF16", "checkIndex", "(I[B)V"⟩ : MethodName) (head1 (Jvm.Cond.code (⟨"java/lang/StringUTF16", "checkIndex", "(I[B)V"⟩ : MethodName) jdk_52_method_91_code 2 none :: ws) ({ frames := 2, cells := 0, slots := 0, locals := 27 } : Room)) (fun a U => a = #[(.int (Int32.ofNat qq)), (.ref bv)] ∧ Z.Warmed39 U.vm ∧ U.heap = h0) (fun _ _ _ _ _ => True) (fun _ U o U' => ∃ v L, o = .returned v ∧ Q_rmUCI Z bv kb cs qq G3 h0 n0 v U'.heap L ∧ FrameEnd U o U' L ({ frames := 2, cells := 0, slots := 0, locals := 27 } : Room).cells ({ frames := 2, cells := 0, slots := 0, locals := 27 } : Room).slots) := by
  refine MetFree.of_bodySF (plainFor_of_name own_pn_java_lang_StringUTF16) hisR ?_
  intro p e s m args below meth c s₁ Bd hml0 hP hK
  obtain ⟨rfl, hZ, hh⟩ := hP
  have hx := Bd.exec
  have hby := Bd.bytes
  have hml : c.maxLocals = 2 := hml0
  have hown : s.vm.findClass "java/lang/StringUTF16" = some m.cls := findClass_of_methodNamed Bd.named
  have hnm := (name_of_methodNamed Bd.named Bd.method).1
  have X0 : Stand p l e ({ frames := 2, cells := 0, slots := 0, locals := 27 } : Room) s m #[(.int (Int32.ofNat qq)), (.ref bv)] below meth c s₁ [] 0 0 := Stand.of_body Bd
  have e0 : s₁.heap = h0 := by rw [← hh, Bd.state]; rfl
  have N0 := Fr.nil n0
  have K0 : Keep h0 h0 [] := Keep.refl _ _
  refine own_go (S' := s₁.setTop (mkF m 0 #[.val (.int (Int32.ofNat qq)), .val (.ref bv)] [])) (fun tq kq => castTop (own_ef_rmUCI m bv kb cs qq G3) kq) ?_
  have lt1 : @LT.lt Nat _ bv h0.size := Pm0.lt
  refine own_go (fun tq kq => XS.iloadN X0.here hx rfl (hb hby own_d24_0) rfl kq) ?_
  show own_Rn p e below _ (s₁.setTop (mkF m 1 #[.val (.int (Int32.ofNat qq)), .val (.ref bv)] [(.int (Int32.ofNat qq))]))
  refine own_go (fun tq kq => XS.aloadN X0.here hx rfl (hb hby own_d24_1) rfl rfl kq) ?_
  show own_Rn p e below _ (s₁.setTop (mkF m 2 #[.val (.int (Int32.ofNat qq)), .val (.ref bv)] [(.ref bv), (.int (Int32.ofNat qq))]))
  have Zn2 : n0 ≤ h0.size := by omega
  obtain ⟨rv2, _, ⟨T2, L2, k2, n2⟩, -, X2, ⟨Lc2, hQ2, l2, y2, z2⟩, st2⟩ := Jvm.LawKit.callS X0 hx (y := (⟨"java/lang/StringUTF16", "length", "([B)I"⟩ : MethodName)) hown (mvT hZ (hw _ (List.mem_of_getElem? (i := 113) rfl))) (mvT hZ (hw _ (List.mem_of_getElem? (i := 114) rfl))) (mvT hZ (hw _ (List.mem_of_getElem? (i := 70) rfl))) (mvT hZ (hw _ (List.mem_of_getElem? (i := 115) rfl))) (by decide) (backOf (W := 1) (rmUL l Z a0 hw [] (bv) (kb) (cs) h0 n0 Zn2 Pm0 (hn)) hZ (hw _ (List.mem_of_getElem? (i := 115) rfl)) (hw _ (List.mem_of_getElem? (i := 70) rfl)) (by decide) (by decide)) (g := (mkF m 2 #[.val (.int (Int32.ofNat qq)), .val (.ref bv)] [(.ref bv), (.int (Int32.ofNat qq))])) rfl (by rw [hml]; rfl) (argsL := [(.ref bv)]) (rest := [(.int (Int32.ofNat qq))]) (lenOf own_pd_285bB29I rfl) rfl (by show 2 * 0 + _ ≤ _; exact Nat.le_of_eq rfl) (hb hby own_d24_2) (fun _ _ => ⟨rfl, e0, (by decide : 0 + 0 ≤ _), (by decide : 0 + 0 ≤ _)⟩)
  dsimp only [Pt.U, Pt.locs, Pt.cells, Pt.slots] at X2 l2 y2 z2 st2 hQ2
  subst l2 y2 z2
  obtain ⟨rfl, Nq2, eh2⟩ := hQ2
  have N2 := Fr.app N0 Nq2
  refine own_go st2 ?_
  show own_Rn p e below _ (T2.setTop (mkF m 5 #[.val (.int (Int32.ofNat qq)), .val (.ref bv)] [(.int (Int32.ofNat cs.length)), (.int (Int32.ofNat qq))]))
  have Zn3 : n0 ≤ h0.size := by omega
  obtain ⟨rv3, _, ⟨T3, L3, k3, n3⟩, -, X3, ⟨Lc3, hQ3, l3, y3, z3⟩, st3⟩ := Jvm.LawKit.callS X2 hx (y := (⟨"java/lang/String", "checkIndex", "(II)V"⟩ : MethodName)) hown (mvT hZ (hw _ (List.mem_of_getElem? (i := 116) rfl))) (mvT hZ (hw _ (List.mem_of_getElem? (i := 117) rfl))) (mvT hZ (hw _ (List.mem_of_getElem? (i := 17) rfl))) (mvT hZ (hw _ (List.mem_of_getElem? (i := 118) rfl))) (by decide) (backOf (W := 0) (rmSCI l Z a0 hw [] (qq) (cs.length) (G3) h0 n0 Zn3 (hq) (by omega) (O4) (hG3) X00) hZ (hw _ (List.mem_of_getElem? (i := 118) rfl)) (hw _ (List.mem_of_getElem? (i := 17) rfl)) (by decide) (by decide)) (g := (mkF m 5 #[.val (.int (Int32.ofNat qq)), .val (.ref bv)] [(.int (Int32.ofNat cs.length)), (.int (Int32.ofNat qq))])) rfl (by rw [hml]; rfl) (argsL := [(.int (Int32.ofNat qq)), (.int (Int32.ofNat cs.length))]) (rest := []) (lenOf own_pd_28II29V rfl) rfl (by show 2 * 0 + _ ≤ _; exact Nat.le_of_eq rfl) (hb hby own_d24_5) (fun _ _ => ⟨rfl, eh2, (by decide : 0 + 0 ≤ _), (by decide : 0 + 0 ≤ _)⟩)
  dsimp only [Pt.U, Pt.locs, Pt.cells, Pt.slots] at X3 l3 y3 z3 st3 hQ3
  subst l3 y3 z3
  obtain ⟨rfl, Nq3, eh3⟩ := hQ3
  have N3 := Fr.app N2 Nq3
  refine own_go st3 ?_
  show own_Rn p e below _ (T3.setTop (mkF m 8 #[.val (.int (Int32.ofNat qq)), .val (.ref bv)] []))
  exact own_ret X3 (v := none) (fun _ => rfl) (fun fs hr => X3.returnOut hx Bd.returns (hb hby own_d24_8) hr) (by rw [eh3]; exact ⟨rfl, N3, rfl⟩) (by decide) (by decide)
theorem own_ef_rmUCh (m : MethodId) (bv : Addr) (kb : ClassId) (cs : List Int32) (qq : Nat) (G3 : Value) : entryFrame m #[(.ref bv), (.int (Int32.ofNat qq))] 2 = mkF m 0 #[.val (.ref bv), .val (.int (Int32.ofNat qq))] [] := by first | (simp [entryFrame, mkF, argsToLocals, Value.category]; done) | rfl
theorem own_d23_0 : decode jdk_52_method_83_code 0 = .ok (.iload_n 1, 1) := by decide +kernel
theorem own_d23_1 : decode jdk_52_method_83_code 1 = .ok (.aload_n 0, 1) := by decide +kernel
theorem own_d23_2 : decode jdk_52_method_83_code 2 = .ok (.invokestatic 67, 3) := by decide +kernel
theorem own_pd_28I5bB29V : parseMethodDescriptor "(I[B)V" = some ⟨[.int, (.array .byte)], none⟩ := by decide +kernel
theorem own_d23_5 : decode jdk_52_method_83_code 5 = .ok (.aload_n 0, 1) := by decide +kernel
theorem own_d23_6 : decode jdk_52_method_83_code 6 = .ok (.iload_n 1, 1) := by decide +kernel
theorem own_d23_7 : decode jdk_52_method_83_code 7 = .ok (.invokestatic 71, 3) := by decide +kernel
theorem own_d23_10 : decode jdk_52_method_83_code 10 = .ok (.ireturn, 1) := by decide +kernel
def Q_rmUCh (Z : State) (bv : Addr) (kb : ClassId) (cs : List Int32) (qq : Nat) (G3 : Value) (h0 : Heap) (n0 : Nat) (v : Option Value) (h : Heap) (L : List Loc) : Prop := v = some (.int (cs.getD qq 0)) ∧ Fr n0 L ∧ h = h0
set_option maxRecDepth 65536 in
set_option maxHeartbeats 40000000 in
theorem rmUCh (l : Launch) (Z : State) (a0 : Array Value) (hw : ∀ d ∈ tables_1, d.before a0 Z = true) (ws : List Jvm.Cond) (bv : Addr) (kb : ClassId) (cs : List Int32) (qq : Nat) (G3 : Value) (h0 : Heap) (n0 : Nat) (Z0 : n0 ≤ h0.size) (Pm0 : Arv Z h0 bv kb .byte (Int32.ofNat (2 * cs.length)) (own_u16 cs) (.int 0)) (hq : (qq < cs.length)) (hn : (cs.length ≤ 3)) (hr : (∀ c ∈ cs, ¬ c < 0 ∧ ¬ (65535 : Int32) < c)) (OAD : Sta Z Z.heap "java/lang/StringUTF16" "$assertionsDisabled" "Z" (.int (1 : Int32))) (OHI : Sta Z Z.heap "java/lang/StringUTF16" "HI_BYTE_SHIFT" "I" (.int (0 : Int32))) (OLO : Sta Z Z.heap "java/lang/StringUTF16" "LO_BYTE_SHIFT" "I" (.int (8 : Int32))) (O4 : Sta Z Z.heap "jdk/internal/util/Preconditions" "SIOOBE_FORMATTER" "Ljava/util/function/BiFunction;" G3) (hG3 : (G3 = .null ∨ ∃ ga, G3 = .ref ga)) (X00 : Old Z n0 h0) :
    MetFree l (⟨"java/lang/StringUTF16", "charAt", "([BI)C"⟩ : MethodName) (head1 (Jvm.Cond.code (⟨"java/lang/StringUTF16", "charAt", "([BI)C"⟩ : MethodName) jdk_52_method_83_code 2 (some .char) :: ws) ({ frames := 3, cells := 0, slots := 0, locals := 40 } : Room)) (fun a U => a = #[(.ref bv), (.int (Int32.ofNat qq))] ∧ Z.Warmed39 U.vm ∧ U.heap = h0) (fun _ _ _ _ _ => True) (fun _ U o U' => ∃ v L, o = .returned v ∧ Q_rmUCh Z bv kb cs qq G3 h0 n0 v U'.heap L ∧ FrameEnd U o U' L ({ frames := 3, cells := 0, slots := 0, locals := 40 } : Room).cells ({ frames := 3, cells := 0, slots := 0, locals := 40 } : Room).slots) := by
  refine MetFree.of_bodySF (plainFor_of_name own_pn_java_lang_StringUTF16) hisR ?_
  intro p e s m args below meth c s₁ Bd hml0 hP hK
  obtain ⟨rfl, hZ, hh⟩ := hP
  have hx := Bd.exec
  have hby := Bd.bytes
  have hml : c.maxLocals = 2 := hml0
  have hown : s.vm.findClass "java/lang/StringUTF16" = some m.cls := findClass_of_methodNamed Bd.named
  have hnm := (name_of_methodNamed Bd.named Bd.method).1
  have X0 : Stand p l e ({ frames := 3, cells := 0, slots := 0, locals := 40 } : Room) s m #[(.ref bv), (.int (Int32.ofNat qq))] below meth c s₁ [] 0 0 := Stand.of_body Bd
  have e0 : s₁.heap = h0 := by rw [← hh, Bd.state]; rfl
  have N0 := Fr.nil n0
  have K0 : Keep h0 h0 [] := Keep.refl _ _
  refine own_go (S' := s₁.setTop (mkF m 0 #[.val (.ref bv), .val (.int (Int32.ofNat qq))] [])) (fun tq kq => castTop (own_ef_rmUCh m bv kb cs qq G3) kq) ?_
  have lt1 : @LT.lt Nat _ bv h0.size := Pm0.lt
  have hm : ¬ cs.getD qq 0 < 0 ∧ ¬ (65535 : Int32) < cs.getD qq 0 := hr _ (by rw [List.getD_eq_getElem?_getD, List.getElem?_eq_getElem hq]; exact List.getElem_mem hq)
  refine own_go (fun tq kq => XS.iloadN X0.here hx rfl (hb hby own_d23_0) rfl kq) ?_
  show own_Rn p e below _ (s₁.setTop (mkF m 1 #[.val (.ref bv), .val (.int (Int32.ofNat qq))] [(.int (Int32.ofNat qq))]))
  refine own_go (fun tq kq => XS.aloadN X0.here hx rfl (hb hby own_d23_1) rfl rfl kq) ?_
  show own_Rn p e below _ (s₁.setTop (mkF m 2 #[.val (.ref bv), .val (.int (Int32.ofNat qq))] [(.ref bv), (.int (Int32.ofNat qq))]))
  have Zn2 : n0 ≤ h0.size := by omega
  obtain ⟨rv2, _, ⟨T2, L2, k2, n2⟩, -, X2, ⟨Lc2, hQ2, l2, y2, z2⟩, st2⟩ := Jvm.LawKit.callS X0 hx (y := (⟨"java/lang/StringUTF16", "checkIndex", "(I[B)V"⟩ : MethodName)) hown (mvT hZ (hw _ (List.mem_of_getElem? (i := 110) rfl))) (mvT hZ (hw _ (List.mem_of_getElem? (i := 111) rfl))) (mvT hZ (hw _ (List.mem_of_getElem? (i := 70) rfl))) (mvT hZ (hw _ (List.mem_of_getElem? (i := 112) rfl))) (by decide) (backOf (W := 0) (rmUCI l Z a0 hw [] (bv) (kb) (cs) (qq) (G3) h0 n0 Zn2 Pm0 (hq) (hn) (O4) (hG3) X00) hZ (hw _ (List.mem_of_getElem? (i := 112) rfl)) (hw _ (List.mem_of_getElem? (i := 70) rfl)) (by decide) (by decide)) (g := (mkF m 2 #[.val (.ref bv), .val (.int (Int32.ofNat qq))] [(.ref bv), (.int (Int32.ofNat qq))])) rfl (by rw [hml]; rfl) (argsL := [(.int (Int32.ofNat qq)), (.ref bv)]) (rest := []) (lenOf own_pd_28I5bB29V rfl) rfl (by show 2 * 0 + _ ≤ _; exact Nat.le_of_eq rfl) (hb hby own_d23_2) (fun _ _ => ⟨rfl, e0, (by decide : 0 + 0 ≤ _), (by decide : 0 + 0 ≤ _)⟩)
  dsimp only [Pt.U, Pt.locs, Pt.cells, Pt.slots] at X2 l2 y2 z2 st2 hQ2
  subst l2 y2 z2
  obtain ⟨rfl, Nq2, eh2⟩ := hQ2
  have N2 := Fr.app N0 Nq2
  refine own_go st2 ?_
  show own_Rn p e below _ (T2.setTop (mkF m 5 #[.val (.ref bv), .val (.int (Int32.ofNat qq))] []))
  refine own_go (fun tq kq => XS.aloadN X2.here hx rfl (hb hby own_d23_5) rfl rfl kq) ?_
  show own_Rn p e below _ (T2.setTop (mkF m 6 #[.val (.ref bv), .val (.int (Int32.ofNat qq))] [(.ref bv)]))
  refine own_go (fun tq kq => XS.iloadN X2.here hx rfl (hb hby own_d23_6) rfl kq) ?_
  show own_Rn p e below _ (T2.setTop (mkF m 7 #[.val (.ref bv), .val (.int (Int32.ofNat qq))] [(.int (Int32.ofNat qq)), (.ref bv)]))
  have Zn3 : n0 ≤ h0.size := by omega
  obtain ⟨rv3, _, ⟨T3, L3, k3, n3⟩, -, X3, ⟨Lc3, hQ3, l3, y3, z3⟩, st3⟩ := Jvm.LawKit.callS X2 hx (y := (⟨"java/lang/StringUTF16", "getChar", "([BI)C"⟩ : MethodName)) hown (mvT hZ (hw _ (List.mem_of_getElem? (i := 91) rfl))) (mvT hZ (hw _ (List.mem_of_getElem? (i := 92) rfl))) (mvT hZ (hw _ (List.mem_of_getElem? (i := 70) rfl))) (mvT hZ (hw _ (List.mem_of_getElem? (i := 93) rfl))) (by decide) (backOf (W := 0) (rmGet l Z a0 hw [] (bv) (kb) (cs) (qq) h0 n0 Zn3 Pm0 (hq) (hn) (hr) (OAD) (OHI) (OLO) X00) hZ (hw _ (List.mem_of_getElem? (i := 93) rfl)) (hw _ (List.mem_of_getElem? (i := 70) rfl)) (by decide) (by decide)) (g := (mkF m 7 #[.val (.ref bv), .val (.int (Int32.ofNat qq))] [(.int (Int32.ofNat qq)), (.ref bv)])) rfl (by rw [hml]; rfl) (argsL := [(.ref bv), (.int (Int32.ofNat qq))]) (rest := []) (lenOf own_pd_285bBI29C rfl) rfl (by show 2 * 0 + _ ≤ _; exact Nat.le_of_eq rfl) (hb hby own_d23_7) (fun _ _ => ⟨rfl, eh2, (by decide : 0 + 0 ≤ _), (by decide : 0 + 0 ≤ _)⟩)
  dsimp only [Pt.U, Pt.locs, Pt.cells, Pt.slots] at X3 l3 y3 z3 st3 hQ3
  subst l3 y3 z3
  obtain ⟨rfl, Nq3, eh3⟩ := hQ3
  have N3 := Fr.app N2 Nq3
  refine own_go st3 ?_
  show own_Rn p e below _ (T3.setTop (mkF m 10 #[.val (.ref bv), .val (.int (Int32.ofNat qq))] [(.int (cs.getD qq 0))]))
  exact own_ret X3 (v := some (.int (nar .char (cs.getD qq 0)))) (fun h => by rw [Bd.returns] at h; cases h) (fun fs hr => retN X3 hx (t := .char) Bd.returns (by simp) (hb hby own_d23_10) hr) (by rw [eh3]; exact ⟨congrArg (fun z => some (Value.int z)) (own_c16 _ hm), N3, rfl⟩) (by decide) (by decide)
theorem own_ef_rmCo0 (m : MethodId) (x : Addr) (G1 : Int32) : entryFrame m #[(.ref x)] 1 = mkF m 0 #[.val (.ref x)] [] := by first | (simp [entryFrame, mkF, argsToLocals, Value.category]; done) | rfl
theorem own_d7_0 : decode jdk_42_method_152_code 0 = .ok (.getstatic 38, 3) := by decide +kernel
theorem own_d7_3 : decode jdk_42_method_152_code 3 = .ok (.ifCond .eq 10, 3) := by decide +kernel
theorem own_d7_6 : decode jdk_42_method_152_code 6 = .ok (.aload_n 0, 1) := by decide +kernel
theorem own_d7_7 : decode jdk_42_method_152_code 7 = .ok (.getfield 15, 3) := by decide +kernel
theorem own_d7_10 : decode jdk_42_method_152_code 10 = .ok (.goto 4, 3) := by decide +kernel
theorem own_d7_14 : decode jdk_42_method_152_code 14 = .ok (.ireturn, 1) := by decide +kernel
def Q_rmCo0 (Z : State) (x : Addr) (G1 : Int32) (h0 : Heap) (n0 : Nat) (v : Option Value) (h : Heap) (L : List Loc) : Prop := v = some (.int (0 : Int32)) ∧ Fr n0 L ∧ h = h0
set_option maxRecDepth 65536 in
set_option maxHeartbeats 40000000 in
theorem rmCo0 (l : Launch) (Z : State) (a0 : Array Value) (hw : ∀ d ∈ tables_1, d.before a0 Z = true) (ws : List Jvm.Cond) (x : Addr) (G1 : Int32) (h0 : Heap) (n0 : Nat) (Z0 : n0 ≤ h0.size) (Pm0 : Fld Z h0 x "java/lang/String" "coder" "B" (.int (0 : Int32))) (O2 : Sta Z Z.heap "java/lang/String" "COMPACT_STRINGS" "Z" (.int G1)) (P5 : (¬ (G1 = (0 : Int32)))) (X00 : Old Z n0 h0) :
    MetFree l (⟨"java/lang/String", "coder", "()B"⟩ : MethodName) (head1 (Jvm.Cond.code (⟨"java/lang/String", "coder", "()B"⟩ : MethodName) jdk_42_method_152_code 1 (some .byte) :: ws) ({ frames := 0, cells := 0, slots := 0, locals := 0 } : Room)) (fun a U => a = #[(.ref x)] ∧ Z.Warmed39 U.vm ∧ U.heap = h0) (fun _ _ _ _ _ => True) (fun _ U o U' => ∃ v L, o = .returned v ∧ Q_rmCo0 Z x G1 h0 n0 v U'.heap L ∧ FrameEnd U o U' L ({ frames := 0, cells := 0, slots := 0, locals := 0 } : Room).cells ({ frames := 0, cells := 0, slots := 0, locals := 0 } : Room).slots) := by
  refine MetFree.of_bodySF (plainFor_of_name own_pn_java_lang_String) hisR ?_
  intro p e s m args below meth c s₁ Bd hml0 hP hK
  obtain ⟨rfl, hZ, hh⟩ := hP
  have hx := Bd.exec
  have hby := Bd.bytes
  have hml : c.maxLocals = 1 := hml0
  have hown : s.vm.findClass "java/lang/String" = some m.cls := findClass_of_methodNamed Bd.named
  have hnm := (name_of_methodNamed Bd.named Bd.method).1
  have X0 : Stand p l e ({ frames := 0, cells := 0, slots := 0, locals := 0 } : Room) s m #[(.ref x)] below meth c s₁ [] 0 0 := Stand.of_body Bd
  have e0 : s₁.heap = h0 := by rw [← hh, Bd.state]; rfl
  have N0 := Fr.nil n0
  have K0 : Keep h0 h0 [] := Keep.refl _ _
  refine own_go (S' := s₁.setTop (mkF m 0 #[.val (.ref x)] [])) (fun tq kq => castTop (own_ef_rmCo0 m x G1) kq) ?_
  have lt1 : @LT.lt Nat _ x h0.size := Pm0.lt
  obtain ⟨T2, X2, e2, st2⟩ := getS2 X0 hx hZ hown (host := "") (Or.inl (hw _ (List.mem_of_getElem? (i := 50) rfl))) Via.refl e0 (O2.ext X00.2) (g := (mkF m 0 #[.val (.ref x)] [])) rfl (hb hby own_d7_0)
  refine own_go st2 ?_
  show own_Rn p e below _ (T2.setTop (mkF m 3 #[.val (.ref x)] [(.int G1)]))
  refine own_go (fun tq kq => XS.ifNo X2.here hx rfl (hb hby own_d7_3) rfl ((if0 _ _).trans (feq (P5 : ¬ (G1 = (0 : Int32)))).1) kq) ?_
  show own_Rn p e below _ (T2.setTop (mkF m 6 #[.val (.ref x)] []))
  refine own_go (fun tq kq => XS.aloadN X2.here hx rfl (hb hby own_d7_6) rfl rfl kq) ?_
  show own_Rn p e below _ (T2.setTop (mkF m 7 #[.val (.ref x)] [(.ref x)]))
  obtain ⟨T3, X3, e3, st3⟩ := getF X2 hx hZ hown (host := "") (Or.inl (hw _ (List.mem_of_getElem? (i := 35) rfl))) Via.refl e2 Pm0 (g := (mkF m 7 #[.val (.ref x)] [(.ref x)])) rfl rfl (hb hby own_d7_7)
  refine own_go st3 ?_
  show own_Rn p e below _ (T3.setTop (mkF m 10 #[.val (.ref x)] [(.int (0 : Int32))]))
  refine own_go (fun tq kq => XS.goto X3.here hx rfl (pc0 := 10) (pc' := 14) rfl (hb hby own_d7_10) (by decide) (by decide) kq) ?_
  show own_Rn p e below _ (T3.setTop (mkF m 14 #[.val (.ref x)] [(.int (0 : Int32))]))
  exact own_ret X3 (v := some (.int (nar .byte (0 : Int32)))) (fun h => by rw [Bd.returns] at h; cases h) (fun fs hr => retN X3 hx (t := .byte) Bd.returns (by simp) (hb hby own_d7_14) hr) (by rw [e3]; exact ⟨rfl, N0, rfl⟩) (by decide) (by decide)
theorem own_ef_rmIl0 (m : MethodId) (x : Addr) (G1 : Int32) : entryFrame m #[(.ref x)] 1 = mkF m 0 #[.val (.ref x)] [] := by first | (simp [entryFrame, mkF, argsToLocals, Value.category]; done) | rfl
theorem own_d22_0 : decode jdk_42_method_154_code 0 = .ok (.getstatic 38, 3) := by decide +kernel
theorem own_d22_3 : decode jdk_42_method_154_code 3 = .ok (.ifCond .eq 14, 3) := by decide +kernel
theorem own_d22_6 : decode jdk_42_method_154_code 6 = .ok (.aload_n 0, 1) := by decide +kernel
theorem own_d22_7 : decode jdk_42_method_154_code 7 = .ok (.getfield 15, 3) := by decide +kernel
theorem own_d22_10 : decode jdk_42_method_154_code 10 = .ok (.ifCond .ne 7, 3) := by decide +kernel
theorem own_d22_13 : decode jdk_42_method_154_code 13 = .ok (.iconst 1, 1) := by decide +kernel
theorem own_d22_14 : decode jdk_42_method_154_code 14 = .ok (.goto 4, 3) := by decide +kernel
theorem own_d22_18 : decode jdk_42_method_154_code 18 = .ok (.ireturn, 1) := by decide +kernel
def Q_rmIl0 (Z : State) (x : Addr) (G1 : Int32) (h0 : Heap) (n0 : Nat) (v : Option Value) (h : Heap) (L : List Loc) : Prop := v = some (.int (1 : Int32)) ∧ Fr n0 L ∧ h = h0
set_option maxRecDepth 65536 in
set_option maxHeartbeats 40000000 in
theorem rmIl0 (l : Launch) (Z : State) (a0 : Array Value) (hw : ∀ d ∈ tables_1, d.before a0 Z = true) (ws : List Jvm.Cond) (x : Addr) (G1 : Int32) (h0 : Heap) (n0 : Nat) (Z0 : n0 ≤ h0.size) (Pm0 : Fld Z h0 x "java/lang/String" "coder" "B" (.int (0 : Int32))) (O2 : Sta Z Z.heap "java/lang/String" "COMPACT_STRINGS" "Z" (.int G1)) (P5 : (¬ (G1 = (0 : Int32)))) (X00 : Old Z n0 h0) :
    MetFree l (⟨"java/lang/String", "isLatin1", "()Z"⟩ : MethodName) (head1 (Jvm.Cond.code (⟨"java/lang/String", "isLatin1", "()Z"⟩ : MethodName) jdk_42_method_154_code 1 (some .boolean) :: ws) ({ frames := 0, cells := 0, slots := 0, locals := 0 } : Room)) (fun a U => a = #[(.ref x)] ∧ Z.Warmed39 U.vm ∧ U.heap = h0) (fun _ _ _ _ _ => True) (fun _ U o U' => ∃ v L, o = .returned v ∧ Q_rmIl0 Z x G1 h0 n0 v U'.heap L ∧ FrameEnd U o U' L ({ frames := 0, cells := 0, slots := 0, locals := 0 } : Room).cells ({ frames := 0, cells := 0, slots := 0, locals := 0 } : Room).slots) := by
  refine MetFree.of_bodySF (plainFor_of_name own_pn_java_lang_String) hisR ?_
  intro p e s m args below meth c s₁ Bd hml0 hP hK
  obtain ⟨rfl, hZ, hh⟩ := hP
  have hx := Bd.exec
  have hby := Bd.bytes
  have hml : c.maxLocals = 1 := hml0
  have hown : s.vm.findClass "java/lang/String" = some m.cls := findClass_of_methodNamed Bd.named
  have hnm := (name_of_methodNamed Bd.named Bd.method).1
  have X0 : Stand p l e ({ frames := 0, cells := 0, slots := 0, locals := 0 } : Room) s m #[(.ref x)] below meth c s₁ [] 0 0 := Stand.of_body Bd
  have e0 : s₁.heap = h0 := by rw [← hh, Bd.state]; rfl
  have N0 := Fr.nil n0
  have K0 : Keep h0 h0 [] := Keep.refl _ _
  refine own_go (S' := s₁.setTop (mkF m 0 #[.val (.ref x)] [])) (fun tq kq => castTop (own_ef_rmIl0 m x G1) kq) ?_
  have lt1 : @LT.lt Nat _ x h0.size := Pm0.lt
  obtain ⟨T2, X2, e2, st2⟩ := getS2 X0 hx hZ hown (host := "") (Or.inl (hw _ (List.mem_of_getElem? (i := 50) rfl))) Via.refl e0 (O2.ext X00.2) (g := (mkF m 0 #[.val (.ref x)] [])) rfl (hb hby own_d22_0)
  refine own_go st2 ?_
  show own_Rn p e below _ (T2.setTop (mkF m 3 #[.val (.ref x)] [(.int G1)]))
  refine own_go (fun tq kq => XS.ifNo X2.here hx rfl (hb hby own_d22_3) rfl ((if0 _ _).trans (feq (P5 : ¬ (G1 = (0 : Int32)))).1) kq) ?_
  show own_Rn p e below _ (T2.setTop (mkF m 6 #[.val (.ref x)] []))
  refine own_go (fun tq kq => XS.aloadN X2.here hx rfl (hb hby own_d22_6) rfl rfl kq) ?_
  show own_Rn p e below _ (T2.setTop (mkF m 7 #[.val (.ref x)] [(.ref x)]))
  obtain ⟨T3, X3, e3, st3⟩ := getF X2 hx hZ hown (host := "") (Or.inl (hw _ (List.mem_of_getElem? (i := 35) rfl))) Via.refl e2 Pm0 (g := (mkF m 7 #[.val (.ref x)] [(.ref x)])) rfl rfl (hb hby own_d22_7)
  refine own_go st3 ?_
  show own_Rn p e below _ (T3.setTop (mkF m 10 #[.val (.ref x)] [(.int (0 : Int32))]))
  refine own_go (fun tq kq => XS.ifNo X3.here hx rfl (hb hby own_d22_10) rfl ((if0 _ _).trans (teq ((by decide : (0 : Int32) = (0 : Int32)) : (0 : Int32) = (0 : Int32))).2) kq) ?_
  show own_Rn p e below _ (T3.setTop (mkF m 13 #[.val (.ref x)] []))
  refine own_go (fun tq kq => XS.iconst X3.here hx rfl (hb hby own_d22_13) kq) ?_
  show own_Rn p e below _ (T3.setTop (mkF m 14 #[.val (.ref x)] [(.int (1 : Int32))]))
  refine own_go (fun tq kq => XS.goto X3.here hx rfl (pc0 := 14) (pc' := 18) rfl (hb hby own_d22_14) (by decide) (by decide) kq) ?_
  show own_Rn p e below _ (T3.setTop (mkF m 18 #[.val (.ref x)] [(.int (1 : Int32))]))
  exact own_ret X3 (v := some (.int (nar .boolean (1 : Int32)))) (fun h => by rw [Bd.returns] at h; cases h) (fun fs hr => retN X3 hx (t := .boolean) Bd.returns (by simp) (hb hby own_d22_18) hr) (by rw [e3]; exact ⟨rfl, N0, rfl⟩) (by decide) (by decide)
theorem own_ef_rmCo1 (m : MethodId) (x : Addr) (G1 : Int32) : entryFrame m #[(.ref x)] 1 = mkF m 0 #[.val (.ref x)] [] := by first | (simp [entryFrame, mkF, argsToLocals, Value.category]; done) | rfl
def Q_rmCo1 (Z : State) (x : Addr) (G1 : Int32) (h0 : Heap) (n0 : Nat) (v : Option Value) (h : Heap) (L : List Loc) : Prop := v = some (.int (1 : Int32)) ∧ Fr n0 L ∧ h = h0
set_option maxRecDepth 65536 in
set_option maxHeartbeats 40000000 in
theorem rmCo1 (l : Launch) (Z : State) (a0 : Array Value) (hw : ∀ d ∈ tables_1, d.before a0 Z = true) (ws : List Jvm.Cond) (x : Addr) (G1 : Int32) (h0 : Heap) (n0 : Nat) (Z0 : n0 ≤ h0.size) (Pm0 : Fld Z h0 x "java/lang/String" "coder" "B" (.int (1 : Int32))) (O2 : Sta Z Z.heap "java/lang/String" "COMPACT_STRINGS" "Z" (.int G1)) (P5 : (¬ (G1 = (0 : Int32)))) (X00 : Old Z n0 h0) :
    MetFree l (⟨"java/lang/String", "coder", "()B"⟩ : MethodName) (head1 (Jvm.Cond.code (⟨"java/lang/String", "coder", "()B"⟩ : MethodName) jdk_42_method_152_code 1 (some .byte) :: ws) ({ frames := 0, cells := 0, slots := 0, locals := 0 } : Room)) (fun a U => a = #[(.ref x)] ∧ Z.Warmed39 U.vm ∧ U.heap = h0) (fun _ _ _ _ _ => True) (fun _ U o U' => ∃ v L, o = .returned v ∧ Q_rmCo1 Z x G1 h0 n0 v U'.heap L ∧ FrameEnd U o U' L ({ frames := 0, cells := 0, slots := 0, locals := 0 } : Room).cells ({ frames := 0, cells := 0, slots := 0, locals := 0 } : Room).slots) := by
  refine MetFree.of_bodySF (plainFor_of_name own_pn_java_lang_String) hisR ?_
  intro p e s m args below meth c s₁ Bd hml0 hP hK
  obtain ⟨rfl, hZ, hh⟩ := hP
  have hx := Bd.exec
  have hby := Bd.bytes
  have hml : c.maxLocals = 1 := hml0
  have hown : s.vm.findClass "java/lang/String" = some m.cls := findClass_of_methodNamed Bd.named
  have hnm := (name_of_methodNamed Bd.named Bd.method).1
  have X0 : Stand p l e ({ frames := 0, cells := 0, slots := 0, locals := 0 } : Room) s m #[(.ref x)] below meth c s₁ [] 0 0 := Stand.of_body Bd
  have e0 : s₁.heap = h0 := by rw [← hh, Bd.state]; rfl
  have N0 := Fr.nil n0
  have K0 : Keep h0 h0 [] := Keep.refl _ _
  refine own_go (S' := s₁.setTop (mkF m 0 #[.val (.ref x)] [])) (fun tq kq => castTop (own_ef_rmCo1 m x G1) kq) ?_
  have lt1 : @LT.lt Nat _ x h0.size := Pm0.lt
  obtain ⟨T2, X2, e2, st2⟩ := getS2 X0 hx hZ hown (host := "") (Or.inl (hw _ (List.mem_of_getElem? (i := 50) rfl))) Via.refl e0 (O2.ext X00.2) (g := (mkF m 0 #[.val (.ref x)] [])) rfl (hb hby own_d7_0)
  refine own_go st2 ?_
  show own_Rn p e below _ (T2.setTop (mkF m 3 #[.val (.ref x)] [(.int G1)]))
  refine own_go (fun tq kq => XS.ifNo X2.here hx rfl (hb hby own_d7_3) rfl ((if0 _ _).trans (feq (P5 : ¬ (G1 = (0 : Int32)))).1) kq) ?_
  show own_Rn p e below _ (T2.setTop (mkF m 6 #[.val (.ref x)] []))
  refine own_go (fun tq kq => XS.aloadN X2.here hx rfl (hb hby own_d7_6) rfl rfl kq) ?_
  show own_Rn p e below _ (T2.setTop (mkF m 7 #[.val (.ref x)] [(.ref x)]))
  obtain ⟨T3, X3, e3, st3⟩ := getF X2 hx hZ hown (host := "") (Or.inl (hw _ (List.mem_of_getElem? (i := 35) rfl))) Via.refl e2 Pm0 (g := (mkF m 7 #[.val (.ref x)] [(.ref x)])) rfl rfl (hb hby own_d7_7)
  refine own_go st3 ?_
  show own_Rn p e below _ (T3.setTop (mkF m 10 #[.val (.ref x)] [(.int (1 : Int32))]))
  refine own_go (fun tq kq => XS.goto X3.here hx rfl (pc0 := 10) (pc' := 14) rfl (hb hby own_d7_10) (by decide) (by decide) kq) ?_
  show own_Rn p e below _ (T3.setTop (mkF m 14 #[.val (.ref x)] [(.int (1 : Int32))]))
  exact own_ret X3 (v := some (.int (nar .byte (1 : Int32)))) (fun h => by rw [Bd.returns] at h; cases h) (fun fs hr => retN X3 hx (t := .byte) Bd.returns (by simp) (hb hby own_d7_14) hr) (by rw [e3]; exact ⟨rfl, N0, rfl⟩) (by decide) (by decide)
theorem own_ef_rmIl1 (m : MethodId) (x : Addr) (G1 : Int32) : entryFrame m #[(.ref x)] 1 = mkF m 0 #[.val (.ref x)] [] := by first | (simp [entryFrame, mkF, argsToLocals, Value.category]; done) | rfl
theorem own_d22_17 : decode jdk_42_method_154_code 17 = .ok (.iconst 0, 1) := by decide +kernel
def Q_rmIl1 (Z : State) (x : Addr) (G1 : Int32) (h0 : Heap) (n0 : Nat) (v : Option Value) (h : Heap) (L : List Loc) : Prop := v = some (.int (0 : Int32)) ∧ Fr n0 L ∧ h = h0
set_option maxRecDepth 65536 in
set_option maxHeartbeats 40000000 in
theorem rmIl1 (l : Launch) (Z : State) (a0 : Array Value) (hw : ∀ d ∈ tables_1, d.before a0 Z = true) (ws : List Jvm.Cond) (x : Addr) (G1 : Int32) (h0 : Heap) (n0 : Nat) (Z0 : n0 ≤ h0.size) (Pm0 : Fld Z h0 x "java/lang/String" "coder" "B" (.int (1 : Int32))) (O2 : Sta Z Z.heap "java/lang/String" "COMPACT_STRINGS" "Z" (.int G1)) (P5 : (¬ (G1 = (0 : Int32)))) (X00 : Old Z n0 h0) :
    MetFree l (⟨"java/lang/String", "isLatin1", "()Z"⟩ : MethodName) (head1 (Jvm.Cond.code (⟨"java/lang/String", "isLatin1", "()Z"⟩ : MethodName) jdk_42_method_154_code 1 (some .boolean) :: ws) ({ frames := 0, cells := 0, slots := 0, locals := 0 } : Room)) (fun a U => a = #[(.ref x)] ∧ Z.Warmed39 U.vm ∧ U.heap = h0) (fun _ _ _ _ _ => True) (fun _ U o U' => ∃ v L, o = .returned v ∧ Q_rmIl1 Z x G1 h0 n0 v U'.heap L ∧ FrameEnd U o U' L ({ frames := 0, cells := 0, slots := 0, locals := 0 } : Room).cells ({ frames := 0, cells := 0, slots := 0, locals := 0 } : Room).slots) := by
  refine MetFree.of_bodySF (plainFor_of_name own_pn_java_lang_String) hisR ?_
  intro p e s m args below meth c s₁ Bd hml0 hP hK
  obtain ⟨rfl, hZ, hh⟩ := hP
  have hx := Bd.exec
  have hby := Bd.bytes
  have hml : c.maxLocals = 1 := hml0
  have hown : s.vm.findClass "java/lang/String" = some m.cls := findClass_of_methodNamed Bd.named
  have hnm := (name_of_methodNamed Bd.named Bd.method).1
  have X0 : Stand p l e ({ frames := 0, cells := 0, slots := 0, locals := 0 } : Room) s m #[(.ref x)] below meth c s₁ [] 0 0 := Stand.of_body Bd
  have e0 : s₁.heap = h0 := by rw [← hh, Bd.state]; rfl
  have N0 := Fr.nil n0
  have K0 : Keep h0 h0 [] := Keep.refl _ _
  refine own_go (S' := s₁.setTop (mkF m 0 #[.val (.ref x)] [])) (fun tq kq => castTop (own_ef_rmIl1 m x G1) kq) ?_
  have lt1 : @LT.lt Nat _ x h0.size := Pm0.lt
  obtain ⟨T2, X2, e2, st2⟩ := getS2 X0 hx hZ hown (host := "") (Or.inl (hw _ (List.mem_of_getElem? (i := 50) rfl))) Via.refl e0 (O2.ext X00.2) (g := (mkF m 0 #[.val (.ref x)] [])) rfl (hb hby own_d22_0)
  refine own_go st2 ?_
  show own_Rn p e below _ (T2.setTop (mkF m 3 #[.val (.ref x)] [(.int G1)]))
  refine own_go (fun tq kq => XS.ifNo X2.here hx rfl (hb hby own_d22_3) rfl ((if0 _ _).trans (feq (P5 : ¬ (G1 = (0 : Int32)))).1) kq) ?_
  show own_Rn p e below _ (T2.setTop (mkF m 6 #[.val (.ref x)] []))
  refine own_go (fun tq kq => XS.aloadN X2.here hx rfl (hb hby own_d22_6) rfl rfl kq) ?_
  show own_Rn p e below _ (T2.setTop (mkF m 7 #[.val (.ref x)] [(.ref x)]))
  obtain ⟨T3, X3, e3, st3⟩ := getF X2 hx hZ hown (host := "") (Or.inl (hw _ (List.mem_of_getElem? (i := 35) rfl))) Via.refl e2 Pm0 (g := (mkF m 7 #[.val (.ref x)] [(.ref x)])) rfl rfl (hb hby own_d22_7)
  refine own_go st3 ?_
  show own_Rn p e below _ (T3.setTop (mkF m 10 #[.val (.ref x)] [(.int (1 : Int32))]))
  refine own_go (fun tq kq => XS.ifYes X3.here hx rfl (pc0 := 10) (pc' := 17) rfl (hb hby own_d22_10) rfl ((if0 _ _).trans (feq ((by decide : ¬ ((1 : Int32) = (0 : Int32))) : ¬ ((1 : Int32) = (0 : Int32)))).2) (by decide) (by decide) kq) ?_
  show own_Rn p e below _ (T3.setTop (mkF m 17 #[.val (.ref x)] []))
  refine own_go (fun tq kq => XS.iconst X3.here hx rfl (hb hby own_d22_17) kq) ?_
  show own_Rn p e below _ (T3.setTop (mkF m 18 #[.val (.ref x)] [(.int (0 : Int32))]))
  exact own_ret X3 (v := some (.int (nar .boolean (0 : Int32)))) (fun h => by rw [Bd.returns] at h; cases h) (fun fs hr => retN X3 hx (t := .boolean) Bd.returns (by simp) (hb hby own_d22_18) hr) (by rw [e3]; exact ⟨rfl, N0, rfl⟩) (by decide) (by decide)
theorem own_ef_rmLe (m : MethodId) (x : Addr) (t : Addr) (kt : ClassId) (N : Int32) (vs : List Value) (cd : Int32) (cs : List Int32) (G1 : Int32) : entryFrame m #[(.ref x)] 1 = mkF m 0 #[.val (.ref x)] [] := by first | (simp [entryFrame, mkF, argsToLocals, Value.category]; done) | rfl
theorem own_d6_0 : decode jdk_42_method_54_code 0 = .ok (.aload_n 0, 1) := by decide +kernel
theorem own_d6_1 : decode jdk_42_method_54_code 1 = .ok (.getfield 9, 3) := by decide +kernel
theorem own_d6_4 : decode jdk_42_method_54_code 4 = .ok (.arraylength, 1) := by decide +kernel
theorem own_d6_5 : decode jdk_42_method_54_code 5 = .ok (.aload_n 0, 1) := by decide +kernel
theorem own_d6_6 : decode jdk_42_method_54_code 6 = .ok (.invokevirtual 335, 3) := by decide +kernel
theorem own_pd_2829B : parseMethodDescriptor "()B" = some ⟨[], some .byte⟩ := by decide +kernel
theorem own_d6_9 : decode jdk_42_method_54_code 9 = .ok (.ishr, 1) := by decide +kernel
theorem own_d6_10 : decode jdk_42_method_54_code 10 = .ok (.ireturn, 1) := by decide +kernel
def Q_rmLe (Z : State) (x : Addr) (t : Addr) (kt : ClassId) (N : Int32) (vs : List Value) (cd : Int32) (cs : List Int32) (G1 : Int32) (h0 : Heap) (n0 : Nat) (v : Option Value) (h : Heap) (L : List Loc) : Prop := v = some (.int (Int32.ofNat cs.length)) ∧ Fr n0 L ∧ h = h0
set_option maxRecDepth 65536 in
set_option maxHeartbeats 40000000 in
theorem rmLe (l : Launch) (Z : State) (a0 : Array Value) (hw : ∀ d ∈ tables_1, d.before a0 Z = true) (ws : List Jvm.Cond) (x : Addr) (t : Addr) (kt : ClassId) (N : Int32) (vs : List Value) (cd : Int32) (cs : List Int32) (G1 : Int32) (h0 : Heap) (n0 : Nat) (Z0 : n0 ≤ h0.size) (Pm0 : Exa Z h0 x "java/lang/String") (Pm1 : Fld Z h0 x "java/lang/String" "value" "[B" (.ref t)) (Pm2 : Fld Z h0 x "java/lang/String" "coder" "B" (.int cd)) (Pm3 : Arv Z h0 t kt .byte N vs (.int 0)) (RL : ((cd = 0 ∧ N = (Int32.ofNat cs.length) ∧ vs = own_bs cs ∧ ∀ c ∈ cs, ¬ (255 : Int32) < c) ∨ (cd = 1 ∧ N = (Int32.ofNat (2 * cs.length)) ∧ vs = own_u16 cs))) (hn : (cs.length ≤ 3)) (hr : (∀ c ∈ cs, ¬ c < 0 ∧ ¬ (65535 : Int32) < c)) (O2 : Sta Z Z.heap "java/lang/String" "COMPACT_STRINGS" "Z" (.int G1)) (P5 : (¬ (G1 = (0 : Int32)))) (X00 : Old Z n0 h0) :
    MetFree l (⟨"java/lang/String", "length", "()I"⟩ : MethodName) (head1 (Jvm.Cond.code (⟨"java/lang/String", "length", "()I"⟩ : MethodName) jdk_42_method_54_code 1 (some .int) :: ws) ({ frames := 1, cells := 0, slots := 0, locals := 13 } : Room)) (fun a U => a = #[(.ref x)] ∧ Z.Warmed39 U.vm ∧ U.heap = h0) (fun _ _ _ _ _ => True) (fun _ U o U' => ∃ v L, o = .returned v ∧ Q_rmLe Z x t kt N vs cd cs G1 h0 n0 v U'.heap L ∧ FrameEnd U o U' L ({ frames := 1, cells := 0, slots := 0, locals := 13 } : Room).cells ({ frames := 1, cells := 0, slots := 0, locals := 13 } : Room).slots) := by
  refine MetFree.of_bodySF (plainFor_of_name own_pn_java_lang_String) hisR ?_
  intro p e s m args below meth c s₁ Bd hml0 hP hK
  obtain ⟨rfl, hZ, hh⟩ := hP
  have hx := Bd.exec
  have hby := Bd.bytes
  have hml : c.maxLocals = 1 := hml0
  have hown : s.vm.findClass "java/lang/String" = some m.cls := findClass_of_methodNamed Bd.named
  have hnm := (name_of_methodNamed Bd.named Bd.method).1
  have X0 : Stand p l e ({ frames := 1, cells := 0, slots := 0, locals := 13 } : Room) s m #[(.ref x)] below meth c s₁ [] 0 0 := Stand.of_body Bd
  have e0 : s₁.heap = h0 := by rw [← hh, Bd.state]; rfl
  have N0 := Fr.nil n0
  have K0 : Keep h0 h0 [] := Keep.refl _ _
  refine own_go (S' := s₁.setTop (mkF m 0 #[.val (.ref x)] [])) (fun tq kq => castTop (own_ef_rmLe m x t kt N vs cd cs G1) kq) ?_
  have lt1 : @LT.lt Nat _ x h0.size := Pm0.lt
  have lt2 : @LT.lt Nat _ t h0.size := Pm3.lt
  rcases RL with ⟨rfl, rfl, rfl, hal⟩ | ⟨rfl, rfl, rfl⟩
  · skip
    show own_Rn p e below _ (s₁.setTop (mkF m 0 #[.val (.ref x)] []))
    refine own_go (fun tq kq => XS.aloadN X0.here hx rfl (hb hby own_d6_0) rfl rfl kq) ?_
    show own_Rn p e below _ (s₁.setTop (mkF m 1 #[.val (.ref x)] [(.ref x)]))
    obtain ⟨T3, X3, e3, st3⟩ := getF X0 hx hZ hown (host := "") (Or.inl (hw _ (List.mem_of_getElem? (i := 34) rfl))) Via.refl e0 Pm1 (g := (mkF m 1 #[.val (.ref x)] [(.ref x)])) rfl rfl (hb hby own_d6_1)
    refine own_go st3 ?_
    show own_Rn p e below _ (T3.setTop (mkF m 4 #[.val (.ref x)] [(.ref t)]))
    obtain ⟨cl4, Ar4, -, Sz4, Nn4, -, -⟩ := id Pm3
    refine own_go (fun tq kq => X3.arraylength hx (cell := cl4) (by rw [e3]; exact Ar4.1) (State.isArrayOf_alike hZ.alike Ar4.2.1) (g := (mkF m 4 #[.val (.ref x)] [(.ref t)])) rfl rfl (hb hby own_d6_4) tq kq) ?_
    rw [len_of Sz4 Nn4]
    show own_Rn p e below _ (T3.setTop (mkF m 5 #[.val (.ref x)] [(.int (Int32.ofNat cs.length))]))
    refine own_go (fun tq kq => XS.aloadN X3.here hx rfl (hb hby own_d6_5) rfl rfl kq) ?_
    show own_Rn p e below _ (T3.setTop (mkF m 6 #[.val (.ref x)] [(.ref x), (.int (Int32.ofNat cs.length))]))
    have Zn5 : n0 ≤ h0.size := by omega
    obtain ⟨cq5, kq5, qa5, qb5, qc5⟩ := isOf hZ e3 Pm0
    obtain ⟨rv5, _, ⟨T5, L5, k5, n5⟩, -, X5, ⟨Lc5, hQ5, l5, y5, z5⟩, st5⟩ := X3.virtualBack hx (y := (⟨"java/lang/String", "coder", "()B"⟩ : MethodName)) (z := (⟨"java/lang/String", "coder", "()B"⟩ : MethodName)) hown (mvT hZ (hw _ (List.mem_of_getElem? (i := 45) rfl))) (mvT hZ (hw _ (List.mem_of_getElem? (i := 46) rfl))) (notFace_of_selects (args := #[]) (mvT hZ (hw _ (List.mem_of_getElem? (i := 48) rfl)))) (mvT hZ (hw _ (List.mem_of_getElem? (i := 48) rfl))) (mvT hZ (hw _ (List.mem_of_getElem? (i := 47) rfl))) (by decide) (backOf (W := 1) (rmCo0 l Z a0 hw [] (x) (G1) h0 n0 Zn5 Pm2 (O2) (P5) X00) hZ (hw _ (List.mem_of_getElem? (i := 49) rfl)) (hw _ (List.mem_of_getElem? (i := 17) rfl)) (by decide) (by decide)) qa5 qc5 (g := (mkF m 6 #[.val (.ref x)] [(.ref x), (.int (Int32.ofNat cs.length))])) rfl (by rw [hml]; rfl) (Steps.refl _) (argsL := []) (rest := [(.int (Int32.ofNat cs.length))]) (lenOf own_pd_2829B rfl) rfl (by show 2 * 0 + _ ≤ _; exact Nat.le_of_eq rfl) (hb hby own_d6_6) (fun _ _ => ⟨rfl, e3, (by decide : 0 + 0 ≤ _), (by decide : 0 + 0 ≤ _)⟩)
    dsimp only [Pt.U, Pt.locs, Pt.cells, Pt.slots] at X5 l5 y5 z5 st5 hQ5
    subst l5 y5 z5
    obtain ⟨rfl, Nq5, eh5⟩ := hQ5
    have N5 := Fr.app N0 Nq5
    refine own_go (fun tq kq => st5.trans kq) ?_
    show own_Rn p e below _ (T5.setTop (mkF m 9 #[.val (.ref x)] [(.int (0 : Int32)), (.int (Int32.ofNat cs.length))]))
    refine own_go (fun tq kq => XS.ishr X5.here hx rfl (hb hby own_d6_9) rfl kq) ?_
    show own_Rn p e below _ (T5.setTop (mkF m 10 #[.val (.ref x)] [(.int ((Int32.ofNat cs.length) >>> ((0 : Int32) &&& 31)))]))
    exact own_ret X5 (v := some (.int ((Int32.ofNat cs.length) >>> ((0 : Int32) &&& 31)))) (fun h => by rw [Bd.returns] at h; cases h) (fun fs hr => retI X5 hx Bd.returns (hb hby own_d6_10) hr) (by rw [eh5]; exact ⟨congrArg (fun z => some (Value.int z)) (own_shr0 _), N5, rfl⟩) (by decide) (by decide)
  · skip
    show own_Rn p e below _ (s₁.setTop (mkF m 0 #[.val (.ref x)] []))
    refine own_go (fun tq kq => XS.aloadN X0.here hx rfl (hb hby own_d6_0) rfl rfl kq) ?_
    show own_Rn p e below _ (s₁.setTop (mkF m 1 #[.val (.ref x)] [(.ref x)]))
    obtain ⟨T6, X6, e6, st6⟩ := getF X0 hx hZ hown (host := "") (Or.inl (hw _ (List.mem_of_getElem? (i := 34) rfl))) Via.refl e0 Pm1 (g := (mkF m 1 #[.val (.ref x)] [(.ref x)])) rfl rfl (hb hby own_d6_1)
    refine own_go st6 ?_
    show own_Rn p e below _ (T6.setTop (mkF m 4 #[.val (.ref x)] [(.ref t)]))
    obtain ⟨cl7, Ar7, -, Sz7, Nn7, -, -⟩ := id Pm3
    refine own_go (fun tq kq => X6.arraylength hx (cell := cl7) (by rw [e6]; exact Ar7.1) (State.isArrayOf_alike hZ.alike Ar7.2.1) (g := (mkF m 4 #[.val (.ref x)] [(.ref t)])) rfl rfl (hb hby own_d6_4) tq kq) ?_
    rw [len_of Sz7 Nn7]
    show own_Rn p e below _ (T6.setTop (mkF m 5 #[.val (.ref x)] [(.int (Int32.ofNat (2 * cs.length)))]))
    refine own_go (fun tq kq => XS.aloadN X6.here hx rfl (hb hby own_d6_5) rfl rfl kq) ?_
    show own_Rn p e below _ (T6.setTop (mkF m 6 #[.val (.ref x)] [(.ref x), (.int (Int32.ofNat (2 * cs.length)))]))
    have Zn8 : n0 ≤ h0.size := by omega
    obtain ⟨cq8, kq8, qa8, qb8, qc8⟩ := isOf hZ e6 Pm0
    obtain ⟨rv8, _, ⟨T8, L8, k8, n8⟩, -, X8, ⟨Lc8, hQ8, l8, y8, z8⟩, st8⟩ := X6.virtualBack hx (y := (⟨"java/lang/String", "coder", "()B"⟩ : MethodName)) (z := (⟨"java/lang/String", "coder", "()B"⟩ : MethodName)) hown (mvT hZ (hw _ (List.mem_of_getElem? (i := 45) rfl))) (mvT hZ (hw _ (List.mem_of_getElem? (i := 46) rfl))) (notFace_of_selects (args := #[]) (mvT hZ (hw _ (List.mem_of_getElem? (i := 48) rfl)))) (mvT hZ (hw _ (List.mem_of_getElem? (i := 48) rfl))) (mvT hZ (hw _ (List.mem_of_getElem? (i := 47) rfl))) (by decide) (backOf (W := 1) (rmCo1 l Z a0 hw [] (x) (G1) h0 n0 Zn8 Pm2 (O2) (P5) X00) hZ (hw _ (List.mem_of_getElem? (i := 49) rfl)) (hw _ (List.mem_of_getElem? (i := 17) rfl)) (by decide) (by decide)) qa8 qc8 (g := (mkF m 6 #[.val (.ref x)] [(.ref x), (.int (Int32.ofNat (2 * cs.length)))])) rfl (by rw [hml]; rfl) (Steps.refl _) (argsL := []) (rest := [(.int (Int32.ofNat (2 * cs.length)))]) (lenOf own_pd_2829B rfl) rfl (by show 2 * 0 + _ ≤ _; exact Nat.le_of_eq rfl) (hb hby own_d6_6) (fun _ _ => ⟨rfl, e6, (by decide : 0 + 0 ≤ _), (by decide : 0 + 0 ≤ _)⟩)
    dsimp only [Pt.U, Pt.locs, Pt.cells, Pt.slots] at X8 l8 y8 z8 st8 hQ8
    subst l8 y8 z8
    obtain ⟨rfl, Nq8, eh8⟩ := hQ8
    have N8 := Fr.app N0 Nq8
    refine own_go (fun tq kq => st8.trans kq) ?_
    show own_Rn p e below _ (T8.setTop (mkF m 9 #[.val (.ref x)] [(.int (1 : Int32)), (.int (Int32.ofNat (2 * cs.length)))]))
    refine own_go (fun tq kq => XS.ishr X8.here hx rfl (hb hby own_d6_9) rfl kq) ?_
    show own_Rn p e below _ (T8.setTop (mkF m 10 #[.val (.ref x)] [(.int ((Int32.ofNat (2 * cs.length)) >>> ((1 : Int32) &&& 31)))]))
    exact own_ret X8 (v := some (.int ((Int32.ofNat (2 * cs.length)) >>> ((1 : Int32) &&& 31)))) (fun h => by rw [Bd.returns] at h; cases h) (fun fs hr => retI X8 hx Bd.returns (hb hby own_d6_10) hr) (by rw [eh8]; exact ⟨congrArg (fun z => some (Value.int z)) (own_shr1 _ (by omega)), N8, rfl⟩) (by decide) (by decide)
theorem own_ef_rmCha (m : MethodId) (x : Addr) (t : Addr) (kt : ClassId) (N : Int32) (vs : List Value) (cd : Int32) (cs : List Int32) (G1 : Int32) (qq : Nat) (G3 : Value) : entryFrame m #[(.ref x), (.int (Int32.ofNat qq))] 2 = mkF m 0 #[.val (.ref x), .val (.int (Int32.ofNat qq))] [] := by first | (simp [entryFrame, mkF, argsToLocals, Value.category]; done) | rfl
theorem own_d21_0 : decode jdk_42_method_56_code 0 = .ok (.aload_n 0, 1) := by decide +kernel
theorem own_d21_1 : decode jdk_42_method_56_code 1 = .ok (.invokevirtual 492, 3) := by decide +kernel
theorem own_pd_2829Z : parseMethodDescriptor "()Z" = some ⟨[], some .boolean⟩ := by decide +kernel
theorem own_d21_4 : decode jdk_42_method_56_code 4 = .ok (.ifCond .eq 12, 3) := by decide +kernel
theorem own_d21_7 : decode jdk_42_method_56_code 7 = .ok (.aload_n 0, 1) := by decide +kernel
theorem own_d21_8 : decode jdk_42_method_56_code 8 = .ok (.getfield 9, 3) := by decide +kernel
theorem own_d21_11 : decode jdk_42_method_56_code 11 = .ok (.iload_n 1, 1) := by decide +kernel
theorem own_d21_12 : decode jdk_42_method_56_code 12 = .ok (.invokestatic 495, 3) := by decide +kernel
theorem own_d21_15 : decode jdk_42_method_56_code 15 = .ok (.ireturn, 1) := by decide +kernel
theorem own_d21_16 : decode jdk_42_method_56_code 16 = .ok (.aload_n 0, 1) := by decide +kernel
theorem own_d21_17 : decode jdk_42_method_56_code 17 = .ok (.getfield 9, 3) := by decide +kernel
theorem own_d21_20 : decode jdk_42_method_56_code 20 = .ok (.iload_n 1, 1) := by decide +kernel
theorem own_d21_21 : decode jdk_42_method_56_code 21 = .ok (.invokestatic 498, 3) := by decide +kernel
theorem own_d21_24 : decode jdk_42_method_56_code 24 = .ok (.ireturn, 1) := by decide +kernel
def Q_rmCha (Z : State) (x : Addr) (t : Addr) (kt : ClassId) (N : Int32) (vs : List Value) (cd : Int32) (cs : List Int32) (G1 : Int32) (qq : Nat) (G3 : Value) (h0 : Heap) (n0 : Nat) (v : Option Value) (h : Heap) (L : List Loc) : Prop := v = some (.int (cs.getD qq 0)) ∧ Fr n0 L ∧ h = h0
set_option maxRecDepth 65536 in
set_option maxHeartbeats 40000000 in
theorem rmCha (l : Launch) (Z : State) (a0 : Array Value) (hw : ∀ d ∈ tables_1, d.before a0 Z = true) (ws : List Jvm.Cond) (x : Addr) (t : Addr) (kt : ClassId) (N : Int32) (vs : List Value) (cd : Int32) (cs : List Int32) (G1 : Int32) (qq : Nat) (G3 : Value) (h0 : Heap) (n0 : Nat) (Z0 : n0 ≤ h0.size) (Pm0 : Exa Z h0 x "java/lang/String") (Pm1 : Fld Z h0 x "java/lang/String" "value" "[B" (.ref t)) (Pm2 : Fld Z h0 x "java/lang/String" "coder" "B" (.int cd)) (Pm3 : Arv Z h0 t kt .byte N vs (.int 0)) (RL : ((cd = 0 ∧ N = (Int32.ofNat cs.length) ∧ vs = own_bs cs ∧ ∀ c ∈ cs, ¬ (255 : Int32) < c) ∨ (cd = 1 ∧ N = (Int32.ofNat (2 * cs.length)) ∧ vs = own_u16 cs))) (hn : (cs.length ≤ 3)) (hr : (∀ c ∈ cs, ¬ c < 0 ∧ ¬ (65535 : Int32) < c)) (hq : (qq < cs.length)) (OAD : Sta Z Z.heap "java/lang/StringUTF16" "$assertionsDisabled" "Z" (.int (1 : Int32))) (OHI : Sta Z Z.heap "java/lang/StringUTF16" "HI_BYTE_SHIFT" "I" (.int (0 : Int32))) (OLO : Sta Z Z.heap "java/lang/StringUTF16" "LO_BYTE_SHIFT" "I" (.int (8 : Int32))) (O4 : Sta Z Z.heap "jdk/internal/util/Preconditions" "SIOOBE_FORMATTER" "Ljava/util/function/BiFunction;" G3) (hG3 : (G3 = .null ∨ ∃ ga, G3 = .ref ga)) (O2 : Sta Z Z.heap "java/lang/String" "COMPACT_STRINGS" "Z" (.int G1)) (P5 : (¬ (G1 = (0 : Int32)))) (X00 : Old Z n0 h0) :
    MetFree l (⟨"java/lang/String", "charAt", "(I)C"⟩ : MethodName) (head1 (Jvm.Cond.code (⟨"java/lang/String", "charAt", "(I)C"⟩ : MethodName) jdk_42_method_56_code 2 (some .char) :: ws) ({ frames := 4, cells := 0, slots := 0, locals := 53 } : Room)) (fun a U => a = #[(.ref x), (.int (Int32.ofNat qq))] ∧ Z.Warmed39 U.vm ∧ U.heap = h0) (fun _ _ _ _ _ => True) (fun _ U o U' => ∃ v L, o = .returned v ∧ Q_rmCha Z x t kt N vs cd cs G1 qq G3 h0 n0 v U'.heap L ∧ FrameEnd U o U' L ({ frames := 4, cells := 0, slots := 0, locals := 53 } : Room).cells ({ frames := 4, cells := 0, slots := 0, locals := 53 } : Room).slots) := by
  refine MetFree.of_bodySF (plainFor_of_name own_pn_java_lang_String) hisR ?_
  intro p e s m args below meth c s₁ Bd hml0 hP hK
  obtain ⟨rfl, hZ, hh⟩ := hP
  have hx := Bd.exec
  have hby := Bd.bytes
  have hml : c.maxLocals = 2 := hml0
  have hown : s.vm.findClass "java/lang/String" = some m.cls := findClass_of_methodNamed Bd.named
  have hnm := (name_of_methodNamed Bd.named Bd.method).1
  have X0 : Stand p l e ({ frames := 4, cells := 0, slots := 0, locals := 53 } : Room) s m #[(.ref x), (.int (Int32.ofNat qq))] below meth c s₁ [] 0 0 := Stand.of_body Bd
  have e0 : s₁.heap = h0 := by rw [← hh, Bd.state]; rfl
  have N0 := Fr.nil n0
  have K0 : Keep h0 h0 [] := Keep.refl _ _
  refine own_go (S' := s₁.setTop (mkF m 0 #[.val (.ref x), .val (.int (Int32.ofNat qq))] [])) (fun tq kq => castTop (own_ef_rmCha m x t kt N vs cd cs G1 qq G3) kq) ?_
  have lt1 : @LT.lt Nat _ x h0.size := Pm0.lt
  have lt2 : @LT.lt Nat _ t h0.size := Pm3.lt
  rcases RL with ⟨rfl, rfl, rfl, hal⟩ | ⟨rfl, rfl, rfl⟩
  · skip
    show own_Rn p e below _ (s₁.setTop (mkF m 0 #[.val (.ref x), .val (.int (Int32.ofNat qq))] []))
    have hm : ¬ cs.getD qq 0 < 0 ∧ ¬ (65535 : Int32) < cs.getD qq 0 := hr _ (by rw [List.getD_eq_getElem?_getD, List.getElem?_eq_getElem hq]; exact List.getElem_mem hq)
    refine own_go (fun tq kq => XS.aloadN X0.here hx rfl (hb hby own_d21_0) rfl rfl kq) ?_
    show own_Rn p e below _ (s₁.setTop (mkF m 1 #[.val (.ref x), .val (.int (Int32.ofNat qq))] [(.ref x)]))
    have Zn3 : n0 ≤ h0.size := by omega
    obtain ⟨cq3, kq3, qa3, qb3, qc3⟩ := isOf hZ e0 Pm0
    obtain ⟨rv3, _, ⟨T3, L3, k3, n3⟩, -, X3, ⟨Lc3, hQ3, l3, y3, z3⟩, st3⟩ := X0.virtualBack hx (y := (⟨"java/lang/String", "isLatin1", "()Z"⟩ : MethodName)) (z := (⟨"java/lang/String", "isLatin1", "()Z"⟩ : MethodName)) hown (mvT hZ (hw _ (List.mem_of_getElem? (i := 102) rfl))) (mvT hZ (hw _ (List.mem_of_getElem? (i := 103) rfl))) (notFace_of_selects (args := #[]) (mvT hZ (hw _ (List.mem_of_getElem? (i := 105) rfl)))) (mvT hZ (hw _ (List.mem_of_getElem? (i := 105) rfl))) (mvT hZ (hw _ (List.mem_of_getElem? (i := 104) rfl))) (by decide) (backOf (W := 0) (rmIl0 l Z a0 hw [] (x) (G1) h0 n0 Zn3 Pm2 (O2) (P5) X00) hZ (hw _ (List.mem_of_getElem? (i := 106) rfl)) (hw _ (List.mem_of_getElem? (i := 17) rfl)) (by decide) (by decide)) qa3 qc3 (g := (mkF m 1 #[.val (.ref x), .val (.int (Int32.ofNat qq))] [(.ref x)])) rfl (by rw [hml]; rfl) (Steps.refl _) (argsL := []) (rest := []) (lenOf own_pd_2829Z rfl) rfl (by show 2 * 0 + _ ≤ _; exact Nat.le_of_eq rfl) (hb hby own_d21_1) (fun _ _ => ⟨rfl, e0, (by decide : 0 + 0 ≤ _), (by decide : 0 + 0 ≤ _)⟩)
    dsimp only [Pt.U, Pt.locs, Pt.cells, Pt.slots] at X3 l3 y3 z3 st3 hQ3
    subst l3 y3 z3
    obtain ⟨rfl, Nq3, eh3⟩ := hQ3
    have N3 := Fr.app N0 Nq3
    refine own_go (fun tq kq => st3.trans kq) ?_
    show own_Rn p e below _ (T3.setTop (mkF m 4 #[.val (.ref x), .val (.int (Int32.ofNat qq))] [(.int (1 : Int32))]))
    refine own_go (fun tq kq => XS.ifNo X3.here hx rfl (hb hby own_d21_4) rfl ((if0 _ _).trans (feq ((by decide : ¬ ((1 : Int32) = (0 : Int32))) : ¬ ((1 : Int32) = (0 : Int32)))).1) kq) ?_
    show own_Rn p e below _ (T3.setTop (mkF m 7 #[.val (.ref x), .val (.int (Int32.ofNat qq))] []))
    refine own_go (fun tq kq => XS.aloadN X3.here hx rfl (hb hby own_d21_7) rfl rfl kq) ?_
    show own_Rn p e below _ (T3.setTop (mkF m 8 #[.val (.ref x), .val (.int (Int32.ofNat qq))] [(.ref x)]))
    obtain ⟨T4, X4, e4, st4⟩ := getF X3 hx hZ hown (host := "") (Or.inl (hw _ (List.mem_of_getElem? (i := 34) rfl))) Via.refl eh3 Pm1 (g := (mkF m 8 #[.val (.ref x), .val (.int (Int32.ofNat qq))] [(.ref x)])) rfl rfl (hb hby own_d21_8)
    refine own_go st4 ?_
    show own_Rn p e below _ (T4.setTop (mkF m 11 #[.val (.ref x), .val (.int (Int32.ofNat qq))] [(.ref t)]))
    refine own_go (fun tq kq => XS.iloadN X4.here hx rfl (hb hby own_d21_11) rfl kq) ?_
    show own_Rn p e below _ (T4.setTop (mkF m 12 #[.val (.ref x), .val (.int (Int32.ofNat qq))] [(.int (Int32.ofNat qq)), (.ref t)]))
    have Zn5 : n0 ≤ h0.size := by omega
    obtain ⟨rv5, _, ⟨T5, L5, k5, n5⟩, -, X5, ⟨Lc5, hQ5, l5, y5, z5⟩, st5⟩ := Jvm.LawKit.callS X4 hx (y := (⟨"java/lang/StringLatin1", "charAt", "([BI)C"⟩ : MethodName)) hown (mvT hZ (hw _ (List.mem_of_getElem? (i := 163) rfl))) (mvT hZ (hw _ (List.mem_of_getElem? (i := 164) rfl))) (mvT hZ (hw _ (List.mem_of_getElem? (i := 165) rfl))) (mvT hZ (hw _ (List.mem_of_getElem? (i := 166) rfl))) (by decide) (backOf (W := 0) (rmLCh l Z a0 hw [] (t) (kt) (cs) (qq) (G3) h0 n0 Zn5 Pm3 (hq) (hn) (hr) (hal) (O4) (hG3) X00) hZ (hw _ (List.mem_of_getElem? (i := 166) rfl)) (hw _ (List.mem_of_getElem? (i := 165) rfl)) (by decide) (by decide)) (g := (mkF m 12 #[.val (.ref x), .val (.int (Int32.ofNat qq))] [(.int (Int32.ofNat qq)), (.ref t)])) rfl (by rw [hml]; rfl) (argsL := [(.ref t), (.int (Int32.ofNat qq))]) (rest := []) (lenOf own_pd_285bBI29C rfl) rfl (by show 2 * 0 + _ ≤ _; exact Nat.le_of_eq rfl) (hb hby own_d21_12) (fun _ _ => ⟨rfl, e4, (by decide : 0 + 0 ≤ _), (by decide : 0 + 0 ≤ _)⟩)
    dsimp only [Pt.U, Pt.locs, Pt.cells, Pt.slots] at X5 l5 y5 z5 st5 hQ5
    subst l5 y5 z5
    obtain ⟨rfl, Nq5, eh5⟩ := hQ5
    have N5 := Fr.app N3 Nq5
    refine own_go st5 ?_
    show own_Rn p e below _ (T5.setTop (mkF m 15 #[.val (.ref x), .val (.int (Int32.ofNat qq))] [(.int (cs.getD qq 0))]))
    exact own_ret X5 (v := some (.int (nar .char (cs.getD qq 0)))) (fun h => by rw [Bd.returns] at h; cases h) (fun fs hr => retN X5 hx (t := .char) Bd.returns (by simp) (hb hby own_d21_15) hr) (by rw [eh5]; exact ⟨congrArg (fun z => some (Value.int z)) (own_c16 _ hm), N5, rfl⟩) (by decide) (by decide)
  · skip
    show own_Rn p e below _ (s₁.setTop (mkF m 0 #[.val (.ref x), .val (.int (Int32.ofNat qq))] []))
    have hm : ¬ cs.getD qq 0 < 0 ∧ ¬ (65535 : Int32) < cs.getD qq 0 := hr _ (by rw [List.getD_eq_getElem?_getD, List.getElem?_eq_getElem hq]; exact List.getElem_mem hq)
    refine own_go (fun tq kq => XS.aloadN X0.here hx rfl (hb hby own_d21_0) rfl rfl kq) ?_
    show own_Rn p e below _ (s₁.setTop (mkF m 1 #[.val (.ref x), .val (.int (Int32.ofNat qq))] [(.ref x)]))
    have Zn6 : n0 ≤ h0.size := by omega
    obtain ⟨cq6, kq6, qa6, qb6, qc6⟩ := isOf hZ e0 Pm0
    obtain ⟨rv6, _, ⟨T6, L6, k6, n6⟩, -, X6, ⟨Lc6, hQ6, l6, y6, z6⟩, st6⟩ := X0.virtualBack hx (y := (⟨"java/lang/String", "isLatin1", "()Z"⟩ : MethodName)) (z := (⟨"java/lang/String", "isLatin1", "()Z"⟩ : MethodName)) hown (mvT hZ (hw _ (List.mem_of_getElem? (i := 102) rfl))) (mvT hZ (hw _ (List.mem_of_getElem? (i := 103) rfl))) (notFace_of_selects (args := #[]) (mvT hZ (hw _ (List.mem_of_getElem? (i := 105) rfl)))) (mvT hZ (hw _ (List.mem_of_getElem? (i := 105) rfl))) (mvT hZ (hw _ (List.mem_of_getElem? (i := 104) rfl))) (by decide) (backOf (W := 0) (rmIl1 l Z a0 hw [] (x) (G1) h0 n0 Zn6 Pm2 (O2) (P5) X00) hZ (hw _ (List.mem_of_getElem? (i := 106) rfl)) (hw _ (List.mem_of_getElem? (i := 17) rfl)) (by decide) (by decide)) qa6 qc6 (g := (mkF m 1 #[.val (.ref x), .val (.int (Int32.ofNat qq))] [(.ref x)])) rfl (by rw [hml]; rfl) (Steps.refl _) (argsL := []) (rest := []) (lenOf own_pd_2829Z rfl) rfl (by show 2 * 0 + _ ≤ _; exact Nat.le_of_eq rfl) (hb hby own_d21_1) (fun _ _ => ⟨rfl, e0, (by decide : 0 + 0 ≤ _), (by decide : 0 + 0 ≤ _)⟩)
    dsimp only [Pt.U, Pt.locs, Pt.cells, Pt.slots] at X6 l6 y6 z6 st6 hQ6
    subst l6 y6 z6
    obtain ⟨rfl, Nq6, eh6⟩ := hQ6
    have N6 := Fr.app N0 Nq6
    refine own_go (fun tq kq => st6.trans kq) ?_
    show own_Rn p e below _ (T6.setTop (mkF m 4 #[.val (.ref x), .val (.int (Int32.ofNat qq))] [(.int (0 : Int32))]))
    refine own_go (fun tq kq => XS.ifYes X6.here hx rfl (pc0 := 4) (pc' := 16) rfl (hb hby own_d21_4) rfl ((if0 _ _).trans (teq ((by decide : (0 : Int32) = (0 : Int32)) : (0 : Int32) = (0 : Int32))).1) (by decide) (by decide) kq) ?_
    show own_Rn p e below _ (T6.setTop (mkF m 16 #[.val (.ref x), .val (.int (Int32.ofNat qq))] []))
    refine own_go (fun tq kq => XS.aloadN X6.here hx rfl (hb hby own_d21_16) rfl rfl kq) ?_
    show own_Rn p e below _ (T6.setTop (mkF m 17 #[.val (.ref x), .val (.int (Int32.ofNat qq))] [(.ref x)]))
    obtain ⟨T7, X7, e7, st7⟩ := getF X6 hx hZ hown (host := "") (Or.inl (hw _ (List.mem_of_getElem? (i := 34) rfl))) Via.refl eh6 Pm1 (g := (mkF m 17 #[.val (.ref x), .val (.int (Int32.ofNat qq))] [(.ref x)])) rfl rfl (hb hby own_d21_17)
    refine own_go st7 ?_
    show own_Rn p e below _ (T7.setTop (mkF m 20 #[.val (.ref x), .val (.int (Int32.ofNat qq))] [(.ref t)]))
    refine own_go (fun tq kq => XS.iloadN X7.here hx rfl (hb hby own_d21_20) rfl kq) ?_
    show own_Rn p e below _ (T7.setTop (mkF m 21 #[.val (.ref x), .val (.int (Int32.ofNat qq))] [(.int (Int32.ofNat qq)), (.ref t)]))
    have Zn8 : n0 ≤ h0.size := by omega
    obtain ⟨rv8, _, ⟨T8, L8, k8, n8⟩, -, X8, ⟨Lc8, hQ8, l8, y8, z8⟩, st8⟩ := Jvm.LawKit.callS X7 hx (y := (⟨"java/lang/StringUTF16", "charAt", "([BI)C"⟩ : MethodName)) hown (mvT hZ (hw _ (List.mem_of_getElem? (i := 107) rfl))) (mvT hZ (hw _ (List.mem_of_getElem? (i := 108) rfl))) (mvT hZ (hw _ (List.mem_of_getElem? (i := 70) rfl))) (mvT hZ (hw _ (List.mem_of_getElem? (i := 109) rfl))) (by decide) (backOf (W := 0) (rmUCh l Z a0 hw [] (t) (kt) (cs) (qq) (G3) h0 n0 Zn8 Pm3 (hq) (hn) (hr) (OAD) (OHI) (OLO) (O4) (hG3) X00) hZ (hw _ (List.mem_of_getElem? (i := 109) rfl)) (hw _ (List.mem_of_getElem? (i := 70) rfl)) (by decide) (by decide)) (g := (mkF m 21 #[.val (.ref x), .val (.int (Int32.ofNat qq))] [(.int (Int32.ofNat qq)), (.ref t)])) rfl (by rw [hml]; rfl) (argsL := [(.ref t), (.int (Int32.ofNat qq))]) (rest := []) (lenOf own_pd_285bBI29C rfl) rfl (by show 2 * 0 + _ ≤ _; exact Nat.le_of_eq rfl) (hb hby own_d21_21) (fun _ _ => ⟨rfl, e7, (by decide : 0 + 0 ≤ _), (by decide : 0 + 0 ≤ _)⟩)
    dsimp only [Pt.U, Pt.locs, Pt.cells, Pt.slots] at X8 l8 y8 z8 st8 hQ8
    subst l8 y8 z8
    obtain ⟨rfl, Nq8, eh8⟩ := hQ8
    have N8 := Fr.app N6 Nq8
    refine own_go st8 ?_
    show own_Rn p e below _ (T8.setTop (mkF m 24 #[.val (.ref x), .val (.int (Int32.ofNat qq))] [(.int (cs.getD qq 0))]))
    exact own_ret X8 (v := some (.int (nar .char (cs.getD qq 0)))) (fun h => by rw [Bd.returns] at h; cases h) (fun fs hr => retN X8 hx (t := .char) Bd.returns (by simp) (hb hby own_d21_24) hr) (by rw [eh8]; exact ⟨congrArg (fun z => some (Value.int z)) (own_c16 _ hm), N8, rfl⟩) (by decide) (by decide)
theorem own_ef_rmTCP (m : MethodId) (uh : Int32) (ul : Int32) : entryFrame m #[(.int uh), (.int ul)] 2 = mkF m 0 #[.val (.int uh), .val (.int ul)] [] := by first | (simp [entryFrame, mkF, argsToLocals, Value.category]; done) | rfl
theorem own_d36_0 : decode jdk_89_method_19_code 0 = .ok (.iload_n 0, 1) := by decide +kernel
theorem own_d36_1 : decode jdk_89_method_19_code 1 = .ok (.bipush 10, 2) := by decide +kernel
theorem own_d36_3 : decode jdk_89_method_19_code 3 = .ok (.ishl, 1) := by decide +kernel
theorem own_d36_4 : decode jdk_89_method_19_code 4 = .ok (.iload_n 1, 1) := by decide +kernel
theorem own_d36_5 : decode jdk_89_method_19_code 5 = .ok (.iadd, 1) := by decide +kernel
theorem own_d36_6 : decode jdk_89_method_19_code 6 = .ok (.ldc 85, 2) := by decide +kernel
theorem own_d36_8 : decode jdk_89_method_19_code 8 = .ok (.iadd, 1) := by decide +kernel
theorem own_d36_9 : decode jdk_89_method_19_code 9 = .ok (.ireturn, 1) := by decide +kernel
def Q_rmTCP (Z : State) (uh : Int32) (ul : Int32) (h0 : Heap) (n0 : Nat) (v : Option Value) (h : Heap) (L : List Loc) : Prop := ∃ (r : Int32), v = some (.int r) ∧ Fr n0 L ∧ h = h0 ∧ (r.toInt = own_pv uh.toInt ul.toInt)
set_option maxRecDepth 65536 in
set_option maxHeartbeats 40000000 in
theorem rmTCP (l : Launch) (Z : State) (a0 : Array Value) (hw : ∀ d ∈ tables_1, d.before a0 Z = true) (ws : List Jvm.Cond) (uh : Int32) (ul : Int32) (h0 : Heap) (n0 : Nat) (Z0 : n0 ≤ h0.size) (hu1 : (own_isHi uh)) (hu2 : (own_isLo ul)) :
    MetFree l (⟨"java/lang/Character", "toCodePoint", "(CC)I"⟩ : MethodName) (head1 (Jvm.Cond.code (⟨"java/lang/Character", "toCodePoint", "(CC)I"⟩ : MethodName) jdk_89_method_19_code 2 (some .int) :: ws) ({ frames := 0, cells := 0, slots := 0, locals := 0 } : Room)) (fun a U => a = #[(.int uh), (.int ul)] ∧ Z.Warmed39 U.vm ∧ U.heap = h0) (fun _ _ _ _ _ => True) (fun _ U o U' => ∃ v L, o = .returned v ∧ Q_rmTCP Z uh ul h0 n0 v U'.heap L ∧ FrameEnd U o U' L ({ frames := 0, cells := 0, slots := 0, locals := 0 } : Room).cells ({ frames := 0, cells := 0, slots := 0, locals := 0 } : Room).slots) := by
  refine MetFree.of_bodySF (plainFor_of_name own_pn_java_lang_Character) hisR ?_
  intro p e s m args below meth c s₁ Bd hml0 hP hK
  obtain ⟨rfl, hZ, hh⟩ := hP
  have hx := Bd.exec
  have hby := Bd.bytes
  have hml : c.maxLocals = 2 := hml0
  have hown : s.vm.findClass "java/lang/Character" = some m.cls := findClass_of_methodNamed Bd.named
  have hnm := (name_of_methodNamed Bd.named Bd.method).1
  have X0 : Stand p l e ({ frames := 0, cells := 0, slots := 0, locals := 0 } : Room) s m #[(.int uh), (.int ul)] below meth c s₁ [] 0 0 := Stand.of_body Bd
  have e0 : s₁.heap = h0 := by rw [← hh, Bd.state]; rfl
  have N0 := Fr.nil n0
  have K0 : Keep h0 h0 [] := Keep.refl _ _
  refine own_go (S' := s₁.setTop (mkF m 0 #[.val (.int uh), .val (.int ul)] [])) (fun tq kq => castTop (own_ef_rmTCP m uh ul) kq) ?_
  refine own_go (fun tq kq => XS.iloadN X0.here hx rfl (hb hby own_d36_0) rfl kq) ?_
  show own_Rn p e below _ (s₁.setTop (mkF m 1 #[.val (.int uh), .val (.int ul)] [(.int uh)]))
  refine own_go (fun tq kq => XS.bipush X0.here hx rfl (hb hby own_d36_1) kq) ?_
  show own_Rn p e below _ (s₁.setTop (mkF m 3 #[.val (.int uh), .val (.int ul)] [(.int (10 : Int32)), (.int uh)]))
  refine own_go (fun tq kq => XS.ishl X0.here hx rfl (hb hby own_d36_3) rfl kq) ?_
  show own_Rn p e below _ (s₁.setTop (mkF m 4 #[.val (.int uh), .val (.int ul)] [(.int (uh <<< ((10 : Int32) &&& 31)))]))
  refine own_go (fun tq kq => XS.iloadN X0.here hx rfl (hb hby own_d36_4) rfl kq) ?_
  show own_Rn p e below _ (s₁.setTop (mkF m 5 #[.val (.int uh), .val (.int ul)] [(.int ul), (.int (uh <<< ((10 : Int32) &&& 31)))]))
  refine own_go (fun tq kq => XS.iadd X0.here hx rfl (hb hby own_d36_5) rfl kq) ?_
  show own_Rn p e below _ (s₁.setTop (mkF m 6 #[.val (.int uh), .val (.int ul)] [(.int ((uh <<< ((10 : Int32) &&& 31)) + ul))]))
  refine own_go (fun tq kq => X0.ldcInt hx hown (mvT hZ (hw _ (List.mem_of_getElem? (i := 159) rfl))) (g := (mkF m 6 #[.val (.int uh), .val (.int ul)] [(.int ((uh <<< ((10 : Int32) &&& 31)) + ul))])) rfl (hb hby own_d36_6) _ kq) ?_
  show own_Rn p e below _ (s₁.setTop (mkF m 8 #[.val (.int uh), .val (.int ul)] [(.int (-56613888 : Int32)), (.int ((uh <<< ((10 : Int32) &&& 31)) + ul))]))
  refine own_go (fun tq kq => XS.iadd X0.here hx rfl (hb hby own_d36_8) rfl kq) ?_
  show own_Rn p e below _ (s₁.setTop (mkF m 9 #[.val (.int uh), .val (.int ul)] [(.int (((uh <<< ((10 : Int32) &&& 31)) + ul) + (-56613888 : Int32)))]))
  exact own_ret X0 (v := some (.int (((uh <<< ((10 : Int32) &&& 31)) + ul) + (-56613888 : Int32)))) (fun h => by rw [Bd.returns] at h; cases h) (fun fs hr => retI X0 hx Bd.returns (hb hby own_d36_9) hr) (by rw [e0]; exact ⟨(((uh <<< ((10 : Int32) &&& 31)) + ul) + (-56613888 : Int32)), rfl, N0, rfl, own_pairJ hu1 hu2⟩) (by decide) (by decide)
theorem own_ef_rmCP4 (m : MethodId) (bv : Addr) (kb : ClassId) (cs : List Int32) (qq : Nat) : entryFrame m #[(.ref bv), (.int (Int32.ofNat qq)), (.int (Int32.ofNat cs.length)), (.int (0 : Int32))] 6 = mkF m 0 #[.val (.ref bv), .val (.int (Int32.ofNat qq)), .val (.int (Int32.ofNat cs.length)), .val (.int (0 : Int32)), .unset, .unset] [] := by first | (simp [entryFrame, mkF, argsToLocals, Value.category]; done) | rfl
theorem own_d31_0 : decode jdk_52_method_7_code 0 = .ok (.getstatic 44, 3) := by decide +kernel
theorem own_d31_3 : decode jdk_52_method_7_code 3 = .ok (.ifCond .ne 16, 3) := by decide +kernel
theorem own_d31_19 : decode jdk_52_method_7_code 19 = .ok (.iload_n 3, 1) := by decide +kernel
theorem own_d31_20 : decode jdk_52_method_7_code 20 = .ok (.ifCond .eq 8, 3) := by decide +kernel
theorem own_d31_28 : decode jdk_52_method_7_code 28 = .ok (.aload_n 0, 1) := by decide +kernel
theorem own_d31_29 : decode jdk_52_method_7_code 29 = .ok (.iload_n 1, 1) := by decide +kernel
theorem own_d31_30 : decode jdk_52_method_7_code 30 = .ok (.invokestatic 71, 3) := by decide +kernel
theorem own_d31_33 : decode jdk_52_method_7_code 33 = .ok (.istore 4, 2) := by decide +kernel
theorem own_d31_35 : decode jdk_52_method_7_code 35 = .ok (.iload 4, 2) := by decide +kernel
theorem own_d31_37 : decode jdk_52_method_7_code 37 = .ok (.invokestatic 75, 3) := by decide +kernel
theorem own_pd_28C29Z : parseMethodDescriptor "(C)Z" = some ⟨[.char], some .boolean⟩ := by decide +kernel
theorem own_d31_40 : decode jdk_52_method_7_code 40 = .ok (.ifCond .eq 43, 3) := by decide +kernel
theorem own_d31_43 : decode jdk_52_method_7_code 43 = .ok (.iinc 1 1, 3) := by decide +kernel
theorem own_d31_46 : decode jdk_52_method_7_code 46 = .ok (.iload_n 1, 1) := by decide +kernel
theorem own_d31_47 : decode jdk_52_method_7_code 47 = .ok (.iload_n 2, 1) := by decide +kernel
theorem own_d31_48 : decode jdk_52_method_7_code 48 = .ok (.if_icmp .ge 35, 3) := by decide +kernel
theorem own_d31_51 : decode jdk_52_method_7_code 51 = .ok (.iload_n 3, 1) := by decide +kernel
theorem own_d31_52 : decode jdk_52_method_7_code 52 = .ok (.ifCond .eq 8, 3) := by decide +kernel
theorem own_d31_60 : decode jdk_52_method_7_code 60 = .ok (.aload_n 0, 1) := by decide +kernel
theorem own_d31_61 : decode jdk_52_method_7_code 61 = .ok (.iload_n 1, 1) := by decide +kernel
theorem own_d31_62 : decode jdk_52_method_7_code 62 = .ok (.invokestatic 71, 3) := by decide +kernel
theorem own_d31_65 : decode jdk_52_method_7_code 65 = .ok (.istore 5, 2) := by decide +kernel
theorem own_d31_67 : decode jdk_52_method_7_code 67 = .ok (.iload 5, 2) := by decide +kernel
theorem own_d31_69 : decode jdk_52_method_7_code 69 = .ok (.invokestatic 81, 3) := by decide +kernel
theorem own_d31_72 : decode jdk_52_method_7_code 72 = .ok (.ifCond .eq 11, 3) := by decide +kernel
theorem own_d31_75 : decode jdk_52_method_7_code 75 = .ok (.iload 4, 2) := by decide +kernel
theorem own_d31_77 : decode jdk_52_method_7_code 77 = .ok (.iload 5, 2) := by decide +kernel
theorem own_d31_79 : decode jdk_52_method_7_code 79 = .ok (.invokestatic 84, 3) := by decide +kernel
theorem own_pd_28CC29I : parseMethodDescriptor "(CC)I" = some ⟨[.char, .char], some .int⟩ := by decide +kernel
theorem own_d31_82 : decode jdk_52_method_7_code 82 = .ok (.ireturn, 1) := by decide +kernel
theorem own_d31_83 : decode jdk_52_method_7_code 83 = .ok (.iload 4, 2) := by decide +kernel
theorem own_d31_85 : decode jdk_52_method_7_code 85 = .ok (.ireturn, 1) := by decide +kernel
def Q_rmCP4 (Z : State) (bv : Addr) (kb : ClassId) (cs : List Int32) (qq : Nat) (h0 : Heap) (n0 : Nat) (v : Option Value) (h : Heap) (L : List Loc) : Prop := ∃ (r : Int32), v = some (.int r) ∧ Fr n0 L ∧ h = h0 ∧ (r.toInt = own_hdc ((own_il cs).drop qq))
set_option maxRecDepth 65536 in
set_option maxHeartbeats 40000000 in
theorem rmCP4 (l : Launch) (Z : State) (a0 : Array Value) (hw : ∀ d ∈ tables_1, d.before a0 Z = true) (ws : List Jvm.Cond) (bv : Addr) (kb : ClassId) (cs : List Int32) (qq : Nat) (h0 : Heap) (n0 : Nat) (Z0 : n0 ≤ h0.size) (Pm0 : Arv Z h0 bv kb .byte (Int32.ofNat (2 * cs.length)) (own_u16 cs) (.int 0)) (hq : (qq < cs.length)) (hn : (cs.length ≤ 3)) (hr : (∀ c ∈ cs, ¬ c < 0 ∧ ¬ (65535 : Int32) < c)) (OAD : Sta Z Z.heap "java/lang/StringUTF16" "$assertionsDisabled" "Z" (.int (1 : Int32))) (OHI : Sta Z Z.heap "java/lang/StringUTF16" "HI_BYTE_SHIFT" "I" (.int (0 : Int32))) (OLO : Sta Z Z.heap "java/lang/StringUTF16" "LO_BYTE_SHIFT" "I" (.int (8 : Int32))) (X00 : Old Z n0 h0) :
    MetFree l (⟨"java/lang/StringUTF16", "codePointAt", "([BIIZ)I"⟩ : MethodName) (head1 (Jvm.Cond.code (⟨"java/lang/StringUTF16", "codePointAt", "([BIIZ)I"⟩ : MethodName) jdk_52_method_7_code 6 (some .int) :: ws) ({ frames := 1, cells := 0, slots := 0, locals := 13 } : Room)) (fun a U => a = #[(.ref bv), (.int (Int32.ofNat qq)), (.int (Int32.ofNat cs.length)), (.int (0 : Int32))] ∧ Z.Warmed39 U.vm ∧ U.heap = h0) (fun _ _ _ _ _ => True) (fun _ U o U' => ∃ v L, o = .returned v ∧ Q_rmCP4 Z bv kb cs qq h0 n0 v U'.heap L ∧ FrameEnd U o U' L ({ frames := 1, cells := 0, slots := 0, locals := 13 } : Room).cells ({ frames := 1, cells := 0, slots := 0, locals := 13 } : Room).slots) := by
  refine MetFree.of_bodySF (plainFor_of_name own_pn_java_lang_StringUTF16) hisR ?_
  intro p e s m args below meth c s₁ Bd hml0 hP hK
  obtain ⟨rfl, hZ, hh⟩ := hP
  have hx := Bd.exec
  have hby := Bd.bytes
  have hml : c.maxLocals = 6 := hml0
  have hown : s.vm.findClass "java/lang/StringUTF16" = some m.cls := findClass_of_methodNamed Bd.named
  have hnm := (name_of_methodNamed Bd.named Bd.method).1
  have X0 : Stand p l e ({ frames := 1, cells := 0, slots := 0, locals := 13 } : Room) s m #[(.ref bv), (.int (Int32.ofNat qq)), (.int (Int32.ofNat cs.length)), (.int (0 : Int32))] below meth c s₁ [] 0 0 := Stand.of_body Bd
  have e0 : s₁.heap = h0 := by rw [← hh, Bd.state]; rfl
  have N0 := Fr.nil n0
  have K0 : Keep h0 h0 [] := Keep.refl _ _
  refine own_go (S' := s₁.setTop (mkF m 0 #[.val (.ref bv), .val (.int (Int32.ofNat qq)), .val (.int (Int32.ofNat cs.length)), .val (.int (0 : Int32)), .unset, .unset] [])) (fun tq kq => castTop (own_ef_rmCP4 m bv kb cs qq) kq) ?_
  have lt1 : @LT.lt Nat _ bv h0.size := Pm0.lt
  obtain ⟨T2, X2, e2, st2⟩ := getS2 X0 hx hZ hown (host := "") (Or.inl (hw _ (List.mem_of_getElem? (i := 88) rfl))) Via.refl e0 (OAD.ext X00.2) (g := (mkF m 0 #[.val (.ref bv), .val (.int (Int32.ofNat qq)), .val (.int (Int32.ofNat cs.length)), .val (.int (0 : Int32)), .unset, .unset] [])) rfl (hb hby own_d31_0)
  refine own_go st2 ?_
  show own_Rn p e below _ (T2.setTop (mkF m 3 #[.val (.ref bv), .val (.int (Int32.ofNat qq)), .val (.int (Int32.ofNat cs.length)), .val (.int (0 : Int32)), .unset, .unset] [(.int (1 : Int32))]))
  refine own_go (fun tq kq => XS.ifYes X2.here hx rfl (pc0 := 3) (pc' := 19) rfl (hb hby own_d31_3) rfl ((if0 _ _).trans (feq ((by decide : ¬ ((1 : Int32) = (0 : Int32))) : ¬ ((1 : Int32) = (0 : Int32)))).2) (by decide) (by decide) kq) ?_
  show own_Rn p e below _ (T2.setTop (mkF m 19 #[.val (.ref bv), .val (.int (Int32.ofNat qq)), .val (.int (Int32.ofNat cs.length)), .val (.int (0 : Int32)), .unset, .unset] []))
  refine own_go (fun tq kq => XS.iloadN X2.here hx rfl (hb hby own_d31_19) rfl kq) ?_
  show own_Rn p e below _ (T2.setTop (mkF m 20 #[.val (.ref bv), .val (.int (Int32.ofNat qq)), .val (.int (Int32.ofNat cs.length)), .val (.int (0 : Int32)), .unset, .unset] [(.int (0 : Int32))]))
  refine own_go (fun tq kq => XS.ifYes X2.here hx rfl (pc0 := 20) (pc' := 28) rfl (hb hby own_d31_20) rfl ((if0 _ _).trans (teq ((by decide : (0 : Int32) = (0 : Int32)) : (0 : Int32) = (0 : Int32))).1) (by decide) (by decide) kq) ?_
  show own_Rn p e below _ (T2.setTop (mkF m 28 #[.val (.ref bv), .val (.int (Int32.ofNat qq)), .val (.int (Int32.ofNat cs.length)), .val (.int (0 : Int32)), .unset, .unset] []))
  refine own_go (fun tq kq => XS.aloadN X2.here hx rfl (hb hby own_d31_28) rfl rfl kq) ?_
  show own_Rn p e below _ (T2.setTop (mkF m 29 #[.val (.ref bv), .val (.int (Int32.ofNat qq)), .val (.int (Int32.ofNat cs.length)), .val (.int (0 : Int32)), .unset, .unset] [(.ref bv)]))
  refine own_go (fun tq kq => XS.iloadN X2.here hx rfl (hb hby own_d31_29) rfl kq) ?_
  show own_Rn p e below _ (T2.setTop (mkF m 30 #[.val (.ref bv), .val (.int (Int32.ofNat qq)), .val (.int (Int32.ofNat cs.length)), .val (.int (0 : Int32)), .unset, .unset] [(.int (Int32.ofNat qq)), (.ref bv)]))
  have Zn3 : n0 ≤ h0.size := by omega
  obtain ⟨rv3, _, ⟨T3, L3, k3, n3⟩, -, X3, ⟨Lc3, hQ3, l3, y3, z3⟩, st3⟩ := Jvm.LawKit.callS X2 hx (y := (⟨"java/lang/StringUTF16", "getChar", "([BI)C"⟩ : MethodName)) hown (mvT hZ (hw _ (List.mem_of_getElem? (i := 91) rfl))) (mvT hZ (hw _ (List.mem_of_getElem? (i := 92) rfl))) (mvT hZ (hw _ (List.mem_of_getElem? (i := 70) rfl))) (mvT hZ (hw _ (List.mem_of_getElem? (i := 93) rfl))) (by decide) (backOf (W := 0) (rmGet l Z a0 hw [] (bv) (kb) (cs) (qq) h0 n0 Zn3 Pm0 (hq) (hn) (hr) (OAD) (OHI) (OLO) X00) hZ (hw _ (List.mem_of_getElem? (i := 93) rfl)) (hw _ (List.mem_of_getElem? (i := 70) rfl)) (by decide) (by decide)) (g := (mkF m 30 #[.val (.ref bv), .val (.int (Int32.ofNat qq)), .val (.int (Int32.ofNat cs.length)), .val (.int (0 : Int32)), .unset, .unset] [(.int (Int32.ofNat qq)), (.ref bv)])) rfl (by rw [hml]; rfl) (argsL := [(.ref bv), (.int (Int32.ofNat qq))]) (rest := []) (lenOf own_pd_285bBI29C rfl) rfl (by show 2 * 0 + _ ≤ _; exact Nat.le_of_eq rfl) (hb hby own_d31_30) (fun _ _ => ⟨rfl, e2, (by decide : 0 + 0 ≤ _), (by decide : 0 + 0 ≤ _)⟩)
  dsimp only [Pt.U, Pt.locs, Pt.cells, Pt.slots] at X3 l3 y3 z3 st3 hQ3
  subst l3 y3 z3
  obtain ⟨rfl, Nq3, eh3⟩ := hQ3
  have N3 := Fr.app N0 Nq3
  refine own_go st3 ?_
  show own_Rn p e below _ (T3.setTop (mkF m 33 #[.val (.ref bv), .val (.int (Int32.ofNat qq)), .val (.int (Int32.ofNat cs.length)), .val (.int (0 : Int32)), .unset, .unset] [(.int (cs.getD qq 0))]))
  refine own_go (fun tq kq => XS.istore X3.here hx rfl (hb hby own_d31_33) rfl (l' := #[.val (.ref bv), .val (.int (Int32.ofNat qq)), .val (.int (Int32.ofNat cs.length)), .val (.int (0 : Int32)), .val (.int (cs.getD qq 0)), .unset]) rfl kq) ?_
  show own_Rn p e below _ (T3.setTop (mkF m 35 #[.val (.ref bv), .val (.int (Int32.ofNat qq)), .val (.int (Int32.ofNat cs.length)), .val (.int (0 : Int32)), .val (.int (cs.getD qq 0)), .unset] []))
  refine own_go (fun tq kq => XS.iload X3.here hx rfl (hb hby own_d31_35) rfl kq) ?_
  show own_Rn p e below _ (T3.setTop (mkF m 37 #[.val (.ref bv), .val (.int (Int32.ofNat qq)), .val (.int (Int32.ofNat cs.length)), .val (.int (0 : Int32)), .val (.int (cs.getD qq 0)), .unset] [(.int (cs.getD qq 0))]))
  have Zn4 : n0 ≤ h0.size := by omega
  obtain ⟨rv4, _, ⟨T4, L4, k4, n4⟩, -, X4, ⟨Lc4, hQ4, l4, y4, z4⟩, st4⟩ := Jvm.LawKit.callS X3 hx (y := (⟨"java/lang/Character", "isHighSurrogate", "(C)Z"⟩ : MethodName)) hown (mvT hZ (hw _ (List.mem_of_getElem? (i := 142) rfl))) (mvT hZ (hw _ (List.mem_of_getElem? (i := 143) rfl))) (mvT hZ (hw _ (List.mem_of_getElem? (i := 126) rfl))) (mvT hZ (hw _ (List.mem_of_getElem? (i := 144) rfl))) (by decide) (backOf (W := 0) (rmHiJ l Z a0 hw [] ((cs.getD qq 0)) h0 n0 Zn4 ) hZ (hw _ (List.mem_of_getElem? (i := 144) rfl)) (hw _ (List.mem_of_getElem? (i := 126) rfl)) (by decide) (by decide)) (g := (mkF m 37 #[.val (.ref bv), .val (.int (Int32.ofNat qq)), .val (.int (Int32.ofNat cs.length)), .val (.int (0 : Int32)), .val (.int (cs.getD qq 0)), .unset] [(.int (cs.getD qq 0))])) rfl (by rw [hml]; rfl) (argsL := [(.int (cs.getD qq 0))]) (rest := []) (lenOf own_pd_28C29Z rfl) rfl (by show 2 * 0 + _ ≤ _; exact Nat.le_of_eq rfl) (hb hby own_d31_37) (fun _ _ => ⟨rfl, eh3, (by decide : 0 + 0 ≤ _), (by decide : 0 + 0 ≤ _)⟩)
  dsimp only [Pt.U, Pt.locs, Pt.cells, Pt.slots] at X4 l4 y4 z4 st4 hQ4
  subst l4 y4 z4
  obtain ⟨rfl, Nq4, eh4⟩ := hQ4
  have N4 := Fr.app N3 Nq4
  refine own_go st4 ?_
  show own_Rn p e below _ (T4.setTop (mkF m 40 #[.val (.ref bv), .val (.int (Int32.ofNat qq)), .val (.int (Int32.ofNat cs.length)), .val (.int (0 : Int32)), .val (.int (cs.getD qq 0)), .unset] [(.int (if own_isHi (cs.getD qq 0) then (1 : Int32) else 0))]))
  by_cases hA : own_isHi (cs.getD qq 0)
  · skip
    rw [if_pos hA]
    show own_Rn p e below _ (T4.setTop (mkF m 40 #[.val (.ref bv), .val (.int (Int32.ofNat qq)), .val (.int (Int32.ofNat cs.length)), .val (.int (0 : Int32)), .val (.int (cs.getD qq 0)), .unset] [(.int (1 : Int32))]))
    refine own_go (fun tq kq => XS.ifNo X4.here hx rfl (hb hby own_d31_40) rfl ((if0 _ _).trans (feq ((by decide : ¬ ((1 : Int32) = (0 : Int32))) : ¬ ((1 : Int32) = (0 : Int32)))).1) kq) ?_
    show own_Rn p e below _ (T4.setTop (mkF m 43 #[.val (.ref bv), .val (.int (Int32.ofNat qq)), .val (.int (Int32.ofNat cs.length)), .val (.int (0 : Int32)), .val (.int (cs.getD qq 0)), .unset] []))
    refine own_go (fun tq kq => XS.iinc X4.here hx rfl (hb hby own_d31_43) rfl (l' := #[.val (.ref bv), .val (.int ((Int32.ofNat qq) + (1 : Int32))), .val (.int (Int32.ofNat cs.length)), .val (.int (0 : Int32)), .val (.int (cs.getD qq 0)), .unset]) rfl kq) ?_
    show own_Rn p e below _ (T4.setTop (mkF m 46 #[.val (.ref bv), .val (.int ((Int32.ofNat qq) + (1 : Int32))), .val (.int (Int32.ofNat cs.length)), .val (.int (0 : Int32)), .val (.int (cs.getD qq 0)), .unset] []))
    rw [show (Int32.ofNat qq + (1 : Int32)) = Int32.ofNat (qq + 1) from (inc_ofNat qq).symm]
    show own_Rn p e below _ (T4.setTop (mkF m 46 #[.val (.ref bv), .val (.int (Int32.ofNat (qq + 1))), .val (.int (Int32.ofNat cs.length)), .val (.int (0 : Int32)), .val (.int (cs.getD qq 0)), .unset] []))
    refine own_go (fun tq kq => XS.iloadN X4.here hx rfl (hb hby own_d31_46) rfl kq) ?_
    show own_Rn p e below _ (T4.setTop (mkF m 47 #[.val (.ref bv), .val (.int (Int32.ofNat (qq + 1))), .val (.int (Int32.ofNat cs.length)), .val (.int (0 : Int32)), .val (.int (cs.getD qq 0)), .unset] [(.int (Int32.ofNat (qq + 1)))]))
    refine own_go (fun tq kq => XS.iloadN X4.here hx rfl (hb hby own_d31_47) rfl kq) ?_
    show own_Rn p e below _ (T4.setTop (mkF m 48 #[.val (.ref bv), .val (.int (Int32.ofNat (qq + 1))), .val (.int (Int32.ofNat cs.length)), .val (.int (0 : Int32)), .val (.int (cs.getD qq 0)), .unset] [(.int (Int32.ofNat cs.length)), (.int (Int32.ofNat (qq + 1)))]))
    by_cases hx1 : qq + 1 < cs.length
    · skip
      refine own_go (fun tq kq => XS.icmpNo X4.here hx rfl (hb hby own_d31_48) rfl (tlt (own_ofNat_lt hx1 (by omega) : (Int32.ofNat (qq + 1)) < (Int32.ofNat cs.length))).2.1 kq) ?_
      show own_Rn p e below _ (T4.setTop (mkF m 51 #[.val (.ref bv), .val (.int (Int32.ofNat (qq + 1))), .val (.int (Int32.ofNat cs.length)), .val (.int (0 : Int32)), .val (.int (cs.getD qq 0)), .unset] []))
      refine own_go (fun tq kq => XS.iloadN X4.here hx rfl (hb hby own_d31_51) rfl kq) ?_
      show own_Rn p e below _ (T4.setTop (mkF m 52 #[.val (.ref bv), .val (.int (Int32.ofNat (qq + 1))), .val (.int (Int32.ofNat cs.length)), .val (.int (0 : Int32)), .val (.int (cs.getD qq 0)), .unset] [(.int (0 : Int32))]))
      refine own_go (fun tq kq => XS.ifYes X4.here hx rfl (pc0 := 52) (pc' := 60) rfl (hb hby own_d31_52) rfl ((if0 _ _).trans (teq ((by decide : (0 : Int32) = (0 : Int32)) : (0 : Int32) = (0 : Int32))).1) (by decide) (by decide) kq) ?_
      show own_Rn p e below _ (T4.setTop (mkF m 60 #[.val (.ref bv), .val (.int (Int32.ofNat (qq + 1))), .val (.int (Int32.ofNat cs.length)), .val (.int (0 : Int32)), .val (.int (cs.getD qq 0)), .unset] []))
      refine own_go (fun tq kq => XS.aloadN X4.here hx rfl (hb hby own_d31_60) rfl rfl kq) ?_
      show own_Rn p e below _ (T4.setTop (mkF m 61 #[.val (.ref bv), .val (.int (Int32.ofNat (qq + 1))), .val (.int (Int32.ofNat cs.length)), .val (.int (0 : Int32)), .val (.int (cs.getD qq 0)), .unset] [(.ref bv)]))
      refine own_go (fun tq kq => XS.iloadN X4.here hx rfl (hb hby own_d31_61) rfl kq) ?_
      show own_Rn p e below _ (T4.setTop (mkF m 62 #[.val (.ref bv), .val (.int (Int32.ofNat (qq + 1))), .val (.int (Int32.ofNat cs.length)), .val (.int (0 : Int32)), .val (.int (cs.getD qq 0)), .unset] [(.int (Int32.ofNat (qq + 1))), (.ref bv)]))
      have Zn5 : n0 ≤ h0.size := by omega
      obtain ⟨rv5, _, ⟨T5, L5, k5, n5⟩, -, X5, ⟨Lc5, hQ5, l5, y5, z5⟩, st5⟩ := Jvm.LawKit.callS X4 hx (y := (⟨"java/lang/StringUTF16", "getChar", "([BI)C"⟩ : MethodName)) hown (mvT hZ (hw _ (List.mem_of_getElem? (i := 91) rfl))) (mvT hZ (hw _ (List.mem_of_getElem? (i := 92) rfl))) (mvT hZ (hw _ (List.mem_of_getElem? (i := 70) rfl))) (mvT hZ (hw _ (List.mem_of_getElem? (i := 93) rfl))) (by decide) (backOf (W := 0) (rmGet l Z a0 hw [] (bv) (kb) (cs) ((qq + 1)) h0 n0 Zn5 Pm0 (hx1) (hn) (hr) (OAD) (OHI) (OLO) X00) hZ (hw _ (List.mem_of_getElem? (i := 93) rfl)) (hw _ (List.mem_of_getElem? (i := 70) rfl)) (by decide) (by decide)) (g := (mkF m 62 #[.val (.ref bv), .val (.int (Int32.ofNat (qq + 1))), .val (.int (Int32.ofNat cs.length)), .val (.int (0 : Int32)), .val (.int (cs.getD qq 0)), .unset] [(.int (Int32.ofNat (qq + 1))), (.ref bv)])) rfl (by rw [hml]; rfl) (argsL := [(.ref bv), (.int (Int32.ofNat (qq + 1)))]) (rest := []) (lenOf own_pd_285bBI29C rfl) rfl (by show 2 * 0 + _ ≤ _; exact Nat.le_of_eq rfl) (hb hby own_d31_62) (fun _ _ => ⟨rfl, eh4, (by decide : 0 + 0 ≤ _), (by decide : 0 + 0 ≤ _)⟩)
      dsimp only [Pt.U, Pt.locs, Pt.cells, Pt.slots] at X5 l5 y5 z5 st5 hQ5
      subst l5 y5 z5
      obtain ⟨rfl, Nq5, eh5⟩ := hQ5
      have N5 := Fr.app N4 Nq5
      refine own_go st5 ?_
      show own_Rn p e below _ (T5.setTop (mkF m 65 #[.val (.ref bv), .val (.int (Int32.ofNat (qq + 1))), .val (.int (Int32.ofNat cs.length)), .val (.int (0 : Int32)), .val (.int (cs.getD qq 0)), .unset] [(.int (cs.getD (qq + 1) 0))]))
      refine own_go (fun tq kq => XS.istore X5.here hx rfl (hb hby own_d31_65) rfl (l' := #[.val (.ref bv), .val (.int (Int32.ofNat (qq + 1))), .val (.int (Int32.ofNat cs.length)), .val (.int (0 : Int32)), .val (.int (cs.getD qq 0)), .val (.int (cs.getD (qq + 1) 0))]) rfl kq) ?_
      show own_Rn p e below _ (T5.setTop (mkF m 67 #[.val (.ref bv), .val (.int (Int32.ofNat (qq + 1))), .val (.int (Int32.ofNat cs.length)), .val (.int (0 : Int32)), .val (.int (cs.getD qq 0)), .val (.int (cs.getD (qq + 1) 0))] []))
      refine own_go (fun tq kq => XS.iload X5.here hx rfl (hb hby own_d31_67) rfl kq) ?_
      show own_Rn p e below _ (T5.setTop (mkF m 69 #[.val (.ref bv), .val (.int (Int32.ofNat (qq + 1))), .val (.int (Int32.ofNat cs.length)), .val (.int (0 : Int32)), .val (.int (cs.getD qq 0)), .val (.int (cs.getD (qq + 1) 0))] [(.int (cs.getD (qq + 1) 0))]))
      have Zn6 : n0 ≤ h0.size := by omega
      obtain ⟨rv6, _, ⟨T6, L6, k6, n6⟩, -, X6, ⟨Lc6, hQ6, l6, y6, z6⟩, st6⟩ := Jvm.LawKit.callS X5 hx (y := (⟨"java/lang/Character", "isLowSurrogate", "(C)Z"⟩ : MethodName)) hown (mvT hZ (hw _ (List.mem_of_getElem? (i := 153) rfl))) (mvT hZ (hw _ (List.mem_of_getElem? (i := 154) rfl))) (mvT hZ (hw _ (List.mem_of_getElem? (i := 126) rfl))) (mvT hZ (hw _ (List.mem_of_getElem? (i := 155) rfl))) (by decide) (backOf (W := 0) (rmLoJ l Z a0 hw [] ((cs.getD (qq + 1) 0)) h0 n0 Zn6 ) hZ (hw _ (List.mem_of_getElem? (i := 155) rfl)) (hw _ (List.mem_of_getElem? (i := 126) rfl)) (by decide) (by decide)) (g := (mkF m 69 #[.val (.ref bv), .val (.int (Int32.ofNat (qq + 1))), .val (.int (Int32.ofNat cs.length)), .val (.int (0 : Int32)), .val (.int (cs.getD qq 0)), .val (.int (cs.getD (qq + 1) 0))] [(.int (cs.getD (qq + 1) 0))])) rfl (by rw [hml]; rfl) (argsL := [(.int (cs.getD (qq + 1) 0))]) (rest := []) (lenOf own_pd_28C29Z rfl) rfl (by show 2 * 0 + _ ≤ _; exact Nat.le_of_eq rfl) (hb hby own_d31_69) (fun _ _ => ⟨rfl, eh5, (by decide : 0 + 0 ≤ _), (by decide : 0 + 0 ≤ _)⟩)
      dsimp only [Pt.U, Pt.locs, Pt.cells, Pt.slots] at X6 l6 y6 z6 st6 hQ6
      subst l6 y6 z6
      obtain ⟨rfl, Nq6, eh6⟩ := hQ6
      have N6 := Fr.app N5 Nq6
      refine own_go st6 ?_
      show own_Rn p e below _ (T6.setTop (mkF m 72 #[.val (.ref bv), .val (.int (Int32.ofNat (qq + 1))), .val (.int (Int32.ofNat cs.length)), .val (.int (0 : Int32)), .val (.int (cs.getD qq 0)), .val (.int (cs.getD (qq + 1) 0))] [(.int (if own_isLo (cs.getD (qq + 1) 0) then (1 : Int32) else 0))]))
      by_cases hB : own_isLo (cs.getD (qq + 1) 0)
      · skip
        rw [if_pos hB]
        show own_Rn p e below _ (T6.setTop (mkF m 72 #[.val (.ref bv), .val (.int (Int32.ofNat (qq + 1))), .val (.int (Int32.ofNat cs.length)), .val (.int (0 : Int32)), .val (.int (cs.getD qq 0)), .val (.int (cs.getD (qq + 1) 0))] [(.int (1 : Int32))]))
        refine own_go (fun tq kq => XS.ifNo X6.here hx rfl (hb hby own_d31_72) rfl ((if0 _ _).trans (feq ((by decide : ¬ ((1 : Int32) = (0 : Int32))) : ¬ ((1 : Int32) = (0 : Int32)))).1) kq) ?_
        show own_Rn p e below _ (T6.setTop (mkF m 75 #[.val (.ref bv), .val (.int (Int32.ofNat (qq + 1))), .val (.int (Int32.ofNat cs.length)), .val (.int (0 : Int32)), .val (.int (cs.getD qq 0)), .val (.int (cs.getD (qq + 1) 0))] []))
        refine own_go (fun tq kq => XS.iload X6.here hx rfl (hb hby own_d31_75) rfl kq) ?_
        show own_Rn p e below _ (T6.setTop (mkF m 77 #[.val (.ref bv), .val (.int (Int32.ofNat (qq + 1))), .val (.int (Int32.ofNat cs.length)), .val (.int (0 : Int32)), .val (.int (cs.getD qq 0)), .val (.int (cs.getD (qq + 1) 0))] [(.int (cs.getD qq 0))]))
        refine own_go (fun tq kq => XS.iload X6.here hx rfl (hb hby own_d31_77) rfl kq) ?_
        show own_Rn p e below _ (T6.setTop (mkF m 79 #[.val (.ref bv), .val (.int (Int32.ofNat (qq + 1))), .val (.int (Int32.ofNat cs.length)), .val (.int (0 : Int32)), .val (.int (cs.getD qq 0)), .val (.int (cs.getD (qq + 1) 0))] [(.int (cs.getD (qq + 1) 0)), (.int (cs.getD qq 0))]))
        have Zn7 : n0 ≤ h0.size := by omega
        obtain ⟨rv7, _, ⟨T7, L7, k7, n7⟩, -, X7, ⟨Lc7, hQ7, l7, y7, z7⟩, st7⟩ := Jvm.LawKit.callS X6 hx (y := (⟨"java/lang/Character", "toCodePoint", "(CC)I"⟩ : MethodName)) hown (mvT hZ (hw _ (List.mem_of_getElem? (i := 156) rfl))) (mvT hZ (hw _ (List.mem_of_getElem? (i := 157) rfl))) (mvT hZ (hw _ (List.mem_of_getElem? (i := 126) rfl))) (mvT hZ (hw _ (List.mem_of_getElem? (i := 158) rfl))) (by decide) (backOf (W := 0) (rmTCP l Z a0 hw [] ((cs.getD qq 0)) ((cs.getD (qq + 1) 0)) h0 n0 Zn7 (hA) (hB)) hZ (hw _ (List.mem_of_getElem? (i := 158) rfl)) (hw _ (List.mem_of_getElem? (i := 126) rfl)) (by decide) (by decide)) (g := (mkF m 79 #[.val (.ref bv), .val (.int (Int32.ofNat (qq + 1))), .val (.int (Int32.ofNat cs.length)), .val (.int (0 : Int32)), .val (.int (cs.getD qq 0)), .val (.int (cs.getD (qq + 1) 0))] [(.int (cs.getD (qq + 1) 0)), (.int (cs.getD qq 0))])) rfl (by rw [hml]; rfl) (argsL := [(.int (cs.getD qq 0)), (.int (cs.getD (qq + 1) 0))]) (rest := []) (lenOf own_pd_28CC29I rfl) rfl (by show 2 * 0 + _ ≤ _; exact Nat.le_of_eq rfl) (hb hby own_d31_79) (fun _ _ => ⟨rfl, eh6, (by decide : 0 + 0 ≤ _), (by decide : 0 + 0 ≤ _)⟩)
        dsimp only [Pt.U, Pt.locs, Pt.cells, Pt.slots] at X7 l7 y7 z7 st7 hQ7
        subst l7 y7 z7
        obtain ⟨rr, rfl, Nq7, eh7, R_7⟩ := hQ7
        have N7 := Fr.app N6 Nq7
        refine own_go st7 ?_
        show own_Rn p e below _ (T7.setTop (mkF m 82 #[.val (.ref bv), .val (.int (Int32.ofNat (qq + 1))), .val (.int (Int32.ofNat cs.length)), .val (.int (0 : Int32)), .val (.int (cs.getD qq 0)), .val (.int (cs.getD (qq + 1) 0))] [(.int rr)]))
        exact own_ret X7 (v := some (.int rr)) (fun h => by rw [Bd.returns] at h; cases h) (fun fs hr => retI X7 hx Bd.returns (hb hby own_d31_82) hr) (by rw [eh7]; exact ⟨rr, rfl, N7, rfl, R_7.trans (own_hd_pair cs qq hx1 hA hB).symm⟩) (by decide) (by decide)
      · skip
        rw [if_neg hB]
        show own_Rn p e below _ (T6.setTop (mkF m 72 #[.val (.ref bv), .val (.int (Int32.ofNat (qq + 1))), .val (.int (Int32.ofNat cs.length)), .val (.int (0 : Int32)), .val (.int (cs.getD qq 0)), .val (.int (cs.getD (qq + 1) 0))] [(.int (0 : Int32))]))
        refine own_go (fun tq kq => XS.ifYes X6.here hx rfl (pc0 := 72) (pc' := 83) rfl (hb hby own_d31_72) rfl ((if0 _ _).trans (teq ((by decide : (0 : Int32) = (0 : Int32)) : (0 : Int32) = (0 : Int32))).1) (by decide) (by decide) kq) ?_
        show own_Rn p e below _ (T6.setTop (mkF m 83 #[.val (.ref bv), .val (.int (Int32.ofNat (qq + 1))), .val (.int (Int32.ofNat cs.length)), .val (.int (0 : Int32)), .val (.int (cs.getD qq 0)), .val (.int (cs.getD (qq + 1) 0))] []))
        refine own_go (fun tq kq => XS.iload X6.here hx rfl (hb hby own_d31_83) rfl kq) ?_
        show own_Rn p e below _ (T6.setTop (mkF m 85 #[.val (.ref bv), .val (.int (Int32.ofNat (qq + 1))), .val (.int (Int32.ofNat cs.length)), .val (.int (0 : Int32)), .val (.int (cs.getD qq 0)), .val (.int (cs.getD (qq + 1) 0))] [(.int (cs.getD qq 0))]))
        exact own_ret X6 (v := some (.int (cs.getD qq 0))) (fun h => by rw [Bd.returns] at h; cases h) (fun fs hr => retI X6 hx Bd.returns (hb hby own_d31_85) hr) (by rw [eh6]; exact ⟨(cs.getD qq 0), rfl, N6, rfl, (own_hd_nlo cs qq hx1 hB).symm⟩) (by decide) (by decide)
    · skip
      refine own_go (fun tq kq => XS.icmpYes X4.here hx rfl (pc0 := 48) (pc' := 83) rfl (hb hby own_d31_48) rfl (flt (own_ofNat_nlt hx1 (by omega) : ¬ ((Int32.ofNat (qq + 1)) < (Int32.ofNat cs.length)))).2.1 (by decide) (by decide) kq) ?_
      show own_Rn p e below _ (T4.setTop (mkF m 83 #[.val (.ref bv), .val (.int (Int32.ofNat (qq + 1))), .val (.int (Int32.ofNat cs.length)), .val (.int (0 : Int32)), .val (.int (cs.getD qq 0)), .unset] []))
      refine own_go (fun tq kq => XS.iload X4.here hx rfl (hb hby own_d31_83) rfl kq) ?_
      show own_Rn p e below _ (T4.setTop (mkF m 85 #[.val (.ref bv), .val (.int (Int32.ofNat (qq + 1))), .val (.int (Int32.ofNat cs.length)), .val (.int (0 : Int32)), .val (.int (cs.getD qq 0)), .unset] [(.int (cs.getD qq 0))]))
      exact own_ret X4 (v := some (.int (cs.getD qq 0))) (fun h => by rw [Bd.returns] at h; cases h) (fun fs hr => retI X4 hx Bd.returns (hb hby own_d31_85) hr) (by rw [eh4]; exact ⟨(cs.getD qq 0), rfl, N4, rfl, (own_hd_end cs qq hq hx1).symm⟩) (by decide) (by decide)
  · skip
    rw [if_neg hA]
    show own_Rn p e below _ (T4.setTop (mkF m 40 #[.val (.ref bv), .val (.int (Int32.ofNat qq)), .val (.int (Int32.ofNat cs.length)), .val (.int (0 : Int32)), .val (.int (cs.getD qq 0)), .unset] [(.int (0 : Int32))]))
    refine own_go (fun tq kq => XS.ifYes X4.here hx rfl (pc0 := 40) (pc' := 83) rfl (hb hby own_d31_40) rfl ((if0 _ _).trans (teq ((by decide : (0 : Int32) = (0 : Int32)) : (0 : Int32) = (0 : Int32))).1) (by decide) (by decide) kq) ?_
    show own_Rn p e below _ (T4.setTop (mkF m 83 #[.val (.ref bv), .val (.int (Int32.ofNat qq)), .val (.int (Int32.ofNat cs.length)), .val (.int (0 : Int32)), .val (.int (cs.getD qq 0)), .unset] []))
    refine own_go (fun tq kq => XS.iload X4.here hx rfl (hb hby own_d31_83) rfl kq) ?_
    show own_Rn p e below _ (T4.setTop (mkF m 85 #[.val (.ref bv), .val (.int (Int32.ofNat qq)), .val (.int (Int32.ofNat cs.length)), .val (.int (0 : Int32)), .val (.int (cs.getD qq 0)), .unset] [(.int (cs.getD qq 0))]))
    exact own_ret X4 (v := some (.int (cs.getD qq 0))) (fun h => by rw [Bd.returns] at h; cases h) (fun fs hr => retI X4 hx Bd.returns (hb hby own_d31_85) hr) (by rw [eh4]; exact ⟨(cs.getD qq 0), rfl, N4, rfl, (own_hd_nhi cs qq hq hA).symm⟩) (by decide) (by decide)
theorem own_ef_rmCP3 (m : MethodId) (bv : Addr) (kb : ClassId) (cs : List Int32) (qq : Nat) : entryFrame m #[(.ref bv), (.int (Int32.ofNat qq)), (.int (Int32.ofNat cs.length))] 3 = mkF m 0 #[.val (.ref bv), .val (.int (Int32.ofNat qq)), .val (.int (Int32.ofNat cs.length))] [] := by first | (simp [entryFrame, mkF, argsToLocals, Value.category]; done) | rfl
theorem own_d30_0 : decode jdk_52_method_8_code 0 = .ok (.aload_n 0, 1) := by decide +kernel
theorem own_d30_1 : decode jdk_52_method_8_code 1 = .ok (.iload_n 1, 1) := by decide +kernel
theorem own_d30_2 : decode jdk_52_method_8_code 2 = .ok (.iload_n 2, 1) := by decide +kernel
theorem own_d30_3 : decode jdk_52_method_8_code 3 = .ok (.iconst 0, 1) := by decide +kernel
theorem own_d30_4 : decode jdk_52_method_8_code 4 = .ok (.invokestatic 88, 3) := by decide +kernel
theorem own_pd_285bBIIZ29I : parseMethodDescriptor "([BIIZ)I" = some ⟨[(.array .byte), .int, .int, .boolean], some .int⟩ := by decide +kernel
theorem own_d30_7 : decode jdk_52_method_8_code 7 = .ok (.ireturn, 1) := by decide +kernel
def Q_rmCP3 (Z : State) (bv : Addr) (kb : ClassId) (cs : List Int32) (qq : Nat) (h0 : Heap) (n0 : Nat) (v : Option Value) (h : Heap) (L : List Loc) : Prop := ∃ (r : Int32), v = some (.int r) ∧ Fr n0 L ∧ h = h0 ∧ (r.toInt = own_hdc ((own_il cs).drop qq))
set_option maxRecDepth 65536 in
set_option maxHeartbeats 40000000 in
theorem rmCP3 (l : Launch) (Z : State) (a0 : Array Value) (hw : ∀ d ∈ tables_1, d.before a0 Z = true) (ws : List Jvm.Cond) (bv : Addr) (kb : ClassId) (cs : List Int32) (qq : Nat) (h0 : Heap) (n0 : Nat) (Z0 : n0 ≤ h0.size) (Pm0 : Arv Z h0 bv kb .byte (Int32.ofNat (2 * cs.length)) (own_u16 cs) (.int 0)) (hq : (qq < cs.length)) (hn : (cs.length ≤ 3)) (hr : (∀ c ∈ cs, ¬ c < 0 ∧ ¬ (65535 : Int32) < c)) (OAD : Sta Z Z.heap "java/lang/StringUTF16" "$assertionsDisabled" "Z" (.int (1 : Int32))) (OHI : Sta Z Z.heap "java/lang/StringUTF16" "HI_BYTE_SHIFT" "I" (.int (0 : Int32))) (OLO : Sta Z Z.heap "java/lang/StringUTF16" "LO_BYTE_SHIFT" "I" (.int (8 : Int32))) (X00 : Old Z n0 h0) :
    MetFree l (⟨"java/lang/StringUTF16", "codePointAt", "([BII)I"⟩ : MethodName) (head1 (Jvm.Cond.code (⟨"java/lang/StringUTF16", "codePointAt", "([BII)I"⟩ : MethodName) jdk_52_method_8_code 3 (some .int) :: ws) ({ frames := 2, cells := 0, slots := 0, locals := 30 } : Room)) (fun a U => a = #[(.ref bv), (.int (Int32.ofNat qq)), (.int (Int32.ofNat cs.length))] ∧ Z.Warmed39 U.vm ∧ U.heap = h0) (fun _ _ _ _ _ => True) (fun _ U o U' => ∃ v L, o = .returned v ∧ Q_rmCP3 Z bv kb cs qq h0 n0 v U'.heap L ∧ FrameEnd U o U' L ({ frames := 2, cells := 0, slots := 0, locals := 30 } : Room).cells ({ frames := 2, cells := 0, slots := 0, locals := 30 } : Room).slots) := by
  refine MetFree.of_bodySF (plainFor_of_name own_pn_java_lang_StringUTF16) hisR ?_
  intro p e s m args below meth c s₁ Bd hml0 hP hK
  obtain ⟨rfl, hZ, hh⟩ := hP
  have hx := Bd.exec
  have hby := Bd.bytes
  have hml : c.maxLocals = 3 := hml0
  have hown : s.vm.findClass "java/lang/StringUTF16" = some m.cls := findClass_of_methodNamed Bd.named
  have hnm := (name_of_methodNamed Bd.named Bd.method).1
  have X0 : Stand p l e ({ frames := 2, cells := 0, slots := 0, locals := 30 } : Room) s m #[(.ref bv), (.int (Int32.ofNat qq)), (.int (Int32.ofNat cs.length))] below meth c s₁ [] 0 0 := Stand.of_body Bd
  have e0 : s₁.heap = h0 := by rw [← hh, Bd.state]; rfl
  have N0 := Fr.nil n0
  have K0 : Keep h0 h0 [] := Keep.refl _ _
  refine own_go (S' := s₁.setTop (mkF m 0 #[.val (.ref bv), .val (.int (Int32.ofNat qq)), .val (.int (Int32.ofNat cs.length))] [])) (fun tq kq => castTop (own_ef_rmCP3 m bv kb cs qq) kq) ?_
  have lt1 : @LT.lt Nat _ bv h0.size := Pm0.lt
  refine own_go (fun tq kq => XS.aloadN X0.here hx rfl (hb hby own_d30_0) rfl rfl kq) ?_
  show own_Rn p e below _ (s₁.setTop (mkF m 1 #[.val (.ref bv), .val (.int (Int32.ofNat qq)), .val (.int (Int32.ofNat cs.length))] [(.ref bv)]))
  refine own_go (fun tq kq => XS.iloadN X0.here hx rfl (hb hby own_d30_1) rfl kq) ?_
  show own_Rn p e below _ (s₁.setTop (mkF m 2 #[.val (.ref bv), .val (.int (Int32.ofNat qq)), .val (.int (Int32.ofNat cs.length))] [(.int (Int32.ofNat qq)), (.ref bv)]))
  refine own_go (fun tq kq => XS.iloadN X0.here hx rfl (hb hby own_d30_2) rfl kq) ?_
  show own_Rn p e below _ (s₁.setTop (mkF m 3 #[.val (.ref bv), .val (.int (Int32.ofNat qq)), .val (.int (Int32.ofNat cs.length))] [(.int (Int32.ofNat cs.length)), (.int (Int32.ofNat qq)), (.ref bv)]))
  refine own_go (fun tq kq => XS.iconst X0.here hx rfl (hb hby own_d30_3) kq) ?_
  show own_Rn p e below _ (s₁.setTop (mkF m 4 #[.val (.ref bv), .val (.int (Int32.ofNat qq)), .val (.int (Int32.ofNat cs.length))] [(.int (0 : Int32)), (.int (Int32.ofNat cs.length)), (.int (Int32.ofNat qq)), (.ref bv)]))
  have Zn2 : n0 ≤ h0.size := by omega
  obtain ⟨rv2, _, ⟨T2, L2, k2, n2⟩, -, X2, ⟨Lc2, hQ2, l2, y2, z2⟩, st2⟩ := Jvm.LawKit.callS X0 hx (y := (⟨"java/lang/StringUTF16", "codePointAt", "([BIIZ)I"⟩ : MethodName)) hown (mvT hZ (hw _ (List.mem_of_getElem? (i := 139) rfl))) (mvT hZ (hw _ (List.mem_of_getElem? (i := 140) rfl))) (mvT hZ (hw _ (List.mem_of_getElem? (i := 70) rfl))) (mvT hZ (hw _ (List.mem_of_getElem? (i := 141) rfl))) (by decide) (backOf (W := 0) (rmCP4 l Z a0 hw [] (bv) (kb) (cs) (qq) h0 n0 Zn2 Pm0 (hq) (hn) (hr) (OAD) (OHI) (OLO) X00) hZ (hw _ (List.mem_of_getElem? (i := 141) rfl)) (hw _ (List.mem_of_getElem? (i := 70) rfl)) (by decide) (by decide)) (g := (mkF m 4 #[.val (.ref bv), .val (.int (Int32.ofNat qq)), .val (.int (Int32.ofNat cs.length))] [(.int (0 : Int32)), (.int (Int32.ofNat cs.length)), (.int (Int32.ofNat qq)), (.ref bv)])) rfl (by rw [hml]; rfl) (argsL := [(.ref bv), (.int (Int32.ofNat qq)), (.int (Int32.ofNat cs.length)), (.int (0 : Int32))]) (rest := []) (lenOf own_pd_285bBIIZ29I rfl) rfl (by show 2 * 0 + _ ≤ _; exact Nat.le_of_eq rfl) (hb hby own_d30_4) (fun _ _ => ⟨rfl, e0, (by decide : 0 + 0 ≤ _), (by decide : 0 + 0 ≤ _)⟩)
  dsimp only [Pt.U, Pt.locs, Pt.cells, Pt.slots] at X2 l2 y2 z2 st2 hQ2
  subst l2 y2 z2
  obtain ⟨rr, rfl, Nq2, eh2, R_2⟩ := hQ2
  have N2 := Fr.app N0 Nq2
  refine own_go st2 ?_
  show own_Rn p e below _ (T2.setTop (mkF m 7 #[.val (.ref bv), .val (.int (Int32.ofNat qq)), .val (.int (Int32.ofNat cs.length))] [(.int rr)]))
  exact own_ret X2 (v := some (.int rr)) (fun h => by rw [Bd.returns] at h; cases h) (fun fs hr => retI X2 hx Bd.returns (hb hby own_d30_7) hr) (by rw [eh2]; exact ⟨rr, rfl, N2, rfl, R_2⟩) (by decide) (by decide)
theorem own_ef_rmCPA (m : MethodId) (x : Addr) (t : Addr) (kt : ClassId) (N : Int32) (vs : List Value) (cd : Int32) (cs : List Int32) (G1 : Int32) (qq : Nat) (G3 : Value) : entryFrame m #[(.ref x), (.int (Int32.ofNat qq))] 3 = mkF m 0 #[.val (.ref x), .val (.int (Int32.ofNat qq)), .unset] [] := by first | (simp [entryFrame, mkF, argsToLocals, Value.category]; done) | rfl
theorem own_d29_0 : decode jdk_42_method_57_code 0 = .ok (.aload_n 0, 1) := by decide +kernel
theorem own_d29_1 : decode jdk_42_method_57_code 1 = .ok (.invokevirtual 492, 3) := by decide +kernel
theorem own_d29_4 : decode jdk_42_method_57_code 4 = .ok (.ifCond .eq 23, 3) := by decide +kernel
theorem own_d29_7 : decode jdk_42_method_57_code 7 = .ok (.iload_n 1, 1) := by decide +kernel
theorem own_d29_8 : decode jdk_42_method_57_code 8 = .ok (.aload_n 0, 1) := by decide +kernel
theorem own_d29_9 : decode jdk_42_method_57_code 9 = .ok (.getfield 9, 3) := by decide +kernel
theorem own_d29_12 : decode jdk_42_method_57_code 12 = .ok (.arraylength, 1) := by decide +kernel
theorem own_d29_13 : decode jdk_42_method_57_code 13 = .ok (.invokestatic 499, 3) := by decide +kernel
theorem own_d29_16 : decode jdk_42_method_57_code 16 = .ok (.aload_n 0, 1) := by decide +kernel
theorem own_d29_17 : decode jdk_42_method_57_code 17 = .ok (.getfield 9, 3) := by decide +kernel
theorem own_d29_20 : decode jdk_42_method_57_code 20 = .ok (.iload_n 1, 1) := by decide +kernel
theorem own_d29_21 : decode jdk_42_method_57_code 21 = .ok (.baload, 1) := by decide +kernel
theorem own_d29_22 : decode jdk_42_method_57_code 22 = .ok (.sipush 255, 3) := by decide +kernel
theorem own_d29_25 : decode jdk_42_method_57_code 25 = .ok (.iand, 1) := by decide +kernel
theorem own_d29_26 : decode jdk_42_method_57_code 26 = .ok (.ireturn, 1) := by decide +kernel
theorem own_d29_27 : decode jdk_42_method_57_code 27 = .ok (.aload_n 0, 1) := by decide +kernel
theorem own_d29_28 : decode jdk_42_method_57_code 28 = .ok (.getfield 9, 3) := by decide +kernel
theorem own_d29_31 : decode jdk_42_method_57_code 31 = .ok (.arraylength, 1) := by decide +kernel
theorem own_d29_32 : decode jdk_42_method_57_code 32 = .ok (.iconst 1, 1) := by decide +kernel
theorem own_d29_33 : decode jdk_42_method_57_code 33 = .ok (.ishr, 1) := by decide +kernel
theorem own_d29_34 : decode jdk_42_method_57_code 34 = .ok (.istore_n 2, 1) := by decide +kernel
theorem own_d29_35 : decode jdk_42_method_57_code 35 = .ok (.iload_n 1, 1) := by decide +kernel
theorem own_d29_36 : decode jdk_42_method_57_code 36 = .ok (.iload_n 2, 1) := by decide +kernel
theorem own_d29_37 : decode jdk_42_method_57_code 37 = .ok (.invokestatic 499, 3) := by decide +kernel
theorem own_d29_40 : decode jdk_42_method_57_code 40 = .ok (.aload_n 0, 1) := by decide +kernel
theorem own_d29_41 : decode jdk_42_method_57_code 41 = .ok (.getfield 9, 3) := by decide +kernel
theorem own_d29_44 : decode jdk_42_method_57_code 44 = .ok (.iload_n 1, 1) := by decide +kernel
theorem own_d29_45 : decode jdk_42_method_57_code 45 = .ok (.iload_n 2, 1) := by decide +kernel
theorem own_d29_46 : decode jdk_42_method_57_code 46 = .ok (.invokestatic 502, 3) := by decide +kernel
theorem own_pd_285bBII29I : parseMethodDescriptor "([BII)I" = some ⟨[(.array .byte), .int, .int], some .int⟩ := by decide +kernel
theorem own_d29_49 : decode jdk_42_method_57_code 49 = .ok (.ireturn, 1) := by decide +kernel
def Q_rmCPA (Z : State) (x : Addr) (t : Addr) (kt : ClassId) (N : Int32) (vs : List Value) (cd : Int32) (cs : List Int32) (G1 : Int32) (qq : Nat) (G3 : Value) (h0 : Heap) (n0 : Nat) (v : Option Value) (h : Heap) (L : List Loc) : Prop := ∃ (r : Int32), v = some (.int r) ∧ Fr n0 L ∧ h = h0 ∧ (r.toInt = own_hdc ((own_il cs).drop qq))
set_option maxRecDepth 65536 in
set_option maxHeartbeats 40000000 in
theorem rmCPA (l : Launch) (Z : State) (a0 : Array Value) (hw : ∀ d ∈ tables_1, d.before a0 Z = true) (ws : List Jvm.Cond) (x : Addr) (t : Addr) (kt : ClassId) (N : Int32) (vs : List Value) (cd : Int32) (cs : List Int32) (G1 : Int32) (qq : Nat) (G3 : Value) (h0 : Heap) (n0 : Nat) (Z0 : n0 ≤ h0.size) (Pm0 : Exa Z h0 x "java/lang/String") (Pm1 : Fld Z h0 x "java/lang/String" "value" "[B" (.ref t)) (Pm2 : Fld Z h0 x "java/lang/String" "coder" "B" (.int cd)) (Pm3 : Arv Z h0 t kt .byte N vs (.int 0)) (RL : ((cd = 0 ∧ N = (Int32.ofNat cs.length) ∧ vs = own_bs cs ∧ ∀ c ∈ cs, ¬ (255 : Int32) < c) ∨ (cd = 1 ∧ N = (Int32.ofNat (2 * cs.length)) ∧ vs = own_u16 cs))) (hn : (cs.length ≤ 3)) (hr : (∀ c ∈ cs, ¬ c < 0 ∧ ¬ (65535 : Int32) < c)) (hq : (qq < cs.length)) (OAD : Sta Z Z.heap "java/lang/StringUTF16" "$assertionsDisabled" "Z" (.int (1 : Int32))) (OHI : Sta Z Z.heap "java/lang/StringUTF16" "HI_BYTE_SHIFT" "I" (.int (0 : Int32))) (OLO : Sta Z Z.heap "java/lang/StringUTF16" "LO_BYTE_SHIFT" "I" (.int (8 : Int32))) (O4 : Sta Z Z.heap "jdk/internal/util/Preconditions" "SIOOBE_FORMATTER" "Ljava/util/function/BiFunction;" G3) (hG3 : (G3 = .null ∨ ∃ ga, G3 = .ref ga)) (O2 : Sta Z Z.heap "java/lang/String" "COMPACT_STRINGS" "Z" (.int G1)) (P5 : (¬ (G1 = (0 : Int32)))) (X00 : Old Z n0 h0) :
    MetFree l (⟨"java/lang/String", "codePointAt", "(I)I"⟩ : MethodName) (head1 (Jvm.Cond.code (⟨"java/lang/String", "codePointAt", "(I)I"⟩ : MethodName) jdk_42_method_57_code 3 (some .int) :: ws) ({ frames := 3, cells := 0, slots := 0, locals := 44 } : Room)) (fun a U => a = #[(.ref x), (.int (Int32.ofNat qq))] ∧ Z.Warmed39 U.vm ∧ U.heap = h0) (fun _ _ _ _ _ => True) (fun _ U o U' => ∃ v L, o = .returned v ∧ Q_rmCPA Z x t kt N vs cd cs G1 qq G3 h0 n0 v U'.heap L ∧ FrameEnd U o U' L ({ frames := 3, cells := 0, slots := 0, locals := 44 } : Room).cells ({ frames := 3, cells := 0, slots := 0, locals := 44 } : Room).slots) := by
  refine MetFree.of_bodySF (plainFor_of_name own_pn_java_lang_String) hisR ?_
  intro p e s m args below meth c s₁ Bd hml0 hP hK
  obtain ⟨rfl, hZ, hh⟩ := hP
  have hx := Bd.exec
  have hby := Bd.bytes
  have hml : c.maxLocals = 3 := hml0
  have hown : s.vm.findClass "java/lang/String" = some m.cls := findClass_of_methodNamed Bd.named
  have hnm := (name_of_methodNamed Bd.named Bd.method).1
  have X0 : Stand p l e ({ frames := 3, cells := 0, slots := 0, locals := 44 } : Room) s m #[(.ref x), (.int (Int32.ofNat qq))] below meth c s₁ [] 0 0 := Stand.of_body Bd
  have e0 : s₁.heap = h0 := by rw [← hh, Bd.state]; rfl
  have N0 := Fr.nil n0
  have K0 : Keep h0 h0 [] := Keep.refl _ _
  refine own_go (S' := s₁.setTop (mkF m 0 #[.val (.ref x), .val (.int (Int32.ofNat qq)), .unset] [])) (fun tq kq => castTop (own_ef_rmCPA m x t kt N vs cd cs G1 qq G3) kq) ?_
  have lt1 : @LT.lt Nat _ x h0.size := Pm0.lt
  have lt2 : @LT.lt Nat _ t h0.size := Pm3.lt
  rcases RL with ⟨rfl, rfl, rfl, hal⟩ | ⟨rfl, rfl, rfl⟩
  · skip
    show own_Rn p e below _ (s₁.setTop (mkF m 0 #[.val (.ref x), .val (.int (Int32.ofNat qq)), .unset] []))
    have hm : ¬ cs.getD qq 0 < 0 ∧ ¬ (65535 : Int32) < cs.getD qq 0 := hr _ (by rw [List.getD_eq_getElem?_getD, List.getElem?_eq_getElem hq]; exact List.getElem_mem hq)
    refine own_go (fun tq kq => XS.aloadN X0.here hx rfl (hb hby own_d29_0) rfl rfl kq) ?_
    show own_Rn p e below _ (s₁.setTop (mkF m 1 #[.val (.ref x), .val (.int (Int32.ofNat qq)), .unset] [(.ref x)]))
    have Zn3 : n0 ≤ h0.size := by omega
    obtain ⟨cq3, kq3, qa3, qb3, qc3⟩ := isOf hZ e0 Pm0
    obtain ⟨rv3, _, ⟨T3, L3, k3, n3⟩, -, X3, ⟨Lc3, hQ3, l3, y3, z3⟩, st3⟩ := X0.virtualBack hx (y := (⟨"java/lang/String", "isLatin1", "()Z"⟩ : MethodName)) (z := (⟨"java/lang/String", "isLatin1", "()Z"⟩ : MethodName)) hown (mvT hZ (hw _ (List.mem_of_getElem? (i := 102) rfl))) (mvT hZ (hw _ (List.mem_of_getElem? (i := 103) rfl))) (notFace_of_selects (args := #[]) (mvT hZ (hw _ (List.mem_of_getElem? (i := 105) rfl)))) (mvT hZ (hw _ (List.mem_of_getElem? (i := 105) rfl))) (mvT hZ (hw _ (List.mem_of_getElem? (i := 104) rfl))) (by decide) (backOf (W := 0) (rmIl0 l Z a0 hw [] (x) (G1) h0 n0 Zn3 Pm2 (O2) (P5) X00) hZ (hw _ (List.mem_of_getElem? (i := 106) rfl)) (hw _ (List.mem_of_getElem? (i := 17) rfl)) (by decide) (by decide)) qa3 qc3 (g := (mkF m 1 #[.val (.ref x), .val (.int (Int32.ofNat qq)), .unset] [(.ref x)])) rfl (by rw [hml]; rfl) (Steps.refl _) (argsL := []) (rest := []) (lenOf own_pd_2829Z rfl) rfl (by show 2 * 0 + _ ≤ _; exact Nat.le_of_eq rfl) (hb hby own_d29_1) (fun _ _ => ⟨rfl, e0, (by decide : 0 + 0 ≤ _), (by decide : 0 + 0 ≤ _)⟩)
    dsimp only [Pt.U, Pt.locs, Pt.cells, Pt.slots] at X3 l3 y3 z3 st3 hQ3
    subst l3 y3 z3
    obtain ⟨rfl, Nq3, eh3⟩ := hQ3
    have N3 := Fr.app N0 Nq3
    refine own_go (fun tq kq => st3.trans kq) ?_
    show own_Rn p e below _ (T3.setTop (mkF m 4 #[.val (.ref x), .val (.int (Int32.ofNat qq)), .unset] [(.int (1 : Int32))]))
    have ha : ¬ cs.getD qq 0 < 0 ∧ ¬ (255 : Int32) < cs.getD qq 0 := ⟨hm.1, hal _ (by rw [List.getD_eq_getElem?_getD, List.getElem?_eq_getElem hq]; exact List.getElem_mem hq)⟩
    refine own_go (fun tq kq => XS.ifNo X3.here hx rfl (hb hby own_d29_4) rfl ((if0 _ _).trans (feq ((by decide : ¬ ((1 : Int32) = (0 : Int32))) : ¬ ((1 : Int32) = (0 : Int32)))).1) kq) ?_
    show own_Rn p e below _ (T3.setTop (mkF m 7 #[.val (.ref x), .val (.int (Int32.ofNat qq)), .unset] []))
    refine own_go (fun tq kq => XS.iloadN X3.here hx rfl (hb hby own_d29_7) rfl kq) ?_
    show own_Rn p e below _ (T3.setTop (mkF m 8 #[.val (.ref x), .val (.int (Int32.ofNat qq)), .unset] [(.int (Int32.ofNat qq))]))
    refine own_go (fun tq kq => XS.aloadN X3.here hx rfl (hb hby own_d29_8) rfl rfl kq) ?_
    show own_Rn p e below _ (T3.setTop (mkF m 9 #[.val (.ref x), .val (.int (Int32.ofNat qq)), .unset] [(.ref x), (.int (Int32.ofNat qq))]))
    obtain ⟨T4, X4, e4, st4⟩ := getF X3 hx hZ hown (host := "") (Or.inl (hw _ (List.mem_of_getElem? (i := 34) rfl))) Via.refl eh3 Pm1 (g := (mkF m 9 #[.val (.ref x), .val (.int (Int32.ofNat qq)), .unset] [(.ref x), (.int (Int32.ofNat qq))])) rfl rfl (hb hby own_d29_9)
    refine own_go st4 ?_
    show own_Rn p e below _ (T4.setTop (mkF m 12 #[.val (.ref x), .val (.int (Int32.ofNat qq)), .unset] [(.ref t), (.int (Int32.ofNat qq))]))
    obtain ⟨cl5, Ar5, -, Sz5, Nn5, -, -⟩ := id Pm3
    refine own_go (fun tq kq => X4.arraylength hx (cell := cl5) (by rw [e4]; exact Ar5.1) (State.isArrayOf_alike hZ.alike Ar5.2.1) (g := (mkF m 12 #[.val (.ref x), .val (.int (Int32.ofNat qq)), .unset] [(.ref t), (.int (Int32.ofNat qq))])) rfl rfl (hb hby own_d29_12) tq kq) ?_
    rw [len_of Sz5 Nn5]
    show own_Rn p e below _ (T4.setTop (mkF m 13 #[.val (.ref x), .val (.int (Int32.ofNat qq)), .unset] [(.int (Int32.ofNat cs.length)), (.int (Int32.ofNat qq))]))
    have Zn6 : n0 ≤ h0.size := by omega
    obtain ⟨rv6, _, ⟨T6, L6, k6, n6⟩, -, X6, ⟨Lc6, hQ6, l6, y6, z6⟩, st6⟩ := Jvm.LawKit.callS X4 hx (y := (⟨"java/lang/String", "checkIndex", "(II)V"⟩ : MethodName)) hown (mvT hZ (hw _ (List.mem_of_getElem? (i := 135) rfl))) (mvT hZ (hw _ (List.mem_of_getElem? (i := 117) rfl))) (mvT hZ (hw _ (List.mem_of_getElem? (i := 17) rfl))) (mvT hZ (hw _ (List.mem_of_getElem? (i := 118) rfl))) (by decide) (backOf (W := 0) (rmSCI l Z a0 hw [] (qq) (cs.length) (G3) h0 n0 Zn6 (hq) (by omega) (O4) (hG3) X00) hZ (hw _ (List.mem_of_getElem? (i := 118) rfl)) (hw _ (List.mem_of_getElem? (i := 17) rfl)) (by decide) (by decide)) (g := (mkF m 13 #[.val (.ref x), .val (.int (Int32.ofNat qq)), .unset] [(.int (Int32.ofNat cs.length)), (.int (Int32.ofNat qq))])) rfl (by rw [hml]; rfl) (argsL := [(.int (Int32.ofNat qq)), (.int (Int32.ofNat cs.length))]) (rest := []) (lenOf own_pd_28II29V rfl) rfl (by show 2 * 0 + _ ≤ _; exact Nat.le_of_eq rfl) (hb hby own_d29_13) (fun _ _ => ⟨rfl, e4, (by decide : 0 + 0 ≤ _), (by decide : 0 + 0 ≤ _)⟩)
    dsimp only [Pt.U, Pt.locs, Pt.cells, Pt.slots] at X6 l6 y6 z6 st6 hQ6
    subst l6 y6 z6
    obtain ⟨rfl, Nq6, eh6⟩ := hQ6
    have N6 := Fr.app N3 Nq6
    refine own_go st6 ?_
    show own_Rn p e below _ (T6.setTop (mkF m 16 #[.val (.ref x), .val (.int (Int32.ofNat qq)), .unset] []))
    refine own_go (fun tq kq => XS.aloadN X6.here hx rfl (hb hby own_d29_16) rfl rfl kq) ?_
    show own_Rn p e below _ (T6.setTop (mkF m 17 #[.val (.ref x), .val (.int (Int32.ofNat qq)), .unset] [(.ref x)]))
    obtain ⟨T7, X7, e7, st7⟩ := getF X6 hx hZ hown (host := "") (Or.inl (hw _ (List.mem_of_getElem? (i := 34) rfl))) Via.refl eh6 Pm1 (g := (mkF m 17 #[.val (.ref x), .val (.int (Int32.ofNat qq)), .unset] [(.ref x)])) rfl rfl (hb hby own_d29_17)
    refine own_go st7 ?_
    show own_Rn p e below _ (T7.setTop (mkF m 20 #[.val (.ref x), .val (.int (Int32.ofNat qq)), .unset] [(.ref t)]))
    refine own_go (fun tq kq => XS.iloadN X7.here hx rfl (hb hby own_d29_20) rfl kq) ?_
    show own_Rn p e below _ (T7.setTop (mkF m 21 #[.val (.ref x), .val (.int (Int32.ofNat qq)), .unset] [(.int (Int32.ofNat qq)), (.ref t)]))
    obtain ⟨cl8, Ar8, q8, Sz8, Nn8, Hs8, G8⟩ := id Pm3
    have in8 := inb_of (j := (Int32.ofNat qq)) Sz8 (own_inb _ _ hq (by omega))
    refine own_go (fun tq kq => X7.baloadBytes hx (j := (Int32.ofNat qq)) (v := (.int ((cs.getD qq 0).toInt8.toInt32))) (by rw [e7]; exact Ar8.1) (State.isArrayOf_alike hZ.alike Ar8.2.1) Ar8.2.2 in8 (Hs8.at in8 (by rw [own_clampN (by omega)]; exact own_bs_at cs qq hq)) (g := (mkF m 21 #[.val (.ref x), .val (.int (Int32.ofNat qq)), .unset] [(.int (Int32.ofNat qq)), (.ref t)])) rfl rfl (hb hby own_d29_21) tq kq) ?_
    show own_Rn p e below _ (T7.setTop (mkF m 22 #[.val (.ref x), .val (.int (Int32.ofNat qq)), .unset] [(.int ((cs.getD qq 0).toInt8.toInt32))]))
    refine own_go (fun tq kq => XS.sipush X7.here hx rfl (hb hby own_d29_22) kq) ?_
    show own_Rn p e below _ (T7.setTop (mkF m 25 #[.val (.ref x), .val (.int (Int32.ofNat qq)), .unset] [(.int (255 : Int32)), (.int ((cs.getD qq 0).toInt8.toInt32))]))
    refine own_go (fun tq kq => XS.iand X7.here hx rfl (hb hby own_d29_25) rfl kq) ?_
    show own_Rn p e below _ (T7.setTop (mkF m 26 #[.val (.ref x), .val (.int (Int32.ofNat qq)), .unset] [(.int (((cs.getD qq 0).toInt8.toInt32) &&& (255 : Int32)))]))
    rw [show (((cs.getD qq 0).toInt8.toInt32) &&& (255 : Int32)) = (cs.getD qq 0) from own_b255 _ ha]
    show own_Rn p e below _ (T7.setTop (mkF m 26 #[.val (.ref x), .val (.int (Int32.ofNat qq)), .unset] [(.int (cs.getD qq 0))]))
    exact own_ret X7 (v := some (.int (cs.getD qq 0))) (fun h => by rw [Bd.returns] at h; cases h) (fun fs hr => retI X7 hx Bd.returns (hb hby own_d29_26) hr) (by rw [e7]; exact ⟨(cs.getD qq 0), rfl, N6, rfl, (own_hd_nhi cs qq hq (own_nhi255 ha)).symm⟩) (by decide) (by decide)
  · skip
    show own_Rn p e below _ (s₁.setTop (mkF m 0 #[.val (.ref x), .val (.int (Int32.ofNat qq)), .unset] []))
    have hm : ¬ cs.getD qq 0 < 0 ∧ ¬ (65535 : Int32) < cs.getD qq 0 := hr _ (by rw [List.getD_eq_getElem?_getD, List.getElem?_eq_getElem hq]; exact List.getElem_mem hq)
    refine own_go (fun tq kq => XS.aloadN X0.here hx rfl (hb hby own_d29_0) rfl rfl kq) ?_
    show own_Rn p e below _ (s₁.setTop (mkF m 1 #[.val (.ref x), .val (.int (Int32.ofNat qq)), .unset] [(.ref x)]))
    have Zn9 : n0 ≤ h0.size := by omega
    obtain ⟨cq9, kq9, qa9, qb9, qc9⟩ := isOf hZ e0 Pm0
    obtain ⟨rv9, _, ⟨T9, L9, k9, n9⟩, -, X9, ⟨Lc9, hQ9, l9, y9, z9⟩, st9⟩ := X0.virtualBack hx (y := (⟨"java/lang/String", "isLatin1", "()Z"⟩ : MethodName)) (z := (⟨"java/lang/String", "isLatin1", "()Z"⟩ : MethodName)) hown (mvT hZ (hw _ (List.mem_of_getElem? (i := 102) rfl))) (mvT hZ (hw _ (List.mem_of_getElem? (i := 103) rfl))) (notFace_of_selects (args := #[]) (mvT hZ (hw _ (List.mem_of_getElem? (i := 105) rfl)))) (mvT hZ (hw _ (List.mem_of_getElem? (i := 105) rfl))) (mvT hZ (hw _ (List.mem_of_getElem? (i := 104) rfl))) (by decide) (backOf (W := 0) (rmIl1 l Z a0 hw [] (x) (G1) h0 n0 Zn9 Pm2 (O2) (P5) X00) hZ (hw _ (List.mem_of_getElem? (i := 106) rfl)) (hw _ (List.mem_of_getElem? (i := 17) rfl)) (by decide) (by decide)) qa9 qc9 (g := (mkF m 1 #[.val (.ref x), .val (.int (Int32.ofNat qq)), .unset] [(.ref x)])) rfl (by rw [hml]; rfl) (Steps.refl _) (argsL := []) (rest := []) (lenOf own_pd_2829Z rfl) rfl (by show 2 * 0 + _ ≤ _; exact Nat.le_of_eq rfl) (hb hby own_d29_1) (fun _ _ => ⟨rfl, e0, (by decide : 0 + 0 ≤ _), (by decide : 0 + 0 ≤ _)⟩)
    dsimp only [Pt.U, Pt.locs, Pt.cells, Pt.slots] at X9 l9 y9 z9 st9 hQ9
    subst l9 y9 z9
    obtain ⟨rfl, Nq9, eh9⟩ := hQ9
    have N9 := Fr.app N0 Nq9
    refine own_go (fun tq kq => st9.trans kq) ?_
    show own_Rn p e below _ (T9.setTop (mkF m 4 #[.val (.ref x), .val (.int (Int32.ofNat qq)), .unset] [(.int (0 : Int32))]))
    refine own_go (fun tq kq => XS.ifYes X9.here hx rfl (pc0 := 4) (pc' := 27) rfl (hb hby own_d29_4) rfl ((if0 _ _).trans (teq ((by decide : (0 : Int32) = (0 : Int32)) : (0 : Int32) = (0 : Int32))).1) (by decide) (by decide) kq) ?_
    show own_Rn p e below _ (T9.setTop (mkF m 27 #[.val (.ref x), .val (.int (Int32.ofNat qq)), .unset] []))
    refine own_go (fun tq kq => XS.aloadN X9.here hx rfl (hb hby own_d29_27) rfl rfl kq) ?_
    show own_Rn p e below _ (T9.setTop (mkF m 28 #[.val (.ref x), .val (.int (Int32.ofNat qq)), .unset] [(.ref x)]))
    obtain ⟨T10, X10, e10, st10⟩ := getF X9 hx hZ hown (host := "") (Or.inl (hw _ (List.mem_of_getElem? (i := 34) rfl))) Via.refl eh9 Pm1 (g := (mkF m 28 #[.val (.ref x), .val (.int (Int32.ofNat qq)), .unset] [(.ref x)])) rfl rfl (hb hby own_d29_28)
    refine own_go st10 ?_
    show own_Rn p e below _ (T10.setTop (mkF m 31 #[.val (.ref x), .val (.int (Int32.ofNat qq)), .unset] [(.ref t)]))
    obtain ⟨cl11, Ar11, -, Sz11, Nn11, -, -⟩ := id Pm3
    refine own_go (fun tq kq => X10.arraylength hx (cell := cl11) (by rw [e10]; exact Ar11.1) (State.isArrayOf_alike hZ.alike Ar11.2.1) (g := (mkF m 31 #[.val (.ref x), .val (.int (Int32.ofNat qq)), .unset] [(.ref t)])) rfl rfl (hb hby own_d29_31) tq kq) ?_
    rw [len_of Sz11 Nn11]
    show own_Rn p e below _ (T10.setTop (mkF m 32 #[.val (.ref x), .val (.int (Int32.ofNat qq)), .unset] [(.int (Int32.ofNat (2 * cs.length)))]))
    refine own_go (fun tq kq => XS.iconst X10.here hx rfl (hb hby own_d29_32) kq) ?_
    show own_Rn p e below _ (T10.setTop (mkF m 33 #[.val (.ref x), .val (.int (Int32.ofNat qq)), .unset] [(.int (1 : Int32)), (.int (Int32.ofNat (2 * cs.length)))]))
    refine own_go (fun tq kq => XS.ishr X10.here hx rfl (hb hby own_d29_33) rfl kq) ?_
    show own_Rn p e below _ (T10.setTop (mkF m 34 #[.val (.ref x), .val (.int (Int32.ofNat qq)), .unset] [(.int ((Int32.ofNat (2 * cs.length)) >>> ((1 : Int32) &&& 31)))]))
    rw [show ((Int32.ofNat (2 * cs.length)) >>> ((1 : Int32) &&& 31)) = (Int32.ofNat cs.length) from own_shr1 _ (by omega)]
    show own_Rn p e below _ (T10.setTop (mkF m 34 #[.val (.ref x), .val (.int (Int32.ofNat qq)), .unset] [(.int (Int32.ofNat cs.length))]))
    refine own_go (fun tq kq => XS.istoreN X10.here hx rfl (hb hby own_d29_34) rfl (l' := #[.val (.ref x), .val (.int (Int32.ofNat qq)), .val (.int (Int32.ofNat cs.length))]) rfl kq) ?_
    show own_Rn p e below _ (T10.setTop (mkF m 35 #[.val (.ref x), .val (.int (Int32.ofNat qq)), .val (.int (Int32.ofNat cs.length))] []))
    refine own_go (fun tq kq => XS.iloadN X10.here hx rfl (hb hby own_d29_35) rfl kq) ?_
    show own_Rn p e below _ (T10.setTop (mkF m 36 #[.val (.ref x), .val (.int (Int32.ofNat qq)), .val (.int (Int32.ofNat cs.length))] [(.int (Int32.ofNat qq))]))
    refine own_go (fun tq kq => XS.iloadN X10.here hx rfl (hb hby own_d29_36) rfl kq) ?_
    show own_Rn p e below _ (T10.setTop (mkF m 37 #[.val (.ref x), .val (.int (Int32.ofNat qq)), .val (.int (Int32.ofNat cs.length))] [(.int (Int32.ofNat cs.length)), (.int (Int32.ofNat qq))]))
    have Zn12 : n0 ≤ h0.size := by omega
    obtain ⟨rv12, _, ⟨T12, L12, k12, n12⟩, -, X12, ⟨Lc12, hQ12, l12, y12, z12⟩, st12⟩ := Jvm.LawKit.callS X10 hx (y := (⟨"java/lang/String", "checkIndex", "(II)V"⟩ : MethodName)) hown (mvT hZ (hw _ (List.mem_of_getElem? (i := 135) rfl))) (mvT hZ (hw _ (List.mem_of_getElem? (i := 117) rfl))) (mvT hZ (hw _ (List.mem_of_getElem? (i := 17) rfl))) (mvT hZ (hw _ (List.mem_of_getElem? (i := 118) rfl))) (by decide) (backOf (W := 0) (rmSCI l Z a0 hw [] (qq) (cs.length) (G3) h0 n0 Zn12 (hq) (by omega) (O4) (hG3) X00) hZ (hw _ (List.mem_of_getElem? (i := 118) rfl)) (hw _ (List.mem_of_getElem? (i := 17) rfl)) (by decide) (by decide)) (g := (mkF m 37 #[.val (.ref x), .val (.int (Int32.ofNat qq)), .val (.int (Int32.ofNat cs.length))] [(.int (Int32.ofNat cs.length)), (.int (Int32.ofNat qq))])) rfl (by rw [hml]; rfl) (argsL := [(.int (Int32.ofNat qq)), (.int (Int32.ofNat cs.length))]) (rest := []) (lenOf own_pd_28II29V rfl) rfl (by show 2 * 0 + _ ≤ _; exact Nat.le_of_eq rfl) (hb hby own_d29_37) (fun _ _ => ⟨rfl, e10, (by decide : 0 + 0 ≤ _), (by decide : 0 + 0 ≤ _)⟩)
    dsimp only [Pt.U, Pt.locs, Pt.cells, Pt.slots] at X12 l12 y12 z12 st12 hQ12
    subst l12 y12 z12
    obtain ⟨rfl, Nq12, eh12⟩ := hQ12
    have N12 := Fr.app N9 Nq12
    refine own_go st12 ?_
    show own_Rn p e below _ (T12.setTop (mkF m 40 #[.val (.ref x), .val (.int (Int32.ofNat qq)), .val (.int (Int32.ofNat cs.length))] []))
    refine own_go (fun tq kq => XS.aloadN X12.here hx rfl (hb hby own_d29_40) rfl rfl kq) ?_
    show own_Rn p e below _ (T12.setTop (mkF m 41 #[.val (.ref x), .val (.int (Int32.ofNat qq)), .val (.int (Int32.ofNat cs.length))] [(.ref x)]))
    obtain ⟨T13, X13, e13, st13⟩ := getF X12 hx hZ hown (host := "") (Or.inl (hw _ (List.mem_of_getElem? (i := 34) rfl))) Via.refl eh12 Pm1 (g := (mkF m 41 #[.val (.ref x), .val (.int (Int32.ofNat qq)), .val (.int (Int32.ofNat cs.length))] [(.ref x)])) rfl rfl (hb hby own_d29_41)
    refine own_go st13 ?_
    show own_Rn p e below _ (T13.setTop (mkF m 44 #[.val (.ref x), .val (.int (Int32.ofNat qq)), .val (.int (Int32.ofNat cs.length))] [(.ref t)]))
    refine own_go (fun tq kq => XS.iloadN X13.here hx rfl (hb hby own_d29_44) rfl kq) ?_
    show own_Rn p e below _ (T13.setTop (mkF m 45 #[.val (.ref x), .val (.int (Int32.ofNat qq)), .val (.int (Int32.ofNat cs.length))] [(.int (Int32.ofNat qq)), (.ref t)]))
    refine own_go (fun tq kq => XS.iloadN X13.here hx rfl (hb hby own_d29_45) rfl kq) ?_
    show own_Rn p e below _ (T13.setTop (mkF m 46 #[.val (.ref x), .val (.int (Int32.ofNat qq)), .val (.int (Int32.ofNat cs.length))] [(.int (Int32.ofNat cs.length)), (.int (Int32.ofNat qq)), (.ref t)]))
    have Zn14 : n0 ≤ h0.size := by omega
    obtain ⟨rv14, _, ⟨T14, L14, k14, n14⟩, -, X14, ⟨Lc14, hQ14, l14, y14, z14⟩, st14⟩ := Jvm.LawKit.callS X13 hx (y := (⟨"java/lang/StringUTF16", "codePointAt", "([BII)I"⟩ : MethodName)) hown (mvT hZ (hw _ (List.mem_of_getElem? (i := 136) rfl))) (mvT hZ (hw _ (List.mem_of_getElem? (i := 137) rfl))) (mvT hZ (hw _ (List.mem_of_getElem? (i := 70) rfl))) (mvT hZ (hw _ (List.mem_of_getElem? (i := 138) rfl))) (by decide) (backOf (W := 0) (rmCP3 l Z a0 hw [] (t) (kt) (cs) (qq) h0 n0 Zn14 Pm3 (hq) (hn) (hr) (OAD) (OHI) (OLO) X00) hZ (hw _ (List.mem_of_getElem? (i := 138) rfl)) (hw _ (List.mem_of_getElem? (i := 70) rfl)) (by decide) (by decide)) (g := (mkF m 46 #[.val (.ref x), .val (.int (Int32.ofNat qq)), .val (.int (Int32.ofNat cs.length))] [(.int (Int32.ofNat cs.length)), (.int (Int32.ofNat qq)), (.ref t)])) rfl (by rw [hml]; rfl) (argsL := [(.ref t), (.int (Int32.ofNat qq)), (.int (Int32.ofNat cs.length))]) (rest := []) (lenOf own_pd_285bBII29I rfl) rfl (by show 2 * 0 + _ ≤ _; exact Nat.le_of_eq rfl) (hb hby own_d29_46) (fun _ _ => ⟨rfl, e13, (by decide : 0 + 0 ≤ _), (by decide : 0 + 0 ≤ _)⟩)
    dsimp only [Pt.U, Pt.locs, Pt.cells, Pt.slots] at X14 l14 y14 z14 st14 hQ14
    subst l14 y14 z14
    obtain ⟨rr, rfl, Nq14, eh14, R_14⟩ := hQ14
    have N14 := Fr.app N12 Nq14
    refine own_go st14 ?_
    show own_Rn p e below _ (T14.setTop (mkF m 49 #[.val (.ref x), .val (.int (Int32.ofNat qq)), .val (.int (Int32.ofNat cs.length))] [(.int rr)]))
    exact own_ret X14 (v := some (.int rr)) (fun h => by rw [Bd.returns] at h; cases h) (fun fs hr => retI X14 hx Bd.returns (hb hby own_d29_49) hr) (by rw [eh14]; exact ⟨rr, rfl, N14, rfl, R_14⟩) (by decide) (by decide)
theorem own_ef_rmICM (m : MethodId) (xa : Int32) (xb : Int32) : entryFrame m #[(.int xa), (.int xb)] 2 = mkF m 0 #[.val (.int xa), .val (.int xb)] [] := by first | (simp [entryFrame, mkF, argsToLocals, Value.category]; done) | rfl
theorem own_pn_java_lang_Integer : plainName "java/lang/Integer" = true := by first | (simp [plainName, overriddenIn]; done) | decide +kernel
theorem own_d9_0 : decode jdk_33_method_40_code 0 = .ok (.iload_n 0, 1) := by decide +kernel
theorem own_d9_1 : decode jdk_33_method_40_code 1 = .ok (.iload_n 1, 1) := by decide +kernel
theorem own_d9_2 : decode jdk_33_method_40_code 2 = .ok (.if_icmp .ge 7, 3) := by decide +kernel
theorem own_d9_5 : decode jdk_33_method_40_code 5 = .ok (.iconst (-1), 1) := by decide +kernel
theorem own_d9_6 : decode jdk_33_method_40_code 6 = .ok (.goto 13, 3) := by decide +kernel
theorem own_d9_19 : decode jdk_33_method_40_code 19 = .ok (.ireturn, 1) := by decide +kernel
theorem own_d9_9 : decode jdk_33_method_40_code 9 = .ok (.iload_n 0, 1) := by decide +kernel
theorem own_d9_10 : decode jdk_33_method_40_code 10 = .ok (.iload_n 1, 1) := by decide +kernel
theorem own_d9_11 : decode jdk_33_method_40_code 11 = .ok (.if_icmp .ne 7, 3) := by decide +kernel
theorem own_d9_14 : decode jdk_33_method_40_code 14 = .ok (.iconst 0, 1) := by decide +kernel
theorem own_d9_15 : decode jdk_33_method_40_code 15 = .ok (.goto 4, 3) := by decide +kernel
theorem own_d9_18 : decode jdk_33_method_40_code 18 = .ok (.iconst 1, 1) := by decide +kernel
def Q_rmICM (Z : State) (xa : Int32) (xb : Int32) (h0 : Heap) (n0 : Nat) (v : Option Value) (h : Heap) (L : List Loc) : Prop := v = some (.int (own_icmp xa xb)) ∧ Fr n0 L ∧ h = h0
set_option maxRecDepth 65536 in
set_option maxHeartbeats 40000000 in
theorem rmICM (l : Launch) (Z : State) (a0 : Array Value) (hw : ∀ d ∈ tables_1, d.before a0 Z = true) (ws : List Jvm.Cond) (xa : Int32) (xb : Int32) (h0 : Heap) (n0 : Nat) (Z0 : n0 ≤ h0.size)  :
    MetFree l (⟨"java/lang/Integer", "compare", "(II)I"⟩ : MethodName) (head1 (Jvm.Cond.code (⟨"java/lang/Integer", "compare", "(II)I"⟩ : MethodName) jdk_33_method_40_code 2 (some .int) :: ws) ({ frames := 0, cells := 0, slots := 0, locals := 0 } : Room)) (fun a U => a = #[(.int xa), (.int xb)] ∧ Z.Warmed39 U.vm ∧ U.heap = h0) (fun _ _ _ _ _ => True) (fun _ U o U' => ∃ v L, o = .returned v ∧ Q_rmICM Z xa xb h0 n0 v U'.heap L ∧ FrameEnd U o U' L ({ frames := 0, cells := 0, slots := 0, locals := 0 } : Room).cells ({ frames := 0, cells := 0, slots := 0, locals := 0 } : Room).slots) := by
  refine MetFree.of_bodySF (plainFor_of_name own_pn_java_lang_Integer) hisR ?_
  intro p e s m args below meth c s₁ Bd hml0 hP hK
  obtain ⟨rfl, hZ, hh⟩ := hP
  have hx := Bd.exec
  have hby := Bd.bytes
  have hml : c.maxLocals = 2 := hml0
  have hown : s.vm.findClass "java/lang/Integer" = some m.cls := findClass_of_methodNamed Bd.named
  have hnm := (name_of_methodNamed Bd.named Bd.method).1
  have X0 : Stand p l e ({ frames := 0, cells := 0, slots := 0, locals := 0 } : Room) s m #[(.int xa), (.int xb)] below meth c s₁ [] 0 0 := Stand.of_body Bd
  have e0 : s₁.heap = h0 := by rw [← hh, Bd.state]; rfl
  have N0 := Fr.nil n0
  have K0 : Keep h0 h0 [] := Keep.refl _ _
  refine own_go (S' := s₁.setTop (mkF m 0 #[.val (.int xa), .val (.int xb)] [])) (fun tq kq => castTop (own_ef_rmICM m xa xb) kq) ?_
  refine own_go (fun tq kq => XS.iloadN X0.here hx rfl (hb hby own_d9_0) rfl kq) ?_
  show own_Rn p e below _ (s₁.setTop (mkF m 1 #[.val (.int xa), .val (.int xb)] [(.int xa)]))
  refine own_go (fun tq kq => XS.iloadN X0.here hx rfl (hb hby own_d9_1) rfl kq) ?_
  show own_Rn p e below _ (s₁.setTop (mkF m 2 #[.val (.int xa), .val (.int xb)] [(.int xb), (.int xa)]))
  by_cases hl : xa < xb
  · skip
    refine own_go (fun tq kq => XS.icmpNo X0.here hx rfl (hb hby own_d9_2) rfl (tlt (hl : xa < xb)).2.1 kq) ?_
    show own_Rn p e below _ (s₁.setTop (mkF m 5 #[.val (.int xa), .val (.int xb)] []))
    refine own_go (fun tq kq => XS.iconst X0.here hx rfl (hb hby own_d9_5) kq) ?_
    show own_Rn p e below _ (s₁.setTop (mkF m 6 #[.val (.int xa), .val (.int xb)] [(.int (-1 : Int32))]))
    refine own_go (fun tq kq => XS.goto X0.here hx rfl (pc0 := 6) (pc' := 19) rfl (hb hby own_d9_6) (by decide) (by decide) kq) ?_
    show own_Rn p e below _ (s₁.setTop (mkF m 19 #[.val (.int xa), .val (.int xb)] [(.int (-1 : Int32))]))
    exact own_ret X0 (v := some (.int (-1 : Int32))) (fun h => by rw [Bd.returns] at h; cases h) (fun fs hr => retI X0 hx Bd.returns (hb hby own_d9_19) hr) (by rw [e0]; exact ⟨by rw [own_icmp, if_pos hl], N0, rfl⟩) (by decide) (by decide)
  · skip
    refine own_go (fun tq kq => XS.icmpYes X0.here hx rfl (pc0 := 2) (pc' := 9) rfl (hb hby own_d9_2) rfl (flt (hl : ¬ (xa < xb))).2.1 (by decide) (by decide) kq) ?_
    show own_Rn p e below _ (s₁.setTop (mkF m 9 #[.val (.int xa), .val (.int xb)] []))
    refine own_go (fun tq kq => XS.iloadN X0.here hx rfl (hb hby own_d9_9) rfl kq) ?_
    show own_Rn p e below _ (s₁.setTop (mkF m 10 #[.val (.int xa), .val (.int xb)] [(.int xa)]))
    refine own_go (fun tq kq => XS.iloadN X0.here hx rfl (hb hby own_d9_10) rfl kq) ?_
    show own_Rn p e below _ (s₁.setTop (mkF m 11 #[.val (.int xa), .val (.int xb)] [(.int xb), (.int xa)]))
    by_cases he : xa = xb
    · skip
      refine own_go (fun tq kq => XS.icmpNo X0.here hx rfl (hb hby own_d9_11) rfl (teq (he : xa = xb)).2 kq) ?_
      show own_Rn p e below _ (s₁.setTop (mkF m 14 #[.val (.int xa), .val (.int xb)] []))
      refine own_go (fun tq kq => XS.iconst X0.here hx rfl (hb hby own_d9_14) kq) ?_
      show own_Rn p e below _ (s₁.setTop (mkF m 15 #[.val (.int xa), .val (.int xb)] [(.int (0 : Int32))]))
      refine own_go (fun tq kq => XS.goto X0.here hx rfl (pc0 := 15) (pc' := 19) rfl (hb hby own_d9_15) (by decide) (by decide) kq) ?_
      show own_Rn p e below _ (s₁.setTop (mkF m 19 #[.val (.int xa), .val (.int xb)] [(.int (0 : Int32))]))
      exact own_ret X0 (v := some (.int (0 : Int32))) (fun h => by rw [Bd.returns] at h; cases h) (fun fs hr => retI X0 hx Bd.returns (hb hby own_d9_19) hr) (by rw [e0]; exact ⟨by rw [own_icmp, if_neg hl, if_pos he], N0, rfl⟩) (by decide) (by decide)
    · skip
      refine own_go (fun tq kq => XS.icmpYes X0.here hx rfl (pc0 := 11) (pc' := 18) rfl (hb hby own_d9_11) rfl (feq (he : ¬ (xa = xb))).2 (by decide) (by decide) kq) ?_
      show own_Rn p e below _ (s₁.setTop (mkF m 18 #[.val (.int xa), .val (.int xb)] []))
      refine own_go (fun tq kq => XS.iconst X0.here hx rfl (hb hby own_d9_18) kq) ?_
      show own_Rn p e below _ (s₁.setTop (mkF m 19 #[.val (.int xa), .val (.int xb)] [(.int (1 : Int32))]))
      exact own_ret X0 (v := some (.int (1 : Int32))) (fun h => by rw [Bd.returns] at h; cases h) (fun fs hr => retI X0 hx Bd.returns (hb hby own_d9_19) hr) (by rw [e0]; exact ⟨by rw [own_icmp, if_neg hl, if_neg he], N0, rfl⟩) (by decide) (by decide)
theorem own_ef_rmCCM (m : MethodId) (xa : Int32) (xb : Int32) : entryFrame m #[(.int xa), (.int xb)] 2 = mkF m 0 #[.val (.int xa), .val (.int xb)] [] := by first | (simp [entryFrame, mkF, argsToLocals, Value.category]; done) | rfl
theorem own_d34_0 : decode jdk_89_method_98_code 0 = .ok (.iload_n 0, 1) := by decide +kernel
theorem own_d34_1 : decode jdk_89_method_98_code 1 = .ok (.iload_n 1, 1) := by decide +kernel
theorem own_d34_2 : decode jdk_89_method_98_code 2 = .ok (.isub, 1) := by decide +kernel
theorem own_d34_3 : decode jdk_89_method_98_code 3 = .ok (.ireturn, 1) := by decide +kernel
def Q_rmCCM (Z : State) (xa : Int32) (xb : Int32) (h0 : Heap) (n0 : Nat) (v : Option Value) (h : Heap) (L : List Loc) : Prop := v = some (.int (xa - xb)) ∧ Fr n0 L ∧ h = h0
set_option maxRecDepth 65536 in
set_option maxHeartbeats 40000000 in
theorem rmCCM (l : Launch) (Z : State) (a0 : Array Value) (hw : ∀ d ∈ tables_1, d.before a0 Z = true) (ws : List Jvm.Cond) (xa : Int32) (xb : Int32) (h0 : Heap) (n0 : Nat) (Z0 : n0 ≤ h0.size)  :
    MetFree l (⟨"java/lang/Character", "compare", "(CC)I"⟩ : MethodName) (head1 (Jvm.Cond.code (⟨"java/lang/Character", "compare", "(CC)I"⟩ : MethodName) jdk_89_method_98_code 2 (some .int) :: ws) ({ frames := 0, cells := 0, slots := 0, locals := 0 } : Room)) (fun a U => a = #[(.int xa), (.int xb)] ∧ Z.Warmed39 U.vm ∧ U.heap = h0) (fun _ _ _ _ _ => True) (fun _ U o U' => ∃ v L, o = .returned v ∧ Q_rmCCM Z xa xb h0 n0 v U'.heap L ∧ FrameEnd U o U' L ({ frames := 0, cells := 0, slots := 0, locals := 0 } : Room).cells ({ frames := 0, cells := 0, slots := 0, locals := 0 } : Room).slots) := by
  refine MetFree.of_bodySF (plainFor_of_name own_pn_java_lang_Character) hisR ?_
  intro p e s m args below meth c s₁ Bd hml0 hP hK
  obtain ⟨rfl, hZ, hh⟩ := hP
  have hx := Bd.exec
  have hby := Bd.bytes
  have hml : c.maxLocals = 2 := hml0
  have hown : s.vm.findClass "java/lang/Character" = some m.cls := findClass_of_methodNamed Bd.named
  have hnm := (name_of_methodNamed Bd.named Bd.method).1
  have X0 : Stand p l e ({ frames := 0, cells := 0, slots := 0, locals := 0 } : Room) s m #[(.int xa), (.int xb)] below meth c s₁ [] 0 0 := Stand.of_body Bd
  have e0 : s₁.heap = h0 := by rw [← hh, Bd.state]; rfl
  have N0 := Fr.nil n0
  have K0 : Keep h0 h0 [] := Keep.refl _ _
  refine own_go (S' := s₁.setTop (mkF m 0 #[.val (.int xa), .val (.int xb)] [])) (fun tq kq => castTop (own_ef_rmCCM m xa xb) kq) ?_
  refine own_go (fun tq kq => XS.iloadN X0.here hx rfl (hb hby own_d34_0) rfl kq) ?_
  show own_Rn p e below _ (s₁.setTop (mkF m 1 #[.val (.int xa), .val (.int xb)] [(.int xa)]))
  refine own_go (fun tq kq => XS.iloadN X0.here hx rfl (hb hby own_d34_1) rfl kq) ?_
  show own_Rn p e below _ (s₁.setTop (mkF m 2 #[.val (.int xa), .val (.int xb)] [(.int xb), (.int xa)]))
  refine own_go (fun tq kq => XS.isub X0.here hx rfl (hb hby own_d34_2) rfl kq) ?_
  show own_Rn p e below _ (s₁.setTop (mkF m 3 #[.val (.int xa), .val (.int xb)] [(.int (xa - xb))]))
  exact own_ret X0 (v := some (.int (xa - xb))) (fun h => by rw [Bd.returns] at h; cases h) (fun fs hr => retI X0 hx Bd.returns (hb hby own_d34_3) hr) (by rw [e0]; exact ⟨rfl, N0, rfl⟩) (by decide) (by decide)
theorem own_ef_rmMin (m : MethodId) (na : Nat) (nb : Nat) : entryFrame m #[(.int (Int32.ofNat na)), (.int (Int32.ofNat nb))] 2 = mkF m 0 #[.val (.int (Int32.ofNat na)), .val (.int (Int32.ofNat nb))] [] := by first | (simp [entryFrame, mkF, argsToLocals, Value.category]; done) | rfl
theorem own_d8_0 : decode jdk_29_method_69_code 0 = .ok (.iload_n 0, 1) := by decide +kernel
theorem own_d8_1 : decode jdk_29_method_69_code 1 = .ok (.iload_n 1, 1) := by decide +kernel
theorem own_d8_2 : decode jdk_29_method_69_code 2 = .ok (.if_icmp .gt 7, 3) := by decide +kernel
theorem own_d8_9 : decode jdk_29_method_69_code 9 = .ok (.iload_n 1, 1) := by decide +kernel
theorem own_d8_10 : decode jdk_29_method_69_code 10 = .ok (.ireturn, 1) := by decide +kernel
theorem own_d8_5 : decode jdk_29_method_69_code 5 = .ok (.iload_n 0, 1) := by decide +kernel
theorem own_d8_6 : decode jdk_29_method_69_code 6 = .ok (.goto 4, 3) := by decide +kernel
def Q_rmMin (Z : State) (na : Nat) (nb : Nat) (h0 : Heap) (n0 : Nat) (v : Option Value) (h : Heap) (L : List Loc) : Prop := ∃ (nm : Nat), v = some (.int (Int32.ofNat nm)) ∧ Fr n0 L ∧ h = h0 ∧ (nm ≤ na ∧ nm ≤ nb ∧ (nm = na ∨ nm = nb))
set_option maxRecDepth 65536 in
set_option maxHeartbeats 40000000 in
theorem rmMin (l : Launch) (Z : State) (a0 : Array Value) (hw : ∀ d ∈ tables_1, d.before a0 Z = true) (ws : List Jvm.Cond) (na : Nat) (nb : Nat) (h0 : Heap) (n0 : Nat) (Z0 : n0 ≤ h0.size) (h1 : (na ≤ 3)) (h2 : (nb ≤ 3)) :
    MetFree l (⟨"java/lang/Math", "min", "(II)I"⟩ : MethodName) (head1 (Jvm.Cond.code (⟨"java/lang/Math", "min", "(II)I"⟩ : MethodName) jdk_29_method_69_code 2 (some .int) :: ws) ({ frames := 0, cells := 0, slots := 0, locals := 0 } : Room)) (fun a U => a = #[(.int (Int32.ofNat na)), (.int (Int32.ofNat nb))] ∧ Z.Warmed39 U.vm ∧ U.heap = h0) (fun _ _ _ _ _ => True) (fun _ U o U' => ∃ v L, o = .returned v ∧ Q_rmMin Z na nb h0 n0 v U'.heap L ∧ FrameEnd U o U' L ({ frames := 0, cells := 0, slots := 0, locals := 0 } : Room).cells ({ frames := 0, cells := 0, slots := 0, locals := 0 } : Room).slots) := by
  refine MetFree.of_bodySF (Jvm.Free.JP.mathPlain rfl (by decide +kernel)) hisR ?_
  intro p e s m args below meth c s₁ Bd hml0 hP hK
  obtain ⟨rfl, hZ, hh⟩ := hP
  have hx := Bd.exec
  have hby := Bd.bytes
  have hml : c.maxLocals = 2 := hml0
  have hown : s.vm.findClass "java/lang/Math" = some m.cls := findClass_of_methodNamed Bd.named
  have hnm := (name_of_methodNamed Bd.named Bd.method).1
  have X0 : Stand p l e ({ frames := 0, cells := 0, slots := 0, locals := 0 } : Room) s m #[(.int (Int32.ofNat na)), (.int (Int32.ofNat nb))] below meth c s₁ [] 0 0 := Stand.of_body Bd
  have e0 : s₁.heap = h0 := by rw [← hh, Bd.state]; rfl
  have N0 := Fr.nil n0
  have K0 : Keep h0 h0 [] := Keep.refl _ _
  refine own_go (S' := s₁.setTop (mkF m 0 #[.val (.int (Int32.ofNat na)), .val (.int (Int32.ofNat nb))] [])) (fun tq kq => castTop (own_ef_rmMin m na nb) kq) ?_
  refine own_go (fun tq kq => XS.iloadN X0.here hx rfl (hb hby own_d8_0) rfl kq) ?_
  show own_Rn p e below _ (s₁.setTop (mkF m 1 #[.val (.int (Int32.ofNat na)), .val (.int (Int32.ofNat nb))] [(.int (Int32.ofNat na))]))
  refine own_go (fun tq kq => XS.iloadN X0.here hx rfl (hb hby own_d8_1) rfl kq) ?_
  show own_Rn p e below _ (s₁.setTop (mkF m 2 #[.val (.int (Int32.ofNat na)), .val (.int (Int32.ofNat nb))] [(.int (Int32.ofNat nb)), (.int (Int32.ofNat na))]))
  by_cases hg : nb < na
  · skip
    refine own_go (fun tq kq => XS.icmpYes X0.here hx rfl (pc0 := 2) (pc' := 9) rfl (hb hby own_d8_2) rfl (tlt (own_ofNat_lt hg (by omega) : (Int32.ofNat nb) < (Int32.ofNat na))).2.2.1 (by decide) (by decide) kq) ?_
    show own_Rn p e below _ (s₁.setTop (mkF m 9 #[.val (.int (Int32.ofNat na)), .val (.int (Int32.ofNat nb))] []))
    refine own_go (fun tq kq => XS.iloadN X0.here hx rfl (hb hby own_d8_9) rfl kq) ?_
    show own_Rn p e below _ (s₁.setTop (mkF m 10 #[.val (.int (Int32.ofNat na)), .val (.int (Int32.ofNat nb))] [(.int (Int32.ofNat nb))]))
    exact own_ret X0 (v := some (.int (Int32.ofNat nb))) (fun h => by rw [Bd.returns] at h; cases h) (fun fs hr => retI X0 hx Bd.returns (hb hby own_d8_10) hr) (by rw [e0]; exact ⟨nb, rfl, N0, rfl, by omega⟩) (by decide) (by decide)
  · skip
    refine own_go (fun tq kq => XS.icmpNo X0.here hx rfl (hb hby own_d8_2) rfl (flt (own_ofNat_nlt hg (by omega) : ¬ ((Int32.ofNat nb) < (Int32.ofNat na)))).2.2.1 kq) ?_
    show own_Rn p e below _ (s₁.setTop (mkF m 5 #[.val (.int (Int32.ofNat na)), .val (.int (Int32.ofNat nb))] []))
    refine own_go (fun tq kq => XS.iloadN X0.here hx rfl (hb hby own_d8_5) rfl kq) ?_
    show own_Rn p e below _ (s₁.setTop (mkF m 6 #[.val (.int (Int32.ofNat na)), .val (.int (Int32.ofNat nb))] [(.int (Int32.ofNat na))]))
    refine own_go (fun tq kq => XS.goto X0.here hx rfl (pc0 := 6) (pc' := 10) rfl (hb hby own_d8_6) (by decide) (by decide) kq) ?_
    show own_Rn p e below _ (s₁.setTop (mkF m 10 #[.val (.int (Int32.ofNat na)), .val (.int (Int32.ofNat nb))] [(.int (Int32.ofNat na))]))
    exact own_ret X0 (v := some (.int (Int32.ofNat na))) (fun h => by rw [Bd.returns] at h; cases h) (fun fs hr => retI X0 hx Bd.returns (hb hby own_d8_10) hr) (by rw [e0]; exact ⟨na, rfl, N0, rfl, by omega⟩) (by decide) (by decide)
theorem own_ef_rmCmp (m : MethodId) (x1 : Addr) (t1 : Addr) (k1 : ClassId) (N1 : Int32) (v1 : List Value) (d1 : Int32) (UA : List Int32) (x2 : Addr) (t2 : Addr) (k2 : ClassId) (N2 : Int32) (v2 : List Value) (d2 : Int32) (UB : List Int32) (G1 : Int32) (G3 : Value) : entryFrame m #[(.ref x1), (.ref x2)] 9 = mkF m 0 #[.val (.ref x1), .val (.ref x2), .unset, .unset, .unset, .unset, .unset, .unset, .unset] [] := by first | (simp [entryFrame, mkF, argsToLocals, Value.category]; done) | rfl
theorem own_pn_com_example_words_into_queries_wordsintoqueries_CodePointOrder : plainName "com/example/words_into_queries/wordsintoqueries/CodePointOrder" = true := by first | (simp [plainName, overriddenIn]; done) | decide +kernel
theorem own_d5_0 : decode prog_1_method_2_code 0 = .ok (.aload_n 0, 1) := by decide +kernel
theorem own_d5_1 : decode prog_1_method_2_code 1 = .ok (.invokevirtual 7, 3) := by decide +kernel
theorem own_pd_2829I : parseMethodDescriptor "()I" = some ⟨[], some .int⟩ := by decide +kernel
theorem own_d5_4 : decode prog_1_method_2_code 4 = .ok (.aload_n 1, 1) := by decide +kernel
theorem own_d5_5 : decode prog_1_method_2_code 5 = .ok (.invokevirtual 7, 3) := by decide +kernel
theorem own_d5_8 : decode prog_1_method_2_code 8 = .ok (.invokestatic 13, 3) := by decide +kernel
theorem own_pd_28II29I : parseMethodDescriptor "(II)I" = some ⟨[.int, .int], some .int⟩ := by decide +kernel
theorem own_d5_11 : decode prog_1_method_2_code 11 = .ok (.istore_n 2, 1) := by decide +kernel
theorem own_d5_12 : decode prog_1_method_2_code 12 = .ok (.iconst 0, 1) := by decide +kernel
theorem own_d5_13 : decode prog_1_method_2_code 13 = .ok (.istore_n 3, 1) := by decide +kernel
theorem own_d5_139 : decode prog_1_method_2_code 139 = .ok (.aload_n 0, 1) := by decide +kernel
theorem own_d5_140 : decode prog_1_method_2_code 140 = .ok (.iload 8, 2) := by decide +kernel
theorem own_d5_142 : decode prog_1_method_2_code 142 = .ok (.invokevirtual 40, 3) := by decide +kernel
theorem own_d5_145 : decode prog_1_method_2_code 145 = .ok (.aload_n 1, 1) := by decide +kernel
theorem own_d5_146 : decode prog_1_method_2_code 146 = .ok (.iload 8, 2) := by decide +kernel
theorem own_d5_148 : decode prog_1_method_2_code 148 = .ok (.invokevirtual 40, 3) := by decide +kernel
theorem own_d5_151 : decode prog_1_method_2_code 151 = .ok (.invokestatic 23, 3) := by decide +kernel
theorem own_d5_154 : decode prog_1_method_2_code 154 = .ok (.istore 6, 2) := by decide +kernel
theorem own_d5_156 : decode prog_1_method_2_code 156 = .ok (.goto 12, 3) := by decide +kernel
theorem own_d5_168 : decode prog_1_method_2_code 168 = .ok (.iload 6, 2) := by decide +kernel
theorem own_d5_170 : decode prog_1_method_2_code 170 = .ok (.ireturn, 1) := by decide +kernel
theorem own_d5_85 : decode prog_1_method_2_code 85 = .ok (.iload_n 3, 1) := by decide +kernel
theorem own_d5_86 : decode prog_1_method_2_code 86 = .ok (.ifCond .le 36, 3) := by decide +kernel
theorem own_d5_89 : decode prog_1_method_2_code 89 = .ok (.aload_n 0, 1) := by decide +kernel
theorem own_d5_90 : decode prog_1_method_2_code 90 = .ok (.iload_n 3, 1) := by decide +kernel
theorem own_d5_91 : decode prog_1_method_2_code 91 = .ok (.iconst 1, 1) := by decide +kernel
theorem own_d5_92 : decode prog_1_method_2_code 92 = .ok (.isub, 1) := by decide +kernel
theorem own_d5_93 : decode prog_1_method_2_code 93 = .ok (.invokevirtual 19, 3) := by decide +kernel
theorem own_pd_28I29C : parseMethodDescriptor "(I)C" = some ⟨[.int], some .char⟩ := by decide +kernel
theorem own_d5_96 : decode prog_1_method_2_code 96 = .ok (.invokestatic 34, 3) := by decide +kernel
theorem own_d5_99 : decode prog_1_method_2_code 99 = .ok (.ifCond .eq 23, 3) := by decide +kernel
theorem own_d5_102 : decode prog_1_method_2_code 102 = .ok (.iload 4, 2) := by decide +kernel
theorem own_d5_104 : decode prog_1_method_2_code 104 = .ok (.invokestatic 37, 3) := by decide +kernel
theorem own_d5_107 : decode prog_1_method_2_code 107 = .ok (.ifCond .ne 11, 3) := by decide +kernel
theorem own_d5_118 : decode prog_1_method_2_code 118 = .ok (.iconst 1, 1) := by decide +kernel
theorem own_d5_119 : decode prog_1_method_2_code 119 = .ok (.goto 4, 3) := by decide +kernel
theorem own_d5_123 : decode prog_1_method_2_code 123 = .ok (.istore 7, 2) := by decide +kernel
theorem own_d5_125 : decode prog_1_method_2_code 125 = .ok (.iload 7, 2) := by decide +kernel
theorem own_d5_127 : decode prog_1_method_2_code 127 = .ok (.ifCond .eq 9, 3) := by decide +kernel
theorem own_d5_130 : decode prog_1_method_2_code 130 = .ok (.iload_n 3, 1) := by decide +kernel
theorem own_d5_131 : decode prog_1_method_2_code 131 = .ok (.iconst 1, 1) := by decide +kernel
theorem own_d5_132 : decode prog_1_method_2_code 132 = .ok (.isub, 1) := by decide +kernel
theorem own_d5_133 : decode prog_1_method_2_code 133 = .ok (.goto 4, 3) := by decide +kernel
theorem own_d5_137 : decode prog_1_method_2_code 137 = .ok (.istore 8, 2) := by decide +kernel
theorem own_d5_110 : decode prog_1_method_2_code 110 = .ok (.iload 5, 2) := by decide +kernel
theorem own_d5_112 : decode prog_1_method_2_code 112 = .ok (.invokestatic 37, 3) := by decide +kernel
theorem own_d5_115 : decode prog_1_method_2_code 115 = .ok (.ifCond .eq 7, 3) := by decide +kernel
theorem own_d5_122 : decode prog_1_method_2_code 122 = .ok (.iconst 0, 1) := by decide +kernel
theorem own_d5_136 : decode prog_1_method_2_code 136 = .ok (.iload_n 3, 1) := by decide +kernel
theorem own_d5_38 : decode prog_1_method_2_code 38 = .ok (.iload_n 3, 1) := by decide +kernel
theorem own_d5_39 : decode prog_1_method_2_code 39 = .ok (.iload_n 2, 1) := by decide +kernel
theorem own_d5_40 : decode prog_1_method_2_code 40 = .ok (.if_icmp .ne 15, 3) := by decide +kernel
theorem own_d5_43 : decode prog_1_method_2_code 43 = .ok (.aload_n 0, 1) := by decide +kernel
theorem own_d5_44 : decode prog_1_method_2_code 44 = .ok (.invokevirtual 7, 3) := by decide +kernel
theorem own_d5_47 : decode prog_1_method_2_code 47 = .ok (.aload_n 1, 1) := by decide +kernel
theorem own_d5_48 : decode prog_1_method_2_code 48 = .ok (.invokevirtual 7, 3) := by decide +kernel
theorem own_d5_51 : decode prog_1_method_2_code 51 = .ok (.invokestatic 23, 3) := by decide +kernel
theorem own_d5_54 : decode prog_1_method_2_code 54 = .ok (.ireturn, 1) := by decide +kernel
theorem own_d5_55 : decode prog_1_method_2_code 55 = .ok (.aload_n 0, 1) := by decide +kernel
theorem own_d5_56 : decode prog_1_method_2_code 56 = .ok (.iload_n 3, 1) := by decide +kernel
theorem own_d5_57 : decode prog_1_method_2_code 57 = .ok (.invokevirtual 19, 3) := by decide +kernel
theorem own_d5_60 : decode prog_1_method_2_code 60 = .ok (.istore 4, 2) := by decide +kernel
theorem own_d5_62 : decode prog_1_method_2_code 62 = .ok (.aload_n 1, 1) := by decide +kernel
theorem own_d5_63 : decode prog_1_method_2_code 63 = .ok (.iload_n 3, 1) := by decide +kernel
theorem own_d5_64 : decode prog_1_method_2_code 64 = .ok (.invokevirtual 19, 3) := by decide +kernel
theorem own_d5_67 : decode prog_1_method_2_code 67 = .ok (.istore 5, 2) := by decide +kernel
theorem own_d5_69 : decode prog_1_method_2_code 69 = .ok (.iload 4, 2) := by decide +kernel
theorem own_d5_71 : decode prog_1_method_2_code 71 = .ok (.invokestatic 28, 3) := by decide +kernel
theorem own_d5_74 : decode prog_1_method_2_code 74 = .ok (.ifCond .ne 11, 3) := by decide +kernel
theorem own_d5_77 : decode prog_1_method_2_code 77 = .ok (.iload 5, 2) := by decide +kernel
theorem own_d5_79 : decode prog_1_method_2_code 79 = .ok (.invokestatic 28, 3) := by decide +kernel
theorem own_d5_82 : decode prog_1_method_2_code 82 = .ok (.ifCond .eq 77, 3) := by decide +kernel
theorem own_d5_159 : decode prog_1_method_2_code 159 = .ok (.iload 4, 2) := by decide +kernel
theorem own_d5_161 : decode prog_1_method_2_code 161 = .ok (.iload 5, 2) := by decide +kernel
theorem own_d5_163 : decode prog_1_method_2_code 163 = .ok (.invokestatic 44, 3) := by decide +kernel
theorem own_d5_166 : decode prog_1_method_2_code 166 = .ok (.istore 6, 2) := by decide +kernel
theorem own_d5_14 : decode prog_1_method_2_code 14 = .ok (.iload_n 3, 1) := by decide +kernel
theorem own_d5_15 : decode prog_1_method_2_code 15 = .ok (.iload_n 2, 1) := by decide +kernel
theorem own_d5_16 : decode prog_1_method_2_code 16 = .ok (.if_icmp .ge 22, 3) := by decide +kernel
theorem own_d5_19 : decode prog_1_method_2_code 19 = .ok (.aload_n 0, 1) := by decide +kernel
theorem own_d5_20 : decode prog_1_method_2_code 20 = .ok (.iload_n 3, 1) := by decide +kernel
theorem own_d5_21 : decode prog_1_method_2_code 21 = .ok (.invokevirtual 19, 3) := by decide +kernel
theorem own_d5_24 : decode prog_1_method_2_code 24 = .ok (.aload_n 1, 1) := by decide +kernel
theorem own_d5_25 : decode prog_1_method_2_code 25 = .ok (.iload_n 3, 1) := by decide +kernel
theorem own_d5_26 : decode prog_1_method_2_code 26 = .ok (.invokevirtual 19, 3) := by decide +kernel
theorem own_d5_29 : decode prog_1_method_2_code 29 = .ok (.if_icmp .ne 9, 3) := by decide +kernel
theorem own_d5_32 : decode prog_1_method_2_code 32 = .ok (.iinc 3 1, 3) := by decide +kernel
theorem own_d5_35 : decode prog_1_method_2_code 35 = .ok (.goto (-21), 3) := by decide +kernel
def Q_rmCmp (Z : State) (x1 : Addr) (t1 : Addr) (k1 : ClassId) (N1 : Int32) (v1 : List Value) (d1 : Int32) (UA : List Int32) (x2 : Addr) (t2 : Addr) (k2 : ClassId) (N2 : Int32) (v2 : List Value) (d2 : Int32) (UB : List Int32) (G1 : Int32) (G3 : Value) (h0 : Heap) (n0 : Nat) (v : Option Value) (h : Heap) (L : List Loc) : Prop := ∃ (r : Int32), v = some (.int r) ∧ Fr n0 L ∧ h = h0 ∧ (own_sg r.toInt = own_spec UA UB)
set_option maxRecDepth 65536 in
set_option maxHeartbeats 40000000 in
theorem rmCmp (l : Launch) (Z : State) (a0 : Array Value) (hw : ∀ d ∈ tables_1, d.before a0 Z = true) (ws : List Jvm.Cond) (x1 : Addr) (t1 : Addr) (k1 : ClassId) (N1 : Int32) (v1 : List Value) (d1 : Int32) (UA : List Int32) (x2 : Addr) (t2 : Addr) (k2 : ClassId) (N2 : Int32) (v2 : List Value) (d2 : Int32) (UB : List Int32) (G1 : Int32) (G3 : Value) (h0 : Heap) (n0 : Nat) (Z0 : n0 ≤ h0.size) (Pm0 : Exa Z h0 x1 "java/lang/String") (Pm1 : Fld Z h0 x1 "java/lang/String" "value" "[B" (.ref t1)) (Pm2 : Fld Z h0 x1 "java/lang/String" "coder" "B" (.int d1)) (Pm3 : Arv Z h0 t1 k1 .byte N1 v1 (.int 0)) (RLUA : ((d1 = 0 ∧ N1 = (Int32.ofNat UA.length) ∧ v1 = own_bs UA ∧ ∀ c ∈ UA, ¬ (255 : Int32) < c) ∨ (d1 = 1 ∧ N1 = (Int32.ofNat (2 * UA.length)) ∧ v1 = own_u16 UA))) (hnUA : (UA.length ≤ 3)) (hrUA : (∀ c ∈ UA, ¬ c < 0 ∧ ¬ (65535 : Int32) < c)) (Pm7 : Exa Z h0 x2 "java/lang/String") (Pm8 : Fld Z h0 x2 "java/lang/String" "value" "[B" (.ref t2)) (Pm9 : Fld Z h0 x2 "java/lang/String" "coder" "B" (.int d2)) (Pm10 : Arv Z h0 t2 k2 .byte N2 v2 (.int 0)) (RLUB : ((d2 = 0 ∧ N2 = (Int32.ofNat UB.length) ∧ v2 = own_bs UB ∧ ∀ c ∈ UB, ¬ (255 : Int32) < c) ∨ (d2 = 1 ∧ N2 = (Int32.ofNat (2 * UB.length)) ∧ v2 = own_u16 UB))) (hnUB : (UB.length ≤ 3)) (hrUB : (∀ c ∈ UB, ¬ c < 0 ∧ ¬ (65535 : Int32) < c)) (OAD : Sta Z Z.heap "java/lang/StringUTF16" "$assertionsDisabled" "Z" (.int (1 : Int32))) (OHI : Sta Z Z.heap "java/lang/StringUTF16" "HI_BYTE_SHIFT" "I" (.int (0 : Int32))) (OLO : Sta Z Z.heap "java/lang/StringUTF16" "LO_BYTE_SHIFT" "I" (.int (8 : Int32))) (O4 : Sta Z Z.heap "jdk/internal/util/Preconditions" "SIOOBE_FORMATTER" "Ljava/util/function/BiFunction;" G3) (hG3 : (G3 = .null ∨ ∃ ga, G3 = .ref ga)) (O2 : Sta Z Z.heap "java/lang/String" "COMPACT_STRINGS" "Z" (.int G1)) (P5 : (¬ (G1 = (0 : Int32)))) (X00 : Old Z n0 h0) :
    MetFree l (⟨"com/example/words_into_queries/wordsintoqueries/CodePointOrder", "compare", "(Ljava/lang/String;Ljava/lang/String;)I"⟩ : MethodName) (head1 (Jvm.Cond.code (⟨"com/example/words_into_queries/wordsintoqueries/CodePointOrder", "compare", "(Ljava/lang/String;Ljava/lang/String;)I"⟩ : MethodName) prog_1_method_2_code 9 (some .int) :: ws) ({ frames := 5, cells := 0, slots := 0, locals := 67 } : Room)) (fun a U => a = #[(.ref x1), (.ref x2)] ∧ Z.Warmed39 U.vm ∧ U.heap = h0) (fun _ _ _ _ _ => True) (fun _ U o U' => ∃ v L, o = .returned v ∧ Q_rmCmp Z x1 t1 k1 N1 v1 d1 UA x2 t2 k2 N2 v2 d2 UB G1 G3 h0 n0 v U'.heap L ∧ FrameEnd U o U' L ({ frames := 5, cells := 0, slots := 0, locals := 67 } : Room).cells ({ frames := 5, cells := 0, slots := 0, locals := 67 } : Room).slots) := by
  refine MetFree.of_bodySF (plainFor_of_name own_pn_com_example_words_into_queries_wordsintoqueries_CodePointOrder) hisR ?_
  intro p e s m args below meth c s₁ Bd hml0 hP hK
  obtain ⟨rfl, hZ, hh⟩ := hP
  have hx := Bd.exec
  have hby := Bd.bytes
  have hml : c.maxLocals = 9 := hml0
  have hown : s.vm.findClass "com/example/words_into_queries/wordsintoqueries/CodePointOrder" = some m.cls := findClass_of_methodNamed Bd.named
  have hnm := (name_of_methodNamed Bd.named Bd.method).1
  have X0 : Stand p l e ({ frames := 5, cells := 0, slots := 0, locals := 67 } : Room) s m #[(.ref x1), (.ref x2)] below meth c s₁ [] 0 0 := Stand.of_body Bd
  have e0 : s₁.heap = h0 := by rw [← hh, Bd.state]; rfl
  have N0 := Fr.nil n0
  have K0 : Keep h0 h0 [] := Keep.refl _ _
  refine own_go (S' := s₁.setTop (mkF m 0 #[.val (.ref x1), .val (.ref x2), .unset, .unset, .unset, .unset, .unset, .unset, .unset] [])) (fun tq kq => castTop (own_ef_rmCmp m x1 t1 k1 N1 v1 d1 UA x2 t2 k2 N2 v2 d2 UB G1 G3) kq) ?_
  have lt1 : @LT.lt Nat _ x1 h0.size := Pm0.lt
  have lt2 : @LT.lt Nat _ t1 h0.size := Pm3.lt
  have lt3 : @LT.lt Nat _ x2 h0.size := Pm7.lt
  have lt4 : @LT.lt Nat _ t2 h0.size := Pm10.lt
  refine own_go (fun tq kq => XS.aloadN X0.here hx rfl (hb hby own_d5_0) rfl rfl kq) ?_
  show own_Rn p e below _ (s₁.setTop (mkF m 1 #[.val (.ref x1), .val (.ref x2), .unset, .unset, .unset, .unset, .unset, .unset, .unset] [(.ref x1)]))
  have Zn5 : n0 ≤ h0.size := by omega
  obtain ⟨cq5, kq5, qa5, qb5, qc5⟩ := isOf hZ e0 Pm0
  obtain ⟨rv5, _, ⟨T5, L5, k5, n5⟩, -, X5, ⟨Lc5, hQ5, l5, y5, z5⟩, st5⟩ := X0.virtualBack hx (y := (⟨"java/lang/String", "length", "()I"⟩ : MethodName)) (z := (⟨"java/lang/String", "length", "()I"⟩ : MethodName)) hown (mvT hZ (hw _ (List.mem_of_getElem? (i := 40) rfl))) (mvT hZ (hw _ (List.mem_of_getElem? (i := 41) rfl))) (notFace_of_selects (args := #[]) (mvT hZ (hw _ (List.mem_of_getElem? (i := 43) rfl)))) (mvT hZ (hw _ (List.mem_of_getElem? (i := 43) rfl))) (mvT hZ (hw _ (List.mem_of_getElem? (i := 42) rfl))) (by decide) (backOf (W := 0) (rmLe l Z a0 hw [] (x1) (t1) (k1) (N1) (v1) (d1) (UA) (G1) h0 n0 Zn5 Pm0 Pm1 Pm2 Pm3 (RLUA) (hnUA) (hrUA) (O2) (P5) X00) hZ (hw _ (List.mem_of_getElem? (i := 44) rfl)) (hw _ (List.mem_of_getElem? (i := 17) rfl)) (by decide) (by decide)) qa5 qc5 (g := (mkF m 1 #[.val (.ref x1), .val (.ref x2), .unset, .unset, .unset, .unset, .unset, .unset, .unset] [(.ref x1)])) rfl (by rw [hml]; rfl) (Steps.refl _) (argsL := []) (rest := []) (lenOf own_pd_2829I rfl) rfl (by show 2 * 0 + _ ≤ _; exact Nat.le_of_eq rfl) (hb hby own_d5_1) (fun _ _ => ⟨rfl, e0, (by decide : 0 + 0 ≤ _), (by decide : 0 + 0 ≤ _)⟩)
  dsimp only [Pt.U, Pt.locs, Pt.cells, Pt.slots] at X5 l5 y5 z5 st5 hQ5
  subst l5 y5 z5
  obtain ⟨rfl, Nq5, eh5⟩ := hQ5
  have N5 := Fr.app N0 Nq5
  refine own_go (fun tq kq => st5.trans kq) ?_
  show own_Rn p e below _ (T5.setTop (mkF m 4 #[.val (.ref x1), .val (.ref x2), .unset, .unset, .unset, .unset, .unset, .unset, .unset] [(.int (Int32.ofNat UA.length))]))
  refine own_go (fun tq kq => XS.aloadN X5.here hx rfl (hb hby own_d5_4) rfl rfl kq) ?_
  show own_Rn p e below _ (T5.setTop (mkF m 5 #[.val (.ref x1), .val (.ref x2), .unset, .unset, .unset, .unset, .unset, .unset, .unset] [(.ref x2), (.int (Int32.ofNat UA.length))]))
  have Zn6 : n0 ≤ h0.size := by omega
  obtain ⟨cq6, kq6, qa6, qb6, qc6⟩ := isOf hZ eh5 Pm7
  obtain ⟨rv6, _, ⟨T6, L6, k6, n6⟩, -, X6, ⟨Lc6, hQ6, l6, y6, z6⟩, st6⟩ := X5.virtualBack hx (y := (⟨"java/lang/String", "length", "()I"⟩ : MethodName)) (z := (⟨"java/lang/String", "length", "()I"⟩ : MethodName)) hown (mvT hZ (hw _ (List.mem_of_getElem? (i := 40) rfl))) (mvT hZ (hw _ (List.mem_of_getElem? (i := 41) rfl))) (notFace_of_selects (args := #[]) (mvT hZ (hw _ (List.mem_of_getElem? (i := 43) rfl)))) (mvT hZ (hw _ (List.mem_of_getElem? (i := 43) rfl))) (mvT hZ (hw _ (List.mem_of_getElem? (i := 42) rfl))) (by decide) (backOf (W := 1) (rmLe l Z a0 hw [] (x2) (t2) (k2) (N2) (v2) (d2) (UB) (G1) h0 n0 Zn6 Pm7 Pm8 Pm9 Pm10 (RLUB) (hnUB) (hrUB) (O2) (P5) X00) hZ (hw _ (List.mem_of_getElem? (i := 44) rfl)) (hw _ (List.mem_of_getElem? (i := 17) rfl)) (by decide) (by decide)) qa6 qc6 (g := (mkF m 5 #[.val (.ref x1), .val (.ref x2), .unset, .unset, .unset, .unset, .unset, .unset, .unset] [(.ref x2), (.int (Int32.ofNat UA.length))])) rfl (by rw [hml]; rfl) (Steps.refl _) (argsL := []) (rest := [(.int (Int32.ofNat UA.length))]) (lenOf own_pd_2829I rfl) rfl (by show 2 * 0 + _ ≤ _; exact Nat.le_of_eq rfl) (hb hby own_d5_5) (fun _ _ => ⟨rfl, eh5, (by decide : 0 + 0 ≤ _), (by decide : 0 + 0 ≤ _)⟩)
  dsimp only [Pt.U, Pt.locs, Pt.cells, Pt.slots] at X6 l6 y6 z6 st6 hQ6
  subst l6 y6 z6
  obtain ⟨rfl, Nq6, eh6⟩ := hQ6
  have N6 := Fr.app N5 Nq6
  refine own_go (fun tq kq => st6.trans kq) ?_
  show own_Rn p e below _ (T6.setTop (mkF m 8 #[.val (.ref x1), .val (.ref x2), .unset, .unset, .unset, .unset, .unset, .unset, .unset] [(.int (Int32.ofNat UB.length)), (.int (Int32.ofNat UA.length))]))
  have Zn7 : n0 ≤ h0.size := by omega
  obtain ⟨rv7, _, ⟨T7, L7, k7, n7⟩, -, X7, ⟨Lc7, hQ7, l7, y7, z7⟩, st7⟩ := Jvm.LawKit.callS X6 hx (y := (⟨"java/lang/Math", "min", "(II)I"⟩ : MethodName)) hown (mvT hZ (hw _ (List.mem_of_getElem? (i := 51) rfl))) (mvT hZ (hw _ (List.mem_of_getElem? (i := 52) rfl))) (mvT hZ (hw _ (List.mem_of_getElem? (i := 53) rfl))) (mvT hZ (hw _ (List.mem_of_getElem? (i := 54) rfl))) (by decide) (backOf (W := 0) (rmMin l Z a0 hw [] (UA.length) (UB.length) h0 n0 Zn7 (hnUA) (hnUB)) hZ (hw _ (List.mem_of_getElem? (i := 54) rfl)) (hw _ (List.mem_of_getElem? (i := 53) rfl)) (by decide) (by decide)) (g := (mkF m 8 #[.val (.ref x1), .val (.ref x2), .unset, .unset, .unset, .unset, .unset, .unset, .unset] [(.int (Int32.ofNat UB.length)), (.int (Int32.ofNat UA.length))])) rfl (by rw [hml]; rfl) (argsL := [(.int (Int32.ofNat UA.length)), (.int (Int32.ofNat UB.length))]) (rest := []) (lenOf own_pd_28II29I rfl) rfl (by show 2 * 0 + _ ≤ _; exact Nat.le_of_eq rfl) (hb hby own_d5_8) (fun _ _ => ⟨rfl, eh6, (by decide : 0 + 0 ≤ _), (by decide : 0 + 0 ≤ _)⟩)
  dsimp only [Pt.U, Pt.locs, Pt.cells, Pt.slots] at X7 l7 y7 z7 st7 hQ7
  subst l7 y7 z7
  obtain ⟨nm, rfl, Nq7, eh7, R_7⟩ := hQ7
  have N7 := Fr.app N6 Nq7
  refine own_go st7 ?_
  show own_Rn p e below _ (T7.setTop (mkF m 11 #[.val (.ref x1), .val (.ref x2), .unset, .unset, .unset, .unset, .unset, .unset, .unset] [(.int (Int32.ofNat nm))]))
  obtain ⟨hm1, hm2, hm3⟩ := R_7
  refine own_go (fun tq kq => XS.istoreN X7.here hx rfl (hb hby own_d5_11) rfl (l' := #[.val (.ref x1), .val (.ref x2), .val (.int (Int32.ofNat nm)), .unset, .unset, .unset, .unset, .unset, .unset]) rfl kq) ?_
  show own_Rn p e below _ (T7.setTop (mkF m 12 #[.val (.ref x1), .val (.ref x2), .val (.int (Int32.ofNat nm)), .unset, .unset, .unset, .unset, .unset, .unset] []))
  refine own_go (fun tq kq => XS.iconst X7.here hx rfl (hb hby own_d5_12) kq) ?_
  show own_Rn p e below _ (T7.setTop (mkF m 13 #[.val (.ref x1), .val (.ref x2), .val (.int (Int32.ofNat nm)), .unset, .unset, .unset, .unset, .unset, .unset] [(.int (0 : Int32))]))
  refine own_go (fun tq kq => XS.istoreN X7.here hx rfl (hb hby own_d5_13) rfl (l' := #[.val (.ref x1), .val (.ref x2), .val (.int (Int32.ofNat nm)), .val (.int (0 : Int32)), .unset, .unset, .unset, .unset, .unset]) rfl kq) ?_
  show own_Rn p e below _ (T7.setTop (mkF m 14 #[.val (.ref x1), .val (.ref x2), .val (.int (Int32.ofNat nm)), .val (.int (0 : Int32)), .unset, .unset, .unset, .unset, .unset] []))
  have hq3 : ∀ qq, qq < nm → qq < UA.length ∧ qq < UB.length := fun qq h => by omega
  have J139 : ∀ (qq ss : Nat) (b7 : Int32) (Tl : State) (ls : List Loc), ss < UA.length → ss < UB.length → own_sg (own_hdc ((own_il UA).drop ss) - own_hdc ((own_il UB).drop ss)) = own_spec UA UB → Stand p l e ({ frames := 5, cells := 0, slots := 0, locals := 67 } : Room) s m #[(.ref x1), (.ref x2)] below meth c Tl ls 0 0 → Tl.heap = h0 → Fr n0 ls → own_Rn p e below (fun o U' => ∃ v L, o = .returned v ∧ Q_rmCmp Z x1 t1 k1 N1 v1 d1 UA x2 t2 k2 N2 v2 d2 UB G1 G3 h0 n0 v U'.heap L ∧ FrameEnd s o U' L ({ frames := 5, cells := 0, slots := 0, locals := 67 } : Room).cells ({ frames := 5, cells := 0, slots := 0, locals := 67 } : Room).slots) (Tl.setTop (mkF m 139 #[.val (.ref x1), .val (.ref x2), .val (.int (Int32.ofNat nm)), .val (.int (Int32.ofNat qq)), .val (.int (UA.getD qq 0)), .val (.int (UB.getD qq 0)), .unset, .val (.int b7), .val (.int (Int32.ofNat ss))] [])) := by
    intro qq ss b7 Tl ls hsa hsb hans Xl el Nl
    refine own_go (fun tq kq => XS.aloadN Xl.here hx rfl (hb hby own_d5_139) rfl rfl kq) ?_
    show own_Rn p e below _ (Tl.setTop (mkF m 140 #[.val (.ref x1), .val (.ref x2), .val (.int (Int32.ofNat nm)), .val (.int (Int32.ofNat qq)), .val (.int (UA.getD qq 0)), .val (.int (UB.getD qq 0)), .unset, .val (.int b7), .val (.int (Int32.ofNat ss))] [(.ref x1)]))
    refine own_go (fun tq kq => XS.iload Xl.here hx rfl (hb hby own_d5_140) rfl kq) ?_
    show own_Rn p e below _ (Tl.setTop (mkF m 142 #[.val (.ref x1), .val (.ref x2), .val (.int (Int32.ofNat nm)), .val (.int (Int32.ofNat qq)), .val (.int (UA.getD qq 0)), .val (.int (UB.getD qq 0)), .unset, .val (.int b7), .val (.int (Int32.ofNat ss))] [(.int (Int32.ofNat ss)), (.ref x1)]))
    have Zn8 : n0 ≤ h0.size := by omega
    obtain ⟨cq8, kq8, qa8, qb8, qc8⟩ := isOf hZ el Pm0
    obtain ⟨rv8, _, ⟨T8, L8, k8, n8⟩, -, X8, ⟨Lc8, hQ8, l8, y8, z8⟩, st8⟩ := Xl.virtualBack hx (y := (⟨"java/lang/String", "codePointAt", "(I)I"⟩ : MethodName)) (z := (⟨"java/lang/String", "codePointAt", "(I)I"⟩ : MethodName)) hown (mvT hZ (hw _ (List.mem_of_getElem? (i := 130) rfl))) (mvT hZ (hw _ (List.mem_of_getElem? (i := 131) rfl))) (notFace_of_selects (args := #[]) (mvT hZ (hw _ (List.mem_of_getElem? (i := 133) rfl)))) (mvT hZ (hw _ (List.mem_of_getElem? (i := 133) rfl))) (mvT hZ (hw _ (List.mem_of_getElem? (i := 132) rfl))) (by decide) (backOf (W := 0) (rmCPA l Z a0 hw [] (x1) (t1) (k1) (N1) (v1) (d1) (UA) (G1) (ss) (G3) h0 n0 Zn8 Pm0 Pm1 Pm2 Pm3 (RLUA) (hnUA) (hrUA) (hsa) (OAD) (OHI) (OLO) (O4) (hG3) (O2) (P5) X00) hZ (hw _ (List.mem_of_getElem? (i := 134) rfl)) (hw _ (List.mem_of_getElem? (i := 17) rfl)) (by decide) (by decide)) qa8 qc8 (g := (mkF m 142 #[.val (.ref x1), .val (.ref x2), .val (.int (Int32.ofNat nm)), .val (.int (Int32.ofNat qq)), .val (.int (UA.getD qq 0)), .val (.int (UB.getD qq 0)), .unset, .val (.int b7), .val (.int (Int32.ofNat ss))] [(.int (Int32.ofNat ss)), (.ref x1)])) rfl (by rw [hml]; rfl) (Steps.refl _) (argsL := [(.int (Int32.ofNat ss))]) (rest := []) (lenOf own_pd_28I29I rfl) rfl (by show 2 * 0 + _ ≤ _; exact Nat.le_of_eq rfl) (hb hby own_d5_142) (fun _ _ => ⟨rfl, el, (by decide : 0 + 0 ≤ _), (by decide : 0 + 0 ≤ _)⟩)
    dsimp only [Pt.U, Pt.locs, Pt.cells, Pt.slots] at X8 l8 y8 z8 st8 hQ8
    subst l8 y8 z8
    obtain ⟨ra, rfl, Nq8, eh8, R_8⟩ := hQ8
    have N8 := Fr.app Nl Nq8
    refine own_go (fun tq kq => st8.trans kq) ?_
    show own_Rn p e below _ (T8.setTop (mkF m 145 #[.val (.ref x1), .val (.ref x2), .val (.int (Int32.ofNat nm)), .val (.int (Int32.ofNat qq)), .val (.int (UA.getD qq 0)), .val (.int (UB.getD qq 0)), .unset, .val (.int b7), .val (.int (Int32.ofNat ss))] [(.int ra)]))
    refine own_go (fun tq kq => XS.aloadN X8.here hx rfl (hb hby own_d5_145) rfl rfl kq) ?_
    show own_Rn p e below _ (T8.setTop (mkF m 146 #[.val (.ref x1), .val (.ref x2), .val (.int (Int32.ofNat nm)), .val (.int (Int32.ofNat qq)), .val (.int (UA.getD qq 0)), .val (.int (UB.getD qq 0)), .unset, .val (.int b7), .val (.int (Int32.ofNat ss))] [(.ref x2), (.int ra)]))
    refine own_go (fun tq kq => XS.iload X8.here hx rfl (hb hby own_d5_146) rfl kq) ?_
    show own_Rn p e below _ (T8.setTop (mkF m 148 #[.val (.ref x1), .val (.ref x2), .val (.int (Int32.ofNat nm)), .val (.int (Int32.ofNat qq)), .val (.int (UA.getD qq 0)), .val (.int (UB.getD qq 0)), .unset, .val (.int b7), .val (.int (Int32.ofNat ss))] [(.int (Int32.ofNat ss)), (.ref x2), (.int ra)]))
    have Zn9 : n0 ≤ h0.size := by omega
    obtain ⟨cq9, kq9, qa9, qb9, qc9⟩ := isOf hZ eh8 Pm7
    obtain ⟨rv9, _, ⟨T9, L9, k9, n9⟩, -, X9, ⟨Lc9, hQ9, l9, y9, z9⟩, st9⟩ := X8.virtualBack hx (y := (⟨"java/lang/String", "codePointAt", "(I)I"⟩ : MethodName)) (z := (⟨"java/lang/String", "codePointAt", "(I)I"⟩ : MethodName)) hown (mvT hZ (hw _ (List.mem_of_getElem? (i := 130) rfl))) (mvT hZ (hw _ (List.mem_of_getElem? (i := 131) rfl))) (notFace_of_selects (args := #[]) (mvT hZ (hw _ (List.mem_of_getElem? (i := 133) rfl)))) (mvT hZ (hw _ (List.mem_of_getElem? (i := 133) rfl))) (mvT hZ (hw _ (List.mem_of_getElem? (i := 132) rfl))) (by decide) (backOf (W := 1) (rmCPA l Z a0 hw [] (x2) (t2) (k2) (N2) (v2) (d2) (UB) (G1) (ss) (G3) h0 n0 Zn9 Pm7 Pm8 Pm9 Pm10 (RLUB) (hnUB) (hrUB) (hsb) (OAD) (OHI) (OLO) (O4) (hG3) (O2) (P5) X00) hZ (hw _ (List.mem_of_getElem? (i := 134) rfl)) (hw _ (List.mem_of_getElem? (i := 17) rfl)) (by decide) (by decide)) qa9 qc9 (g := (mkF m 148 #[.val (.ref x1), .val (.ref x2), .val (.int (Int32.ofNat nm)), .val (.int (Int32.ofNat qq)), .val (.int (UA.getD qq 0)), .val (.int (UB.getD qq 0)), .unset, .val (.int b7), .val (.int (Int32.ofNat ss))] [(.int (Int32.ofNat ss)), (.ref x2), (.int ra)])) rfl (by rw [hml]; rfl) (Steps.refl _) (argsL := [(.int (Int32.ofNat ss))]) (rest := [(.int ra)]) (lenOf own_pd_28I29I rfl) rfl (by show 2 * 0 + _ ≤ _; exact Nat.le_of_eq rfl) (hb hby own_d5_148) (fun _ _ => ⟨rfl, eh8, (by decide : 0 + 0 ≤ _), (by decide : 0 + 0 ≤ _)⟩)
    dsimp only [Pt.U, Pt.locs, Pt.cells, Pt.slots] at X9 l9 y9 z9 st9 hQ9
    subst l9 y9 z9
    obtain ⟨rb, rfl, Nq9, eh9, R_9⟩ := hQ9
    have N9 := Fr.app N8 Nq9
    refine own_go (fun tq kq => st9.trans kq) ?_
    show own_Rn p e below _ (T9.setTop (mkF m 151 #[.val (.ref x1), .val (.ref x2), .val (.int (Int32.ofNat nm)), .val (.int (Int32.ofNat qq)), .val (.int (UA.getD qq 0)), .val (.int (UB.getD qq 0)), .unset, .val (.int b7), .val (.int (Int32.ofNat ss))] [(.int rb), (.int ra)]))
    have Zn10 : n0 ≤ h0.size := by omega
    obtain ⟨rv10, _, ⟨T10, L10, k10, n10⟩, -, X10, ⟨Lc10, hQ10, l10, y10, z10⟩, st10⟩ := Jvm.LawKit.callS X9 hx (y := (⟨"java/lang/Integer", "compare", "(II)I"⟩ : MethodName)) hown (mvT hZ (hw _ (List.mem_of_getElem? (i := 55) rfl))) (mvT hZ (hw _ (List.mem_of_getElem? (i := 56) rfl))) (mvT hZ (hw _ (List.mem_of_getElem? (i := 57) rfl))) (mvT hZ (hw _ (List.mem_of_getElem? (i := 58) rfl))) (by decide) (backOf (W := 0) (rmICM l Z a0 hw [] (ra) (rb) h0 n0 Zn10 ) hZ (hw _ (List.mem_of_getElem? (i := 58) rfl)) (hw _ (List.mem_of_getElem? (i := 57) rfl)) (by decide) (by decide)) (g := (mkF m 151 #[.val (.ref x1), .val (.ref x2), .val (.int (Int32.ofNat nm)), .val (.int (Int32.ofNat qq)), .val (.int (UA.getD qq 0)), .val (.int (UB.getD qq 0)), .unset, .val (.int b7), .val (.int (Int32.ofNat ss))] [(.int rb), (.int ra)])) rfl (by rw [hml]; rfl) (argsL := [(.int ra), (.int rb)]) (rest := []) (lenOf own_pd_28II29I rfl) rfl (by show 2 * 0 + _ ≤ _; exact Nat.le_of_eq rfl) (hb hby own_d5_151) (fun _ _ => ⟨rfl, eh9, (by decide : 0 + 0 ≤ _), (by decide : 0 + 0 ≤ _)⟩)
    dsimp only [Pt.U, Pt.locs, Pt.cells, Pt.slots] at X10 l10 y10 z10 st10 hQ10
    subst l10 y10 z10
    obtain ⟨rfl, Nq10, eh10⟩ := hQ10
    have N10 := Fr.app N9 Nq10
    refine own_go st10 ?_
    show own_Rn p e below _ (T10.setTop (mkF m 154 #[.val (.ref x1), .val (.ref x2), .val (.int (Int32.ofNat nm)), .val (.int (Int32.ofNat qq)), .val (.int (UA.getD qq 0)), .val (.int (UB.getD qq 0)), .unset, .val (.int b7), .val (.int (Int32.ofNat ss))] [(.int (own_icmp ra rb))]))
    refine own_go (fun tq kq => XS.istore X10.here hx rfl (hb hby own_d5_154) rfl (l' := #[.val (.ref x1), .val (.ref x2), .val (.int (Int32.ofNat nm)), .val (.int (Int32.ofNat qq)), .val (.int (UA.getD qq 0)), .val (.int (UB.getD qq 0)), .val (.int (own_icmp ra rb)), .val (.int b7), .val (.int (Int32.ofNat ss))]) rfl kq) ?_
    show own_Rn p e below _ (T10.setTop (mkF m 156 #[.val (.ref x1), .val (.ref x2), .val (.int (Int32.ofNat nm)), .val (.int (Int32.ofNat qq)), .val (.int (UA.getD qq 0)), .val (.int (UB.getD qq 0)), .val (.int (own_icmp ra rb)), .val (.int b7), .val (.int (Int32.ofNat ss))] []))
    refine own_go (fun tq kq => XS.goto X10.here hx rfl (pc0 := 156) (pc' := 168) rfl (hb hby own_d5_156) (by decide) (by decide) kq) ?_
    show own_Rn p e below _ (T10.setTop (mkF m 168 #[.val (.ref x1), .val (.ref x2), .val (.int (Int32.ofNat nm)), .val (.int (Int32.ofNat qq)), .val (.int (UA.getD qq 0)), .val (.int (UB.getD qq 0)), .val (.int (own_icmp ra rb)), .val (.int b7), .val (.int (Int32.ofNat ss))] []))
    refine own_go (fun tq kq => XS.iload X10.here hx rfl (hb hby own_d5_168) rfl kq) ?_
    show own_Rn p e below _ (T10.setTop (mkF m 170 #[.val (.ref x1), .val (.ref x2), .val (.int (Int32.ofNat nm)), .val (.int (Int32.ofNat qq)), .val (.int (UA.getD qq 0)), .val (.int (UB.getD qq 0)), .val (.int (own_icmp ra rb)), .val (.int b7), .val (.int (Int32.ofNat ss))] [(.int (own_icmp ra rb))]))
    exact own_ret X10 (v := some (.int (own_icmp ra rb))) (fun h => by rw [Bd.returns] at h; cases h) (fun fs hr => retI X10 hx Bd.returns (hb hby own_d5_170) hr) (by rw [eh10]; exact ⟨(own_icmp ra rb), rfl, N10, rfl, by rw [own_icmp_sg, R_8, R_9]; exact hans⟩) (by decide) (by decide)
  have J85 : ∀ (qq : Nat) (Tl : State) (ls : List Loc), qq < nm → (own_il UA).take qq = (own_il UB).take qq → ¬ (UA.getD qq 0) = (UB.getD qq 0) → Stand p l e ({ frames := 5, cells := 0, slots := 0, locals := 67 } : Room) s m #[(.ref x1), (.ref x2)] below meth c Tl ls 0 0 → Tl.heap = h0 → Fr n0 ls → own_Rn p e below (fun o U' => ∃ v L, o = .returned v ∧ Q_rmCmp Z x1 t1 k1 N1 v1 d1 UA x2 t2 k2 N2 v2 d2 UB G1 G3 h0 n0 v U'.heap L ∧ FrameEnd s o U' L ({ frames := 5, cells := 0, slots := 0, locals := 67 } : Room).cells ({ frames := 5, cells := 0, slots := 0, locals := 67 } : Room).slots) (Tl.setTop (mkF m 85 #[.val (.ref x1), .val (.ref x2), .val (.int (Int32.ofNat nm)), .val (.int (Int32.ofNat qq)), .val (.int (UA.getD qq 0)), .val (.int (UB.getD qq 0)), .unset, .unset, .unset] [])) := by
    intro qq Tl ls hq he hne Xl el Nl
    obtain ⟨hqa, hqb⟩ := hq3 qq hq
    refine own_go (fun tq kq => XS.iloadN Xl.here hx rfl (hb hby own_d5_85) rfl kq) ?_
    show own_Rn p e below _ (Tl.setTop (mkF m 86 #[.val (.ref x1), .val (.ref x2), .val (.int (Int32.ofNat nm)), .val (.int (Int32.ofNat qq)), .val (.int (UA.getD qq 0)), .val (.int (UB.getD qq 0)), .unset, .unset, .unset] [(.int (Int32.ofNat qq))]))
    by_cases h0q : 0 < qq
    · skip
      refine own_go (fun tq kq => XS.ifNo Xl.here hx rfl (hb hby own_d5_86) rfl ((if0 _ _).trans (tlt (own_ofNat_lt (q := 0) h0q (by omega) : (0 : Int32) < (Int32.ofNat qq))).2.2.2) kq) ?_
      show own_Rn p e below _ (Tl.setTop (mkF m 89 #[.val (.ref x1), .val (.ref x2), .val (.int (Int32.ofNat nm)), .val (.int (Int32.ofNat qq)), .val (.int (UA.getD qq 0)), .val (.int (UB.getD qq 0)), .unset, .unset, .unset] []))
      refine own_go (fun tq kq => XS.aloadN Xl.here hx rfl (hb hby own_d5_89) rfl rfl kq) ?_
      show own_Rn p e below _ (Tl.setTop (mkF m 90 #[.val (.ref x1), .val (.ref x2), .val (.int (Int32.ofNat nm)), .val (.int (Int32.ofNat qq)), .val (.int (UA.getD qq 0)), .val (.int (UB.getD qq 0)), .unset, .unset, .unset] [(.ref x1)]))
      refine own_go (fun tq kq => XS.iloadN Xl.here hx rfl (hb hby own_d5_90) rfl kq) ?_
      show own_Rn p e below _ (Tl.setTop (mkF m 91 #[.val (.ref x1), .val (.ref x2), .val (.int (Int32.ofNat nm)), .val (.int (Int32.ofNat qq)), .val (.int (UA.getD qq 0)), .val (.int (UB.getD qq 0)), .unset, .unset, .unset] [(.int (Int32.ofNat qq)), (.ref x1)]))
      refine own_go (fun tq kq => XS.iconst Xl.here hx rfl (hb hby own_d5_91) kq) ?_
      show own_Rn p e below _ (Tl.setTop (mkF m 92 #[.val (.ref x1), .val (.ref x2), .val (.int (Int32.ofNat nm)), .val (.int (Int32.ofNat qq)), .val (.int (UA.getD qq 0)), .val (.int (UB.getD qq 0)), .unset, .unset, .unset] [(.int (1 : Int32)), (.int (Int32.ofNat qq)), (.ref x1)]))
      refine own_go (fun tq kq => XS.isub Xl.here hx rfl (hb hby own_d5_92) rfl kq) ?_
      show own_Rn p e below _ (Tl.setTop (mkF m 93 #[.val (.ref x1), .val (.ref x2), .val (.int (Int32.ofNat nm)), .val (.int (Int32.ofNat qq)), .val (.int (UA.getD qq 0)), .val (.int (UB.getD qq 0)), .unset, .unset, .unset] [(.int ((Int32.ofNat qq) - (1 : Int32))), (.ref x1)]))
      rw [show (Int32.ofNat qq - (1 : Int32)) = Int32.ofNat (qq - 1) by have h := dec_ofNat (qq - 1); rwa [show qq - 1 + 1 = qq by omega] at h]
      show own_Rn p e below _ (Tl.setTop (mkF m 93 #[.val (.ref x1), .val (.ref x2), .val (.int (Int32.ofNat nm)), .val (.int (Int32.ofNat qq)), .val (.int (UA.getD qq 0)), .val (.int (UB.getD qq 0)), .unset, .unset, .unset] [(.int (Int32.ofNat (qq - 1))), (.ref x1)]))
      have Zn11 : n0 ≤ h0.size := by omega
      obtain ⟨cq11, kq11, qa11, qb11, qc11⟩ := isOf hZ el Pm0
      obtain ⟨rv11, _, ⟨T11, L11, k11, n11⟩, -, X11, ⟨Lc11, hQ11, l11, y11, z11⟩, st11⟩ := Xl.virtualBack hx (y := (⟨"java/lang/String", "charAt", "(I)C"⟩ : MethodName)) (z := (⟨"java/lang/String", "charAt", "(I)C"⟩ : MethodName)) hown (mvT hZ (hw _ (List.mem_of_getElem? (i := 97) rfl))) (mvT hZ (hw _ (List.mem_of_getElem? (i := 98) rfl))) (notFace_of_selects (args := #[]) (mvT hZ (hw _ (List.mem_of_getElem? (i := 100) rfl)))) (mvT hZ (hw _ (List.mem_of_getElem? (i := 100) rfl))) (mvT hZ (hw _ (List.mem_of_getElem? (i := 99) rfl))) (by decide) (backOf (W := 0) (rmCha l Z a0 hw [] (x1) (t1) (k1) (N1) (v1) (d1) (UA) (G1) ((qq - 1)) (G3) h0 n0 Zn11 Pm0 Pm1 Pm2 Pm3 (RLUA) (hnUA) (hrUA) (by omega) (OAD) (OHI) (OLO) (O4) (hG3) (O2) (P5) X00) hZ (hw _ (List.mem_of_getElem? (i := 101) rfl)) (hw _ (List.mem_of_getElem? (i := 17) rfl)) (by decide) (by decide)) qa11 qc11 (g := (mkF m 93 #[.val (.ref x1), .val (.ref x2), .val (.int (Int32.ofNat nm)), .val (.int (Int32.ofNat qq)), .val (.int (UA.getD qq 0)), .val (.int (UB.getD qq 0)), .unset, .unset, .unset] [(.int (Int32.ofNat (qq - 1))), (.ref x1)])) rfl (by rw [hml]; rfl) (Steps.refl _) (argsL := [(.int (Int32.ofNat (qq - 1)))]) (rest := []) (lenOf own_pd_28I29C rfl) rfl (by show 2 * 0 + _ ≤ _; exact Nat.le_of_eq rfl) (hb hby own_d5_93) (fun _ _ => ⟨rfl, el, (by decide : 0 + 0 ≤ _), (by decide : 0 + 0 ≤ _)⟩)
      dsimp only [Pt.U, Pt.locs, Pt.cells, Pt.slots] at X11 l11 y11 z11 st11 hQ11
      subst l11 y11 z11
      obtain ⟨rfl, Nq11, eh11⟩ := hQ11
      have N11 := Fr.app Nl Nq11
      refine own_go (fun tq kq => st11.trans kq) ?_
      show own_Rn p e below _ (T11.setTop (mkF m 96 #[.val (.ref x1), .val (.ref x2), .val (.int (Int32.ofNat nm)), .val (.int (Int32.ofNat qq)), .val (.int (UA.getD qq 0)), .val (.int (UB.getD qq 0)), .unset, .unset, .unset] [(.int (UA.getD (qq - 1) 0))]))
      have Zn12 : n0 ≤ h0.size := by omega
      obtain ⟨rv12, _, ⟨T12, L12, k12, n12⟩, -, X12, ⟨Lc12, hQ12, l12, y12, z12⟩, st12⟩ := Jvm.LawKit.callS X11 hx (y := (⟨"java/lang/Character", "isHighSurrogate", "(C)Z"⟩ : MethodName)) hown (mvT hZ (hw _ (List.mem_of_getElem? (i := 168) rfl))) (mvT hZ (hw _ (List.mem_of_getElem? (i := 143) rfl))) (mvT hZ (hw _ (List.mem_of_getElem? (i := 126) rfl))) (mvT hZ (hw _ (List.mem_of_getElem? (i := 144) rfl))) (by decide) (backOf (W := 0) (rmHiJ l Z a0 hw [] ((UA.getD (qq - 1) 0)) h0 n0 Zn12 ) hZ (hw _ (List.mem_of_getElem? (i := 144) rfl)) (hw _ (List.mem_of_getElem? (i := 126) rfl)) (by decide) (by decide)) (g := (mkF m 96 #[.val (.ref x1), .val (.ref x2), .val (.int (Int32.ofNat nm)), .val (.int (Int32.ofNat qq)), .val (.int (UA.getD qq 0)), .val (.int (UB.getD qq 0)), .unset, .unset, .unset] [(.int (UA.getD (qq - 1) 0))])) rfl (by rw [hml]; rfl) (argsL := [(.int (UA.getD (qq - 1) 0))]) (rest := []) (lenOf own_pd_28C29Z rfl) rfl (by show 2 * 0 + _ ≤ _; exact Nat.le_of_eq rfl) (hb hby own_d5_96) (fun _ _ => ⟨rfl, eh11, (by decide : 0 + 0 ≤ _), (by decide : 0 + 0 ≤ _)⟩)
      dsimp only [Pt.U, Pt.locs, Pt.cells, Pt.slots] at X12 l12 y12 z12 st12 hQ12
      subst l12 y12 z12
      obtain ⟨rfl, Nq12, eh12⟩ := hQ12
      have N12 := Fr.app N11 Nq12
      refine own_go st12 ?_
      show own_Rn p e below _ (T12.setTop (mkF m 99 #[.val (.ref x1), .val (.ref x2), .val (.int (Int32.ofNat nm)), .val (.int (Int32.ofNat qq)), .val (.int (UA.getD qq 0)), .val (.int (UB.getD qq 0)), .unset, .unset, .unset] [(.int (if own_isHi (UA.getD (qq - 1) 0) then (1 : Int32) else 0))]))
      by_cases hH : own_isHi (UA.getD (qq - 1) 0)
      · skip
        rw [if_pos hH]
        show own_Rn p e below _ (T12.setTop (mkF m 99 #[.val (.ref x1), .val (.ref x2), .val (.int (Int32.ofNat nm)), .val (.int (Int32.ofNat qq)), .val (.int (UA.getD qq 0)), .val (.int (UB.getD qq 0)), .unset, .unset, .unset] [(.int (1 : Int32))]))
        refine own_go (fun tq kq => XS.ifNo X12.here hx rfl (hb hby own_d5_99) rfl ((if0 _ _).trans (feq ((by decide : ¬ ((1 : Int32) = (0 : Int32))) : ¬ ((1 : Int32) = (0 : Int32)))).1) kq) ?_
        show own_Rn p e below _ (T12.setTop (mkF m 102 #[.val (.ref x1), .val (.ref x2), .val (.int (Int32.ofNat nm)), .val (.int (Int32.ofNat qq)), .val (.int (UA.getD qq 0)), .val (.int (UB.getD qq 0)), .unset, .unset, .unset] []))
        refine own_go (fun tq kq => XS.iload X12.here hx rfl (hb hby own_d5_102) rfl kq) ?_
        show own_Rn p e below _ (T12.setTop (mkF m 104 #[.val (.ref x1), .val (.ref x2), .val (.int (Int32.ofNat nm)), .val (.int (Int32.ofNat qq)), .val (.int (UA.getD qq 0)), .val (.int (UB.getD qq 0)), .unset, .unset, .unset] [(.int (UA.getD qq 0))]))
        have Zn13 : n0 ≤ h0.size := by omega
        obtain ⟨rv13, _, ⟨T13, L13, k13, n13⟩, -, X13, ⟨Lc13, hQ13, l13, y13, z13⟩, st13⟩ := Jvm.LawKit.callS X12 hx (y := (⟨"java/lang/Character", "isLowSurrogate", "(C)Z"⟩ : MethodName)) hown (mvT hZ (hw _ (List.mem_of_getElem? (i := 169) rfl))) (mvT hZ (hw _ (List.mem_of_getElem? (i := 154) rfl))) (mvT hZ (hw _ (List.mem_of_getElem? (i := 126) rfl))) (mvT hZ (hw _ (List.mem_of_getElem? (i := 155) rfl))) (by decide) (backOf (W := 0) (rmLoJ l Z a0 hw [] ((UA.getD qq 0)) h0 n0 Zn13 ) hZ (hw _ (List.mem_of_getElem? (i := 155) rfl)) (hw _ (List.mem_of_getElem? (i := 126) rfl)) (by decide) (by decide)) (g := (mkF m 104 #[.val (.ref x1), .val (.ref x2), .val (.int (Int32.ofNat nm)), .val (.int (Int32.ofNat qq)), .val (.int (UA.getD qq 0)), .val (.int (UB.getD qq 0)), .unset, .unset, .unset] [(.int (UA.getD qq 0))])) rfl (by rw [hml]; rfl) (argsL := [(.int (UA.getD qq 0))]) (rest := []) (lenOf own_pd_28C29Z rfl) rfl (by show 2 * 0 + _ ≤ _; exact Nat.le_of_eq rfl) (hb hby own_d5_104) (fun _ _ => ⟨rfl, eh12, (by decide : 0 + 0 ≤ _), (by decide : 0 + 0 ≤ _)⟩)
        dsimp only [Pt.U, Pt.locs, Pt.cells, Pt.slots] at X13 l13 y13 z13 st13 hQ13
        subst l13 y13 z13
        obtain ⟨rfl, Nq13, eh13⟩ := hQ13
        have N13 := Fr.app N12 Nq13
        refine own_go st13 ?_
        show own_Rn p e below _ (T13.setTop (mkF m 107 #[.val (.ref x1), .val (.ref x2), .val (.int (Int32.ofNat nm)), .val (.int (Int32.ofNat qq)), .val (.int (UA.getD qq 0)), .val (.int (UB.getD qq 0)), .unset, .unset, .unset] [(.int (if own_isLo (UA.getD qq 0) then (1 : Int32) else 0))]))
        by_cases hL1 : own_isLo (UA.getD qq 0)
        · skip
          rw [if_pos hL1]
          show own_Rn p e below _ (T13.setTop (mkF m 107 #[.val (.ref x1), .val (.ref x2), .val (.int (Int32.ofNat nm)), .val (.int (Int32.ofNat qq)), .val (.int (UA.getD qq 0)), .val (.int (UB.getD qq 0)), .unset, .unset, .unset] [(.int (1 : Int32))]))
          refine own_go (fun tq kq => XS.ifYes X13.here hx rfl (pc0 := 107) (pc' := 118) rfl (hb hby own_d5_107) rfl ((if0 _ _).trans (feq ((by decide : ¬ ((1 : Int32) = (0 : Int32))) : ¬ ((1 : Int32) = (0 : Int32)))).2) (by decide) (by decide) kq) ?_
          show own_Rn p e below _ (T13.setTop (mkF m 118 #[.val (.ref x1), .val (.ref x2), .val (.int (Int32.ofNat nm)), .val (.int (Int32.ofNat qq)), .val (.int (UA.getD qq 0)), .val (.int (UB.getD qq 0)), .unset, .unset, .unset] []))
          refine own_go (fun tq kq => XS.iconst X13.here hx rfl (hb hby own_d5_118) kq) ?_
          show own_Rn p e below _ (T13.setTop (mkF m 119 #[.val (.ref x1), .val (.ref x2), .val (.int (Int32.ofNat nm)), .val (.int (Int32.ofNat qq)), .val (.int (UA.getD qq 0)), .val (.int (UB.getD qq 0)), .unset, .unset, .unset] [(.int (1 : Int32))]))
          refine own_go (fun tq kq => XS.goto X13.here hx rfl (pc0 := 119) (pc' := 123) rfl (hb hby own_d5_119) (by decide) (by decide) kq) ?_
          show own_Rn p e below _ (T13.setTop (mkF m 123 #[.val (.ref x1), .val (.ref x2), .val (.int (Int32.ofNat nm)), .val (.int (Int32.ofNat qq)), .val (.int (UA.getD qq 0)), .val (.int (UB.getD qq 0)), .unset, .unset, .unset] [(.int (1 : Int32))]))
          refine own_go (fun tq kq => XS.istore X13.here hx rfl (hb hby own_d5_123) rfl (l' := #[.val (.ref x1), .val (.ref x2), .val (.int (Int32.ofNat nm)), .val (.int (Int32.ofNat qq)), .val (.int (UA.getD qq 0)), .val (.int (UB.getD qq 0)), .unset, .val (.int (1 : Int32)), .unset]) rfl kq) ?_
          show own_Rn p e below _ (T13.setTop (mkF m 125 #[.val (.ref x1), .val (.ref x2), .val (.int (Int32.ofNat nm)), .val (.int (Int32.ofNat qq)), .val (.int (UA.getD qq 0)), .val (.int (UB.getD qq 0)), .unset, .val (.int (1 : Int32)), .unset] []))
          refine own_go (fun tq kq => XS.iload X13.here hx rfl (hb hby own_d5_125) rfl kq) ?_
          show own_Rn p e below _ (T13.setTop (mkF m 127 #[.val (.ref x1), .val (.ref x2), .val (.int (Int32.ofNat nm)), .val (.int (Int32.ofNat qq)), .val (.int (UA.getD qq 0)), .val (.int (UB.getD qq 0)), .unset, .val (.int (1 : Int32)), .unset] [(.int (1 : Int32))]))
          refine own_go (fun tq kq => XS.ifNo X13.here hx rfl (hb hby own_d5_127) rfl ((if0 _ _).trans (feq ((by decide : ¬ ((1 : Int32) = (0 : Int32))) : ¬ ((1 : Int32) = (0 : Int32)))).1) kq) ?_
          show own_Rn p e below _ (T13.setTop (mkF m 130 #[.val (.ref x1), .val (.ref x2), .val (.int (Int32.ofNat nm)), .val (.int (Int32.ofNat qq)), .val (.int (UA.getD qq 0)), .val (.int (UB.getD qq 0)), .unset, .val (.int (1 : Int32)), .unset] []))
          refine own_go (fun tq kq => XS.iloadN X13.here hx rfl (hb hby own_d5_130) rfl kq) ?_
          show own_Rn p e below _ (T13.setTop (mkF m 131 #[.val (.ref x1), .val (.ref x2), .val (.int (Int32.ofNat nm)), .val (.int (Int32.ofNat qq)), .val (.int (UA.getD qq 0)), .val (.int (UB.getD qq 0)), .unset, .val (.int (1 : Int32)), .unset] [(.int (Int32.ofNat qq))]))
          refine own_go (fun tq kq => XS.iconst X13.here hx rfl (hb hby own_d5_131) kq) ?_
          show own_Rn p e below _ (T13.setTop (mkF m 132 #[.val (.ref x1), .val (.ref x2), .val (.int (Int32.ofNat nm)), .val (.int (Int32.ofNat qq)), .val (.int (UA.getD qq 0)), .val (.int (UB.getD qq 0)), .unset, .val (.int (1 : Int32)), .unset] [(.int (1 : Int32)), (.int (Int32.ofNat qq))]))
          refine own_go (fun tq kq => XS.isub X13.here hx rfl (hb hby own_d5_132) rfl kq) ?_
          show own_Rn p e below _ (T13.setTop (mkF m 133 #[.val (.ref x1), .val (.ref x2), .val (.int (Int32.ofNat nm)), .val (.int (Int32.ofNat qq)), .val (.int (UA.getD qq 0)), .val (.int (UB.getD qq 0)), .unset, .val (.int (1 : Int32)), .unset] [(.int ((Int32.ofNat qq) - (1 : Int32)))]))
          rw [show (Int32.ofNat qq - (1 : Int32)) = Int32.ofNat (qq - 1) by have h := dec_ofNat (qq - 1); rwa [show qq - 1 + 1 = qq by omega] at h]
          show own_Rn p e below _ (T13.setTop (mkF m 133 #[.val (.ref x1), .val (.ref x2), .val (.int (Int32.ofNat nm)), .val (.int (Int32.ofNat qq)), .val (.int (UA.getD qq 0)), .val (.int (UB.getD qq 0)), .unset, .val (.int (1 : Int32)), .unset] [(.int (Int32.ofNat (qq - 1)))]))
          refine own_go (fun tq kq => XS.goto X13.here hx rfl (pc0 := 133) (pc' := 137) rfl (hb hby own_d5_133) (by decide) (by decide) kq) ?_
          show own_Rn p e below _ (T13.setTop (mkF m 137 #[.val (.ref x1), .val (.ref x2), .val (.int (Int32.ofNat nm)), .val (.int (Int32.ofNat qq)), .val (.int (UA.getD qq 0)), .val (.int (UB.getD qq 0)), .unset, .val (.int (1 : Int32)), .unset] [(.int (Int32.ofNat (qq - 1)))]))
          refine own_go (fun tq kq => XS.istore X13.here hx rfl (hb hby own_d5_137) rfl (l' := #[.val (.ref x1), .val (.ref x2), .val (.int (Int32.ofNat nm)), .val (.int (Int32.ofNat qq)), .val (.int (UA.getD qq 0)), .val (.int (UB.getD qq 0)), .unset, .val (.int (1 : Int32)), .val (.int (Int32.ofNat (qq - 1)))]) rfl kq) ?_
          show own_Rn p e below _ (T13.setTop (mkF m 139 #[.val (.ref x1), .val (.ref x2), .val (.int (Int32.ofNat nm)), .val (.int (Int32.ofNat qq)), .val (.int (UA.getD qq 0)), .val (.int (UB.getD qq 0)), .unset, .val (.int (1 : Int32)), .val (.int (Int32.ofNat (qq - 1)))] []))
          exact J139 qq (qq - 1) _ _ _ (by omega) (by omega) (own_ans2 UA UB qq hqa hqb he hne (by omega) hH (Or.inl hL1)) X13 eh13 N13
        · skip
          rw [if_neg hL1]
          show own_Rn p e below _ (T13.setTop (mkF m 107 #[.val (.ref x1), .val (.ref x2), .val (.int (Int32.ofNat nm)), .val (.int (Int32.ofNat qq)), .val (.int (UA.getD qq 0)), .val (.int (UB.getD qq 0)), .unset, .unset, .unset] [(.int (0 : Int32))]))
          refine own_go (fun tq kq => XS.ifNo X13.here hx rfl (hb hby own_d5_107) rfl ((if0 _ _).trans (teq ((by decide : (0 : Int32) = (0 : Int32)) : (0 : Int32) = (0 : Int32))).2) kq) ?_
          show own_Rn p e below _ (T13.setTop (mkF m 110 #[.val (.ref x1), .val (.ref x2), .val (.int (Int32.ofNat nm)), .val (.int (Int32.ofNat qq)), .val (.int (UA.getD qq 0)), .val (.int (UB.getD qq 0)), .unset, .unset, .unset] []))
          refine own_go (fun tq kq => XS.iload X13.here hx rfl (hb hby own_d5_110) rfl kq) ?_
          show own_Rn p e below _ (T13.setTop (mkF m 112 #[.val (.ref x1), .val (.ref x2), .val (.int (Int32.ofNat nm)), .val (.int (Int32.ofNat qq)), .val (.int (UA.getD qq 0)), .val (.int (UB.getD qq 0)), .unset, .unset, .unset] [(.int (UB.getD qq 0))]))
          have Zn14 : n0 ≤ h0.size := by omega
          obtain ⟨rv14, _, ⟨T14, L14, k14, n14⟩, -, X14, ⟨Lc14, hQ14, l14, y14, z14⟩, st14⟩ := Jvm.LawKit.callS X13 hx (y := (⟨"java/lang/Character", "isLowSurrogate", "(C)Z"⟩ : MethodName)) hown (mvT hZ (hw _ (List.mem_of_getElem? (i := 169) rfl))) (mvT hZ (hw _ (List.mem_of_getElem? (i := 154) rfl))) (mvT hZ (hw _ (List.mem_of_getElem? (i := 126) rfl))) (mvT hZ (hw _ (List.mem_of_getElem? (i := 155) rfl))) (by decide) (backOf (W := 0) (rmLoJ l Z a0 hw [] ((UB.getD qq 0)) h0 n0 Zn14 ) hZ (hw _ (List.mem_of_getElem? (i := 155) rfl)) (hw _ (List.mem_of_getElem? (i := 126) rfl)) (by decide) (by decide)) (g := (mkF m 112 #[.val (.ref x1), .val (.ref x2), .val (.int (Int32.ofNat nm)), .val (.int (Int32.ofNat qq)), .val (.int (UA.getD qq 0)), .val (.int (UB.getD qq 0)), .unset, .unset, .unset] [(.int (UB.getD qq 0))])) rfl (by rw [hml]; rfl) (argsL := [(.int (UB.getD qq 0))]) (rest := []) (lenOf own_pd_28C29Z rfl) rfl (by show 2 * 0 + _ ≤ _; exact Nat.le_of_eq rfl) (hb hby own_d5_112) (fun _ _ => ⟨rfl, eh13, (by decide : 0 + 0 ≤ _), (by decide : 0 + 0 ≤ _)⟩)
          dsimp only [Pt.U, Pt.locs, Pt.cells, Pt.slots] at X14 l14 y14 z14 st14 hQ14
          subst l14 y14 z14
          obtain ⟨rfl, Nq14, eh14⟩ := hQ14
          have N14 := Fr.app N13 Nq14
          refine own_go st14 ?_
          show own_Rn p e below _ (T14.setTop (mkF m 115 #[.val (.ref x1), .val (.ref x2), .val (.int (Int32.ofNat nm)), .val (.int (Int32.ofNat qq)), .val (.int (UA.getD qq 0)), .val (.int (UB.getD qq 0)), .unset, .unset, .unset] [(.int (if own_isLo (UB.getD qq 0) then (1 : Int32) else 0))]))
          by_cases hL2 : own_isLo (UB.getD qq 0)
          · skip
            rw [if_pos hL2]
            show own_Rn p e below _ (T14.setTop (mkF m 115 #[.val (.ref x1), .val (.ref x2), .val (.int (Int32.ofNat nm)), .val (.int (Int32.ofNat qq)), .val (.int (UA.getD qq 0)), .val (.int (UB.getD qq 0)), .unset, .unset, .unset] [(.int (1 : Int32))]))
            refine own_go (fun tq kq => XS.ifNo X14.here hx rfl (hb hby own_d5_115) rfl ((if0 _ _).trans (feq ((by decide : ¬ ((1 : Int32) = (0 : Int32))) : ¬ ((1 : Int32) = (0 : Int32)))).1) kq) ?_
            show own_Rn p e below _ (T14.setTop (mkF m 118 #[.val (.ref x1), .val (.ref x2), .val (.int (Int32.ofNat nm)), .val (.int (Int32.ofNat qq)), .val (.int (UA.getD qq 0)), .val (.int (UB.getD qq 0)), .unset, .unset, .unset] []))
            refine own_go (fun tq kq => XS.iconst X14.here hx rfl (hb hby own_d5_118) kq) ?_
            show own_Rn p e below _ (T14.setTop (mkF m 119 #[.val (.ref x1), .val (.ref x2), .val (.int (Int32.ofNat nm)), .val (.int (Int32.ofNat qq)), .val (.int (UA.getD qq 0)), .val (.int (UB.getD qq 0)), .unset, .unset, .unset] [(.int (1 : Int32))]))
            refine own_go (fun tq kq => XS.goto X14.here hx rfl (pc0 := 119) (pc' := 123) rfl (hb hby own_d5_119) (by decide) (by decide) kq) ?_
            show own_Rn p e below _ (T14.setTop (mkF m 123 #[.val (.ref x1), .val (.ref x2), .val (.int (Int32.ofNat nm)), .val (.int (Int32.ofNat qq)), .val (.int (UA.getD qq 0)), .val (.int (UB.getD qq 0)), .unset, .unset, .unset] [(.int (1 : Int32))]))
            refine own_go (fun tq kq => XS.istore X14.here hx rfl (hb hby own_d5_123) rfl (l' := #[.val (.ref x1), .val (.ref x2), .val (.int (Int32.ofNat nm)), .val (.int (Int32.ofNat qq)), .val (.int (UA.getD qq 0)), .val (.int (UB.getD qq 0)), .unset, .val (.int (1 : Int32)), .unset]) rfl kq) ?_
            show own_Rn p e below _ (T14.setTop (mkF m 125 #[.val (.ref x1), .val (.ref x2), .val (.int (Int32.ofNat nm)), .val (.int (Int32.ofNat qq)), .val (.int (UA.getD qq 0)), .val (.int (UB.getD qq 0)), .unset, .val (.int (1 : Int32)), .unset] []))
            refine own_go (fun tq kq => XS.iload X14.here hx rfl (hb hby own_d5_125) rfl kq) ?_
            show own_Rn p e below _ (T14.setTop (mkF m 127 #[.val (.ref x1), .val (.ref x2), .val (.int (Int32.ofNat nm)), .val (.int (Int32.ofNat qq)), .val (.int (UA.getD qq 0)), .val (.int (UB.getD qq 0)), .unset, .val (.int (1 : Int32)), .unset] [(.int (1 : Int32))]))
            refine own_go (fun tq kq => XS.ifNo X14.here hx rfl (hb hby own_d5_127) rfl ((if0 _ _).trans (feq ((by decide : ¬ ((1 : Int32) = (0 : Int32))) : ¬ ((1 : Int32) = (0 : Int32)))).1) kq) ?_
            show own_Rn p e below _ (T14.setTop (mkF m 130 #[.val (.ref x1), .val (.ref x2), .val (.int (Int32.ofNat nm)), .val (.int (Int32.ofNat qq)), .val (.int (UA.getD qq 0)), .val (.int (UB.getD qq 0)), .unset, .val (.int (1 : Int32)), .unset] []))
            refine own_go (fun tq kq => XS.iloadN X14.here hx rfl (hb hby own_d5_130) rfl kq) ?_
            show own_Rn p e below _ (T14.setTop (mkF m 131 #[.val (.ref x1), .val (.ref x2), .val (.int (Int32.ofNat nm)), .val (.int (Int32.ofNat qq)), .val (.int (UA.getD qq 0)), .val (.int (UB.getD qq 0)), .unset, .val (.int (1 : Int32)), .unset] [(.int (Int32.ofNat qq))]))
            refine own_go (fun tq kq => XS.iconst X14.here hx rfl (hb hby own_d5_131) kq) ?_
            show own_Rn p e below _ (T14.setTop (mkF m 132 #[.val (.ref x1), .val (.ref x2), .val (.int (Int32.ofNat nm)), .val (.int (Int32.ofNat qq)), .val (.int (UA.getD qq 0)), .val (.int (UB.getD qq 0)), .unset, .val (.int (1 : Int32)), .unset] [(.int (1 : Int32)), (.int (Int32.ofNat qq))]))
            refine own_go (fun tq kq => XS.isub X14.here hx rfl (hb hby own_d5_132) rfl kq) ?_
            show own_Rn p e below _ (T14.setTop (mkF m 133 #[.val (.ref x1), .val (.ref x2), .val (.int (Int32.ofNat nm)), .val (.int (Int32.ofNat qq)), .val (.int (UA.getD qq 0)), .val (.int (UB.getD qq 0)), .unset, .val (.int (1 : Int32)), .unset] [(.int ((Int32.ofNat qq) - (1 : Int32)))]))
            rw [show (Int32.ofNat qq - (1 : Int32)) = Int32.ofNat (qq - 1) by have h := dec_ofNat (qq - 1); rwa [show qq - 1 + 1 = qq by omega] at h]
            show own_Rn p e below _ (T14.setTop (mkF m 133 #[.val (.ref x1), .val (.ref x2), .val (.int (Int32.ofNat nm)), .val (.int (Int32.ofNat qq)), .val (.int (UA.getD qq 0)), .val (.int (UB.getD qq 0)), .unset, .val (.int (1 : Int32)), .unset] [(.int (Int32.ofNat (qq - 1)))]))
            refine own_go (fun tq kq => XS.goto X14.here hx rfl (pc0 := 133) (pc' := 137) rfl (hb hby own_d5_133) (by decide) (by decide) kq) ?_
            show own_Rn p e below _ (T14.setTop (mkF m 137 #[.val (.ref x1), .val (.ref x2), .val (.int (Int32.ofNat nm)), .val (.int (Int32.ofNat qq)), .val (.int (UA.getD qq 0)), .val (.int (UB.getD qq 0)), .unset, .val (.int (1 : Int32)), .unset] [(.int (Int32.ofNat (qq - 1)))]))
            refine own_go (fun tq kq => XS.istore X14.here hx rfl (hb hby own_d5_137) rfl (l' := #[.val (.ref x1), .val (.ref x2), .val (.int (Int32.ofNat nm)), .val (.int (Int32.ofNat qq)), .val (.int (UA.getD qq 0)), .val (.int (UB.getD qq 0)), .unset, .val (.int (1 : Int32)), .val (.int (Int32.ofNat (qq - 1)))]) rfl kq) ?_
            show own_Rn p e below _ (T14.setTop (mkF m 139 #[.val (.ref x1), .val (.ref x2), .val (.int (Int32.ofNat nm)), .val (.int (Int32.ofNat qq)), .val (.int (UA.getD qq 0)), .val (.int (UB.getD qq 0)), .unset, .val (.int (1 : Int32)), .val (.int (Int32.ofNat (qq - 1)))] []))
            exact J139 qq (qq - 1) _ _ _ (by omega) (by omega) (own_ans2 UA UB qq hqa hqb he hne (by omega) hH (Or.inr hL2)) X14 eh14 N14
          · skip
            rw [if_neg hL2]
            show own_Rn p e below _ (T14.setTop (mkF m 115 #[.val (.ref x1), .val (.ref x2), .val (.int (Int32.ofNat nm)), .val (.int (Int32.ofNat qq)), .val (.int (UA.getD qq 0)), .val (.int (UB.getD qq 0)), .unset, .unset, .unset] [(.int (0 : Int32))]))
            refine own_go (fun tq kq => XS.ifYes X14.here hx rfl (pc0 := 115) (pc' := 122) rfl (hb hby own_d5_115) rfl ((if0 _ _).trans (teq ((by decide : (0 : Int32) = (0 : Int32)) : (0 : Int32) = (0 : Int32))).1) (by decide) (by decide) kq) ?_
            show own_Rn p e below _ (T14.setTop (mkF m 122 #[.val (.ref x1), .val (.ref x2), .val (.int (Int32.ofNat nm)), .val (.int (Int32.ofNat qq)), .val (.int (UA.getD qq 0)), .val (.int (UB.getD qq 0)), .unset, .unset, .unset] []))
            refine own_go (fun tq kq => XS.iconst X14.here hx rfl (hb hby own_d5_122) kq) ?_
            show own_Rn p e below _ (T14.setTop (mkF m 123 #[.val (.ref x1), .val (.ref x2), .val (.int (Int32.ofNat nm)), .val (.int (Int32.ofNat qq)), .val (.int (UA.getD qq 0)), .val (.int (UB.getD qq 0)), .unset, .unset, .unset] [(.int (0 : Int32))]))
            refine own_go (fun tq kq => XS.istore X14.here hx rfl (hb hby own_d5_123) rfl (l' := #[.val (.ref x1), .val (.ref x2), .val (.int (Int32.ofNat nm)), .val (.int (Int32.ofNat qq)), .val (.int (UA.getD qq 0)), .val (.int (UB.getD qq 0)), .unset, .val (.int (0 : Int32)), .unset]) rfl kq) ?_
            show own_Rn p e below _ (T14.setTop (mkF m 125 #[.val (.ref x1), .val (.ref x2), .val (.int (Int32.ofNat nm)), .val (.int (Int32.ofNat qq)), .val (.int (UA.getD qq 0)), .val (.int (UB.getD qq 0)), .unset, .val (.int (0 : Int32)), .unset] []))
            refine own_go (fun tq kq => XS.iload X14.here hx rfl (hb hby own_d5_125) rfl kq) ?_
            show own_Rn p e below _ (T14.setTop (mkF m 127 #[.val (.ref x1), .val (.ref x2), .val (.int (Int32.ofNat nm)), .val (.int (Int32.ofNat qq)), .val (.int (UA.getD qq 0)), .val (.int (UB.getD qq 0)), .unset, .val (.int (0 : Int32)), .unset] [(.int (0 : Int32))]))
            refine own_go (fun tq kq => XS.ifYes X14.here hx rfl (pc0 := 127) (pc' := 136) rfl (hb hby own_d5_127) rfl ((if0 _ _).trans (teq ((by decide : (0 : Int32) = (0 : Int32)) : (0 : Int32) = (0 : Int32))).1) (by decide) (by decide) kq) ?_
            show own_Rn p e below _ (T14.setTop (mkF m 136 #[.val (.ref x1), .val (.ref x2), .val (.int (Int32.ofNat nm)), .val (.int (Int32.ofNat qq)), .val (.int (UA.getD qq 0)), .val (.int (UB.getD qq 0)), .unset, .val (.int (0 : Int32)), .unset] []))
            refine own_go (fun tq kq => XS.iloadN X14.here hx rfl (hb hby own_d5_136) rfl kq) ?_
            show own_Rn p e below _ (T14.setTop (mkF m 137 #[.val (.ref x1), .val (.ref x2), .val (.int (Int32.ofNat nm)), .val (.int (Int32.ofNat qq)), .val (.int (UA.getD qq 0)), .val (.int (UB.getD qq 0)), .unset, .val (.int (0 : Int32)), .unset] [(.int (Int32.ofNat qq))]))
            refine own_go (fun tq kq => XS.istore X14.here hx rfl (hb hby own_d5_137) rfl (l' := #[.val (.ref x1), .val (.ref x2), .val (.int (Int32.ofNat nm)), .val (.int (Int32.ofNat qq)), .val (.int (UA.getD qq 0)), .val (.int (UB.getD qq 0)), .unset, .val (.int (0 : Int32)), .val (.int (Int32.ofNat qq))]) rfl kq) ?_
            show own_Rn p e below _ (T14.setTop (mkF m 139 #[.val (.ref x1), .val (.ref x2), .val (.int (Int32.ofNat nm)), .val (.int (Int32.ofNat qq)), .val (.int (UA.getD qq 0)), .val (.int (UB.getD qq 0)), .unset, .val (.int (0 : Int32)), .val (.int (Int32.ofNat qq))] []))
            exact J139 qq qq _ _ _ hqa hqb (own_ans1 UA UB qq hrUA hrUB hqa hqb he hne (Or.inr (fun g => g.2.elim hL1 hL2))) X14 eh14 N14
      · skip
        rw [if_neg hH]
        show own_Rn p e below _ (T12.setTop (mkF m 99 #[.val (.ref x1), .val (.ref x2), .val (.int (Int32.ofNat nm)), .val (.int (Int32.ofNat qq)), .val (.int (UA.getD qq 0)), .val (.int (UB.getD qq 0)), .unset, .unset, .unset] [(.int (0 : Int32))]))
        refine own_go (fun tq kq => XS.ifYes X12.here hx rfl (pc0 := 99) (pc' := 122) rfl (hb hby own_d5_99) rfl ((if0 _ _).trans (teq ((by decide : (0 : Int32) = (0 : Int32)) : (0 : Int32) = (0 : Int32))).1) (by decide) (by decide) kq) ?_
        show own_Rn p e below _ (T12.setTop (mkF m 122 #[.val (.ref x1), .val (.ref x2), .val (.int (Int32.ofNat nm)), .val (.int (Int32.ofNat qq)), .val (.int (UA.getD qq 0)), .val (.int (UB.getD qq 0)), .unset, .unset, .unset] []))
        refine own_go (fun tq kq => XS.iconst X12.here hx rfl (hb hby own_d5_122) kq) ?_
        show own_Rn p e below _ (T12.setTop (mkF m 123 #[.val (.ref x1), .val (.ref x2), .val (.int (Int32.ofNat nm)), .val (.int (Int32.ofNat qq)), .val (.int (UA.getD qq 0)), .val (.int (UB.getD qq 0)), .unset, .unset, .unset] [(.int (0 : Int32))]))
        refine own_go (fun tq kq => XS.istore X12.here hx rfl (hb hby own_d5_123) rfl (l' := #[.val (.ref x1), .val (.ref x2), .val (.int (Int32.ofNat nm)), .val (.int (Int32.ofNat qq)), .val (.int (UA.getD qq 0)), .val (.int (UB.getD qq 0)), .unset, .val (.int (0 : Int32)), .unset]) rfl kq) ?_
        show own_Rn p e below _ (T12.setTop (mkF m 125 #[.val (.ref x1), .val (.ref x2), .val (.int (Int32.ofNat nm)), .val (.int (Int32.ofNat qq)), .val (.int (UA.getD qq 0)), .val (.int (UB.getD qq 0)), .unset, .val (.int (0 : Int32)), .unset] []))
        refine own_go (fun tq kq => XS.iload X12.here hx rfl (hb hby own_d5_125) rfl kq) ?_
        show own_Rn p e below _ (T12.setTop (mkF m 127 #[.val (.ref x1), .val (.ref x2), .val (.int (Int32.ofNat nm)), .val (.int (Int32.ofNat qq)), .val (.int (UA.getD qq 0)), .val (.int (UB.getD qq 0)), .unset, .val (.int (0 : Int32)), .unset] [(.int (0 : Int32))]))
        refine own_go (fun tq kq => XS.ifYes X12.here hx rfl (pc0 := 127) (pc' := 136) rfl (hb hby own_d5_127) rfl ((if0 _ _).trans (teq ((by decide : (0 : Int32) = (0 : Int32)) : (0 : Int32) = (0 : Int32))).1) (by decide) (by decide) kq) ?_
        show own_Rn p e below _ (T12.setTop (mkF m 136 #[.val (.ref x1), .val (.ref x2), .val (.int (Int32.ofNat nm)), .val (.int (Int32.ofNat qq)), .val (.int (UA.getD qq 0)), .val (.int (UB.getD qq 0)), .unset, .val (.int (0 : Int32)), .unset] []))
        refine own_go (fun tq kq => XS.iloadN X12.here hx rfl (hb hby own_d5_136) rfl kq) ?_
        show own_Rn p e below _ (T12.setTop (mkF m 137 #[.val (.ref x1), .val (.ref x2), .val (.int (Int32.ofNat nm)), .val (.int (Int32.ofNat qq)), .val (.int (UA.getD qq 0)), .val (.int (UB.getD qq 0)), .unset, .val (.int (0 : Int32)), .unset] [(.int (Int32.ofNat qq))]))
        refine own_go (fun tq kq => XS.istore X12.here hx rfl (hb hby own_d5_137) rfl (l' := #[.val (.ref x1), .val (.ref x2), .val (.int (Int32.ofNat nm)), .val (.int (Int32.ofNat qq)), .val (.int (UA.getD qq 0)), .val (.int (UB.getD qq 0)), .unset, .val (.int (0 : Int32)), .val (.int (Int32.ofNat qq))]) rfl kq) ?_
        show own_Rn p e below _ (T12.setTop (mkF m 139 #[.val (.ref x1), .val (.ref x2), .val (.int (Int32.ofNat nm)), .val (.int (Int32.ofNat qq)), .val (.int (UA.getD qq 0)), .val (.int (UB.getD qq 0)), .unset, .val (.int (0 : Int32)), .val (.int (Int32.ofNat qq))] []))
        exact J139 qq qq _ _ _ hqa hqb (own_ans1 UA UB qq hrUA hrUB hqa hqb he hne (Or.inr (fun g => hH g.1))) X12 eh12 N12
    · skip
      refine own_go (fun tq kq => XS.ifYes Xl.here hx rfl (pc0 := 86) (pc' := 122) rfl (hb hby own_d5_86) rfl ((if0 _ _).trans (flt (own_ofNat_nlt (K := qq) (q := 0) h0q (by decide) : ¬ ((0 : Int32) < (Int32.ofNat qq)))).2.2.2) (by decide) (by decide) kq) ?_
      show own_Rn p e below _ (Tl.setTop (mkF m 122 #[.val (.ref x1), .val (.ref x2), .val (.int (Int32.ofNat nm)), .val (.int (Int32.ofNat qq)), .val (.int (UA.getD qq 0)), .val (.int (UB.getD qq 0)), .unset, .unset, .unset] []))
      refine own_go (fun tq kq => XS.iconst Xl.here hx rfl (hb hby own_d5_122) kq) ?_
      show own_Rn p e below _ (Tl.setTop (mkF m 123 #[.val (.ref x1), .val (.ref x2), .val (.int (Int32.ofNat nm)), .val (.int (Int32.ofNat qq)), .val (.int (UA.getD qq 0)), .val (.int (UB.getD qq 0)), .unset, .unset, .unset] [(.int (0 : Int32))]))
      refine own_go (fun tq kq => XS.istore Xl.here hx rfl (hb hby own_d5_123) rfl (l' := #[.val (.ref x1), .val (.ref x2), .val (.int (Int32.ofNat nm)), .val (.int (Int32.ofNat qq)), .val (.int (UA.getD qq 0)), .val (.int (UB.getD qq 0)), .unset, .val (.int (0 : Int32)), .unset]) rfl kq) ?_
      show own_Rn p e below _ (Tl.setTop (mkF m 125 #[.val (.ref x1), .val (.ref x2), .val (.int (Int32.ofNat nm)), .val (.int (Int32.ofNat qq)), .val (.int (UA.getD qq 0)), .val (.int (UB.getD qq 0)), .unset, .val (.int (0 : Int32)), .unset] []))
      refine own_go (fun tq kq => XS.iload Xl.here hx rfl (hb hby own_d5_125) rfl kq) ?_
      show own_Rn p e below _ (Tl.setTop (mkF m 127 #[.val (.ref x1), .val (.ref x2), .val (.int (Int32.ofNat nm)), .val (.int (Int32.ofNat qq)), .val (.int (UA.getD qq 0)), .val (.int (UB.getD qq 0)), .unset, .val (.int (0 : Int32)), .unset] [(.int (0 : Int32))]))
      refine own_go (fun tq kq => XS.ifYes Xl.here hx rfl (pc0 := 127) (pc' := 136) rfl (hb hby own_d5_127) rfl ((if0 _ _).trans (teq ((by decide : (0 : Int32) = (0 : Int32)) : (0 : Int32) = (0 : Int32))).1) (by decide) (by decide) kq) ?_
      show own_Rn p e below _ (Tl.setTop (mkF m 136 #[.val (.ref x1), .val (.ref x2), .val (.int (Int32.ofNat nm)), .val (.int (Int32.ofNat qq)), .val (.int (UA.getD qq 0)), .val (.int (UB.getD qq 0)), .unset, .val (.int (0 : Int32)), .unset] []))
      refine own_go (fun tq kq => XS.iloadN Xl.here hx rfl (hb hby own_d5_136) rfl kq) ?_
      show own_Rn p e below _ (Tl.setTop (mkF m 137 #[.val (.ref x1), .val (.ref x2), .val (.int (Int32.ofNat nm)), .val (.int (Int32.ofNat qq)), .val (.int (UA.getD qq 0)), .val (.int (UB.getD qq 0)), .unset, .val (.int (0 : Int32)), .unset] [(.int (Int32.ofNat qq))]))
      refine own_go (fun tq kq => XS.istore Xl.here hx rfl (hb hby own_d5_137) rfl (l' := #[.val (.ref x1), .val (.ref x2), .val (.int (Int32.ofNat nm)), .val (.int (Int32.ofNat qq)), .val (.int (UA.getD qq 0)), .val (.int (UB.getD qq 0)), .unset, .val (.int (0 : Int32)), .val (.int (Int32.ofNat qq))]) rfl kq) ?_
      show own_Rn p e below _ (Tl.setTop (mkF m 139 #[.val (.ref x1), .val (.ref x2), .val (.int (Int32.ofNat nm)), .val (.int (Int32.ofNat qq)), .val (.int (UA.getD qq 0)), .val (.int (UB.getD qq 0)), .unset, .val (.int (0 : Int32)), .val (.int (Int32.ofNat qq))] []))
      exact J139 qq qq _ _ _ hqa hqb (own_ans1 UA UB qq hrUA hrUB hqa hqb he hne (Or.inl (by omega))) Xl el Nl
  have J38 : ∀ (qq : Nat) (Tl : State) (ls : List Loc), qq ≤ nm → (own_il UA).take qq = (own_il UB).take qq → (qq < nm → ¬ (UA.getD qq 0) = (UB.getD qq 0)) → Stand p l e ({ frames := 5, cells := 0, slots := 0, locals := 67 } : Room) s m #[(.ref x1), (.ref x2)] below meth c Tl ls 0 0 → Tl.heap = h0 → Fr n0 ls → own_Rn p e below (fun o U' => ∃ v L, o = .returned v ∧ Q_rmCmp Z x1 t1 k1 N1 v1 d1 UA x2 t2 k2 N2 v2 d2 UB G1 G3 h0 n0 v U'.heap L ∧ FrameEnd s o U' L ({ frames := 5, cells := 0, slots := 0, locals := 67 } : Room).cells ({ frames := 5, cells := 0, slots := 0, locals := 67 } : Room).slots) (Tl.setTop (mkF m 38 #[.val (.ref x1), .val (.ref x2), .val (.int (Int32.ofNat nm)), .val (.int (Int32.ofNat qq)), .unset, .unset, .unset, .unset, .unset] [])) := by
    intro qq Tl ls hq he hne Xl el Nl
    refine own_go (fun tq kq => XS.iloadN Xl.here hx rfl (hb hby own_d5_38) rfl kq) ?_
    show own_Rn p e below _ (Tl.setTop (mkF m 39 #[.val (.ref x1), .val (.ref x2), .val (.int (Int32.ofNat nm)), .val (.int (Int32.ofNat qq)), .unset, .unset, .unset, .unset, .unset] [(.int (Int32.ofNat qq))]))
    refine own_go (fun tq kq => XS.iloadN Xl.here hx rfl (hb hby own_d5_39) rfl kq) ?_
    show own_Rn p e below _ (Tl.setTop (mkF m 40 #[.val (.ref x1), .val (.ref x2), .val (.int (Int32.ofNat nm)), .val (.int (Int32.ofNat qq)), .unset, .unset, .unset, .unset, .unset] [(.int (Int32.ofNat nm)), (.int (Int32.ofNat qq))]))
    by_cases hqm : qq = nm
    · skip
      refine own_go (fun tq kq => XS.icmpNo Xl.here hx rfl (hb hby own_d5_40) rfl (teq (congrArg Int32.ofNat hqm : (Int32.ofNat qq) = (Int32.ofNat nm))).2 kq) ?_
      show own_Rn p e below _ (Tl.setTop (mkF m 43 #[.val (.ref x1), .val (.ref x2), .val (.int (Int32.ofNat nm)), .val (.int (Int32.ofNat qq)), .unset, .unset, .unset, .unset, .unset] []))
      refine own_go (fun tq kq => XS.aloadN Xl.here hx rfl (hb hby own_d5_43) rfl rfl kq) ?_
      show own_Rn p e below _ (Tl.setTop (mkF m 44 #[.val (.ref x1), .val (.ref x2), .val (.int (Int32.ofNat nm)), .val (.int (Int32.ofNat qq)), .unset, .unset, .unset, .unset, .unset] [(.ref x1)]))
      have Zn15 : n0 ≤ h0.size := by omega
      obtain ⟨cq15, kq15, qa15, qb15, qc15⟩ := isOf hZ el Pm0
      obtain ⟨rv15, _, ⟨T15, L15, k15, n15⟩, -, X15, ⟨Lc15, hQ15, l15, y15, z15⟩, st15⟩ := Xl.virtualBack hx (y := (⟨"java/lang/String", "length", "()I"⟩ : MethodName)) (z := (⟨"java/lang/String", "length", "()I"⟩ : MethodName)) hown (mvT hZ (hw _ (List.mem_of_getElem? (i := 40) rfl))) (mvT hZ (hw _ (List.mem_of_getElem? (i := 41) rfl))) (notFace_of_selects (args := #[]) (mvT hZ (hw _ (List.mem_of_getElem? (i := 43) rfl)))) (mvT hZ (hw _ (List.mem_of_getElem? (i := 43) rfl))) (mvT hZ (hw _ (List.mem_of_getElem? (i := 42) rfl))) (by decide) (backOf (W := 0) (rmLe l Z a0 hw [] (x1) (t1) (k1) (N1) (v1) (d1) (UA) (G1) h0 n0 Zn15 Pm0 Pm1 Pm2 Pm3 (RLUA) (hnUA) (hrUA) (O2) (P5) X00) hZ (hw _ (List.mem_of_getElem? (i := 44) rfl)) (hw _ (List.mem_of_getElem? (i := 17) rfl)) (by decide) (by decide)) qa15 qc15 (g := (mkF m 44 #[.val (.ref x1), .val (.ref x2), .val (.int (Int32.ofNat nm)), .val (.int (Int32.ofNat qq)), .unset, .unset, .unset, .unset, .unset] [(.ref x1)])) rfl (by rw [hml]; rfl) (Steps.refl _) (argsL := []) (rest := []) (lenOf own_pd_2829I rfl) rfl (by show 2 * 0 + _ ≤ _; exact Nat.le_of_eq rfl) (hb hby own_d5_44) (fun _ _ => ⟨rfl, el, (by decide : 0 + 0 ≤ _), (by decide : 0 + 0 ≤ _)⟩)
      dsimp only [Pt.U, Pt.locs, Pt.cells, Pt.slots] at X15 l15 y15 z15 st15 hQ15
      subst l15 y15 z15
      obtain ⟨rfl, Nq15, eh15⟩ := hQ15
      have N15 := Fr.app Nl Nq15
      refine own_go (fun tq kq => st15.trans kq) ?_
      show own_Rn p e below _ (T15.setTop (mkF m 47 #[.val (.ref x1), .val (.ref x2), .val (.int (Int32.ofNat nm)), .val (.int (Int32.ofNat qq)), .unset, .unset, .unset, .unset, .unset] [(.int (Int32.ofNat UA.length))]))
      refine own_go (fun tq kq => XS.aloadN X15.here hx rfl (hb hby own_d5_47) rfl rfl kq) ?_
      show own_Rn p e below _ (T15.setTop (mkF m 48 #[.val (.ref x1), .val (.ref x2), .val (.int (Int32.ofNat nm)), .val (.int (Int32.ofNat qq)), .unset, .unset, .unset, .unset, .unset] [(.ref x2), (.int (Int32.ofNat UA.length))]))
      have Zn16 : n0 ≤ h0.size := by omega
      obtain ⟨cq16, kq16, qa16, qb16, qc16⟩ := isOf hZ eh15 Pm7
      obtain ⟨rv16, _, ⟨T16, L16, k16, n16⟩, -, X16, ⟨Lc16, hQ16, l16, y16, z16⟩, st16⟩ := X15.virtualBack hx (y := (⟨"java/lang/String", "length", "()I"⟩ : MethodName)) (z := (⟨"java/lang/String", "length", "()I"⟩ : MethodName)) hown (mvT hZ (hw _ (List.mem_of_getElem? (i := 40) rfl))) (mvT hZ (hw _ (List.mem_of_getElem? (i := 41) rfl))) (notFace_of_selects (args := #[]) (mvT hZ (hw _ (List.mem_of_getElem? (i := 43) rfl)))) (mvT hZ (hw _ (List.mem_of_getElem? (i := 43) rfl))) (mvT hZ (hw _ (List.mem_of_getElem? (i := 42) rfl))) (by decide) (backOf (W := 1) (rmLe l Z a0 hw [] (x2) (t2) (k2) (N2) (v2) (d2) (UB) (G1) h0 n0 Zn16 Pm7 Pm8 Pm9 Pm10 (RLUB) (hnUB) (hrUB) (O2) (P5) X00) hZ (hw _ (List.mem_of_getElem? (i := 44) rfl)) (hw _ (List.mem_of_getElem? (i := 17) rfl)) (by decide) (by decide)) qa16 qc16 (g := (mkF m 48 #[.val (.ref x1), .val (.ref x2), .val (.int (Int32.ofNat nm)), .val (.int (Int32.ofNat qq)), .unset, .unset, .unset, .unset, .unset] [(.ref x2), (.int (Int32.ofNat UA.length))])) rfl (by rw [hml]; rfl) (Steps.refl _) (argsL := []) (rest := [(.int (Int32.ofNat UA.length))]) (lenOf own_pd_2829I rfl) rfl (by show 2 * 0 + _ ≤ _; exact Nat.le_of_eq rfl) (hb hby own_d5_48) (fun _ _ => ⟨rfl, eh15, (by decide : 0 + 0 ≤ _), (by decide : 0 + 0 ≤ _)⟩)
      dsimp only [Pt.U, Pt.locs, Pt.cells, Pt.slots] at X16 l16 y16 z16 st16 hQ16
      subst l16 y16 z16
      obtain ⟨rfl, Nq16, eh16⟩ := hQ16
      have N16 := Fr.app N15 Nq16
      refine own_go (fun tq kq => st16.trans kq) ?_
      show own_Rn p e below _ (T16.setTop (mkF m 51 #[.val (.ref x1), .val (.ref x2), .val (.int (Int32.ofNat nm)), .val (.int (Int32.ofNat qq)), .unset, .unset, .unset, .unset, .unset] [(.int (Int32.ofNat UB.length)), (.int (Int32.ofNat UA.length))]))
      have Zn17 : n0 ≤ h0.size := by omega
      obtain ⟨rv17, _, ⟨T17, L17, k17, n17⟩, -, X17, ⟨Lc17, hQ17, l17, y17, z17⟩, st17⟩ := Jvm.LawKit.callS X16 hx (y := (⟨"java/lang/Integer", "compare", "(II)I"⟩ : MethodName)) hown (mvT hZ (hw _ (List.mem_of_getElem? (i := 55) rfl))) (mvT hZ (hw _ (List.mem_of_getElem? (i := 56) rfl))) (mvT hZ (hw _ (List.mem_of_getElem? (i := 57) rfl))) (mvT hZ (hw _ (List.mem_of_getElem? (i := 58) rfl))) (by decide) (backOf (W := 0) (rmICM l Z a0 hw [] ((Int32.ofNat UA.length)) ((Int32.ofNat UB.length)) h0 n0 Zn17 ) hZ (hw _ (List.mem_of_getElem? (i := 58) rfl)) (hw _ (List.mem_of_getElem? (i := 57) rfl)) (by decide) (by decide)) (g := (mkF m 51 #[.val (.ref x1), .val (.ref x2), .val (.int (Int32.ofNat nm)), .val (.int (Int32.ofNat qq)), .unset, .unset, .unset, .unset, .unset] [(.int (Int32.ofNat UB.length)), (.int (Int32.ofNat UA.length))])) rfl (by rw [hml]; rfl) (argsL := [(.int (Int32.ofNat UA.length)), (.int (Int32.ofNat UB.length))]) (rest := []) (lenOf own_pd_28II29I rfl) rfl (by show 2 * 0 + _ ≤ _; exact Nat.le_of_eq rfl) (hb hby own_d5_51) (fun _ _ => ⟨rfl, eh16, (by decide : 0 + 0 ≤ _), (by decide : 0 + 0 ≤ _)⟩)
      dsimp only [Pt.U, Pt.locs, Pt.cells, Pt.slots] at X17 l17 y17 z17 st17 hQ17
      subst l17 y17 z17
      obtain ⟨rfl, Nq17, eh17⟩ := hQ17
      have N17 := Fr.app N16 Nq17
      refine own_go st17 ?_
      show own_Rn p e below _ (T17.setTop (mkF m 54 #[.val (.ref x1), .val (.ref x2), .val (.int (Int32.ofNat nm)), .val (.int (Int32.ofNat qq)), .unset, .unset, .unset, .unset, .unset] [(.int (own_icmp (Int32.ofNat UA.length) (Int32.ofNat UB.length)))]))
      exact own_ret X17 (v := some (.int (own_icmp (Int32.ofNat UA.length) (Int32.ofNat UB.length)))) (fun h => by rw [Bd.returns] at h; cases h) (fun fs hr => retI X17 hx Bd.returns (hb hby own_d5_54) hr) (by rw [eh17]; exact ⟨(own_icmp (Int32.ofNat UA.length) (Int32.ofNat UB.length)), rfl, N17, rfl, by rw [own_icmp_sg, Int32.toInt_ofNat_small (by omega), Int32.toInt_ofNat_small (by omega)]; exact own_ans3 UA UB qq hrUA hrUB he (by omega) (by omega) (by omega)⟩) (by decide) (by decide)
    · skip
      refine own_go (fun tq kq => XS.icmpYes Xl.here hx rfl (pc0 := 40) (pc' := 55) rfl (hb hby own_d5_40) rfl (feq (fun h => hqm (own_ofNat_inj h (by omega) (by omega)) : ¬ ((Int32.ofNat qq) = (Int32.ofNat nm)))).2 (by decide) (by decide) kq) ?_
      show own_Rn p e below _ (Tl.setTop (mkF m 55 #[.val (.ref x1), .val (.ref x2), .val (.int (Int32.ofNat nm)), .val (.int (Int32.ofNat qq)), .unset, .unset, .unset, .unset, .unset] []))
      have hql : qq < nm := by omega
      obtain ⟨hqa, hqb⟩ := hq3 qq hql
      have hne := hne hql
      refine own_go (fun tq kq => XS.aloadN Xl.here hx rfl (hb hby own_d5_55) rfl rfl kq) ?_
      show own_Rn p e below _ (Tl.setTop (mkF m 56 #[.val (.ref x1), .val (.ref x2), .val (.int (Int32.ofNat nm)), .val (.int (Int32.ofNat qq)), .unset, .unset, .unset, .unset, .unset] [(.ref x1)]))
      refine own_go (fun tq kq => XS.iloadN Xl.here hx rfl (hb hby own_d5_56) rfl kq) ?_
      show own_Rn p e below _ (Tl.setTop (mkF m 57 #[.val (.ref x1), .val (.ref x2), .val (.int (Int32.ofNat nm)), .val (.int (Int32.ofNat qq)), .unset, .unset, .unset, .unset, .unset] [(.int (Int32.ofNat qq)), (.ref x1)]))
      have Zn18 : n0 ≤ h0.size := by omega
      obtain ⟨cq18, kq18, qa18, qb18, qc18⟩ := isOf hZ el Pm0
      obtain ⟨rv18, _, ⟨T18, L18, k18, n18⟩, -, X18, ⟨Lc18, hQ18, l18, y18, z18⟩, st18⟩ := Xl.virtualBack hx (y := (⟨"java/lang/String", "charAt", "(I)C"⟩ : MethodName)) (z := (⟨"java/lang/String", "charAt", "(I)C"⟩ : MethodName)) hown (mvT hZ (hw _ (List.mem_of_getElem? (i := 97) rfl))) (mvT hZ (hw _ (List.mem_of_getElem? (i := 98) rfl))) (notFace_of_selects (args := #[]) (mvT hZ (hw _ (List.mem_of_getElem? (i := 100) rfl)))) (mvT hZ (hw _ (List.mem_of_getElem? (i := 100) rfl))) (mvT hZ (hw _ (List.mem_of_getElem? (i := 99) rfl))) (by decide) (backOf (W := 0) (rmCha l Z a0 hw [] (x1) (t1) (k1) (N1) (v1) (d1) (UA) (G1) (qq) (G3) h0 n0 Zn18 Pm0 Pm1 Pm2 Pm3 (RLUA) (hnUA) (hrUA) (hqa) (OAD) (OHI) (OLO) (O4) (hG3) (O2) (P5) X00) hZ (hw _ (List.mem_of_getElem? (i := 101) rfl)) (hw _ (List.mem_of_getElem? (i := 17) rfl)) (by decide) (by decide)) qa18 qc18 (g := (mkF m 57 #[.val (.ref x1), .val (.ref x2), .val (.int (Int32.ofNat nm)), .val (.int (Int32.ofNat qq)), .unset, .unset, .unset, .unset, .unset] [(.int (Int32.ofNat qq)), (.ref x1)])) rfl (by rw [hml]; rfl) (Steps.refl _) (argsL := [(.int (Int32.ofNat qq))]) (rest := []) (lenOf own_pd_28I29C rfl) rfl (by show 2 * 0 + _ ≤ _; exact Nat.le_of_eq rfl) (hb hby own_d5_57) (fun _ _ => ⟨rfl, el, (by decide : 0 + 0 ≤ _), (by decide : 0 + 0 ≤ _)⟩)
      dsimp only [Pt.U, Pt.locs, Pt.cells, Pt.slots] at X18 l18 y18 z18 st18 hQ18
      subst l18 y18 z18
      obtain ⟨rfl, Nq18, eh18⟩ := hQ18
      have N18 := Fr.app Nl Nq18
      refine own_go (fun tq kq => st18.trans kq) ?_
      show own_Rn p e below _ (T18.setTop (mkF m 60 #[.val (.ref x1), .val (.ref x2), .val (.int (Int32.ofNat nm)), .val (.int (Int32.ofNat qq)), .unset, .unset, .unset, .unset, .unset] [(.int (UA.getD qq 0))]))
      refine own_go (fun tq kq => XS.istore X18.here hx rfl (hb hby own_d5_60) rfl (l' := #[.val (.ref x1), .val (.ref x2), .val (.int (Int32.ofNat nm)), .val (.int (Int32.ofNat qq)), .val (.int (UA.getD qq 0)), .unset, .unset, .unset, .unset]) rfl kq) ?_
      show own_Rn p e below _ (T18.setTop (mkF m 62 #[.val (.ref x1), .val (.ref x2), .val (.int (Int32.ofNat nm)), .val (.int (Int32.ofNat qq)), .val (.int (UA.getD qq 0)), .unset, .unset, .unset, .unset] []))
      refine own_go (fun tq kq => XS.aloadN X18.here hx rfl (hb hby own_d5_62) rfl rfl kq) ?_
      show own_Rn p e below _ (T18.setTop (mkF m 63 #[.val (.ref x1), .val (.ref x2), .val (.int (Int32.ofNat nm)), .val (.int (Int32.ofNat qq)), .val (.int (UA.getD qq 0)), .unset, .unset, .unset, .unset] [(.ref x2)]))
      refine own_go (fun tq kq => XS.iloadN X18.here hx rfl (hb hby own_d5_63) rfl kq) ?_
      show own_Rn p e below _ (T18.setTop (mkF m 64 #[.val (.ref x1), .val (.ref x2), .val (.int (Int32.ofNat nm)), .val (.int (Int32.ofNat qq)), .val (.int (UA.getD qq 0)), .unset, .unset, .unset, .unset] [(.int (Int32.ofNat qq)), (.ref x2)]))
      have Zn19 : n0 ≤ h0.size := by omega
      obtain ⟨cq19, kq19, qa19, qb19, qc19⟩ := isOf hZ eh18 Pm7
      obtain ⟨rv19, _, ⟨T19, L19, k19, n19⟩, -, X19, ⟨Lc19, hQ19, l19, y19, z19⟩, st19⟩ := X18.virtualBack hx (y := (⟨"java/lang/String", "charAt", "(I)C"⟩ : MethodName)) (z := (⟨"java/lang/String", "charAt", "(I)C"⟩ : MethodName)) hown (mvT hZ (hw _ (List.mem_of_getElem? (i := 97) rfl))) (mvT hZ (hw _ (List.mem_of_getElem? (i := 98) rfl))) (notFace_of_selects (args := #[]) (mvT hZ (hw _ (List.mem_of_getElem? (i := 100) rfl)))) (mvT hZ (hw _ (List.mem_of_getElem? (i := 100) rfl))) (mvT hZ (hw _ (List.mem_of_getElem? (i := 99) rfl))) (by decide) (backOf (W := 0) (rmCha l Z a0 hw [] (x2) (t2) (k2) (N2) (v2) (d2) (UB) (G1) (qq) (G3) h0 n0 Zn19 Pm7 Pm8 Pm9 Pm10 (RLUB) (hnUB) (hrUB) (hqb) (OAD) (OHI) (OLO) (O4) (hG3) (O2) (P5) X00) hZ (hw _ (List.mem_of_getElem? (i := 101) rfl)) (hw _ (List.mem_of_getElem? (i := 17) rfl)) (by decide) (by decide)) qa19 qc19 (g := (mkF m 64 #[.val (.ref x1), .val (.ref x2), .val (.int (Int32.ofNat nm)), .val (.int (Int32.ofNat qq)), .val (.int (UA.getD qq 0)), .unset, .unset, .unset, .unset] [(.int (Int32.ofNat qq)), (.ref x2)])) rfl (by rw [hml]; rfl) (Steps.refl _) (argsL := [(.int (Int32.ofNat qq))]) (rest := []) (lenOf own_pd_28I29C rfl) rfl (by show 2 * 0 + _ ≤ _; exact Nat.le_of_eq rfl) (hb hby own_d5_64) (fun _ _ => ⟨rfl, eh18, (by decide : 0 + 0 ≤ _), (by decide : 0 + 0 ≤ _)⟩)
      dsimp only [Pt.U, Pt.locs, Pt.cells, Pt.slots] at X19 l19 y19 z19 st19 hQ19
      subst l19 y19 z19
      obtain ⟨rfl, Nq19, eh19⟩ := hQ19
      have N19 := Fr.app N18 Nq19
      refine own_go (fun tq kq => st19.trans kq) ?_
      show own_Rn p e below _ (T19.setTop (mkF m 67 #[.val (.ref x1), .val (.ref x2), .val (.int (Int32.ofNat nm)), .val (.int (Int32.ofNat qq)), .val (.int (UA.getD qq 0)), .unset, .unset, .unset, .unset] [(.int (UB.getD qq 0))]))
      refine own_go (fun tq kq => XS.istore X19.here hx rfl (hb hby own_d5_67) rfl (l' := #[.val (.ref x1), .val (.ref x2), .val (.int (Int32.ofNat nm)), .val (.int (Int32.ofNat qq)), .val (.int (UA.getD qq 0)), .val (.int (UB.getD qq 0)), .unset, .unset, .unset]) rfl kq) ?_
      show own_Rn p e below _ (T19.setTop (mkF m 69 #[.val (.ref x1), .val (.ref x2), .val (.int (Int32.ofNat nm)), .val (.int (Int32.ofNat qq)), .val (.int (UA.getD qq 0)), .val (.int (UB.getD qq 0)), .unset, .unset, .unset] []))
      refine own_go (fun tq kq => XS.iload X19.here hx rfl (hb hby own_d5_69) rfl kq) ?_
      show own_Rn p e below _ (T19.setTop (mkF m 71 #[.val (.ref x1), .val (.ref x2), .val (.int (Int32.ofNat nm)), .val (.int (Int32.ofNat qq)), .val (.int (UA.getD qq 0)), .val (.int (UB.getD qq 0)), .unset, .unset, .unset] [(.int (UA.getD qq 0))]))
      have Zn20 : n0 ≤ h0.size := by omega
      obtain ⟨rv20, _, ⟨T20, L20, k20, n20⟩, -, X20, ⟨Lc20, hQ20, l20, y20, z20⟩, st20⟩ := Jvm.LawKit.callS X19 hx (y := (⟨"java/lang/Character", "isSurrogate", "(C)Z"⟩ : MethodName)) hown (mvT hZ (hw _ (List.mem_of_getElem? (i := 124) rfl))) (mvT hZ (hw _ (List.mem_of_getElem? (i := 125) rfl))) (mvT hZ (hw _ (List.mem_of_getElem? (i := 126) rfl))) (mvT hZ (hw _ (List.mem_of_getElem? (i := 127) rfl))) (by decide) (backOf (W := 0) (rmSuJ l Z a0 hw [] ((UA.getD qq 0)) h0 n0 Zn20 ) hZ (hw _ (List.mem_of_getElem? (i := 127) rfl)) (hw _ (List.mem_of_getElem? (i := 126) rfl)) (by decide) (by decide)) (g := (mkF m 71 #[.val (.ref x1), .val (.ref x2), .val (.int (Int32.ofNat nm)), .val (.int (Int32.ofNat qq)), .val (.int (UA.getD qq 0)), .val (.int (UB.getD qq 0)), .unset, .unset, .unset] [(.int (UA.getD qq 0))])) rfl (by rw [hml]; rfl) (argsL := [(.int (UA.getD qq 0))]) (rest := []) (lenOf own_pd_28C29Z rfl) rfl (by show 2 * 0 + _ ≤ _; exact Nat.le_of_eq rfl) (hb hby own_d5_71) (fun _ _ => ⟨rfl, eh19, (by decide : 0 + 0 ≤ _), (by decide : 0 + 0 ≤ _)⟩)
      dsimp only [Pt.U, Pt.locs, Pt.cells, Pt.slots] at X20 l20 y20 z20 st20 hQ20
      subst l20 y20 z20
      obtain ⟨rfl, Nq20, eh20⟩ := hQ20
      have N20 := Fr.app N19 Nq20
      refine own_go st20 ?_
      show own_Rn p e below _ (T20.setTop (mkF m 74 #[.val (.ref x1), .val (.ref x2), .val (.int (Int32.ofNat nm)), .val (.int (Int32.ofNat qq)), .val (.int (UA.getD qq 0)), .val (.int (UB.getD qq 0)), .unset, .unset, .unset] [(.int (if own_isSur (UA.getD qq 0) then (1 : Int32) else 0))]))
      by_cases hSa : own_isSur (UA.getD qq 0)
      · skip
        rw [if_pos hSa]
        show own_Rn p e below _ (T20.setTop (mkF m 74 #[.val (.ref x1), .val (.ref x2), .val (.int (Int32.ofNat nm)), .val (.int (Int32.ofNat qq)), .val (.int (UA.getD qq 0)), .val (.int (UB.getD qq 0)), .unset, .unset, .unset] [(.int (1 : Int32))]))
        refine own_go (fun tq kq => XS.ifYes X20.here hx rfl (pc0 := 74) (pc' := 85) rfl (hb hby own_d5_74) rfl ((if0 _ _).trans (feq ((by decide : ¬ ((1 : Int32) = (0 : Int32))) : ¬ ((1 : Int32) = (0 : Int32)))).2) (by decide) (by decide) kq) ?_
        show own_Rn p e below _ (T20.setTop (mkF m 85 #[.val (.ref x1), .val (.ref x2), .val (.int (Int32.ofNat nm)), .val (.int (Int32.ofNat qq)), .val (.int (UA.getD qq 0)), .val (.int (UB.getD qq 0)), .unset, .unset, .unset] []))
        exact J85 qq _ _ hql he hne X20 eh20 N20
      · skip
        rw [if_neg hSa]
        show own_Rn p e below _ (T20.setTop (mkF m 74 #[.val (.ref x1), .val (.ref x2), .val (.int (Int32.ofNat nm)), .val (.int (Int32.ofNat qq)), .val (.int (UA.getD qq 0)), .val (.int (UB.getD qq 0)), .unset, .unset, .unset] [(.int (0 : Int32))]))
        refine own_go (fun tq kq => XS.ifNo X20.here hx rfl (hb hby own_d5_74) rfl ((if0 _ _).trans (teq ((by decide : (0 : Int32) = (0 : Int32)) : (0 : Int32) = (0 : Int32))).2) kq) ?_
        show own_Rn p e below _ (T20.setTop (mkF m 77 #[.val (.ref x1), .val (.ref x2), .val (.int (Int32.ofNat nm)), .val (.int (Int32.ofNat qq)), .val (.int (UA.getD qq 0)), .val (.int (UB.getD qq 0)), .unset, .unset, .unset] []))
        refine own_go (fun tq kq => XS.iload X20.here hx rfl (hb hby own_d5_77) rfl kq) ?_
        show own_Rn p e below _ (T20.setTop (mkF m 79 #[.val (.ref x1), .val (.ref x2), .val (.int (Int32.ofNat nm)), .val (.int (Int32.ofNat qq)), .val (.int (UA.getD qq 0)), .val (.int (UB.getD qq 0)), .unset, .unset, .unset] [(.int (UB.getD qq 0))]))
        have Zn21 : n0 ≤ h0.size := by omega
        obtain ⟨rv21, _, ⟨T21, L21, k21, n21⟩, -, X21, ⟨Lc21, hQ21, l21, y21, z21⟩, st21⟩ := Jvm.LawKit.callS X20 hx (y := (⟨"java/lang/Character", "isSurrogate", "(C)Z"⟩ : MethodName)) hown (mvT hZ (hw _ (List.mem_of_getElem? (i := 124) rfl))) (mvT hZ (hw _ (List.mem_of_getElem? (i := 125) rfl))) (mvT hZ (hw _ (List.mem_of_getElem? (i := 126) rfl))) (mvT hZ (hw _ (List.mem_of_getElem? (i := 127) rfl))) (by decide) (backOf (W := 0) (rmSuJ l Z a0 hw [] ((UB.getD qq 0)) h0 n0 Zn21 ) hZ (hw _ (List.mem_of_getElem? (i := 127) rfl)) (hw _ (List.mem_of_getElem? (i := 126) rfl)) (by decide) (by decide)) (g := (mkF m 79 #[.val (.ref x1), .val (.ref x2), .val (.int (Int32.ofNat nm)), .val (.int (Int32.ofNat qq)), .val (.int (UA.getD qq 0)), .val (.int (UB.getD qq 0)), .unset, .unset, .unset] [(.int (UB.getD qq 0))])) rfl (by rw [hml]; rfl) (argsL := [(.int (UB.getD qq 0))]) (rest := []) (lenOf own_pd_28C29Z rfl) rfl (by show 2 * 0 + _ ≤ _; exact Nat.le_of_eq rfl) (hb hby own_d5_79) (fun _ _ => ⟨rfl, eh20, (by decide : 0 + 0 ≤ _), (by decide : 0 + 0 ≤ _)⟩)
        dsimp only [Pt.U, Pt.locs, Pt.cells, Pt.slots] at X21 l21 y21 z21 st21 hQ21
        subst l21 y21 z21
        obtain ⟨rfl, Nq21, eh21⟩ := hQ21
        have N21 := Fr.app N20 Nq21
        refine own_go st21 ?_
        show own_Rn p e below _ (T21.setTop (mkF m 82 #[.val (.ref x1), .val (.ref x2), .val (.int (Int32.ofNat nm)), .val (.int (Int32.ofNat qq)), .val (.int (UA.getD qq 0)), .val (.int (UB.getD qq 0)), .unset, .unset, .unset] [(.int (if own_isSur (UB.getD qq 0) then (1 : Int32) else 0))]))
        by_cases hSb : own_isSur (UB.getD qq 0)
        · skip
          rw [if_pos hSb]
          show own_Rn p e below _ (T21.setTop (mkF m 82 #[.val (.ref x1), .val (.ref x2), .val (.int (Int32.ofNat nm)), .val (.int (Int32.ofNat qq)), .val (.int (UA.getD qq 0)), .val (.int (UB.getD qq 0)), .unset, .unset, .unset] [(.int (1 : Int32))]))
          refine own_go (fun tq kq => XS.ifNo X21.here hx rfl (hb hby own_d5_82) rfl ((if0 _ _).trans (feq ((by decide : ¬ ((1 : Int32) = (0 : Int32))) : ¬ ((1 : Int32) = (0 : Int32)))).1) kq) ?_
          show own_Rn p e below _ (T21.setTop (mkF m 85 #[.val (.ref x1), .val (.ref x2), .val (.int (Int32.ofNat nm)), .val (.int (Int32.ofNat qq)), .val (.int (UA.getD qq 0)), .val (.int (UB.getD qq 0)), .unset, .unset, .unset] []))
          exact J85 qq _ _ hql he hne X21 eh21 N21
        · skip
          rw [if_neg hSb]
          show own_Rn p e below _ (T21.setTop (mkF m 82 #[.val (.ref x1), .val (.ref x2), .val (.int (Int32.ofNat nm)), .val (.int (Int32.ofNat qq)), .val (.int (UA.getD qq 0)), .val (.int (UB.getD qq 0)), .unset, .unset, .unset] [(.int (0 : Int32))]))
          refine own_go (fun tq kq => XS.ifYes X21.here hx rfl (pc0 := 82) (pc' := 159) rfl (hb hby own_d5_82) rfl ((if0 _ _).trans (teq ((by decide : (0 : Int32) = (0 : Int32)) : (0 : Int32) = (0 : Int32))).1) (by decide) (by decide) kq) ?_
          show own_Rn p e below _ (T21.setTop (mkF m 159 #[.val (.ref x1), .val (.ref x2), .val (.int (Int32.ofNat nm)), .val (.int (Int32.ofNat qq)), .val (.int (UA.getD qq 0)), .val (.int (UB.getD qq 0)), .unset, .unset, .unset] []))
          refine own_go (fun tq kq => XS.iload X21.here hx rfl (hb hby own_d5_159) rfl kq) ?_
          show own_Rn p e below _ (T21.setTop (mkF m 161 #[.val (.ref x1), .val (.ref x2), .val (.int (Int32.ofNat nm)), .val (.int (Int32.ofNat qq)), .val (.int (UA.getD qq 0)), .val (.int (UB.getD qq 0)), .unset, .unset, .unset] [(.int (UA.getD qq 0))]))
          refine own_go (fun tq kq => XS.iload X21.here hx rfl (hb hby own_d5_161) rfl kq) ?_
          show own_Rn p e below _ (T21.setTop (mkF m 163 #[.val (.ref x1), .val (.ref x2), .val (.int (Int32.ofNat nm)), .val (.int (Int32.ofNat qq)), .val (.int (UA.getD qq 0)), .val (.int (UB.getD qq 0)), .unset, .unset, .unset] [(.int (UB.getD qq 0)), (.int (UA.getD qq 0))]))
          have Zn22 : n0 ≤ h0.size := by omega
          obtain ⟨rv22, _, ⟨T22, L22, k22, n22⟩, -, X22, ⟨Lc22, hQ22, l22, y22, z22⟩, st22⟩ := Jvm.LawKit.callS X21 hx (y := (⟨"java/lang/Character", "compare", "(CC)I"⟩ : MethodName)) hown (mvT hZ (hw _ (List.mem_of_getElem? (i := 149) rfl))) (mvT hZ (hw _ (List.mem_of_getElem? (i := 150) rfl))) (mvT hZ (hw _ (List.mem_of_getElem? (i := 126) rfl))) (mvT hZ (hw _ (List.mem_of_getElem? (i := 151) rfl))) (by decide) (backOf (W := 0) (rmCCM l Z a0 hw [] ((UA.getD qq 0)) ((UB.getD qq 0)) h0 n0 Zn22 ) hZ (hw _ (List.mem_of_getElem? (i := 151) rfl)) (hw _ (List.mem_of_getElem? (i := 126) rfl)) (by decide) (by decide)) (g := (mkF m 163 #[.val (.ref x1), .val (.ref x2), .val (.int (Int32.ofNat nm)), .val (.int (Int32.ofNat qq)), .val (.int (UA.getD qq 0)), .val (.int (UB.getD qq 0)), .unset, .unset, .unset] [(.int (UB.getD qq 0)), (.int (UA.getD qq 0))])) rfl (by rw [hml]; rfl) (argsL := [(.int (UA.getD qq 0)), (.int (UB.getD qq 0))]) (rest := []) (lenOf own_pd_28CC29I rfl) rfl (by show 2 * 0 + _ ≤ _; exact Nat.le_of_eq rfl) (hb hby own_d5_163) (fun _ _ => ⟨rfl, eh21, (by decide : 0 + 0 ≤ _), (by decide : 0 + 0 ≤ _)⟩)
          dsimp only [Pt.U, Pt.locs, Pt.cells, Pt.slots] at X22 l22 y22 z22 st22 hQ22
          subst l22 y22 z22
          obtain ⟨rfl, Nq22, eh22⟩ := hQ22
          have N22 := Fr.app N21 Nq22
          refine own_go st22 ?_
          show own_Rn p e below _ (T22.setTop (mkF m 166 #[.val (.ref x1), .val (.ref x2), .val (.int (Int32.ofNat nm)), .val (.int (Int32.ofNat qq)), .val (.int (UA.getD qq 0)), .val (.int (UB.getD qq 0)), .unset, .unset, .unset] [(.int ((UA.getD qq 0) - (UB.getD qq 0)))]))
          refine own_go (fun tq kq => XS.istore X22.here hx rfl (hb hby own_d5_166) rfl (l' := #[.val (.ref x1), .val (.ref x2), .val (.int (Int32.ofNat nm)), .val (.int (Int32.ofNat qq)), .val (.int (UA.getD qq 0)), .val (.int (UB.getD qq 0)), .val (.int ((UA.getD qq 0) - (UB.getD qq 0))), .unset, .unset]) rfl kq) ?_
          show own_Rn p e below _ (T22.setTop (mkF m 168 #[.val (.ref x1), .val (.ref x2), .val (.int (Int32.ofNat nm)), .val (.int (Int32.ofNat qq)), .val (.int (UA.getD qq 0)), .val (.int (UB.getD qq 0)), .val (.int ((UA.getD qq 0) - (UB.getD qq 0))), .unset, .unset] []))
          refine own_go (fun tq kq => XS.iload X22.here hx rfl (hb hby own_d5_168) rfl kq) ?_
          show own_Rn p e below _ (T22.setTop (mkF m 170 #[.val (.ref x1), .val (.ref x2), .val (.int (Int32.ofNat nm)), .val (.int (Int32.ofNat qq)), .val (.int (UA.getD qq 0)), .val (.int (UB.getD qq 0)), .val (.int ((UA.getD qq 0) - (UB.getD qq 0))), .unset, .unset] [(.int ((UA.getD qq 0) - (UB.getD qq 0)))]))
          exact own_ret X22 (v := some (.int ((UA.getD qq 0) - (UB.getD qq 0)))) (fun h => by rw [Bd.returns] at h; cases h) (fun fs hr => retI X22 hx Bd.returns (hb hby own_d5_170) hr) (by rw [eh22]; exact ⟨((UA.getD qq 0) - (UB.getD qq 0)), rfl, N22, rfl, own_ans0 UA UB qq hrUA hrUB hqa hqb he hne hSa hSb⟩) (by decide) (by decide)
  have loop : ∀ (mm qq : Nat) (Tl : State) (ls : List Loc), qq + mm = nm → (own_il UA).take qq = (own_il UB).take qq → Stand p l e ({ frames := 5, cells := 0, slots := 0, locals := 67 } : Room) s m #[(.ref x1), (.ref x2)] below meth c Tl ls 0 0 → Tl.heap = h0 → Fr n0 ls → own_Rn p e below (fun o U' => ∃ v L, o = .returned v ∧ Q_rmCmp Z x1 t1 k1 N1 v1 d1 UA x2 t2 k2 N2 v2 d2 UB G1 G3 h0 n0 v U'.heap L ∧ FrameEnd s o U' L ({ frames := 5, cells := 0, slots := 0, locals := 67 } : Room).cells ({ frames := 5, cells := 0, slots := 0, locals := 67 } : Room).slots) (Tl.setTop (mkF m 14 #[.val (.ref x1), .val (.ref x2), .val (.int (Int32.ofNat nm)), .val (.int (Int32.ofNat qq)), .unset, .unset, .unset, .unset, .unset] [])) := by
    intro mm
    induction mm with
    | zero =>
      intro qq Tl ls hqm he Xl el Nl
      refine own_go (fun tq kq => XS.iloadN Xl.here hx rfl (hb hby own_d5_14) rfl kq) ?_
      show own_Rn p e below _ (Tl.setTop (mkF m 15 #[.val (.ref x1), .val (.ref x2), .val (.int (Int32.ofNat nm)), .val (.int (Int32.ofNat qq)), .unset, .unset, .unset, .unset, .unset] [(.int (Int32.ofNat qq))]))
      refine own_go (fun tq kq => XS.iloadN Xl.here hx rfl (hb hby own_d5_15) rfl kq) ?_
      show own_Rn p e below _ (Tl.setTop (mkF m 16 #[.val (.ref x1), .val (.ref x2), .val (.int (Int32.ofNat nm)), .val (.int (Int32.ofNat qq)), .unset, .unset, .unset, .unset, .unset] [(.int (Int32.ofNat nm)), (.int (Int32.ofNat qq))]))
      refine own_go (fun tq kq => XS.icmpYes Xl.here hx rfl (pc0 := 16) (pc' := 38) rfl (hb hby own_d5_16) rfl (flt (own_ofNat_nlt (by omega) (by omega) : ¬ ((Int32.ofNat qq) < (Int32.ofNat nm)))).2.1 (by decide) (by decide) kq) ?_
      show own_Rn p e below _ (Tl.setTop (mkF m 38 #[.val (.ref x1), .val (.ref x2), .val (.int (Int32.ofNat nm)), .val (.int (Int32.ofNat qq)), .unset, .unset, .unset, .unset, .unset] []))
      exact J38 qq _ _ (by omega) he (fun h => absurd h (by omega)) Xl el Nl
    | succ mm ih =>
      intro qq Tl ls hqm he Xl el Nl
      obtain ⟨hqa, hqb⟩ := hq3 qq (by omega)
      refine own_go (fun tq kq => XS.iloadN Xl.here hx rfl (hb hby own_d5_14) rfl kq) ?_
      show own_Rn p e below _ (Tl.setTop (mkF m 15 #[.val (.ref x1), .val (.ref x2), .val (.int (Int32.ofNat nm)), .val (.int (Int32.ofNat qq)), .unset, .unset, .unset, .unset, .unset] [(.int (Int32.ofNat qq))]))
      refine own_go (fun tq kq => XS.iloadN Xl.here hx rfl (hb hby own_d5_15) rfl kq) ?_
      show own_Rn p e below _ (Tl.setTop (mkF m 16 #[.val (.ref x1), .val (.ref x2), .val (.int (Int32.ofNat nm)), .val (.int (Int32.ofNat qq)), .unset, .unset, .unset, .unset, .unset] [(.int (Int32.ofNat nm)), (.int (Int32.ofNat qq))]))
      refine own_go (fun tq kq => XS.icmpNo Xl.here hx rfl (hb hby own_d5_16) rfl (tlt (own_ofNat_lt (by omega) (by omega) : (Int32.ofNat qq) < (Int32.ofNat nm))).2.1 kq) ?_
      show own_Rn p e below _ (Tl.setTop (mkF m 19 #[.val (.ref x1), .val (.ref x2), .val (.int (Int32.ofNat nm)), .val (.int (Int32.ofNat qq)), .unset, .unset, .unset, .unset, .unset] []))
      refine own_go (fun tq kq => XS.aloadN Xl.here hx rfl (hb hby own_d5_19) rfl rfl kq) ?_
      show own_Rn p e below _ (Tl.setTop (mkF m 20 #[.val (.ref x1), .val (.ref x2), .val (.int (Int32.ofNat nm)), .val (.int (Int32.ofNat qq)), .unset, .unset, .unset, .unset, .unset] [(.ref x1)]))
      refine own_go (fun tq kq => XS.iloadN Xl.here hx rfl (hb hby own_d5_20) rfl kq) ?_
      show own_Rn p e below _ (Tl.setTop (mkF m 21 #[.val (.ref x1), .val (.ref x2), .val (.int (Int32.ofNat nm)), .val (.int (Int32.ofNat qq)), .unset, .unset, .unset, .unset, .unset] [(.int (Int32.ofNat qq)), (.ref x1)]))
      have Zn23 : n0 ≤ h0.size := by omega
      obtain ⟨cq23, kq23, qa23, qb23, qc23⟩ := isOf hZ el Pm0
      obtain ⟨rv23, _, ⟨T23, L23, k23, n23⟩, -, X23, ⟨Lc23, hQ23, l23, y23, z23⟩, st23⟩ := Xl.virtualBack hx (y := (⟨"java/lang/String", "charAt", "(I)C"⟩ : MethodName)) (z := (⟨"java/lang/String", "charAt", "(I)C"⟩ : MethodName)) hown (mvT hZ (hw _ (List.mem_of_getElem? (i := 97) rfl))) (mvT hZ (hw _ (List.mem_of_getElem? (i := 98) rfl))) (notFace_of_selects (args := #[]) (mvT hZ (hw _ (List.mem_of_getElem? (i := 100) rfl)))) (mvT hZ (hw _ (List.mem_of_getElem? (i := 100) rfl))) (mvT hZ (hw _ (List.mem_of_getElem? (i := 99) rfl))) (by decide) (backOf (W := 0) (rmCha l Z a0 hw [] (x1) (t1) (k1) (N1) (v1) (d1) (UA) (G1) (qq) (G3) h0 n0 Zn23 Pm0 Pm1 Pm2 Pm3 (RLUA) (hnUA) (hrUA) (hqa) (OAD) (OHI) (OLO) (O4) (hG3) (O2) (P5) X00) hZ (hw _ (List.mem_of_getElem? (i := 101) rfl)) (hw _ (List.mem_of_getElem? (i := 17) rfl)) (by decide) (by decide)) qa23 qc23 (g := (mkF m 21 #[.val (.ref x1), .val (.ref x2), .val (.int (Int32.ofNat nm)), .val (.int (Int32.ofNat qq)), .unset, .unset, .unset, .unset, .unset] [(.int (Int32.ofNat qq)), (.ref x1)])) rfl (by rw [hml]; rfl) (Steps.refl _) (argsL := [(.int (Int32.ofNat qq))]) (rest := []) (lenOf own_pd_28I29C rfl) rfl (by show 2 * 0 + _ ≤ _; exact Nat.le_of_eq rfl) (hb hby own_d5_21) (fun _ _ => ⟨rfl, el, (by decide : 0 + 0 ≤ _), (by decide : 0 + 0 ≤ _)⟩)
      dsimp only [Pt.U, Pt.locs, Pt.cells, Pt.slots] at X23 l23 y23 z23 st23 hQ23
      subst l23 y23 z23
      obtain ⟨rfl, Nq23, eh23⟩ := hQ23
      have N23 := Fr.app Nl Nq23
      refine own_go (fun tq kq => st23.trans kq) ?_
      show own_Rn p e below _ (T23.setTop (mkF m 24 #[.val (.ref x1), .val (.ref x2), .val (.int (Int32.ofNat nm)), .val (.int (Int32.ofNat qq)), .unset, .unset, .unset, .unset, .unset] [(.int (UA.getD qq 0))]))
      refine own_go (fun tq kq => XS.aloadN X23.here hx rfl (hb hby own_d5_24) rfl rfl kq) ?_
      show own_Rn p e below _ (T23.setTop (mkF m 25 #[.val (.ref x1), .val (.ref x2), .val (.int (Int32.ofNat nm)), .val (.int (Int32.ofNat qq)), .unset, .unset, .unset, .unset, .unset] [(.ref x2), (.int (UA.getD qq 0))]))
      refine own_go (fun tq kq => XS.iloadN X23.here hx rfl (hb hby own_d5_25) rfl kq) ?_
      show own_Rn p e below _ (T23.setTop (mkF m 26 #[.val (.ref x1), .val (.ref x2), .val (.int (Int32.ofNat nm)), .val (.int (Int32.ofNat qq)), .unset, .unset, .unset, .unset, .unset] [(.int (Int32.ofNat qq)), (.ref x2), (.int (UA.getD qq 0))]))
      have Zn24 : n0 ≤ h0.size := by omega
      obtain ⟨cq24, kq24, qa24, qb24, qc24⟩ := isOf hZ eh23 Pm7
      obtain ⟨rv24, _, ⟨T24, L24, k24, n24⟩, -, X24, ⟨Lc24, hQ24, l24, y24, z24⟩, st24⟩ := X23.virtualBack hx (y := (⟨"java/lang/String", "charAt", "(I)C"⟩ : MethodName)) (z := (⟨"java/lang/String", "charAt", "(I)C"⟩ : MethodName)) hown (mvT hZ (hw _ (List.mem_of_getElem? (i := 97) rfl))) (mvT hZ (hw _ (List.mem_of_getElem? (i := 98) rfl))) (notFace_of_selects (args := #[]) (mvT hZ (hw _ (List.mem_of_getElem? (i := 100) rfl)))) (mvT hZ (hw _ (List.mem_of_getElem? (i := 100) rfl))) (mvT hZ (hw _ (List.mem_of_getElem? (i := 99) rfl))) (by decide) (backOf (W := 1) (rmCha l Z a0 hw [] (x2) (t2) (k2) (N2) (v2) (d2) (UB) (G1) (qq) (G3) h0 n0 Zn24 Pm7 Pm8 Pm9 Pm10 (RLUB) (hnUB) (hrUB) (hqb) (OAD) (OHI) (OLO) (O4) (hG3) (O2) (P5) X00) hZ (hw _ (List.mem_of_getElem? (i := 101) rfl)) (hw _ (List.mem_of_getElem? (i := 17) rfl)) (by decide) (by decide)) qa24 qc24 (g := (mkF m 26 #[.val (.ref x1), .val (.ref x2), .val (.int (Int32.ofNat nm)), .val (.int (Int32.ofNat qq)), .unset, .unset, .unset, .unset, .unset] [(.int (Int32.ofNat qq)), (.ref x2), (.int (UA.getD qq 0))])) rfl (by rw [hml]; rfl) (Steps.refl _) (argsL := [(.int (Int32.ofNat qq))]) (rest := [(.int (UA.getD qq 0))]) (lenOf own_pd_28I29C rfl) rfl (by show 2 * 0 + _ ≤ _; exact Nat.le_of_eq rfl) (hb hby own_d5_26) (fun _ _ => ⟨rfl, eh23, (by decide : 0 + 0 ≤ _), (by decide : 0 + 0 ≤ _)⟩)
      dsimp only [Pt.U, Pt.locs, Pt.cells, Pt.slots] at X24 l24 y24 z24 st24 hQ24
      subst l24 y24 z24
      obtain ⟨rfl, Nq24, eh24⟩ := hQ24
      have N24 := Fr.app N23 Nq24
      refine own_go (fun tq kq => st24.trans kq) ?_
      show own_Rn p e below _ (T24.setTop (mkF m 29 #[.val (.ref x1), .val (.ref x2), .val (.int (Int32.ofNat nm)), .val (.int (Int32.ofNat qq)), .unset, .unset, .unset, .unset, .unset] [(.int (UB.getD qq 0)), (.int (UA.getD qq 0))]))
      by_cases hce : (UA.getD qq 0) = (UB.getD qq 0)
      · skip
        refine own_go (fun tq kq => XS.icmpNo X24.here hx rfl (hb hby own_d5_29) rfl (teq (hce : (UA.getD qq 0) = (UB.getD qq 0))).2 kq) ?_
        show own_Rn p e below _ (T24.setTop (mkF m 32 #[.val (.ref x1), .val (.ref x2), .val (.int (Int32.ofNat nm)), .val (.int (Int32.ofNat qq)), .unset, .unset, .unset, .unset, .unset] []))
        refine own_go (fun tq kq => XS.iinc X24.here hx rfl (hb hby own_d5_32) rfl (l' := #[.val (.ref x1), .val (.ref x2), .val (.int (Int32.ofNat nm)), .val (.int ((Int32.ofNat qq) + (1 : Int32))), .unset, .unset, .unset, .unset, .unset]) rfl kq) ?_
        show own_Rn p e below _ (T24.setTop (mkF m 35 #[.val (.ref x1), .val (.ref x2), .val (.int (Int32.ofNat nm)), .val (.int ((Int32.ofNat qq) + (1 : Int32))), .unset, .unset, .unset, .unset, .unset] []))
        refine own_go (fun tq kq => XS.goto X24.here hx rfl (pc0 := 35) (pc' := 14) rfl (hb hby own_d5_35) (by decide) (by decide) kq) ?_
        show own_Rn p e below _ (T24.setTop (mkF m 14 #[.val (.ref x1), .val (.ref x2), .val (.int (Int32.ofNat nm)), .val (.int ((Int32.ofNat qq) + (1 : Int32))), .unset, .unset, .unset, .unset, .unset] []))
        rw [show (Int32.ofNat qq + (1 : Int32)) = Int32.ofNat (qq + 1) from (inc_ofNat qq).symm]
        exact ih (qq + 1) _ _ (by omega) (own_take_eq UA UB qq hqa hqb he hce) X24 eh24 N24
      · skip
        refine own_go (fun tq kq => XS.icmpYes X24.here hx rfl (pc0 := 29) (pc' := 38) rfl (hb hby own_d5_29) rfl (feq (hce : ¬ ((UA.getD qq 0) = (UB.getD qq 0)))).2 (by decide) (by decide) kq) ?_
        show own_Rn p e below _ (T24.setTop (mkF m 38 #[.val (.ref x1), .val (.ref x2), .val (.int (Int32.ofNat nm)), .val (.int (Int32.ofNat qq)), .unset, .unset, .unset, .unset, .unset] []))
        exact J38 qq _ _ (by omega) he (fun _ => hce) X24 eh24 N24
  exact loop nm 0 _ _ (by omega) rfl X7 eh7 N7
theorem own_ef_rmAt (m : MethodId) (av : Addr) (ka : ClassId) (cs : List Int32) (dv : Value) (qq : Nat) : entryFrame m #[(.ref av), (.int (Int32.ofNat qq))] 3 = mkF m 0 #[.val (.ref av), .val (.int (Int32.ofNat qq)), .unset] [] := by first | (simp [entryFrame, mkF, argsToLocals, Value.category]; done) | rfl
theorem own_d11_0 : decode method_6_code 0 = .ok (.iload_n 1, 1) := by decide +kernel
theorem own_d11_1 : decode method_6_code 1 = .ok (.aload_n 0, 1) := by decide +kernel
theorem own_d11_2 : decode method_6_code 2 = .ok (.arraylength, 1) := by decide +kernel
theorem own_d11_3 : decode method_6_code 3 = .ok (.if_icmp .lt 5, 3) := by decide +kernel
theorem own_d11_8 : decode method_6_code 8 = .ok (.aload_n 0, 1) := by decide +kernel
theorem own_d11_9 : decode method_6_code 9 = .ok (.iload_n 1, 1) := by decide +kernel
theorem own_d11_10 : decode method_6_code 10 = .ok (.caload, 1) := by decide +kernel
theorem own_d11_11 : decode method_6_code 11 = .ok (.istore_n 2, 1) := by decide +kernel
theorem own_d11_12 : decode method_6_code 12 = .ok (.iload_n 2, 1) := by decide +kernel
theorem own_d11_13 : decode method_6_code 13 = .ok (.invokestatic 15, 3) := by decide +kernel
theorem own_d11_16 : decode method_6_code 16 = .ok (.ifCond .eq 42, 3) := by decide +kernel
theorem own_d11_19 : decode method_6_code 19 = .ok (.iload_n 1, 1) := by decide +kernel
theorem own_d11_20 : decode method_6_code 20 = .ok (.iconst 1, 1) := by decide +kernel
theorem own_d11_21 : decode method_6_code 21 = .ok (.iadd, 1) := by decide +kernel
theorem own_d11_22 : decode method_6_code 22 = .ok (.aload_n 0, 1) := by decide +kernel
theorem own_d11_23 : decode method_6_code 23 = .ok (.arraylength, 1) := by decide +kernel
theorem own_d11_24 : decode method_6_code 24 = .ok (.if_icmp .ge 34, 3) := by decide +kernel
theorem own_d11_27 : decode method_6_code 27 = .ok (.aload_n 0, 1) := by decide +kernel
theorem own_d11_28 : decode method_6_code 28 = .ok (.iload_n 1, 1) := by decide +kernel
theorem own_d11_29 : decode method_6_code 29 = .ok (.iconst 1, 1) := by decide +kernel
theorem own_d11_30 : decode method_6_code 30 = .ok (.iadd, 1) := by decide +kernel
theorem own_d11_31 : decode method_6_code 31 = .ok (.caload, 1) := by decide +kernel
theorem own_d11_32 : decode method_6_code 32 = .ok (.invokestatic 21, 3) := by decide +kernel
theorem own_d11_35 : decode method_6_code 35 = .ok (.ifCond .eq 23, 3) := by decide +kernel
theorem own_d11_38 : decode method_6_code 38 = .ok (.iload_n 2, 1) := by decide +kernel
theorem own_d11_39 : decode method_6_code 39 = .ok (.ldc 9, 2) := by decide +kernel
theorem own_d11_41 : decode method_6_code 41 = .ok (.isub, 1) := by decide +kernel
theorem own_d11_42 : decode method_6_code 42 = .ok (.bipush 10, 2) := by decide +kernel
theorem own_d11_44 : decode method_6_code 44 = .ok (.ishl, 1) := by decide +kernel
theorem own_d11_45 : decode method_6_code 45 = .ok (.aload_n 0, 1) := by decide +kernel
theorem own_d11_46 : decode method_6_code 46 = .ok (.iload_n 1, 1) := by decide +kernel
theorem own_d11_47 : decode method_6_code 47 = .ok (.iconst 1, 1) := by decide +kernel
theorem own_d11_48 : decode method_6_code 48 = .ok (.iadd, 1) := by decide +kernel
theorem own_d11_49 : decode method_6_code 49 = .ok (.caload, 1) := by decide +kernel
theorem own_d11_50 : decode method_6_code 50 = .ok (.ldc 11, 2) := by decide +kernel
theorem own_d11_52 : decode method_6_code 52 = .ok (.isub, 1) := by decide +kernel
theorem own_d11_53 : decode method_6_code 53 = .ok (.iadd, 1) := by decide +kernel
theorem own_d11_54 : decode method_6_code 54 = .ok (.ldc 24, 2) := by decide +kernel
theorem own_d11_56 : decode method_6_code 56 = .ok (.iadd, 1) := by decide +kernel
theorem own_d11_57 : decode method_6_code 57 = .ok (.ireturn, 1) := by decide +kernel
theorem own_d11_58 : decode method_6_code 58 = .ok (.iload_n 2, 1) := by decide +kernel
theorem own_d11_59 : decode method_6_code 59 = .ok (.ireturn, 1) := by decide +kernel
theorem own_d11_6 : decode method_6_code 6 = .ok (.iconst (-1), 1) := by decide +kernel
theorem own_d11_7 : decode method_6_code 7 = .ok (.ireturn, 1) := by decide +kernel
def Q_rmAt (Z : State) (av : Addr) (ka : ClassId) (cs : List Int32) (dv : Value) (qq : Nat) (h0 : Heap) (n0 : Nat) (v : Option Value) (h : Heap) (L : List Loc) : Prop := ∃ (r : Int32), v = some (.int r) ∧ Fr n0 L ∧ h = h0 ∧ (r.toInt = own_atI (own_il cs) qq)
set_option maxRecDepth 65536 in
set_option maxHeartbeats 40000000 in
theorem rmAt (l : Launch) (Z : State) (a0 : Array Value) (hw : ∀ d ∈ tables_1, d.before a0 Z = true) (ws : List Jvm.Cond) (av : Addr) (ka : ClassId) (cs : List Int32) (dv : Value) (qq : Nat) (h0 : Heap) (n0 : Nat) (Z0 : n0 ≤ h0.size) (Pm0 : Arv Z h0 av ka .char (Int32.ofNat cs.length) (cs.map Value.int) dv) (hn : (cs.length ≤ 3)) (hr : (∀ c ∈ cs, ¬ c < 0 ∧ ¬ (65535 : Int32) < c)) (hqb : (qq ≤ 10)) :
    MetFree l (⟨"com/example/words_into_queries/wordsintoqueries/CodePointOrderComparePinLaw", "at", "([CI)I"⟩ : MethodName) (head1 (Jvm.Cond.code (⟨"com/example/words_into_queries/wordsintoqueries/CodePointOrderComparePinLaw", "at", "([CI)I"⟩ : MethodName) method_6_code 3 (some .int) :: ws) ({ frames := 1, cells := 0, slots := 0, locals := 12 } : Room)) (fun a U => a = #[(.ref av), (.int (Int32.ofNat qq))] ∧ Z.Warmed39 U.vm ∧ U.heap = h0) (fun _ _ _ _ _ => True) (fun _ U o U' => ∃ v L, o = .returned v ∧ Q_rmAt Z av ka cs dv qq h0 n0 v U'.heap L ∧ FrameEnd U o U' L ({ frames := 1, cells := 0, slots := 0, locals := 12 } : Room).cells ({ frames := 1, cells := 0, slots := 0, locals := 12 } : Room).slots) := by
  refine MetFree.of_bodySF (plainFor_of_name own_pn_com_example_words_into_queries_wordsintoqueries_CodePointOrderComparePinLaw) hisR ?_
  intro p e s m args below meth c s₁ Bd hml0 hP hK
  obtain ⟨rfl, hZ, hh⟩ := hP
  have hx := Bd.exec
  have hby := Bd.bytes
  have hml : c.maxLocals = 3 := hml0
  have hown : s.vm.findClass "com/example/words_into_queries/wordsintoqueries/CodePointOrderComparePinLaw" = some m.cls := findClass_of_methodNamed Bd.named
  have hnm := (name_of_methodNamed Bd.named Bd.method).1
  have X0 : Stand p l e ({ frames := 1, cells := 0, slots := 0, locals := 12 } : Room) s m #[(.ref av), (.int (Int32.ofNat qq))] below meth c s₁ [] 0 0 := Stand.of_body Bd
  have e0 : s₁.heap = h0 := by rw [← hh, Bd.state]; rfl
  have N0 := Fr.nil n0
  have K0 : Keep h0 h0 [] := Keep.refl _ _
  refine own_go (S' := s₁.setTop (mkF m 0 #[.val (.ref av), .val (.int (Int32.ofNat qq)), .unset] [])) (fun tq kq => castTop (own_ef_rmAt m av ka cs dv qq) kq) ?_
  have lt1 : @LT.lt Nat _ av h0.size := Pm0.lt
  refine own_go (fun tq kq => XS.iloadN X0.here hx rfl (hb hby own_d11_0) rfl kq) ?_
  show own_Rn p e below _ (s₁.setTop (mkF m 1 #[.val (.ref av), .val (.int (Int32.ofNat qq)), .unset] [(.int (Int32.ofNat qq))]))
  refine own_go (fun tq kq => XS.aloadN X0.here hx rfl (hb hby own_d11_1) rfl rfl kq) ?_
  show own_Rn p e below _ (s₁.setTop (mkF m 2 #[.val (.ref av), .val (.int (Int32.ofNat qq)), .unset] [(.ref av), (.int (Int32.ofNat qq))]))
  obtain ⟨cl2, Ar2, -, Sz2, Nn2, -, -⟩ := id Pm0
  refine own_go (fun tq kq => X0.arraylength hx (cell := cl2) (by rw [e0]; exact Ar2.1) (State.isArrayOf_alike hZ.alike Ar2.2.1) (g := (mkF m 2 #[.val (.ref av), .val (.int (Int32.ofNat qq)), .unset] [(.ref av), (.int (Int32.ofNat qq))])) rfl rfl (hb hby own_d11_2) tq kq) ?_
  rw [len_of Sz2 Nn2]
  show own_Rn p e below _ (s₁.setTop (mkF m 3 #[.val (.ref av), .val (.int (Int32.ofNat qq)), .unset] [(.int (Int32.ofNat cs.length)), (.int (Int32.ofNat qq))]))
  by_cases hq : qq < cs.length
  · skip
    refine own_go (fun tq kq => XS.icmpYes X0.here hx rfl (pc0 := 3) (pc' := 8) rfl (hb hby own_d11_3) rfl (tlt (own_ofNat_lt hq (by omega) : (Int32.ofNat qq) < (Int32.ofNat cs.length))).1 (by decide) (by decide) kq) ?_
    show own_Rn p e below _ (s₁.setTop (mkF m 8 #[.val (.ref av), .val (.int (Int32.ofNat qq)), .unset] []))
    refine own_go (fun tq kq => XS.aloadN X0.here hx rfl (hb hby own_d11_8) rfl rfl kq) ?_
    show own_Rn p e below _ (s₁.setTop (mkF m 9 #[.val (.ref av), .val (.int (Int32.ofNat qq)), .unset] [(.ref av)]))
    refine own_go (fun tq kq => XS.iloadN X0.here hx rfl (hb hby own_d11_9) rfl kq) ?_
    show own_Rn p e below _ (s₁.setTop (mkF m 10 #[.val (.ref av), .val (.int (Int32.ofNat qq)), .unset] [(.int (Int32.ofNat qq)), (.ref av)]))
    obtain ⟨cl3, Ar3, q3, Sz3, Nn3, Hs3, G3⟩ := id Pm0
    have in3 := inb_of (j := (Int32.ofNat qq)) Sz3 (own_inb _ _ hq (by omega))
    refine own_go (fun tq kq => X0.caload hx (j := (Int32.ofNat qq)) (v := (.int (cs.getD qq 0))) (by rw [e0]; exact Ar3.1) (State.isArrayOf_alike hZ.alike Ar3.2.1) Ar3.2.2 in3 (Hs3.at in3 (own_mapget cs qq hq (by omega) dv)) (g := (mkF m 10 #[.val (.ref av), .val (.int (Int32.ofNat qq)), .unset] [(.int (Int32.ofNat qq)), (.ref av)])) rfl rfl (hb hby own_d11_10) tq kq) ?_
    show own_Rn p e below _ (s₁.setTop (mkF m 11 #[.val (.ref av), .val (.int (Int32.ofNat qq)), .unset] [(.int (cs.getD qq 0))]))
    refine own_go (fun tq kq => XS.istoreN X0.here hx rfl (hb hby own_d11_11) rfl (l' := #[.val (.ref av), .val (.int (Int32.ofNat qq)), .val (.int (cs.getD qq 0))]) rfl kq) ?_
    show own_Rn p e below _ (s₁.setTop (mkF m 12 #[.val (.ref av), .val (.int (Int32.ofNat qq)), .val (.int (cs.getD qq 0))] []))
    refine own_go (fun tq kq => XS.iloadN X0.here hx rfl (hb hby own_d11_12) rfl kq) ?_
    show own_Rn p e below _ (s₁.setTop (mkF m 13 #[.val (.ref av), .val (.int (Int32.ofNat qq)), .val (.int (cs.getD qq 0))] [(.int (cs.getD qq 0))]))
    have Zn4 : n0 ≤ h0.size := by omega
    obtain ⟨rv4, _, ⟨T4, L4, k4, n4⟩, -, X4, ⟨Lc4, hQ4, l4, y4, z4⟩, st4⟩ := Jvm.LawKit.callS X0 hx (y := (⟨"com/example/words_into_queries/wordsintoqueries/CodePointOrderComparePinLaw", "high", "(C)Z"⟩ : MethodName)) hown (mvT hZ (hw _ (List.mem_of_getElem? (i := 146) rfl))) (mvT hZ (hw _ (List.mem_of_getElem? (i := 147) rfl))) (mvT hZ (hw _ (List.mem_of_getElem? (i := 2) rfl))) (mvT hZ (hw _ (List.mem_of_getElem? (i := 148) rfl))) (by decide) (backOf (W := 0) (rmHiL l Z a0 hw [] ((cs.getD qq 0)) h0 n0 Zn4 ) hZ (hw _ (List.mem_of_getElem? (i := 148) rfl)) (hw _ (List.mem_of_getElem? (i := 2) rfl)) (by decide) (by decide)) (g := (mkF m 13 #[.val (.ref av), .val (.int (Int32.ofNat qq)), .val (.int (cs.getD qq 0))] [(.int (cs.getD qq 0))])) rfl (by rw [hml]; rfl) (argsL := [(.int (cs.getD qq 0))]) (rest := []) (lenOf own_pd_28C29Z rfl) rfl (by show 2 * 0 + _ ≤ _; exact Nat.le_of_eq rfl) (hb hby own_d11_13) (fun _ _ => ⟨rfl, e0, (by decide : 0 + 0 ≤ _), (by decide : 0 + 0 ≤ _)⟩)
    dsimp only [Pt.U, Pt.locs, Pt.cells, Pt.slots] at X4 l4 y4 z4 st4 hQ4
    subst l4 y4 z4
    obtain ⟨rfl, Nq4, eh4⟩ := hQ4
    have N4 := Fr.app N0 Nq4
    refine own_go st4 ?_
    show own_Rn p e below _ (T4.setTop (mkF m 16 #[.val (.ref av), .val (.int (Int32.ofNat qq)), .val (.int (cs.getD qq 0))] [(.int (if own_isHi (cs.getD qq 0) then (1 : Int32) else 0))]))
    by_cases hA : own_isHi (cs.getD qq 0)
    · skip
      rw [if_pos hA]
      show own_Rn p e below _ (T4.setTop (mkF m 16 #[.val (.ref av), .val (.int (Int32.ofNat qq)), .val (.int (cs.getD qq 0))] [(.int (1 : Int32))]))
      refine own_go (fun tq kq => XS.ifNo X4.here hx rfl (hb hby own_d11_16) rfl ((if0 _ _).trans (feq ((by decide : ¬ ((1 : Int32) = (0 : Int32))) : ¬ ((1 : Int32) = (0 : Int32)))).1) kq) ?_
      show own_Rn p e below _ (T4.setTop (mkF m 19 #[.val (.ref av), .val (.int (Int32.ofNat qq)), .val (.int (cs.getD qq 0))] []))
      refine own_go (fun tq kq => XS.iloadN X4.here hx rfl (hb hby own_d11_19) rfl kq) ?_
      show own_Rn p e below _ (T4.setTop (mkF m 20 #[.val (.ref av), .val (.int (Int32.ofNat qq)), .val (.int (cs.getD qq 0))] [(.int (Int32.ofNat qq))]))
      refine own_go (fun tq kq => XS.iconst X4.here hx rfl (hb hby own_d11_20) kq) ?_
      show own_Rn p e below _ (T4.setTop (mkF m 21 #[.val (.ref av), .val (.int (Int32.ofNat qq)), .val (.int (cs.getD qq 0))] [(.int (1 : Int32)), (.int (Int32.ofNat qq))]))
      refine own_go (fun tq kq => XS.iadd X4.here hx rfl (hb hby own_d11_21) rfl kq) ?_
      show own_Rn p e below _ (T4.setTop (mkF m 22 #[.val (.ref av), .val (.int (Int32.ofNat qq)), .val (.int (cs.getD qq 0))] [(.int ((Int32.ofNat qq) + (1 : Int32)))]))
      rw [show (Int32.ofNat qq + (1 : Int32)) = Int32.ofNat (qq + 1) from (inc_ofNat qq).symm]
      show own_Rn p e below _ (T4.setTop (mkF m 22 #[.val (.ref av), .val (.int (Int32.ofNat qq)), .val (.int (cs.getD qq 0))] [(.int (Int32.ofNat (qq + 1)))]))
      refine own_go (fun tq kq => XS.aloadN X4.here hx rfl (hb hby own_d11_22) rfl rfl kq) ?_
      show own_Rn p e below _ (T4.setTop (mkF m 23 #[.val (.ref av), .val (.int (Int32.ofNat qq)), .val (.int (cs.getD qq 0))] [(.ref av), (.int (Int32.ofNat (qq + 1)))]))
      obtain ⟨cl5, Ar5, -, Sz5, Nn5, -, -⟩ := id Pm0
      refine own_go (fun tq kq => X4.arraylength hx (cell := cl5) (by rw [eh4]; exact Ar5.1) (State.isArrayOf_alike hZ.alike Ar5.2.1) (g := (mkF m 23 #[.val (.ref av), .val (.int (Int32.ofNat qq)), .val (.int (cs.getD qq 0))] [(.ref av), (.int (Int32.ofNat (qq + 1)))])) rfl rfl (hb hby own_d11_23) tq kq) ?_
      rw [len_of Sz5 Nn5]
      show own_Rn p e below _ (T4.setTop (mkF m 24 #[.val (.ref av), .val (.int (Int32.ofNat qq)), .val (.int (cs.getD qq 0))] [(.int (Int32.ofNat cs.length)), (.int (Int32.ofNat (qq + 1)))]))
      by_cases hx1 : qq + 1 < cs.length
      · skip
        refine own_go (fun tq kq => XS.icmpNo X4.here hx rfl (hb hby own_d11_24) rfl (tlt (own_ofNat_lt hx1 (by omega) : (Int32.ofNat (qq + 1)) < (Int32.ofNat cs.length))).2.1 kq) ?_
        show own_Rn p e below _ (T4.setTop (mkF m 27 #[.val (.ref av), .val (.int (Int32.ofNat qq)), .val (.int (cs.getD qq 0))] []))
        refine own_go (fun tq kq => XS.aloadN X4.here hx rfl (hb hby own_d11_27) rfl rfl kq) ?_
        show own_Rn p e below _ (T4.setTop (mkF m 28 #[.val (.ref av), .val (.int (Int32.ofNat qq)), .val (.int (cs.getD qq 0))] [(.ref av)]))
        refine own_go (fun tq kq => XS.iloadN X4.here hx rfl (hb hby own_d11_28) rfl kq) ?_
        show own_Rn p e below _ (T4.setTop (mkF m 29 #[.val (.ref av), .val (.int (Int32.ofNat qq)), .val (.int (cs.getD qq 0))] [(.int (Int32.ofNat qq)), (.ref av)]))
        refine own_go (fun tq kq => XS.iconst X4.here hx rfl (hb hby own_d11_29) kq) ?_
        show own_Rn p e below _ (T4.setTop (mkF m 30 #[.val (.ref av), .val (.int (Int32.ofNat qq)), .val (.int (cs.getD qq 0))] [(.int (1 : Int32)), (.int (Int32.ofNat qq)), (.ref av)]))
        refine own_go (fun tq kq => XS.iadd X4.here hx rfl (hb hby own_d11_30) rfl kq) ?_
        show own_Rn p e below _ (T4.setTop (mkF m 31 #[.val (.ref av), .val (.int (Int32.ofNat qq)), .val (.int (cs.getD qq 0))] [(.int ((Int32.ofNat qq) + (1 : Int32))), (.ref av)]))
        rw [show (Int32.ofNat qq + (1 : Int32)) = Int32.ofNat (qq + 1) from (inc_ofNat qq).symm]
        show own_Rn p e below _ (T4.setTop (mkF m 31 #[.val (.ref av), .val (.int (Int32.ofNat qq)), .val (.int (cs.getD qq 0))] [(.int (Int32.ofNat (qq + 1))), (.ref av)]))
        obtain ⟨cl6, Ar6, q6, Sz6, Nn6, Hs6, G6⟩ := id Pm0
        have in6 := inb_of (j := (Int32.ofNat (qq + 1))) Sz6 (own_inb _ _ hx1 (by omega))
        refine own_go (fun tq kq => X4.caload hx (j := (Int32.ofNat (qq + 1))) (v := (.int (cs.getD (qq + 1) 0))) (by rw [eh4]; exact Ar6.1) (State.isArrayOf_alike hZ.alike Ar6.2.1) Ar6.2.2 in6 (Hs6.at in6 (own_mapget cs (qq + 1) hx1 (by omega) dv)) (g := (mkF m 31 #[.val (.ref av), .val (.int (Int32.ofNat qq)), .val (.int (cs.getD qq 0))] [(.int (Int32.ofNat (qq + 1))), (.ref av)])) rfl rfl (hb hby own_d11_31) tq kq) ?_
        show own_Rn p e below _ (T4.setTop (mkF m 32 #[.val (.ref av), .val (.int (Int32.ofNat qq)), .val (.int (cs.getD qq 0))] [(.int (cs.getD (qq + 1) 0))]))
        have Zn7 : n0 ≤ h0.size := by omega
        obtain ⟨rv7, _, ⟨T7, L7, k7, n7⟩, -, X7, ⟨Lc7, hQ7, l7, y7, z7⟩, st7⟩ := Jvm.LawKit.callS X4 hx (y := (⟨"com/example/words_into_queries/wordsintoqueries/CodePointOrderComparePinLaw", "low", "(C)Z"⟩ : MethodName)) hown (mvT hZ (hw _ (List.mem_of_getElem? (i := 160) rfl))) (mvT hZ (hw _ (List.mem_of_getElem? (i := 161) rfl))) (mvT hZ (hw _ (List.mem_of_getElem? (i := 2) rfl))) (mvT hZ (hw _ (List.mem_of_getElem? (i := 162) rfl))) (by decide) (backOf (W := 0) (rmLoL l Z a0 hw [] ((cs.getD (qq + 1) 0)) h0 n0 Zn7 ) hZ (hw _ (List.mem_of_getElem? (i := 162) rfl)) (hw _ (List.mem_of_getElem? (i := 2) rfl)) (by decide) (by decide)) (g := (mkF m 32 #[.val (.ref av), .val (.int (Int32.ofNat qq)), .val (.int (cs.getD qq 0))] [(.int (cs.getD (qq + 1) 0))])) rfl (by rw [hml]; rfl) (argsL := [(.int (cs.getD (qq + 1) 0))]) (rest := []) (lenOf own_pd_28C29Z rfl) rfl (by show 2 * 0 + _ ≤ _; exact Nat.le_of_eq rfl) (hb hby own_d11_32) (fun _ _ => ⟨rfl, eh4, (by decide : 0 + 0 ≤ _), (by decide : 0 + 0 ≤ _)⟩)
        dsimp only [Pt.U, Pt.locs, Pt.cells, Pt.slots] at X7 l7 y7 z7 st7 hQ7
        subst l7 y7 z7
        obtain ⟨rfl, Nq7, eh7⟩ := hQ7
        have N7 := Fr.app N4 Nq7
        refine own_go st7 ?_
        show own_Rn p e below _ (T7.setTop (mkF m 35 #[.val (.ref av), .val (.int (Int32.ofNat qq)), .val (.int (cs.getD qq 0))] [(.int (if own_isLo (cs.getD (qq + 1) 0) then (1 : Int32) else 0))]))
        by_cases hB : own_isLo (cs.getD (qq + 1) 0)
        · skip
          rw [if_pos hB]
          show own_Rn p e below _ (T7.setTop (mkF m 35 #[.val (.ref av), .val (.int (Int32.ofNat qq)), .val (.int (cs.getD qq 0))] [(.int (1 : Int32))]))
          refine own_go (fun tq kq => XS.ifNo X7.here hx rfl (hb hby own_d11_35) rfl ((if0 _ _).trans (feq ((by decide : ¬ ((1 : Int32) = (0 : Int32))) : ¬ ((1 : Int32) = (0 : Int32)))).1) kq) ?_
          show own_Rn p e below _ (T7.setTop (mkF m 38 #[.val (.ref av), .val (.int (Int32.ofNat qq)), .val (.int (cs.getD qq 0))] []))
          refine own_go (fun tq kq => XS.iloadN X7.here hx rfl (hb hby own_d11_38) rfl kq) ?_
          show own_Rn p e below _ (T7.setTop (mkF m 39 #[.val (.ref av), .val (.int (Int32.ofNat qq)), .val (.int (cs.getD qq 0))] [(.int (cs.getD qq 0))]))
          refine own_go (fun tq kq => X7.ldcInt hx hown (mvT hZ (hw _ (List.mem_of_getElem? (i := 6) rfl))) (g := (mkF m 39 #[.val (.ref av), .val (.int (Int32.ofNat qq)), .val (.int (cs.getD qq 0))] [(.int (cs.getD qq 0))])) rfl (hb hby own_d11_39) _ kq) ?_
          show own_Rn p e below _ (T7.setTop (mkF m 41 #[.val (.ref av), .val (.int (Int32.ofNat qq)), .val (.int (cs.getD qq 0))] [(.int (55296 : Int32)), (.int (cs.getD qq 0))]))
          refine own_go (fun tq kq => XS.isub X7.here hx rfl (hb hby own_d11_41) rfl kq) ?_
          show own_Rn p e below _ (T7.setTop (mkF m 42 #[.val (.ref av), .val (.int (Int32.ofNat qq)), .val (.int (cs.getD qq 0))] [(.int ((cs.getD qq 0) - (55296 : Int32)))]))
          refine own_go (fun tq kq => XS.bipush X7.here hx rfl (hb hby own_d11_42) kq) ?_
          show own_Rn p e below _ (T7.setTop (mkF m 44 #[.val (.ref av), .val (.int (Int32.ofNat qq)), .val (.int (cs.getD qq 0))] [(.int (10 : Int32)), (.int ((cs.getD qq 0) - (55296 : Int32)))]))
          refine own_go (fun tq kq => XS.ishl X7.here hx rfl (hb hby own_d11_44) rfl kq) ?_
          show own_Rn p e below _ (T7.setTop (mkF m 45 #[.val (.ref av), .val (.int (Int32.ofNat qq)), .val (.int (cs.getD qq 0))] [(.int (((cs.getD qq 0) - (55296 : Int32)) <<< ((10 : Int32) &&& 31)))]))
          refine own_go (fun tq kq => XS.aloadN X7.here hx rfl (hb hby own_d11_45) rfl rfl kq) ?_
          show own_Rn p e below _ (T7.setTop (mkF m 46 #[.val (.ref av), .val (.int (Int32.ofNat qq)), .val (.int (cs.getD qq 0))] [(.ref av), (.int (((cs.getD qq 0) - (55296 : Int32)) <<< ((10 : Int32) &&& 31)))]))
          refine own_go (fun tq kq => XS.iloadN X7.here hx rfl (hb hby own_d11_46) rfl kq) ?_
          show own_Rn p e below _ (T7.setTop (mkF m 47 #[.val (.ref av), .val (.int (Int32.ofNat qq)), .val (.int (cs.getD qq 0))] [(.int (Int32.ofNat qq)), (.ref av), (.int (((cs.getD qq 0) - (55296 : Int32)) <<< ((10 : Int32) &&& 31)))]))
          refine own_go (fun tq kq => XS.iconst X7.here hx rfl (hb hby own_d11_47) kq) ?_
          show own_Rn p e below _ (T7.setTop (mkF m 48 #[.val (.ref av), .val (.int (Int32.ofNat qq)), .val (.int (cs.getD qq 0))] [(.int (1 : Int32)), (.int (Int32.ofNat qq)), (.ref av), (.int (((cs.getD qq 0) - (55296 : Int32)) <<< ((10 : Int32) &&& 31)))]))
          refine own_go (fun tq kq => XS.iadd X7.here hx rfl (hb hby own_d11_48) rfl kq) ?_
          show own_Rn p e below _ (T7.setTop (mkF m 49 #[.val (.ref av), .val (.int (Int32.ofNat qq)), .val (.int (cs.getD qq 0))] [(.int ((Int32.ofNat qq) + (1 : Int32))), (.ref av), (.int (((cs.getD qq 0) - (55296 : Int32)) <<< ((10 : Int32) &&& 31)))]))
          rw [show (Int32.ofNat qq + (1 : Int32)) = Int32.ofNat (qq + 1) from (inc_ofNat qq).symm]
          show own_Rn p e below _ (T7.setTop (mkF m 49 #[.val (.ref av), .val (.int (Int32.ofNat qq)), .val (.int (cs.getD qq 0))] [(.int (Int32.ofNat (qq + 1))), (.ref av), (.int (((cs.getD qq 0) - (55296 : Int32)) <<< ((10 : Int32) &&& 31)))]))
          obtain ⟨cl8, Ar8, q8, Sz8, Nn8, Hs8, G8⟩ := id Pm0
          have in8 := inb_of (j := (Int32.ofNat (qq + 1))) Sz8 (own_inb _ _ hx1 (by omega))
          refine own_go (fun tq kq => X7.caload hx (j := (Int32.ofNat (qq + 1))) (v := (.int (cs.getD (qq + 1) 0))) (by rw [eh7]; exact Ar8.1) (State.isArrayOf_alike hZ.alike Ar8.2.1) Ar8.2.2 in8 (Hs8.at in8 (own_mapget cs (qq + 1) hx1 (by omega) dv)) (g := (mkF m 49 #[.val (.ref av), .val (.int (Int32.ofNat qq)), .val (.int (cs.getD qq 0))] [(.int (Int32.ofNat (qq + 1))), (.ref av), (.int (((cs.getD qq 0) - (55296 : Int32)) <<< ((10 : Int32) &&& 31)))])) rfl rfl (hb hby own_d11_49) tq kq) ?_
          show own_Rn p e below _ (T7.setTop (mkF m 50 #[.val (.ref av), .val (.int (Int32.ofNat qq)), .val (.int (cs.getD qq 0))] [(.int (cs.getD (qq + 1) 0)), (.int (((cs.getD qq 0) - (55296 : Int32)) <<< ((10 : Int32) &&& 31)))]))
          refine own_go (fun tq kq => X7.ldcInt hx hown (mvT hZ (hw _ (List.mem_of_getElem? (i := 8) rfl))) (g := (mkF m 50 #[.val (.ref av), .val (.int (Int32.ofNat qq)), .val (.int (cs.getD qq 0))] [(.int (cs.getD (qq + 1) 0)), (.int (((cs.getD qq 0) - (55296 : Int32)) <<< ((10 : Int32) &&& 31)))])) rfl (hb hby own_d11_50) _ kq) ?_
          show own_Rn p e below _ (T7.setTop (mkF m 52 #[.val (.ref av), .val (.int (Int32.ofNat qq)), .val (.int (cs.getD qq 0))] [(.int (56320 : Int32)), (.int (cs.getD (qq + 1) 0)), (.int (((cs.getD qq 0) - (55296 : Int32)) <<< ((10 : Int32) &&& 31)))]))
          refine own_go (fun tq kq => XS.isub X7.here hx rfl (hb hby own_d11_52) rfl kq) ?_
          show own_Rn p e below _ (T7.setTop (mkF m 53 #[.val (.ref av), .val (.int (Int32.ofNat qq)), .val (.int (cs.getD qq 0))] [(.int ((cs.getD (qq + 1) 0) - (56320 : Int32))), (.int (((cs.getD qq 0) - (55296 : Int32)) <<< ((10 : Int32) &&& 31)))]))
          refine own_go (fun tq kq => XS.iadd X7.here hx rfl (hb hby own_d11_53) rfl kq) ?_
          show own_Rn p e below _ (T7.setTop (mkF m 54 #[.val (.ref av), .val (.int (Int32.ofNat qq)), .val (.int (cs.getD qq 0))] [(.int ((((cs.getD qq 0) - (55296 : Int32)) <<< ((10 : Int32) &&& 31)) + ((cs.getD (qq + 1) 0) - (56320 : Int32))))]))
          refine own_go (fun tq kq => X7.ldcInt hx hown (mvT hZ (hw _ (List.mem_of_getElem? (i := 152) rfl))) (g := (mkF m 54 #[.val (.ref av), .val (.int (Int32.ofNat qq)), .val (.int (cs.getD qq 0))] [(.int ((((cs.getD qq 0) - (55296 : Int32)) <<< ((10 : Int32) &&& 31)) + ((cs.getD (qq + 1) 0) - (56320 : Int32))))])) rfl (hb hby own_d11_54) _ kq) ?_
          show own_Rn p e below _ (T7.setTop (mkF m 56 #[.val (.ref av), .val (.int (Int32.ofNat qq)), .val (.int (cs.getD qq 0))] [(.int (65536 : Int32)), (.int ((((cs.getD qq 0) - (55296 : Int32)) <<< ((10 : Int32) &&& 31)) + ((cs.getD (qq + 1) 0) - (56320 : Int32))))]))
          refine own_go (fun tq kq => XS.iadd X7.here hx rfl (hb hby own_d11_56) rfl kq) ?_
          show own_Rn p e below _ (T7.setTop (mkF m 57 #[.val (.ref av), .val (.int (Int32.ofNat qq)), .val (.int (cs.getD qq 0))] [(.int (((((cs.getD qq 0) - (55296 : Int32)) <<< ((10 : Int32) &&& 31)) + ((cs.getD (qq + 1) 0) - (56320 : Int32))) + (65536 : Int32)))]))
          exact own_ret X7 (v := some (.int (((((cs.getD qq 0) - (55296 : Int32)) <<< ((10 : Int32) &&& 31)) + ((cs.getD (qq + 1) 0) - (56320 : Int32))) + (65536 : Int32)))) (fun h => by rw [Bd.returns] at h; cases h) (fun fs hr => retI X7 hx Bd.returns (hb hby own_d11_57) hr) (by rw [eh7]; exact ⟨(((((cs.getD qq 0) - (55296 : Int32)) <<< ((10 : Int32) &&& 31)) + ((cs.getD (qq + 1) 0) - (56320 : Int32))) + (65536 : Int32)), rfl, N7, rfl, (own_pairL hA hB).trans ((own_at_in cs qq hq).trans (own_hd_pair cs qq hx1 hA hB)).symm⟩) (by decide) (by decide)
        · skip
          rw [if_neg hB]
          show own_Rn p e below _ (T7.setTop (mkF m 35 #[.val (.ref av), .val (.int (Int32.ofNat qq)), .val (.int (cs.getD qq 0))] [(.int (0 : Int32))]))
          refine own_go (fun tq kq => XS.ifYes X7.here hx rfl (pc0 := 35) (pc' := 58) rfl (hb hby own_d11_35) rfl ((if0 _ _).trans (teq ((by decide : (0 : Int32) = (0 : Int32)) : (0 : Int32) = (0 : Int32))).1) (by decide) (by decide) kq) ?_
          show own_Rn p e below _ (T7.setTop (mkF m 58 #[.val (.ref av), .val (.int (Int32.ofNat qq)), .val (.int (cs.getD qq 0))] []))
          refine own_go (fun tq kq => XS.iloadN X7.here hx rfl (hb hby own_d11_58) rfl kq) ?_
          show own_Rn p e below _ (T7.setTop (mkF m 59 #[.val (.ref av), .val (.int (Int32.ofNat qq)), .val (.int (cs.getD qq 0))] [(.int (cs.getD qq 0))]))
          exact own_ret X7 (v := some (.int (cs.getD qq 0))) (fun h => by rw [Bd.returns] at h; cases h) (fun fs hr => retI X7 hx Bd.returns (hb hby own_d11_59) hr) (by rw [eh7]; exact ⟨(cs.getD qq 0), rfl, N7, rfl, ((own_at_in cs qq hq).trans (own_hd_nlo cs qq hx1 hB)).symm⟩) (by decide) (by decide)
      · skip
        refine own_go (fun tq kq => XS.icmpYes X4.here hx rfl (pc0 := 24) (pc' := 58) rfl (hb hby own_d11_24) rfl (flt (own_ofNat_nlt hx1 (by omega) : ¬ ((Int32.ofNat (qq + 1)) < (Int32.ofNat cs.length)))).2.1 (by decide) (by decide) kq) ?_
        show own_Rn p e below _ (T4.setTop (mkF m 58 #[.val (.ref av), .val (.int (Int32.ofNat qq)), .val (.int (cs.getD qq 0))] []))
        refine own_go (fun tq kq => XS.iloadN X4.here hx rfl (hb hby own_d11_58) rfl kq) ?_
        show own_Rn p e below _ (T4.setTop (mkF m 59 #[.val (.ref av), .val (.int (Int32.ofNat qq)), .val (.int (cs.getD qq 0))] [(.int (cs.getD qq 0))]))
        exact own_ret X4 (v := some (.int (cs.getD qq 0))) (fun h => by rw [Bd.returns] at h; cases h) (fun fs hr => retI X4 hx Bd.returns (hb hby own_d11_59) hr) (by rw [eh4]; exact ⟨(cs.getD qq 0), rfl, N4, rfl, ((own_at_in cs qq hq).trans (own_hd_end cs qq hq hx1)).symm⟩) (by decide) (by decide)
    · skip
      rw [if_neg hA]
      show own_Rn p e below _ (T4.setTop (mkF m 16 #[.val (.ref av), .val (.int (Int32.ofNat qq)), .val (.int (cs.getD qq 0))] [(.int (0 : Int32))]))
      refine own_go (fun tq kq => XS.ifYes X4.here hx rfl (pc0 := 16) (pc' := 58) rfl (hb hby own_d11_16) rfl ((if0 _ _).trans (teq ((by decide : (0 : Int32) = (0 : Int32)) : (0 : Int32) = (0 : Int32))).1) (by decide) (by decide) kq) ?_
      show own_Rn p e below _ (T4.setTop (mkF m 58 #[.val (.ref av), .val (.int (Int32.ofNat qq)), .val (.int (cs.getD qq 0))] []))
      refine own_go (fun tq kq => XS.iloadN X4.here hx rfl (hb hby own_d11_58) rfl kq) ?_
      show own_Rn p e below _ (T4.setTop (mkF m 59 #[.val (.ref av), .val (.int (Int32.ofNat qq)), .val (.int (cs.getD qq 0))] [(.int (cs.getD qq 0))]))
      exact own_ret X4 (v := some (.int (cs.getD qq 0))) (fun h => by rw [Bd.returns] at h; cases h) (fun fs hr => retI X4 hx Bd.returns (hb hby own_d11_59) hr) (by rw [eh4]; exact ⟨(cs.getD qq 0), rfl, N4, rfl, ((own_at_in cs qq hq).trans (own_hd_nhi cs qq hq hA)).symm⟩) (by decide) (by decide)
  · skip
    refine own_go (fun tq kq => XS.icmpNo X0.here hx rfl (hb hby own_d11_3) rfl (flt (own_ofNat_nlt hq (by omega) : ¬ ((Int32.ofNat qq) < (Int32.ofNat cs.length)))).1 kq) ?_
    show own_Rn p e below _ (s₁.setTop (mkF m 6 #[.val (.ref av), .val (.int (Int32.ofNat qq)), .unset] []))
    refine own_go (fun tq kq => XS.iconst X0.here hx rfl (hb hby own_d11_6) kq) ?_
    show own_Rn p e below _ (s₁.setTop (mkF m 7 #[.val (.ref av), .val (.int (Int32.ofNat qq)), .unset] [(.int (-1 : Int32))]))
    exact own_ret X0 (v := some (.int (-1 : Int32))) (fun h => by rw [Bd.returns] at h; cases h) (fun fs hr => retI X0 hx Bd.returns (hb hby own_d11_7) hr) (by rw [e0]; exact ⟨(-1 : Int32), rfl, N0, rfl, (own_at_end (own_il cs) qq (by rw [own_il, List.length_map]; exact hq)).2.1.symm⟩) (by decide) (by decide)
theorem own_ef_rmNx (m : MethodId) (qq : Nat) (pp : Int32) : entryFrame m #[(.int (Int32.ofNat qq)), (.int pp)] 2 = mkF m 0 #[.val (.int (Int32.ofNat qq)), .val (.int pp)] [] := by first | (simp [entryFrame, mkF, argsToLocals, Value.category]; done) | rfl
theorem own_d12_0 : decode method_7_code 0 = .ok (.iload_n 1, 1) := by decide +kernel
theorem own_d12_1 : decode method_7_code 1 = .ok (.ifCond .ge 5, 3) := by decide +kernel
theorem own_d12_4 : decode method_7_code 4 = .ok (.iload_n 0, 1) := by decide +kernel
theorem own_d12_5 : decode method_7_code 5 = .ok (.ireturn, 1) := by decide +kernel
theorem own_d12_6 : decode method_7_code 6 = .ok (.iload_n 1, 1) := by decide +kernel
theorem own_d12_7 : decode method_7_code 7 = .ok (.ldc 24, 2) := by decide +kernel
theorem own_d12_9 : decode method_7_code 9 = .ok (.if_icmp .lt 9, 3) := by decide +kernel
theorem own_d12_18 : decode method_7_code 18 = .ok (.iload_n 0, 1) := by decide +kernel
theorem own_d12_19 : decode method_7_code 19 = .ok (.iconst 1, 1) := by decide +kernel
theorem own_d12_20 : decode method_7_code 20 = .ok (.iadd, 1) := by decide +kernel
theorem own_d12_21 : decode method_7_code 21 = .ok (.ireturn, 1) := by decide +kernel
theorem own_d12_12 : decode method_7_code 12 = .ok (.iload_n 0, 1) := by decide +kernel
theorem own_d12_13 : decode method_7_code 13 = .ok (.iconst 2, 1) := by decide +kernel
theorem own_d12_14 : decode method_7_code 14 = .ok (.iadd, 1) := by decide +kernel
theorem own_d12_15 : decode method_7_code 15 = .ok (.goto 6, 3) := by decide +kernel
def Q_rmNx (Z : State) (qq : Nat) (pp : Int32) (h0 : Heap) (n0 : Nat) (v : Option Value) (h : Heap) (L : List Loc) : Prop := v = some (.int (Int32.ofNat (own_nx qq pp.toInt))) ∧ Fr n0 L ∧ h = h0
set_option maxRecDepth 65536 in
set_option maxHeartbeats 40000000 in
theorem rmNx (l : Launch) (Z : State) (a0 : Array Value) (hw : ∀ d ∈ tables_1, d.before a0 Z = true) (ws : List Jvm.Cond) (qq : Nat) (pp : Int32) (h0 : Heap) (n0 : Nat) (Z0 : n0 ≤ h0.size) (hqb : (qq ≤ 10)) :
    MetFree l (⟨"com/example/words_into_queries/wordsintoqueries/CodePointOrderComparePinLaw", "next", "(II)I"⟩ : MethodName) (head1 (Jvm.Cond.code (⟨"com/example/words_into_queries/wordsintoqueries/CodePointOrderComparePinLaw", "next", "(II)I"⟩ : MethodName) method_7_code 2 (some .int) :: ws) ({ frames := 0, cells := 0, slots := 0, locals := 0 } : Room)) (fun a U => a = #[(.int (Int32.ofNat qq)), (.int pp)] ∧ Z.Warmed39 U.vm ∧ U.heap = h0) (fun _ _ _ _ _ => True) (fun _ U o U' => ∃ v L, o = .returned v ∧ Q_rmNx Z qq pp h0 n0 v U'.heap L ∧ FrameEnd U o U' L ({ frames := 0, cells := 0, slots := 0, locals := 0 } : Room).cells ({ frames := 0, cells := 0, slots := 0, locals := 0 } : Room).slots) := by
  refine MetFree.of_bodySF (plainFor_of_name own_pn_com_example_words_into_queries_wordsintoqueries_CodePointOrderComparePinLaw) hisR ?_
  intro p e s m args below meth c s₁ Bd hml0 hP hK
  obtain ⟨rfl, hZ, hh⟩ := hP
  have hx := Bd.exec
  have hby := Bd.bytes
  have hml : c.maxLocals = 2 := hml0
  have hown : s.vm.findClass "com/example/words_into_queries/wordsintoqueries/CodePointOrderComparePinLaw" = some m.cls := findClass_of_methodNamed Bd.named
  have hnm := (name_of_methodNamed Bd.named Bd.method).1
  have X0 : Stand p l e ({ frames := 0, cells := 0, slots := 0, locals := 0 } : Room) s m #[(.int (Int32.ofNat qq)), (.int pp)] below meth c s₁ [] 0 0 := Stand.of_body Bd
  have e0 : s₁.heap = h0 := by rw [← hh, Bd.state]; rfl
  have N0 := Fr.nil n0
  have K0 : Keep h0 h0 [] := Keep.refl _ _
  refine own_go (S' := s₁.setTop (mkF m 0 #[.val (.int (Int32.ofNat qq)), .val (.int pp)] [])) (fun tq kq => castTop (own_ef_rmNx m qq pp) kq) ?_
  refine own_go (fun tq kq => XS.iloadN X0.here hx rfl (hb hby own_d12_0) rfl kq) ?_
  show own_Rn p e below _ (s₁.setTop (mkF m 1 #[.val (.int (Int32.ofNat qq)), .val (.int pp)] [(.int pp)]))
  by_cases h0 : pp < (0 : Int32)
  · skip
    refine own_go (fun tq kq => XS.ifNo X0.here hx rfl (hb hby own_d12_1) rfl ((if0 _ _).trans (tlt (h0 : pp < (0 : Int32))).2.1) kq) ?_
    show own_Rn p e below _ (s₁.setTop (mkF m 4 #[.val (.int (Int32.ofNat qq)), .val (.int pp)] []))
    refine own_go (fun tq kq => XS.iloadN X0.here hx rfl (hb hby own_d12_4) rfl kq) ?_
    show own_Rn p e below _ (s₁.setTop (mkF m 5 #[.val (.int (Int32.ofNat qq)), .val (.int pp)] [(.int (Int32.ofNat qq))]))
    exact own_ret X0 (v := some (.int (Int32.ofNat qq))) (fun h => by rw [Bd.returns] at h; cases h) (fun fs hr => retI X0 hx Bd.returns (hb hby own_d12_5) hr) (by rw [e0]; exact ⟨by rw [own_nx0 h0], N0, rfl⟩) (by decide) (by decide)
  · skip
    refine own_go (fun tq kq => XS.ifYes X0.here hx rfl (pc0 := 1) (pc' := 6) rfl (hb hby own_d12_1) rfl ((if0 _ _).trans (flt (h0 : ¬ (pp < (0 : Int32)))).2.1) (by decide) (by decide) kq) ?_
    show own_Rn p e below _ (s₁.setTop (mkF m 6 #[.val (.int (Int32.ofNat qq)), .val (.int pp)] []))
    refine own_go (fun tq kq => XS.iloadN X0.here hx rfl (hb hby own_d12_6) rfl kq) ?_
    show own_Rn p e below _ (s₁.setTop (mkF m 7 #[.val (.int (Int32.ofNat qq)), .val (.int pp)] [(.int pp)]))
    refine own_go (fun tq kq => X0.ldcInt hx hown (mvT hZ (hw _ (List.mem_of_getElem? (i := 152) rfl))) (g := (mkF m 7 #[.val (.int (Int32.ofNat qq)), .val (.int pp)] [(.int pp)])) rfl (hb hby own_d12_7) _ kq) ?_
    show own_Rn p e below _ (s₁.setTop (mkF m 9 #[.val (.int (Int32.ofNat qq)), .val (.int pp)] [(.int (65536 : Int32)), (.int pp)]))
    by_cases h6 : pp < (65536 : Int32)
    · skip
      refine own_go (fun tq kq => XS.icmpYes X0.here hx rfl (pc0 := 9) (pc' := 18) rfl (hb hby own_d12_9) rfl (tlt (h6 : pp < (65536 : Int32))).1 (by decide) (by decide) kq) ?_
      show own_Rn p e below _ (s₁.setTop (mkF m 18 #[.val (.int (Int32.ofNat qq)), .val (.int pp)] []))
      refine own_go (fun tq kq => XS.iloadN X0.here hx rfl (hb hby own_d12_18) rfl kq) ?_
      show own_Rn p e below _ (s₁.setTop (mkF m 19 #[.val (.int (Int32.ofNat qq)), .val (.int pp)] [(.int (Int32.ofNat qq))]))
      refine own_go (fun tq kq => XS.iconst X0.here hx rfl (hb hby own_d12_19) kq) ?_
      show own_Rn p e below _ (s₁.setTop (mkF m 20 #[.val (.int (Int32.ofNat qq)), .val (.int pp)] [(.int (1 : Int32)), (.int (Int32.ofNat qq))]))
      refine own_go (fun tq kq => XS.iadd X0.here hx rfl (hb hby own_d12_20) rfl kq) ?_
      show own_Rn p e below _ (s₁.setTop (mkF m 21 #[.val (.int (Int32.ofNat qq)), .val (.int pp)] [(.int ((Int32.ofNat qq) + (1 : Int32)))]))
      rw [show (Int32.ofNat qq + (1 : Int32)) = Int32.ofNat (qq + 1) from (inc_ofNat qq).symm]
      show own_Rn p e below _ (s₁.setTop (mkF m 21 #[.val (.int (Int32.ofNat qq)), .val (.int pp)] [(.int (Int32.ofNat (qq + 1)))]))
      exact own_ret X0 (v := some (.int (Int32.ofNat (qq + 1)))) (fun h => by rw [Bd.returns] at h; cases h) (fun fs hr => retI X0 hx Bd.returns (hb hby own_d12_21) hr) (by rw [e0]; exact ⟨by rw [own_nx1 h0 h6], N0, rfl⟩) (by decide) (by decide)
    · skip
      refine own_go (fun tq kq => XS.icmpNo X0.here hx rfl (hb hby own_d12_9) rfl (flt (h6 : ¬ (pp < (65536 : Int32)))).1 kq) ?_
      show own_Rn p e below _ (s₁.setTop (mkF m 12 #[.val (.int (Int32.ofNat qq)), .val (.int pp)] []))
      refine own_go (fun tq kq => XS.iloadN X0.here hx rfl (hb hby own_d12_12) rfl kq) ?_
      show own_Rn p e below _ (s₁.setTop (mkF m 13 #[.val (.int (Int32.ofNat qq)), .val (.int pp)] [(.int (Int32.ofNat qq))]))
      refine own_go (fun tq kq => XS.iconst X0.here hx rfl (hb hby own_d12_13) kq) ?_
      show own_Rn p e below _ (s₁.setTop (mkF m 14 #[.val (.int (Int32.ofNat qq)), .val (.int pp)] [(.int (2 : Int32)), (.int (Int32.ofNat qq))]))
      refine own_go (fun tq kq => XS.iadd X0.here hx rfl (hb hby own_d12_14) rfl kq) ?_
      show own_Rn p e below _ (s₁.setTop (mkF m 15 #[.val (.int (Int32.ofNat qq)), .val (.int pp)] [(.int ((Int32.ofNat qq) + (2 : Int32)))]))
      rw [show (Int32.ofNat qq + (2 : Int32)) = Int32.ofNat (qq + 2) from own_add2 qq]
      show own_Rn p e below _ (s₁.setTop (mkF m 15 #[.val (.int (Int32.ofNat qq)), .val (.int pp)] [(.int (Int32.ofNat (qq + 2)))]))
      refine own_go (fun tq kq => XS.goto X0.here hx rfl (pc0 := 15) (pc' := 21) rfl (hb hby own_d12_15) (by decide) (by decide) kq) ?_
      show own_Rn p e below _ (s₁.setTop (mkF m 21 #[.val (.int (Int32.ofNat qq)), .val (.int pp)] [(.int (Int32.ofNat (qq + 2)))]))
      exact own_ret X0 (v := some (.int (Int32.ofNat (qq + 2)))) (fun h => by rw [Bd.returns] at h; cases h) (fun fs hr => retI X0 hx Bd.returns (hb hby own_d12_21) hr) (by rw [e0]; exact ⟨by rw [own_nx2 h0 h6], N0, rfl⟩) (by decide) (by decide)
theorem own_ef_rmRef (m : MethodId) (a1 : Addr) (ka1 : ClassId) (UA : List Int32) (dv1 : Value) (a2 : Addr) (ka2 : ClassId) (UB : List Int32) (dv2 : Value) : entryFrame m #[(.ref a1), (.ref a2)] 6 = mkF m 0 #[.val (.ref a1), .val (.ref a2), .unset, .unset, .unset, .unset] [] := by first | (simp [entryFrame, mkF, argsToLocals, Value.category]; done) | rfl
theorem own_d10_0 : decode method_8_code 0 = .ok (.aload_n 0, 1) := by decide +kernel
theorem own_d10_1 : decode method_8_code 1 = .ok (.iconst 0, 1) := by decide +kernel
theorem own_d10_2 : decode method_8_code 2 = .ok (.invokestatic 25, 3) := by decide +kernel
theorem own_pd_285bCI29I : parseMethodDescriptor "([CI)I" = some ⟨[(.array .char), .int], some .int⟩ := by decide +kernel
theorem own_d10_5 : decode method_8_code 5 = .ok (.istore_n 2, 1) := by decide +kernel
theorem own_d10_6 : decode method_8_code 6 = .ok (.aload_n 1, 1) := by decide +kernel
theorem own_d10_7 : decode method_8_code 7 = .ok (.iconst 0, 1) := by decide +kernel
theorem own_d10_8 : decode method_8_code 8 = .ok (.invokestatic 25, 3) := by decide +kernel
theorem own_d10_11 : decode method_8_code 11 = .ok (.istore_n 3, 1) := by decide +kernel
theorem own_d10_12 : decode method_8_code 12 = .ok (.iload_n 2, 1) := by decide +kernel
theorem own_d10_13 : decode method_8_code 13 = .ok (.iload_n 3, 1) := by decide +kernel
theorem own_d10_14 : decode method_8_code 14 = .ok (.if_icmp .eq 14, 3) := by decide +kernel
theorem own_d10_28 : decode method_8_code 28 = .ok (.iconst 0, 1) := by decide +kernel
theorem own_d10_29 : decode method_8_code 29 = .ok (.iload_n 2, 1) := by decide +kernel
theorem own_d10_30 : decode method_8_code 30 = .ok (.invokestatic 29, 3) := by decide +kernel
theorem own_d10_33 : decode method_8_code 33 = .ok (.istore 4, 2) := by decide +kernel
theorem own_d10_35 : decode method_8_code 35 = .ok (.iconst 0, 1) := by decide +kernel
theorem own_d10_36 : decode method_8_code 36 = .ok (.iload_n 3, 1) := by decide +kernel
theorem own_d10_37 : decode method_8_code 37 = .ok (.invokestatic 29, 3) := by decide +kernel
theorem own_d10_40 : decode method_8_code 40 = .ok (.istore 5, 2) := by decide +kernel
theorem own_d10_42 : decode method_8_code 42 = .ok (.aload_n 0, 1) := by decide +kernel
theorem own_d10_43 : decode method_8_code 43 = .ok (.iload 4, 2) := by decide +kernel
theorem own_d10_45 : decode method_8_code 45 = .ok (.invokestatic 25, 3) := by decide +kernel
theorem own_d10_48 : decode method_8_code 48 = .ok (.istore_n 2, 1) := by decide +kernel
theorem own_d10_49 : decode method_8_code 49 = .ok (.aload_n 1, 1) := by decide +kernel
theorem own_d10_50 : decode method_8_code 50 = .ok (.iload 5, 2) := by decide +kernel
theorem own_d10_52 : decode method_8_code 52 = .ok (.invokestatic 25, 3) := by decide +kernel
theorem own_d10_55 : decode method_8_code 55 = .ok (.istore_n 3, 1) := by decide +kernel
theorem own_d10_56 : decode method_8_code 56 = .ok (.iload_n 2, 1) := by decide +kernel
theorem own_d10_57 : decode method_8_code 57 = .ok (.iload_n 3, 1) := by decide +kernel
theorem own_d10_58 : decode method_8_code 58 = .ok (.if_icmp .eq 14, 3) := by decide +kernel
theorem own_d10_72 : decode method_8_code 72 = .ok (.iload 4, 2) := by decide +kernel
theorem own_d10_74 : decode method_8_code 74 = .ok (.iload_n 2, 1) := by decide +kernel
theorem own_d10_75 : decode method_8_code 75 = .ok (.invokestatic 29, 3) := by decide +kernel
theorem own_d10_78 : decode method_8_code 78 = .ok (.istore 4, 2) := by decide +kernel
theorem own_d10_80 : decode method_8_code 80 = .ok (.iload 5, 2) := by decide +kernel
theorem own_d10_82 : decode method_8_code 82 = .ok (.iload_n 3, 1) := by decide +kernel
theorem own_d10_83 : decode method_8_code 83 = .ok (.invokestatic 29, 3) := by decide +kernel
theorem own_d10_86 : decode method_8_code 86 = .ok (.istore 5, 2) := by decide +kernel
theorem own_d10_88 : decode method_8_code 88 = .ok (.aload_n 0, 1) := by decide +kernel
theorem own_d10_89 : decode method_8_code 89 = .ok (.iload 4, 2) := by decide +kernel
theorem own_d10_91 : decode method_8_code 91 = .ok (.invokestatic 25, 3) := by decide +kernel
theorem own_d10_94 : decode method_8_code 94 = .ok (.istore_n 2, 1) := by decide +kernel
theorem own_d10_95 : decode method_8_code 95 = .ok (.aload_n 1, 1) := by decide +kernel
theorem own_d10_96 : decode method_8_code 96 = .ok (.iload 5, 2) := by decide +kernel
theorem own_d10_98 : decode method_8_code 98 = .ok (.invokestatic 25, 3) := by decide +kernel
theorem own_d10_101 : decode method_8_code 101 = .ok (.istore_n 3, 1) := by decide +kernel
theorem own_d10_102 : decode method_8_code 102 = .ok (.iload_n 2, 1) := by decide +kernel
theorem own_d10_103 : decode method_8_code 103 = .ok (.iload_n 3, 1) := by decide +kernel
theorem own_d10_104 : decode method_8_code 104 = .ok (.if_icmp .eq 14, 3) := by decide +kernel
theorem own_d10_118 : decode method_8_code 118 = .ok (.iconst 0, 1) := by decide +kernel
theorem own_d10_119 : decode method_8_code 119 = .ok (.ireturn, 1) := by decide +kernel
theorem own_d10_107 : decode method_8_code 107 = .ok (.iload_n 2, 1) := by decide +kernel
theorem own_d10_108 : decode method_8_code 108 = .ok (.iload_n 3, 1) := by decide +kernel
theorem own_d10_109 : decode method_8_code 109 = .ok (.if_icmp .ge 7, 3) := by decide +kernel
theorem own_d10_112 : decode method_8_code 112 = .ok (.iconst (-1), 1) := by decide +kernel
theorem own_d10_113 : decode method_8_code 113 = .ok (.goto 4, 3) := by decide +kernel
theorem own_d10_117 : decode method_8_code 117 = .ok (.ireturn, 1) := by decide +kernel
theorem own_d10_116 : decode method_8_code 116 = .ok (.iconst 1, 1) := by decide +kernel
theorem own_d10_61 : decode method_8_code 61 = .ok (.iload_n 2, 1) := by decide +kernel
theorem own_d10_62 : decode method_8_code 62 = .ok (.iload_n 3, 1) := by decide +kernel
theorem own_d10_63 : decode method_8_code 63 = .ok (.if_icmp .ge 7, 3) := by decide +kernel
theorem own_d10_66 : decode method_8_code 66 = .ok (.iconst (-1), 1) := by decide +kernel
theorem own_d10_67 : decode method_8_code 67 = .ok (.goto 4, 3) := by decide +kernel
theorem own_d10_71 : decode method_8_code 71 = .ok (.ireturn, 1) := by decide +kernel
theorem own_d10_70 : decode method_8_code 70 = .ok (.iconst 1, 1) := by decide +kernel
theorem own_d10_17 : decode method_8_code 17 = .ok (.iload_n 2, 1) := by decide +kernel
theorem own_d10_18 : decode method_8_code 18 = .ok (.iload_n 3, 1) := by decide +kernel
theorem own_d10_19 : decode method_8_code 19 = .ok (.if_icmp .ge 7, 3) := by decide +kernel
theorem own_d10_22 : decode method_8_code 22 = .ok (.iconst (-1), 1) := by decide +kernel
theorem own_d10_23 : decode method_8_code 23 = .ok (.goto 4, 3) := by decide +kernel
theorem own_d10_27 : decode method_8_code 27 = .ok (.ireturn, 1) := by decide +kernel
theorem own_d10_26 : decode method_8_code 26 = .ok (.iconst 1, 1) := by decide +kernel
def Q_rmRef (Z : State) (a1 : Addr) (ka1 : ClassId) (UA : List Int32) (dv1 : Value) (a2 : Addr) (ka2 : ClassId) (UB : List Int32) (dv2 : Value) (h0 : Heap) (n0 : Nat) (v : Option Value) (h : Heap) (L : List Loc) : Prop := ∃ (r : Int32), v = some (.int r) ∧ Fr n0 L ∧ h = h0 ∧ (own_sg r.toInt = own_spec UA UB)
set_option maxRecDepth 65536 in
set_option maxHeartbeats 40000000 in
theorem rmRef (l : Launch) (Z : State) (a0 : Array Value) (hw : ∀ d ∈ tables_1, d.before a0 Z = true) (ws : List Jvm.Cond) (a1 : Addr) (ka1 : ClassId) (UA : List Int32) (dv1 : Value) (a2 : Addr) (ka2 : ClassId) (UB : List Int32) (dv2 : Value) (h0 : Heap) (n0 : Nat) (Z0 : n0 ≤ h0.size) (Pm0 : Arv Z h0 a1 ka1 .char (Int32.ofNat UA.length) (UA.map Value.int) dv1) (hnUA : (UA.length ≤ 3)) (hrUA : (∀ c ∈ UA, ¬ c < 0 ∧ ¬ (65535 : Int32) < c)) (Pm3 : Arv Z h0 a2 ka2 .char (Int32.ofNat UB.length) (UB.map Value.int) dv2) (hnUB : (UB.length ≤ 3)) (hrUB : (∀ c ∈ UB, ¬ c < 0 ∧ ¬ (65535 : Int32) < c)) :
    MetFree l (⟨"com/example/words_into_queries/wordsintoqueries/CodePointOrderComparePinLaw", "ref", "([C[C)I"⟩ : MethodName) (head1 (Jvm.Cond.code (⟨"com/example/words_into_queries/wordsintoqueries/CodePointOrderComparePinLaw", "ref", "([C[C)I"⟩ : MethodName) method_8_code 6 (some .int) :: ws) ({ frames := 2, cells := 0, slots := 0, locals := 26 } : Room)) (fun a U => a = #[(.ref a1), (.ref a2)] ∧ Z.Warmed39 U.vm ∧ U.heap = h0) (fun _ _ _ _ _ => True) (fun _ U o U' => ∃ v L, o = .returned v ∧ Q_rmRef Z a1 ka1 UA dv1 a2 ka2 UB dv2 h0 n0 v U'.heap L ∧ FrameEnd U o U' L ({ frames := 2, cells := 0, slots := 0, locals := 26 } : Room).cells ({ frames := 2, cells := 0, slots := 0, locals := 26 } : Room).slots) := by
  refine MetFree.of_bodySF (plainFor_of_name own_pn_com_example_words_into_queries_wordsintoqueries_CodePointOrderComparePinLaw) hisR ?_
  intro p e s m args below meth c s₁ Bd hml0 hP hK
  obtain ⟨rfl, hZ, hh⟩ := hP
  have hx := Bd.exec
  have hby := Bd.bytes
  have hml : c.maxLocals = 6 := hml0
  have hown : s.vm.findClass "com/example/words_into_queries/wordsintoqueries/CodePointOrderComparePinLaw" = some m.cls := findClass_of_methodNamed Bd.named
  have hnm := (name_of_methodNamed Bd.named Bd.method).1
  have X0 : Stand p l e ({ frames := 2, cells := 0, slots := 0, locals := 26 } : Room) s m #[(.ref a1), (.ref a2)] below meth c s₁ [] 0 0 := Stand.of_body Bd
  have e0 : s₁.heap = h0 := by rw [← hh, Bd.state]; rfl
  have N0 := Fr.nil n0
  have K0 : Keep h0 h0 [] := Keep.refl _ _
  refine own_go (S' := s₁.setTop (mkF m 0 #[.val (.ref a1), .val (.ref a2), .unset, .unset, .unset, .unset] [])) (fun tq kq => castTop (own_ef_rmRef m a1 ka1 UA dv1 a2 ka2 UB dv2) kq) ?_
  have lt1 : @LT.lt Nat _ a1 h0.size := Pm0.lt
  have lt2 : @LT.lt Nat _ a2 h0.size := Pm3.lt
  have rA := own_il_r16 UA hrUA
  have rB := own_il_r16 UB hrUB
  have lA : (own_il UA).length = UA.length := by rw [own_il, List.length_map]
  have lB : (own_il UB).length = UB.length := by rw [own_il, List.length_map]
  have u0 : own_spec UA UB = own_lex (own_cps ((own_il UA).drop 0)) (own_cps ((own_il UB).drop 0)) := rfl
  refine own_go (fun tq kq => XS.aloadN X0.here hx rfl (hb hby own_d10_0) rfl rfl kq) ?_
  show own_Rn p e below _ (s₁.setTop (mkF m 1 #[.val (.ref a1), .val (.ref a2), .unset, .unset, .unset, .unset] [(.ref a1)]))
  refine own_go (fun tq kq => XS.iconst X0.here hx rfl (hb hby own_d10_1) kq) ?_
  show own_Rn p e below _ (s₁.setTop (mkF m 2 #[.val (.ref a1), .val (.ref a2), .unset, .unset, .unset, .unset] [(.int (0 : Int32)), (.ref a1)]))
  have Zn3 : n0 ≤ h0.size := by omega
  obtain ⟨rv3, _, ⟨T3, L3, k3, n3⟩, -, X3, ⟨Lc3, hQ3, l3, y3, z3⟩, st3⟩ := Jvm.LawKit.callS X0 hx (y := (⟨"com/example/words_into_queries/wordsintoqueries/CodePointOrderComparePinLaw", "at", "([CI)I"⟩ : MethodName)) hown (mvT hZ (hw _ (List.mem_of_getElem? (i := 62) rfl))) (mvT hZ (hw _ (List.mem_of_getElem? (i := 63) rfl))) (mvT hZ (hw _ (List.mem_of_getElem? (i := 2) rfl))) (mvT hZ (hw _ (List.mem_of_getElem? (i := 64) rfl))) (by decide) (backOf (W := 0) (rmAt l Z a0 hw [] (a1) (ka1) (UA) (dv1) (0) h0 n0 Zn3 Pm0 (hnUA) (hrUA) (by omega)) hZ (hw _ (List.mem_of_getElem? (i := 64) rfl)) (hw _ (List.mem_of_getElem? (i := 2) rfl)) (by decide) (by decide)) (g := (mkF m 2 #[.val (.ref a1), .val (.ref a2), .unset, .unset, .unset, .unset] [(.int (0 : Int32)), (.ref a1)])) rfl (by rw [hml]; rfl) (argsL := [(.ref a1), (.int (0 : Int32))]) (rest := []) (lenOf own_pd_285bCI29I rfl) rfl (by show 2 * 0 + _ ≤ _; exact Nat.le_of_eq rfl) (hb hby own_d10_2) (fun _ _ => ⟨rfl, e0, (by decide : 0 + 0 ≤ _), (by decide : 0 + 0 ≤ _)⟩)
  dsimp only [Pt.U, Pt.locs, Pt.cells, Pt.slots] at X3 l3 y3 z3 st3 hQ3
  subst l3 y3 z3
  obtain ⟨p0, rfl, Nq3, eh3, R_3⟩ := hQ3
  have N3 := Fr.app N0 Nq3
  refine own_go st3 ?_
  show own_Rn p e below _ (T3.setTop (mkF m 5 #[.val (.ref a1), .val (.ref a2), .unset, .unset, .unset, .unset] [(.int p0)]))
  refine own_go (fun tq kq => XS.istoreN X3.here hx rfl (hb hby own_d10_5) rfl (l' := #[.val (.ref a1), .val (.ref a2), .val (.int p0), .unset, .unset, .unset]) rfl kq) ?_
  show own_Rn p e below _ (T3.setTop (mkF m 6 #[.val (.ref a1), .val (.ref a2), .val (.int p0), .unset, .unset, .unset] []))
  refine own_go (fun tq kq => XS.aloadN X3.here hx rfl (hb hby own_d10_6) rfl rfl kq) ?_
  show own_Rn p e below _ (T3.setTop (mkF m 7 #[.val (.ref a1), .val (.ref a2), .val (.int p0), .unset, .unset, .unset] [(.ref a2)]))
  refine own_go (fun tq kq => XS.iconst X3.here hx rfl (hb hby own_d10_7) kq) ?_
  show own_Rn p e below _ (T3.setTop (mkF m 8 #[.val (.ref a1), .val (.ref a2), .val (.int p0), .unset, .unset, .unset] [(.int (0 : Int32)), (.ref a2)]))
  have Zn4 : n0 ≤ h0.size := by omega
  obtain ⟨rv4, _, ⟨T4, L4, k4, n4⟩, -, X4, ⟨Lc4, hQ4, l4, y4, z4⟩, st4⟩ := Jvm.LawKit.callS X3 hx (y := (⟨"com/example/words_into_queries/wordsintoqueries/CodePointOrderComparePinLaw", "at", "([CI)I"⟩ : MethodName)) hown (mvT hZ (hw _ (List.mem_of_getElem? (i := 62) rfl))) (mvT hZ (hw _ (List.mem_of_getElem? (i := 63) rfl))) (mvT hZ (hw _ (List.mem_of_getElem? (i := 2) rfl))) (mvT hZ (hw _ (List.mem_of_getElem? (i := 64) rfl))) (by decide) (backOf (W := 0) (rmAt l Z a0 hw [] (a2) (ka2) (UB) (dv2) (0) h0 n0 Zn4 Pm3 (hnUB) (hrUB) (by omega)) hZ (hw _ (List.mem_of_getElem? (i := 64) rfl)) (hw _ (List.mem_of_getElem? (i := 2) rfl)) (by decide) (by decide)) (g := (mkF m 8 #[.val (.ref a1), .val (.ref a2), .val (.int p0), .unset, .unset, .unset] [(.int (0 : Int32)), (.ref a2)])) rfl (by rw [hml]; rfl) (argsL := [(.ref a2), (.int (0 : Int32))]) (rest := []) (lenOf own_pd_285bCI29I rfl) rfl (by show 2 * 0 + _ ≤ _; exact Nat.le_of_eq rfl) (hb hby own_d10_8) (fun _ _ => ⟨rfl, eh3, (by decide : 0 + 0 ≤ _), (by decide : 0 + 0 ≤ _)⟩)
  dsimp only [Pt.U, Pt.locs, Pt.cells, Pt.slots] at X4 l4 y4 z4 st4 hQ4
  subst l4 y4 z4
  obtain ⟨q0, rfl, Nq4, eh4, R_4⟩ := hQ4
  have N4 := Fr.app N3 Nq4
  refine own_go st4 ?_
  show own_Rn p e below _ (T4.setTop (mkF m 11 #[.val (.ref a1), .val (.ref a2), .val (.int p0), .unset, .unset, .unset] [(.int q0)]))
  refine own_go (fun tq kq => XS.istoreN X4.here hx rfl (hb hby own_d10_11) rfl (l' := #[.val (.ref a1), .val (.ref a2), .val (.int p0), .val (.int q0), .unset, .unset]) rfl kq) ?_
  show own_Rn p e below _ (T4.setTop (mkF m 12 #[.val (.ref a1), .val (.ref a2), .val (.int p0), .val (.int q0), .unset, .unset] []))
  refine own_go (fun tq kq => XS.iloadN X4.here hx rfl (hb hby own_d10_12) rfl kq) ?_
  show own_Rn p e below _ (T4.setTop (mkF m 13 #[.val (.ref a1), .val (.ref a2), .val (.int p0), .val (.int q0), .unset, .unset] [(.int p0)]))
  refine own_go (fun tq kq => XS.iloadN X4.here hx rfl (hb hby own_d10_13) rfl kq) ?_
  show own_Rn p e below _ (T4.setTop (mkF m 14 #[.val (.ref a1), .val (.ref a2), .val (.int p0), .val (.int q0), .unset, .unset] [(.int q0), (.int p0)]))
  have v0 := own_ref_step (own_il UA) (own_il UB) rA rB 0 0
  rw [← u0, ← R_3, ← R_4] at v0
  have mA0 := own_nx_min (own_il UA) rA 0 0 (by omega)
  have mB0 := own_nx_min (own_il UB) rB 0 0 (by omega)
  rw [← R_3] at mA0
  rw [← R_4] at mB0
  by_cases he0 : p0 = q0
  · skip
    refine own_go (fun tq kq => XS.icmpYes X4.here hx rfl (pc0 := 14) (pc' := 28) rfl (hb hby own_d10_14) rfl (teq (he0 : p0 = q0)).1 (by decide) (by decide) kq) ?_
    show own_Rn p e below _ (T4.setTop (mkF m 28 #[.val (.ref a1), .val (.ref a2), .val (.int p0), .val (.int q0), .unset, .unset] []))
    rw [if_pos (congrArg Int32.toInt he0)] at v0
    have oA0 := own_nx_le 0 p0.toInt
    have oB0 := own_nx_le 0 q0.toInt
    refine own_go (fun tq kq => XS.iconst X4.here hx rfl (hb hby own_d10_28) kq) ?_
    show own_Rn p e below _ (T4.setTop (mkF m 29 #[.val (.ref a1), .val (.ref a2), .val (.int p0), .val (.int q0), .unset, .unset] [(.int (0 : Int32))]))
    refine own_go (fun tq kq => XS.iloadN X4.here hx rfl (hb hby own_d10_29) rfl kq) ?_
    show own_Rn p e below _ (T4.setTop (mkF m 30 #[.val (.ref a1), .val (.ref a2), .val (.int p0), .val (.int q0), .unset, .unset] [(.int p0), (.int (0 : Int32))]))
    have Zn5 : n0 ≤ h0.size := by omega
    obtain ⟨rv5, _, ⟨T5, L5, k5, n5⟩, -, X5, ⟨Lc5, hQ5, l5, y5, z5⟩, st5⟩ := Jvm.LawKit.callS X4 hx (y := (⟨"com/example/words_into_queries/wordsintoqueries/CodePointOrderComparePinLaw", "next", "(II)I"⟩ : MethodName)) hown (mvT hZ (hw _ (List.mem_of_getElem? (i := 65) rfl))) (mvT hZ (hw _ (List.mem_of_getElem? (i := 66) rfl))) (mvT hZ (hw _ (List.mem_of_getElem? (i := 2) rfl))) (mvT hZ (hw _ (List.mem_of_getElem? (i := 67) rfl))) (by decide) (backOf (W := 0) (rmNx l Z a0 hw [] (0) (p0) h0 n0 Zn5 (by omega)) hZ (hw _ (List.mem_of_getElem? (i := 67) rfl)) (hw _ (List.mem_of_getElem? (i := 2) rfl)) (by decide) (by decide)) (g := (mkF m 30 #[.val (.ref a1), .val (.ref a2), .val (.int p0), .val (.int q0), .unset, .unset] [(.int p0), (.int (0 : Int32))])) rfl (by rw [hml]; rfl) (argsL := [(.int (0 : Int32)), (.int p0)]) (rest := []) (lenOf own_pd_28II29I rfl) rfl (by show 2 * 0 + _ ≤ _; exact Nat.le_of_eq rfl) (hb hby own_d10_30) (fun _ _ => ⟨rfl, eh4, (by decide : 0 + 0 ≤ _), (by decide : 0 + 0 ≤ _)⟩)
    dsimp only [Pt.U, Pt.locs, Pt.cells, Pt.slots] at X5 l5 y5 z5 st5 hQ5
    subst l5 y5 z5
    obtain ⟨rfl, Nq5, eh5⟩ := hQ5
    have N5 := Fr.app N4 Nq5
    refine own_go st5 ?_
    show own_Rn p e below _ (T5.setTop (mkF m 33 #[.val (.ref a1), .val (.ref a2), .val (.int p0), .val (.int q0), .unset, .unset] [(.int (Int32.ofNat (own_nx 0 p0.toInt)))]))
    refine own_go (fun tq kq => XS.istore X5.here hx rfl (hb hby own_d10_33) rfl (l' := #[.val (.ref a1), .val (.ref a2), .val (.int p0), .val (.int q0), .val (.int (Int32.ofNat (own_nx 0 p0.toInt))), .unset]) rfl kq) ?_
    show own_Rn p e below _ (T5.setTop (mkF m 35 #[.val (.ref a1), .val (.ref a2), .val (.int p0), .val (.int q0), .val (.int (Int32.ofNat (own_nx 0 p0.toInt))), .unset] []))
    refine own_go (fun tq kq => XS.iconst X5.here hx rfl (hb hby own_d10_35) kq) ?_
    show own_Rn p e below _ (T5.setTop (mkF m 36 #[.val (.ref a1), .val (.ref a2), .val (.int p0), .val (.int q0), .val (.int (Int32.ofNat (own_nx 0 p0.toInt))), .unset] [(.int (0 : Int32))]))
    refine own_go (fun tq kq => XS.iloadN X5.here hx rfl (hb hby own_d10_36) rfl kq) ?_
    show own_Rn p e below _ (T5.setTop (mkF m 37 #[.val (.ref a1), .val (.ref a2), .val (.int p0), .val (.int q0), .val (.int (Int32.ofNat (own_nx 0 p0.toInt))), .unset] [(.int q0), (.int (0 : Int32))]))
    have Zn6 : n0 ≤ h0.size := by omega
    obtain ⟨rv6, _, ⟨T6, L6, k6, n6⟩, -, X6, ⟨Lc6, hQ6, l6, y6, z6⟩, st6⟩ := Jvm.LawKit.callS X5 hx (y := (⟨"com/example/words_into_queries/wordsintoqueries/CodePointOrderComparePinLaw", "next", "(II)I"⟩ : MethodName)) hown (mvT hZ (hw _ (List.mem_of_getElem? (i := 65) rfl))) (mvT hZ (hw _ (List.mem_of_getElem? (i := 66) rfl))) (mvT hZ (hw _ (List.mem_of_getElem? (i := 2) rfl))) (mvT hZ (hw _ (List.mem_of_getElem? (i := 67) rfl))) (by decide) (backOf (W := 0) (rmNx l Z a0 hw [] (0) (q0) h0 n0 Zn6 (by omega)) hZ (hw _ (List.mem_of_getElem? (i := 67) rfl)) (hw _ (List.mem_of_getElem? (i := 2) rfl)) (by decide) (by decide)) (g := (mkF m 37 #[.val (.ref a1), .val (.ref a2), .val (.int p0), .val (.int q0), .val (.int (Int32.ofNat (own_nx 0 p0.toInt))), .unset] [(.int q0), (.int (0 : Int32))])) rfl (by rw [hml]; rfl) (argsL := [(.int (0 : Int32)), (.int q0)]) (rest := []) (lenOf own_pd_28II29I rfl) rfl (by show 2 * 0 + _ ≤ _; exact Nat.le_of_eq rfl) (hb hby own_d10_37) (fun _ _ => ⟨rfl, eh5, (by decide : 0 + 0 ≤ _), (by decide : 0 + 0 ≤ _)⟩)
    dsimp only [Pt.U, Pt.locs, Pt.cells, Pt.slots] at X6 l6 y6 z6 st6 hQ6
    subst l6 y6 z6
    obtain ⟨rfl, Nq6, eh6⟩ := hQ6
    have N6 := Fr.app N5 Nq6
    refine own_go st6 ?_
    show own_Rn p e below _ (T6.setTop (mkF m 40 #[.val (.ref a1), .val (.ref a2), .val (.int p0), .val (.int q0), .val (.int (Int32.ofNat (own_nx 0 p0.toInt))), .unset] [(.int (Int32.ofNat (own_nx 0 q0.toInt)))]))
    obtain ⟨i1, hi1⟩ : ∃ z : Nat, z = (own_nx 0 p0.toInt) := ⟨_, rfl⟩
    rw [← hi1] at v0 mA0 oA0 ⊢
    obtain ⟨j1, hj1⟩ : ∃ z : Nat, z = (own_nx 0 q0.toInt) := ⟨_, rfl⟩
    rw [← hj1] at v0 mB0 oB0 ⊢
    show own_Rn p e below _ (T6.setTop (mkF m 40 #[.val (.ref a1), .val (.ref a2), .val (.int p0), .val (.int q0), .val (.int (Int32.ofNat i1)), .unset] [(.int (Int32.ofNat j1))]))
    have u1 := v0
    refine own_go (fun tq kq => XS.istore X6.here hx rfl (hb hby own_d10_40) rfl (l' := #[.val (.ref a1), .val (.ref a2), .val (.int p0), .val (.int q0), .val (.int (Int32.ofNat i1)), .val (.int (Int32.ofNat j1))]) rfl kq) ?_
    show own_Rn p e below _ (T6.setTop (mkF m 42 #[.val (.ref a1), .val (.ref a2), .val (.int p0), .val (.int q0), .val (.int (Int32.ofNat i1)), .val (.int (Int32.ofNat j1))] []))
    refine own_go (fun tq kq => XS.aloadN X6.here hx rfl (hb hby own_d10_42) rfl rfl kq) ?_
    show own_Rn p e below _ (T6.setTop (mkF m 43 #[.val (.ref a1), .val (.ref a2), .val (.int p0), .val (.int q0), .val (.int (Int32.ofNat i1)), .val (.int (Int32.ofNat j1))] [(.ref a1)]))
    refine own_go (fun tq kq => XS.iload X6.here hx rfl (hb hby own_d10_43) rfl kq) ?_
    show own_Rn p e below _ (T6.setTop (mkF m 45 #[.val (.ref a1), .val (.ref a2), .val (.int p0), .val (.int q0), .val (.int (Int32.ofNat i1)), .val (.int (Int32.ofNat j1))] [(.int (Int32.ofNat i1)), (.ref a1)]))
    have Zn7 : n0 ≤ h0.size := by omega
    obtain ⟨rv7, _, ⟨T7, L7, k7, n7⟩, -, X7, ⟨Lc7, hQ7, l7, y7, z7⟩, st7⟩ := Jvm.LawKit.callS X6 hx (y := (⟨"com/example/words_into_queries/wordsintoqueries/CodePointOrderComparePinLaw", "at", "([CI)I"⟩ : MethodName)) hown (mvT hZ (hw _ (List.mem_of_getElem? (i := 62) rfl))) (mvT hZ (hw _ (List.mem_of_getElem? (i := 63) rfl))) (mvT hZ (hw _ (List.mem_of_getElem? (i := 2) rfl))) (mvT hZ (hw _ (List.mem_of_getElem? (i := 64) rfl))) (by decide) (backOf (W := 0) (rmAt l Z a0 hw [] (a1) (ka1) (UA) (dv1) (i1) h0 n0 Zn7 Pm0 (hnUA) (hrUA) (by omega)) hZ (hw _ (List.mem_of_getElem? (i := 64) rfl)) (hw _ (List.mem_of_getElem? (i := 2) rfl)) (by decide) (by decide)) (g := (mkF m 45 #[.val (.ref a1), .val (.ref a2), .val (.int p0), .val (.int q0), .val (.int (Int32.ofNat i1)), .val (.int (Int32.ofNat j1))] [(.int (Int32.ofNat i1)), (.ref a1)])) rfl (by rw [hml]; rfl) (argsL := [(.ref a1), (.int (Int32.ofNat i1))]) (rest := []) (lenOf own_pd_285bCI29I rfl) rfl (by show 2 * 0 + _ ≤ _; exact Nat.le_of_eq rfl) (hb hby own_d10_45) (fun _ _ => ⟨rfl, eh6, (by decide : 0 + 0 ≤ _), (by decide : 0 + 0 ≤ _)⟩)
    dsimp only [Pt.U, Pt.locs, Pt.cells, Pt.slots] at X7 l7 y7 z7 st7 hQ7
    subst l7 y7 z7
    obtain ⟨p1, rfl, Nq7, eh7, R_7⟩ := hQ7
    have N7 := Fr.app N6 Nq7
    refine own_go st7 ?_
    show own_Rn p e below _ (T7.setTop (mkF m 48 #[.val (.ref a1), .val (.ref a2), .val (.int p0), .val (.int q0), .val (.int (Int32.ofNat i1)), .val (.int (Int32.ofNat j1))] [(.int p1)]))
    refine own_go (fun tq kq => XS.istoreN X7.here hx rfl (hb hby own_d10_48) rfl (l' := #[.val (.ref a1), .val (.ref a2), .val (.int p1), .val (.int q0), .val (.int (Int32.ofNat i1)), .val (.int (Int32.ofNat j1))]) rfl kq) ?_
    show own_Rn p e below _ (T7.setTop (mkF m 49 #[.val (.ref a1), .val (.ref a2), .val (.int p1), .val (.int q0), .val (.int (Int32.ofNat i1)), .val (.int (Int32.ofNat j1))] []))
    refine own_go (fun tq kq => XS.aloadN X7.here hx rfl (hb hby own_d10_49) rfl rfl kq) ?_
    show own_Rn p e below _ (T7.setTop (mkF m 50 #[.val (.ref a1), .val (.ref a2), .val (.int p1), .val (.int q0), .val (.int (Int32.ofNat i1)), .val (.int (Int32.ofNat j1))] [(.ref a2)]))
    refine own_go (fun tq kq => XS.iload X7.here hx rfl (hb hby own_d10_50) rfl kq) ?_
    show own_Rn p e below _ (T7.setTop (mkF m 52 #[.val (.ref a1), .val (.ref a2), .val (.int p1), .val (.int q0), .val (.int (Int32.ofNat i1)), .val (.int (Int32.ofNat j1))] [(.int (Int32.ofNat j1)), (.ref a2)]))
    have Zn8 : n0 ≤ h0.size := by omega
    obtain ⟨rv8, _, ⟨T8, L8, k8, n8⟩, -, X8, ⟨Lc8, hQ8, l8, y8, z8⟩, st8⟩ := Jvm.LawKit.callS X7 hx (y := (⟨"com/example/words_into_queries/wordsintoqueries/CodePointOrderComparePinLaw", "at", "([CI)I"⟩ : MethodName)) hown (mvT hZ (hw _ (List.mem_of_getElem? (i := 62) rfl))) (mvT hZ (hw _ (List.mem_of_getElem? (i := 63) rfl))) (mvT hZ (hw _ (List.mem_of_getElem? (i := 2) rfl))) (mvT hZ (hw _ (List.mem_of_getElem? (i := 64) rfl))) (by decide) (backOf (W := 0) (rmAt l Z a0 hw [] (a2) (ka2) (UB) (dv2) (j1) h0 n0 Zn8 Pm3 (hnUB) (hrUB) (by omega)) hZ (hw _ (List.mem_of_getElem? (i := 64) rfl)) (hw _ (List.mem_of_getElem? (i := 2) rfl)) (by decide) (by decide)) (g := (mkF m 52 #[.val (.ref a1), .val (.ref a2), .val (.int p1), .val (.int q0), .val (.int (Int32.ofNat i1)), .val (.int (Int32.ofNat j1))] [(.int (Int32.ofNat j1)), (.ref a2)])) rfl (by rw [hml]; rfl) (argsL := [(.ref a2), (.int (Int32.ofNat j1))]) (rest := []) (lenOf own_pd_285bCI29I rfl) rfl (by show 2 * 0 + _ ≤ _; exact Nat.le_of_eq rfl) (hb hby own_d10_52) (fun _ _ => ⟨rfl, eh7, (by decide : 0 + 0 ≤ _), (by decide : 0 + 0 ≤ _)⟩)
    dsimp only [Pt.U, Pt.locs, Pt.cells, Pt.slots] at X8 l8 y8 z8 st8 hQ8
    subst l8 y8 z8
    obtain ⟨q1, rfl, Nq8, eh8, R_8⟩ := hQ8
    have N8 := Fr.app N7 Nq8
    refine own_go st8 ?_
    show own_Rn p e below _ (T8.setTop (mkF m 55 #[.val (.ref a1), .val (.ref a2), .val (.int p1), .val (.int q0), .val (.int (Int32.ofNat i1)), .val (.int (Int32.ofNat j1))] [(.int q1)]))
    refine own_go (fun tq kq => XS.istoreN X8.here hx rfl (hb hby own_d10_55) rfl (l' := #[.val (.ref a1), .val (.ref a2), .val (.int p1), .val (.int q1), .val (.int (Int32.ofNat i1)), .val (.int (Int32.ofNat j1))]) rfl kq) ?_
    show own_Rn p e below _ (T8.setTop (mkF m 56 #[.val (.ref a1), .val (.ref a2), .val (.int p1), .val (.int q1), .val (.int (Int32.ofNat i1)), .val (.int (Int32.ofNat j1))] []))
    refine own_go (fun tq kq => XS.iloadN X8.here hx rfl (hb hby own_d10_56) rfl kq) ?_
    show own_Rn p e below _ (T8.setTop (mkF m 57 #[.val (.ref a1), .val (.ref a2), .val (.int p1), .val (.int q1), .val (.int (Int32.ofNat i1)), .val (.int (Int32.ofNat j1))] [(.int p1)]))
    refine own_go (fun tq kq => XS.iloadN X8.here hx rfl (hb hby own_d10_57) rfl kq) ?_
    show own_Rn p e below _ (T8.setTop (mkF m 58 #[.val (.ref a1), .val (.ref a2), .val (.int p1), .val (.int q1), .val (.int (Int32.ofNat i1)), .val (.int (Int32.ofNat j1))] [(.int q1), (.int p1)]))
    have v1 := own_ref_step (own_il UA) (own_il UB) rA rB i1 j1
    rw [← u1, ← R_7, ← R_8] at v1
    have mA1 := own_nx_min (own_il UA) rA i1 1 (by omega)
    have mB1 := own_nx_min (own_il UB) rB j1 1 (by omega)
    rw [← R_7] at mA1
    rw [← R_8] at mB1
    by_cases he1 : p1 = q1
    · skip
      refine own_go (fun tq kq => XS.icmpYes X8.here hx rfl (pc0 := 58) (pc' := 72) rfl (hb hby own_d10_58) rfl (teq (he1 : p1 = q1)).1 (by decide) (by decide) kq) ?_
      show own_Rn p e below _ (T8.setTop (mkF m 72 #[.val (.ref a1), .val (.ref a2), .val (.int p1), .val (.int q1), .val (.int (Int32.ofNat i1)), .val (.int (Int32.ofNat j1))] []))
      rw [if_pos (congrArg Int32.toInt he1)] at v1
      have oA1 := own_nx_le i1 p1.toInt
      have oB1 := own_nx_le j1 q1.toInt
      refine own_go (fun tq kq => XS.iload X8.here hx rfl (hb hby own_d10_72) rfl kq) ?_
      show own_Rn p e below _ (T8.setTop (mkF m 74 #[.val (.ref a1), .val (.ref a2), .val (.int p1), .val (.int q1), .val (.int (Int32.ofNat i1)), .val (.int (Int32.ofNat j1))] [(.int (Int32.ofNat i1))]))
      refine own_go (fun tq kq => XS.iloadN X8.here hx rfl (hb hby own_d10_74) rfl kq) ?_
      show own_Rn p e below _ (T8.setTop (mkF m 75 #[.val (.ref a1), .val (.ref a2), .val (.int p1), .val (.int q1), .val (.int (Int32.ofNat i1)), .val (.int (Int32.ofNat j1))] [(.int p1), (.int (Int32.ofNat i1))]))
      have Zn9 : n0 ≤ h0.size := by omega
      obtain ⟨rv9, _, ⟨T9, L9, k9, n9⟩, -, X9, ⟨Lc9, hQ9, l9, y9, z9⟩, st9⟩ := Jvm.LawKit.callS X8 hx (y := (⟨"com/example/words_into_queries/wordsintoqueries/CodePointOrderComparePinLaw", "next", "(II)I"⟩ : MethodName)) hown (mvT hZ (hw _ (List.mem_of_getElem? (i := 65) rfl))) (mvT hZ (hw _ (List.mem_of_getElem? (i := 66) rfl))) (mvT hZ (hw _ (List.mem_of_getElem? (i := 2) rfl))) (mvT hZ (hw _ (List.mem_of_getElem? (i := 67) rfl))) (by decide) (backOf (W := 0) (rmNx l Z a0 hw [] (i1) (p1) h0 n0 Zn9 (by omega)) hZ (hw _ (List.mem_of_getElem? (i := 67) rfl)) (hw _ (List.mem_of_getElem? (i := 2) rfl)) (by decide) (by decide)) (g := (mkF m 75 #[.val (.ref a1), .val (.ref a2), .val (.int p1), .val (.int q1), .val (.int (Int32.ofNat i1)), .val (.int (Int32.ofNat j1))] [(.int p1), (.int (Int32.ofNat i1))])) rfl (by rw [hml]; rfl) (argsL := [(.int (Int32.ofNat i1)), (.int p1)]) (rest := []) (lenOf own_pd_28II29I rfl) rfl (by show 2 * 0 + _ ≤ _; exact Nat.le_of_eq rfl) (hb hby own_d10_75) (fun _ _ => ⟨rfl, eh8, (by decide : 0 + 0 ≤ _), (by decide : 0 + 0 ≤ _)⟩)
      dsimp only [Pt.U, Pt.locs, Pt.cells, Pt.slots] at X9 l9 y9 z9 st9 hQ9
      subst l9 y9 z9
      obtain ⟨rfl, Nq9, eh9⟩ := hQ9
      have N9 := Fr.app N8 Nq9
      refine own_go st9 ?_
      show own_Rn p e below _ (T9.setTop (mkF m 78 #[.val (.ref a1), .val (.ref a2), .val (.int p1), .val (.int q1), .val (.int (Int32.ofNat i1)), .val (.int (Int32.ofNat j1))] [(.int (Int32.ofNat (own_nx i1 p1.toInt)))]))
      refine own_go (fun tq kq => XS.istore X9.here hx rfl (hb hby own_d10_78) rfl (l' := #[.val (.ref a1), .val (.ref a2), .val (.int p1), .val (.int q1), .val (.int (Int32.ofNat (own_nx i1 p1.toInt))), .val (.int (Int32.ofNat j1))]) rfl kq) ?_
      show own_Rn p e below _ (T9.setTop (mkF m 80 #[.val (.ref a1), .val (.ref a2), .val (.int p1), .val (.int q1), .val (.int (Int32.ofNat (own_nx i1 p1.toInt))), .val (.int (Int32.ofNat j1))] []))
      refine own_go (fun tq kq => XS.iload X9.here hx rfl (hb hby own_d10_80) rfl kq) ?_
      show own_Rn p e below _ (T9.setTop (mkF m 82 #[.val (.ref a1), .val (.ref a2), .val (.int p1), .val (.int q1), .val (.int (Int32.ofNat (own_nx i1 p1.toInt))), .val (.int (Int32.ofNat j1))] [(.int (Int32.ofNat j1))]))
      refine own_go (fun tq kq => XS.iloadN X9.here hx rfl (hb hby own_d10_82) rfl kq) ?_
      show own_Rn p e below _ (T9.setTop (mkF m 83 #[.val (.ref a1), .val (.ref a2), .val (.int p1), .val (.int q1), .val (.int (Int32.ofNat (own_nx i1 p1.toInt))), .val (.int (Int32.ofNat j1))] [(.int q1), (.int (Int32.ofNat j1))]))
      have Zn10 : n0 ≤ h0.size := by omega
      obtain ⟨rv10, _, ⟨T10, L10, k10, n10⟩, -, X10, ⟨Lc10, hQ10, l10, y10, z10⟩, st10⟩ := Jvm.LawKit.callS X9 hx (y := (⟨"com/example/words_into_queries/wordsintoqueries/CodePointOrderComparePinLaw", "next", "(II)I"⟩ : MethodName)) hown (mvT hZ (hw _ (List.mem_of_getElem? (i := 65) rfl))) (mvT hZ (hw _ (List.mem_of_getElem? (i := 66) rfl))) (mvT hZ (hw _ (List.mem_of_getElem? (i := 2) rfl))) (mvT hZ (hw _ (List.mem_of_getElem? (i := 67) rfl))) (by decide) (backOf (W := 0) (rmNx l Z a0 hw [] (j1) (q1) h0 n0 Zn10 (by omega)) hZ (hw _ (List.mem_of_getElem? (i := 67) rfl)) (hw _ (List.mem_of_getElem? (i := 2) rfl)) (by decide) (by decide)) (g := (mkF m 83 #[.val (.ref a1), .val (.ref a2), .val (.int p1), .val (.int q1), .val (.int (Int32.ofNat (own_nx i1 p1.toInt))), .val (.int (Int32.ofNat j1))] [(.int q1), (.int (Int32.ofNat j1))])) rfl (by rw [hml]; rfl) (argsL := [(.int (Int32.ofNat j1)), (.int q1)]) (rest := []) (lenOf own_pd_28II29I rfl) rfl (by show 2 * 0 + _ ≤ _; exact Nat.le_of_eq rfl) (hb hby own_d10_83) (fun _ _ => ⟨rfl, eh9, (by decide : 0 + 0 ≤ _), (by decide : 0 + 0 ≤ _)⟩)
      dsimp only [Pt.U, Pt.locs, Pt.cells, Pt.slots] at X10 l10 y10 z10 st10 hQ10
      subst l10 y10 z10
      obtain ⟨rfl, Nq10, eh10⟩ := hQ10
      have N10 := Fr.app N9 Nq10
      refine own_go st10 ?_
      show own_Rn p e below _ (T10.setTop (mkF m 86 #[.val (.ref a1), .val (.ref a2), .val (.int p1), .val (.int q1), .val (.int (Int32.ofNat (own_nx i1 p1.toInt))), .val (.int (Int32.ofNat j1))] [(.int (Int32.ofNat (own_nx j1 q1.toInt)))]))
      obtain ⟨i2, hi2⟩ : ∃ z : Nat, z = (own_nx i1 p1.toInt) := ⟨_, rfl⟩
      rw [← hi2] at v1 mA1 oA1 ⊢
      obtain ⟨j2, hj2⟩ : ∃ z : Nat, z = (own_nx j1 q1.toInt) := ⟨_, rfl⟩
      rw [← hj2] at v1 mB1 oB1 ⊢
      show own_Rn p e below _ (T10.setTop (mkF m 86 #[.val (.ref a1), .val (.ref a2), .val (.int p1), .val (.int q1), .val (.int (Int32.ofNat i2)), .val (.int (Int32.ofNat j1))] [(.int (Int32.ofNat j2))]))
      have u2 := v1
      refine own_go (fun tq kq => XS.istore X10.here hx rfl (hb hby own_d10_86) rfl (l' := #[.val (.ref a1), .val (.ref a2), .val (.int p1), .val (.int q1), .val (.int (Int32.ofNat i2)), .val (.int (Int32.ofNat j2))]) rfl kq) ?_
      show own_Rn p e below _ (T10.setTop (mkF m 88 #[.val (.ref a1), .val (.ref a2), .val (.int p1), .val (.int q1), .val (.int (Int32.ofNat i2)), .val (.int (Int32.ofNat j2))] []))
      refine own_go (fun tq kq => XS.aloadN X10.here hx rfl (hb hby own_d10_88) rfl rfl kq) ?_
      show own_Rn p e below _ (T10.setTop (mkF m 89 #[.val (.ref a1), .val (.ref a2), .val (.int p1), .val (.int q1), .val (.int (Int32.ofNat i2)), .val (.int (Int32.ofNat j2))] [(.ref a1)]))
      refine own_go (fun tq kq => XS.iload X10.here hx rfl (hb hby own_d10_89) rfl kq) ?_
      show own_Rn p e below _ (T10.setTop (mkF m 91 #[.val (.ref a1), .val (.ref a2), .val (.int p1), .val (.int q1), .val (.int (Int32.ofNat i2)), .val (.int (Int32.ofNat j2))] [(.int (Int32.ofNat i2)), (.ref a1)]))
      have Zn11 : n0 ≤ h0.size := by omega
      obtain ⟨rv11, _, ⟨T11, L11, k11, n11⟩, -, X11, ⟨Lc11, hQ11, l11, y11, z11⟩, st11⟩ := Jvm.LawKit.callS X10 hx (y := (⟨"com/example/words_into_queries/wordsintoqueries/CodePointOrderComparePinLaw", "at", "([CI)I"⟩ : MethodName)) hown (mvT hZ (hw _ (List.mem_of_getElem? (i := 62) rfl))) (mvT hZ (hw _ (List.mem_of_getElem? (i := 63) rfl))) (mvT hZ (hw _ (List.mem_of_getElem? (i := 2) rfl))) (mvT hZ (hw _ (List.mem_of_getElem? (i := 64) rfl))) (by decide) (backOf (W := 0) (rmAt l Z a0 hw [] (a1) (ka1) (UA) (dv1) (i2) h0 n0 Zn11 Pm0 (hnUA) (hrUA) (by omega)) hZ (hw _ (List.mem_of_getElem? (i := 64) rfl)) (hw _ (List.mem_of_getElem? (i := 2) rfl)) (by decide) (by decide)) (g := (mkF m 91 #[.val (.ref a1), .val (.ref a2), .val (.int p1), .val (.int q1), .val (.int (Int32.ofNat i2)), .val (.int (Int32.ofNat j2))] [(.int (Int32.ofNat i2)), (.ref a1)])) rfl (by rw [hml]; rfl) (argsL := [(.ref a1), (.int (Int32.ofNat i2))]) (rest := []) (lenOf own_pd_285bCI29I rfl) rfl (by show 2 * 0 + _ ≤ _; exact Nat.le_of_eq rfl) (hb hby own_d10_91) (fun _ _ => ⟨rfl, eh10, (by decide : 0 + 0 ≤ _), (by decide : 0 + 0 ≤ _)⟩)
      dsimp only [Pt.U, Pt.locs, Pt.cells, Pt.slots] at X11 l11 y11 z11 st11 hQ11
      subst l11 y11 z11
      obtain ⟨p2, rfl, Nq11, eh11, R_11⟩ := hQ11
      have N11 := Fr.app N10 Nq11
      refine own_go st11 ?_
      show own_Rn p e below _ (T11.setTop (mkF m 94 #[.val (.ref a1), .val (.ref a2), .val (.int p1), .val (.int q1), .val (.int (Int32.ofNat i2)), .val (.int (Int32.ofNat j2))] [(.int p2)]))
      refine own_go (fun tq kq => XS.istoreN X11.here hx rfl (hb hby own_d10_94) rfl (l' := #[.val (.ref a1), .val (.ref a2), .val (.int p2), .val (.int q1), .val (.int (Int32.ofNat i2)), .val (.int (Int32.ofNat j2))]) rfl kq) ?_
      show own_Rn p e below _ (T11.setTop (mkF m 95 #[.val (.ref a1), .val (.ref a2), .val (.int p2), .val (.int q1), .val (.int (Int32.ofNat i2)), .val (.int (Int32.ofNat j2))] []))
      refine own_go (fun tq kq => XS.aloadN X11.here hx rfl (hb hby own_d10_95) rfl rfl kq) ?_
      show own_Rn p e below _ (T11.setTop (mkF m 96 #[.val (.ref a1), .val (.ref a2), .val (.int p2), .val (.int q1), .val (.int (Int32.ofNat i2)), .val (.int (Int32.ofNat j2))] [(.ref a2)]))
      refine own_go (fun tq kq => XS.iload X11.here hx rfl (hb hby own_d10_96) rfl kq) ?_
      show own_Rn p e below _ (T11.setTop (mkF m 98 #[.val (.ref a1), .val (.ref a2), .val (.int p2), .val (.int q1), .val (.int (Int32.ofNat i2)), .val (.int (Int32.ofNat j2))] [(.int (Int32.ofNat j2)), (.ref a2)]))
      have Zn12 : n0 ≤ h0.size := by omega
      obtain ⟨rv12, _, ⟨T12, L12, k12, n12⟩, -, X12, ⟨Lc12, hQ12, l12, y12, z12⟩, st12⟩ := Jvm.LawKit.callS X11 hx (y := (⟨"com/example/words_into_queries/wordsintoqueries/CodePointOrderComparePinLaw", "at", "([CI)I"⟩ : MethodName)) hown (mvT hZ (hw _ (List.mem_of_getElem? (i := 62) rfl))) (mvT hZ (hw _ (List.mem_of_getElem? (i := 63) rfl))) (mvT hZ (hw _ (List.mem_of_getElem? (i := 2) rfl))) (mvT hZ (hw _ (List.mem_of_getElem? (i := 64) rfl))) (by decide) (backOf (W := 0) (rmAt l Z a0 hw [] (a2) (ka2) (UB) (dv2) (j2) h0 n0 Zn12 Pm3 (hnUB) (hrUB) (by omega)) hZ (hw _ (List.mem_of_getElem? (i := 64) rfl)) (hw _ (List.mem_of_getElem? (i := 2) rfl)) (by decide) (by decide)) (g := (mkF m 98 #[.val (.ref a1), .val (.ref a2), .val (.int p2), .val (.int q1), .val (.int (Int32.ofNat i2)), .val (.int (Int32.ofNat j2))] [(.int (Int32.ofNat j2)), (.ref a2)])) rfl (by rw [hml]; rfl) (argsL := [(.ref a2), (.int (Int32.ofNat j2))]) (rest := []) (lenOf own_pd_285bCI29I rfl) rfl (by show 2 * 0 + _ ≤ _; exact Nat.le_of_eq rfl) (hb hby own_d10_98) (fun _ _ => ⟨rfl, eh11, (by decide : 0 + 0 ≤ _), (by decide : 0 + 0 ≤ _)⟩)
      dsimp only [Pt.U, Pt.locs, Pt.cells, Pt.slots] at X12 l12 y12 z12 st12 hQ12
      subst l12 y12 z12
      obtain ⟨q2, rfl, Nq12, eh12, R_12⟩ := hQ12
      have N12 := Fr.app N11 Nq12
      refine own_go st12 ?_
      show own_Rn p e below _ (T12.setTop (mkF m 101 #[.val (.ref a1), .val (.ref a2), .val (.int p2), .val (.int q1), .val (.int (Int32.ofNat i2)), .val (.int (Int32.ofNat j2))] [(.int q2)]))
      refine own_go (fun tq kq => XS.istoreN X12.here hx rfl (hb hby own_d10_101) rfl (l' := #[.val (.ref a1), .val (.ref a2), .val (.int p2), .val (.int q2), .val (.int (Int32.ofNat i2)), .val (.int (Int32.ofNat j2))]) rfl kq) ?_
      show own_Rn p e below _ (T12.setTop (mkF m 102 #[.val (.ref a1), .val (.ref a2), .val (.int p2), .val (.int q2), .val (.int (Int32.ofNat i2)), .val (.int (Int32.ofNat j2))] []))
      refine own_go (fun tq kq => XS.iloadN X12.here hx rfl (hb hby own_d10_102) rfl kq) ?_
      show own_Rn p e below _ (T12.setTop (mkF m 103 #[.val (.ref a1), .val (.ref a2), .val (.int p2), .val (.int q2), .val (.int (Int32.ofNat i2)), .val (.int (Int32.ofNat j2))] [(.int p2)]))
      refine own_go (fun tq kq => XS.iloadN X12.here hx rfl (hb hby own_d10_103) rfl kq) ?_
      show own_Rn p e below _ (T12.setTop (mkF m 104 #[.val (.ref a1), .val (.ref a2), .val (.int p2), .val (.int q2), .val (.int (Int32.ofNat i2)), .val (.int (Int32.ofNat j2))] [(.int q2), (.int p2)]))
      have v2 := own_ref_step (own_il UA) (own_il UB) rA rB i2 j2
      rw [← u2, ← R_11, ← R_12] at v2
      have mA2 := own_nx_min (own_il UA) rA i2 2 (by omega)
      have mB2 := own_nx_min (own_il UB) rB j2 2 (by omega)
      rw [← R_11] at mA2
      rw [← R_12] at mB2
      by_cases he2 : p2 = q2
      · skip
        refine own_go (fun tq kq => XS.icmpYes X12.here hx rfl (pc0 := 104) (pc' := 118) rfl (hb hby own_d10_104) rfl (teq (he2 : p2 = q2)).1 (by decide) (by decide) kq) ?_
        show own_Rn p e below _ (T12.setTop (mkF m 118 #[.val (.ref a1), .val (.ref a2), .val (.int p2), .val (.int q2), .val (.int (Int32.ofNat i2)), .val (.int (Int32.ofNat j2))] []))
        rw [if_pos (congrArg Int32.toInt he2)] at v2
        have oA2 := own_nx_le i2 p2.toInt
        have oB2 := own_nx_le j2 q2.toInt
        have u3 := v2
        refine own_go (fun tq kq => XS.iconst X12.here hx rfl (hb hby own_d10_118) kq) ?_
        show own_Rn p e below _ (T12.setTop (mkF m 119 #[.val (.ref a1), .val (.ref a2), .val (.int p2), .val (.int q2), .val (.int (Int32.ofNat i2)), .val (.int (Int32.ofNat j2))] [(.int (0 : Int32))]))
        exact own_ret X12 (v := some (.int (0 : Int32))) (fun h => by rw [Bd.returns] at h; cases h) (fun fs hr => retI X12 hx Bd.returns (hb hby own_d10_119) hr) (by rw [eh12]; exact ⟨(0 : Int32), rfl, N12, rfl, by rw [u3, own_ref_end _ _ _ _ (by omega) (by omega)]; rfl⟩) (by decide) (by decide)
      · skip
        refine own_go (fun tq kq => XS.icmpNo X12.here hx rfl (hb hby own_d10_104) rfl (feq (he2 : ¬ (p2 = q2))).1 kq) ?_
        show own_Rn p e below _ (T12.setTop (mkF m 107 #[.val (.ref a1), .val (.ref a2), .val (.int p2), .val (.int q2), .val (.int (Int32.ofNat i2)), .val (.int (Int32.ofNat j2))] []))
        rw [if_neg (fun h => he2 (Int32.toInt_inj.mp h))] at v2
        refine own_go (fun tq kq => XS.iloadN X12.here hx rfl (hb hby own_d10_107) rfl kq) ?_
        show own_Rn p e below _ (T12.setTop (mkF m 108 #[.val (.ref a1), .val (.ref a2), .val (.int p2), .val (.int q2), .val (.int (Int32.ofNat i2)), .val (.int (Int32.ofNat j2))] [(.int p2)]))
        refine own_go (fun tq kq => XS.iloadN X12.here hx rfl (hb hby own_d10_108) rfl kq) ?_
        show own_Rn p e below _ (T12.setTop (mkF m 109 #[.val (.ref a1), .val (.ref a2), .val (.int p2), .val (.int q2), .val (.int (Int32.ofNat i2)), .val (.int (Int32.ofNat j2))] [(.int q2), (.int p2)]))
        by_cases hl : p2 < q2
        · skip
          refine own_go (fun tq kq => XS.icmpNo X12.here hx rfl (hb hby own_d10_109) rfl (tlt (hl : p2 < q2)).2.1 kq) ?_
          show own_Rn p e below _ (T12.setTop (mkF m 112 #[.val (.ref a1), .val (.ref a2), .val (.int p2), .val (.int q2), .val (.int (Int32.ofNat i2)), .val (.int (Int32.ofNat j2))] []))
          refine own_go (fun tq kq => XS.iconst X12.here hx rfl (hb hby own_d10_112) kq) ?_
          show own_Rn p e below _ (T12.setTop (mkF m 113 #[.val (.ref a1), .val (.ref a2), .val (.int p2), .val (.int q2), .val (.int (Int32.ofNat i2)), .val (.int (Int32.ofNat j2))] [(.int (-1 : Int32))]))
          refine own_go (fun tq kq => XS.goto X12.here hx rfl (pc0 := 113) (pc' := 117) rfl (hb hby own_d10_113) (by decide) (by decide) kq) ?_
          show own_Rn p e below _ (T12.setTop (mkF m 117 #[.val (.ref a1), .val (.ref a2), .val (.int p2), .val (.int q2), .val (.int (Int32.ofNat i2)), .val (.int (Int32.ofNat j2))] [(.int (-1 : Int32))]))
          exact own_ret X12 (v := some (.int (-1 : Int32))) (fun h => by rw [Bd.returns] at h; cases h) (fun fs hr => retI X12 hx Bd.returns (hb hby own_d10_117) hr) (by rw [eh12]; exact ⟨(-1 : Int32), rfl, N12, rfl, by rw [v2]; exact own_sg_lt hl⟩) (by decide) (by decide)
        · skip
          refine own_go (fun tq kq => XS.icmpYes X12.here hx rfl (pc0 := 109) (pc' := 116) rfl (hb hby own_d10_109) rfl (flt (hl : ¬ (p2 < q2))).2.1 (by decide) (by decide) kq) ?_
          show own_Rn p e below _ (T12.setTop (mkF m 116 #[.val (.ref a1), .val (.ref a2), .val (.int p2), .val (.int q2), .val (.int (Int32.ofNat i2)), .val (.int (Int32.ofNat j2))] []))
          refine own_go (fun tq kq => XS.iconst X12.here hx rfl (hb hby own_d10_116) kq) ?_
          show own_Rn p e below _ (T12.setTop (mkF m 117 #[.val (.ref a1), .val (.ref a2), .val (.int p2), .val (.int q2), .val (.int (Int32.ofNat i2)), .val (.int (Int32.ofNat j2))] [(.int (1 : Int32))]))
          exact own_ret X12 (v := some (.int (1 : Int32))) (fun h => by rw [Bd.returns] at h; cases h) (fun fs hr => retI X12 hx Bd.returns (hb hby own_d10_117) hr) (by rw [eh12]; exact ⟨(1 : Int32), rfl, N12, rfl, by rw [v2]; exact own_sg_gt hl he2⟩) (by decide) (by decide)
    · skip
      refine own_go (fun tq kq => XS.icmpNo X8.here hx rfl (hb hby own_d10_58) rfl (feq (he1 : ¬ (p1 = q1))).1 kq) ?_
      show own_Rn p e below _ (T8.setTop (mkF m 61 #[.val (.ref a1), .val (.ref a2), .val (.int p1), .val (.int q1), .val (.int (Int32.ofNat i1)), .val (.int (Int32.ofNat j1))] []))
      rw [if_neg (fun h => he1 (Int32.toInt_inj.mp h))] at v1
      refine own_go (fun tq kq => XS.iloadN X8.here hx rfl (hb hby own_d10_61) rfl kq) ?_
      show own_Rn p e below _ (T8.setTop (mkF m 62 #[.val (.ref a1), .val (.ref a2), .val (.int p1), .val (.int q1), .val (.int (Int32.ofNat i1)), .val (.int (Int32.ofNat j1))] [(.int p1)]))
      refine own_go (fun tq kq => XS.iloadN X8.here hx rfl (hb hby own_d10_62) rfl kq) ?_
      show own_Rn p e below _ (T8.setTop (mkF m 63 #[.val (.ref a1), .val (.ref a2), .val (.int p1), .val (.int q1), .val (.int (Int32.ofNat i1)), .val (.int (Int32.ofNat j1))] [(.int q1), (.int p1)]))
      by_cases hl : p1 < q1
      · skip
        refine own_go (fun tq kq => XS.icmpNo X8.here hx rfl (hb hby own_d10_63) rfl (tlt (hl : p1 < q1)).2.1 kq) ?_
        show own_Rn p e below _ (T8.setTop (mkF m 66 #[.val (.ref a1), .val (.ref a2), .val (.int p1), .val (.int q1), .val (.int (Int32.ofNat i1)), .val (.int (Int32.ofNat j1))] []))
        refine own_go (fun tq kq => XS.iconst X8.here hx rfl (hb hby own_d10_66) kq) ?_
        show own_Rn p e below _ (T8.setTop (mkF m 67 #[.val (.ref a1), .val (.ref a2), .val (.int p1), .val (.int q1), .val (.int (Int32.ofNat i1)), .val (.int (Int32.ofNat j1))] [(.int (-1 : Int32))]))
        refine own_go (fun tq kq => XS.goto X8.here hx rfl (pc0 := 67) (pc' := 71) rfl (hb hby own_d10_67) (by decide) (by decide) kq) ?_
        show own_Rn p e below _ (T8.setTop (mkF m 71 #[.val (.ref a1), .val (.ref a2), .val (.int p1), .val (.int q1), .val (.int (Int32.ofNat i1)), .val (.int (Int32.ofNat j1))] [(.int (-1 : Int32))]))
        exact own_ret X8 (v := some (.int (-1 : Int32))) (fun h => by rw [Bd.returns] at h; cases h) (fun fs hr => retI X8 hx Bd.returns (hb hby own_d10_71) hr) (by rw [eh8]; exact ⟨(-1 : Int32), rfl, N8, rfl, by rw [v1]; exact own_sg_lt hl⟩) (by decide) (by decide)
      · skip
        refine own_go (fun tq kq => XS.icmpYes X8.here hx rfl (pc0 := 63) (pc' := 70) rfl (hb hby own_d10_63) rfl (flt (hl : ¬ (p1 < q1))).2.1 (by decide) (by decide) kq) ?_
        show own_Rn p e below _ (T8.setTop (mkF m 70 #[.val (.ref a1), .val (.ref a2), .val (.int p1), .val (.int q1), .val (.int (Int32.ofNat i1)), .val (.int (Int32.ofNat j1))] []))
        refine own_go (fun tq kq => XS.iconst X8.here hx rfl (hb hby own_d10_70) kq) ?_
        show own_Rn p e below _ (T8.setTop (mkF m 71 #[.val (.ref a1), .val (.ref a2), .val (.int p1), .val (.int q1), .val (.int (Int32.ofNat i1)), .val (.int (Int32.ofNat j1))] [(.int (1 : Int32))]))
        exact own_ret X8 (v := some (.int (1 : Int32))) (fun h => by rw [Bd.returns] at h; cases h) (fun fs hr => retI X8 hx Bd.returns (hb hby own_d10_71) hr) (by rw [eh8]; exact ⟨(1 : Int32), rfl, N8, rfl, by rw [v1]; exact own_sg_gt hl he1⟩) (by decide) (by decide)
  · skip
    refine own_go (fun tq kq => XS.icmpNo X4.here hx rfl (hb hby own_d10_14) rfl (feq (he0 : ¬ (p0 = q0))).1 kq) ?_
    show own_Rn p e below _ (T4.setTop (mkF m 17 #[.val (.ref a1), .val (.ref a2), .val (.int p0), .val (.int q0), .unset, .unset] []))
    rw [if_neg (fun h => he0 (Int32.toInt_inj.mp h))] at v0
    refine own_go (fun tq kq => XS.iloadN X4.here hx rfl (hb hby own_d10_17) rfl kq) ?_
    show own_Rn p e below _ (T4.setTop (mkF m 18 #[.val (.ref a1), .val (.ref a2), .val (.int p0), .val (.int q0), .unset, .unset] [(.int p0)]))
    refine own_go (fun tq kq => XS.iloadN X4.here hx rfl (hb hby own_d10_18) rfl kq) ?_
    show own_Rn p e below _ (T4.setTop (mkF m 19 #[.val (.ref a1), .val (.ref a2), .val (.int p0), .val (.int q0), .unset, .unset] [(.int q0), (.int p0)]))
    by_cases hl : p0 < q0
    · skip
      refine own_go (fun tq kq => XS.icmpNo X4.here hx rfl (hb hby own_d10_19) rfl (tlt (hl : p0 < q0)).2.1 kq) ?_
      show own_Rn p e below _ (T4.setTop (mkF m 22 #[.val (.ref a1), .val (.ref a2), .val (.int p0), .val (.int q0), .unset, .unset] []))
      refine own_go (fun tq kq => XS.iconst X4.here hx rfl (hb hby own_d10_22) kq) ?_
      show own_Rn p e below _ (T4.setTop (mkF m 23 #[.val (.ref a1), .val (.ref a2), .val (.int p0), .val (.int q0), .unset, .unset] [(.int (-1 : Int32))]))
      refine own_go (fun tq kq => XS.goto X4.here hx rfl (pc0 := 23) (pc' := 27) rfl (hb hby own_d10_23) (by decide) (by decide) kq) ?_
      show own_Rn p e below _ (T4.setTop (mkF m 27 #[.val (.ref a1), .val (.ref a2), .val (.int p0), .val (.int q0), .unset, .unset] [(.int (-1 : Int32))]))
      exact own_ret X4 (v := some (.int (-1 : Int32))) (fun h => by rw [Bd.returns] at h; cases h) (fun fs hr => retI X4 hx Bd.returns (hb hby own_d10_27) hr) (by rw [eh4]; exact ⟨(-1 : Int32), rfl, N4, rfl, by rw [v0]; exact own_sg_lt hl⟩) (by decide) (by decide)
    · skip
      refine own_go (fun tq kq => XS.icmpYes X4.here hx rfl (pc0 := 19) (pc' := 26) rfl (hb hby own_d10_19) rfl (flt (hl : ¬ (p0 < q0))).2.1 (by decide) (by decide) kq) ?_
      show own_Rn p e below _ (T4.setTop (mkF m 26 #[.val (.ref a1), .val (.ref a2), .val (.int p0), .val (.int q0), .unset, .unset] []))
      refine own_go (fun tq kq => XS.iconst X4.here hx rfl (hb hby own_d10_26) kq) ?_
      show own_Rn p e below _ (T4.setTop (mkF m 27 #[.val (.ref a1), .val (.ref a2), .val (.int p0), .val (.int q0), .unset, .unset] [(.int (1 : Int32))]))
      exact own_ret X4 (v := some (.int (1 : Int32))) (fun h => by rw [Bd.returns] at h; cases h) (fun fs hr => retI X4 hx Bd.returns (hb hby own_d10_27) hr) (by rw [eh4]; exact ⟨(1 : Int32), rfl, N4, rfl, by rw [v0]; exact own_sg_gt hl he0⟩) (by decide) (by decide)
theorem own_ef_rmPick (m : MethodId) (bb : Int64) (ii : Int32) (fl : Int32) : entryFrame m #[(.long bb), (.int ii), (.int fl)] 6 = mkF m 0 #[.val (.long bb), .second, .val (.int ii), .val (.int fl), .unset, .unset] [] := by first | (simp [entryFrame, mkF, argsToLocals, Value.category]; done) | rfl
theorem own_d0_0 : decode method_2_code 0 = .ok (.lload_n 0, 1) := by decide +kernel
theorem own_d0_1 : decode method_2_code 1 = .ok (.bipush 16, 2) := by decide +kernel
theorem own_d0_3 : decode method_2_code 3 = .ok (.iload_n 2, 1) := by decide +kernel
theorem own_d0_4 : decode method_2_code 4 = .ok (.imul, 1) := by decide +kernel
theorem own_d0_5 : decode method_2_code 5 = .ok (.lushr, 1) := by decide +kernel
theorem own_d0_6 : decode method_2_code 6 = .ok (.ldc2_w 7, 3) := by decide +kernel
theorem own_d0_9 : decode method_2_code 9 = .ok (.land, 1) := by decide +kernel
theorem own_d0_10 : decode method_2_code 10 = .ok (.l2i, 1) := by decide +kernel
theorem own_d0_11 : decode method_2_code 11 = .ok (.istore 4, 2) := by decide +kernel
theorem own_d0_13 : decode method_2_code 13 = .ok (.iload_n 3, 1) := by decide +kernel
theorem own_d0_14 : decode method_2_code 14 = .ok (.ifCond .eq 7, 3) := by decide +kernel
theorem own_d0_21 : decode method_2_code 21 = .ok (.bipush 8, 2) := by decide +kernel
theorem own_d0_23 : decode method_2_code 23 = .ok (.newarray .char, 2) := by decide +kernel
theorem own_d0_25 : decode method_2_code 25 = .ok (.dup, 1) := by decide +kernel
theorem own_d0_26 : decode method_2_code 26 = .ok (.iconst 0, 1) := by decide +kernel
theorem own_d0_27 : decode method_2_code 27 = .ok (.bipush 97, 2) := by decide +kernel
theorem own_d0_29 : decode method_2_code 29 = .ok (.castore, 1) := by decide +kernel
theorem own_d0_30 : decode method_2_code 30 = .ok (.dup, 1) := by decide +kernel
theorem own_d0_31 : decode method_2_code 31 = .ok (.iconst 1, 1) := by decide +kernel
theorem own_d0_32 : decode method_2_code 32 = .ok (.bipush 98, 2) := by decide +kernel
theorem own_d0_34 : decode method_2_code 34 = .ok (.castore, 1) := by decide +kernel
theorem own_d0_35 : decode method_2_code 35 = .ok (.dup, 1) := by decide +kernel
theorem own_d0_36 : decode method_2_code 36 = .ok (.iconst 2, 1) := by decide +kernel
theorem own_d0_37 : decode method_2_code 37 = .ok (.ldc 9, 2) := by decide +kernel
theorem own_d0_39 : decode method_2_code 39 = .ok (.castore, 1) := by decide +kernel
theorem own_d0_40 : decode method_2_code 40 = .ok (.dup, 1) := by decide +kernel
theorem own_d0_41 : decode method_2_code 41 = .ok (.iconst 3, 1) := by decide +kernel
theorem own_d0_42 : decode method_2_code 42 = .ok (.ldc 10, 2) := by decide +kernel
theorem own_d0_44 : decode method_2_code 44 = .ok (.castore, 1) := by decide +kernel
theorem own_d0_45 : decode method_2_code 45 = .ok (.dup, 1) := by decide +kernel
theorem own_d0_46 : decode method_2_code 46 = .ok (.iconst 4, 1) := by decide +kernel
theorem own_d0_47 : decode method_2_code 47 = .ok (.ldc 11, 2) := by decide +kernel
theorem own_d0_49 : decode method_2_code 49 = .ok (.castore, 1) := by decide +kernel
theorem own_d0_50 : decode method_2_code 50 = .ok (.dup, 1) := by decide +kernel
theorem own_d0_51 : decode method_2_code 51 = .ok (.iconst 5, 1) := by decide +kernel
theorem own_d0_52 : decode method_2_code 52 = .ok (.ldc 12, 2) := by decide +kernel
theorem own_d0_54 : decode method_2_code 54 = .ok (.castore, 1) := by decide +kernel
theorem own_d0_55 : decode method_2_code 55 = .ok (.dup, 1) := by decide +kernel
theorem own_d0_56 : decode method_2_code 56 = .ok (.bipush 6, 2) := by decide +kernel
theorem own_d0_58 : decode method_2_code 58 = .ok (.ldc 13, 2) := by decide +kernel
theorem own_d0_60 : decode method_2_code 60 = .ok (.castore, 1) := by decide +kernel
theorem own_d0_61 : decode method_2_code 61 = .ok (.dup, 1) := by decide +kernel
theorem own_d0_62 : decode method_2_code 62 = .ok (.bipush 7, 2) := by decide +kernel
theorem own_d0_64 : decode method_2_code 64 = .ok (.ldc 14, 2) := by decide +kernel
theorem own_d0_66 : decode method_2_code 66 = .ok (.castore, 1) := by decide +kernel
theorem own_d0_67 : decode method_2_code 67 = .ok (.astore 5, 2) := by decide +kernel
theorem own_d0_69 : decode method_2_code 69 = .ok (.aload 5, 2) := by decide +kernel
theorem own_d0_71 : decode method_2_code 71 = .ok (.iload 4, 2) := by decide +kernel
theorem own_d0_73 : decode method_2_code 73 = .ok (.bipush 7, 2) := by decide +kernel
theorem own_d0_75 : decode method_2_code 75 = .ok (.iand, 1) := by decide +kernel
theorem own_d0_76 : decode method_2_code 76 = .ok (.caload, 1) := by decide +kernel
theorem own_d0_77 : decode method_2_code 77 = .ok (.ireturn, 1) := by decide +kernel
theorem own_d0_17 : decode method_2_code 17 = .ok (.iload 4, 2) := by decide +kernel
theorem own_d0_19 : decode method_2_code 19 = .ok (.i2c, 1) := by decide +kernel
theorem own_d0_20 : decode method_2_code 20 = .ok (.ireturn, 1) := by decide +kernel
def Q_rmPick (Z : State) (bb : Int64) (ii : Int32) (fl : Int32) (h0 : Heap) (n0 : Nat) (v : Option Value) (h : Heap) (L : List Loc) : Prop := ∃ (r : Int32), v = some (.int r) ∧ Fr n0 L ∧ Keep h0 h [] ∧ (¬ r < 0 ∧ ¬ (65535 : Int32) < r)
set_option maxRecDepth 65536 in
set_option maxHeartbeats 40000000 in
theorem rmPick (l : Launch) (Z : State) (a0 : Array Value) (hw : ∀ d ∈ tables_1, d.before a0 Z = true) (ws : List Jvm.Cond) (bb : Int64) (ii : Int32) (fl : Int32) (h0 : Heap) (n0 : Nat) (Z0 : n0 ≤ h0.size)  :
    MetFree l (⟨"com/example/words_into_queries/wordsintoqueries/CodePointOrderComparePinLaw", "pick", "(JIZ)C"⟩ : MethodName) (head1 (Jvm.Cond.code (⟨"com/example/words_into_queries/wordsintoqueries/CodePointOrderComparePinLaw", "pick", "(JIZ)C"⟩ : MethodName) method_2_code 6 (some .char) :: ws) ({ frames := 0, cells := 1, slots := 8, locals := 0 } : Room)) (fun a U => a = #[(.long bb), (.int ii), (.int fl)] ∧ Z.Warmed39 U.vm ∧ U.heap = h0) (fun _ _ _ _ _ => True) (fun _ U o U' => ∃ v L, o = .returned v ∧ Q_rmPick Z bb ii fl h0 n0 v U'.heap L ∧ FrameEnd U o U' L ({ frames := 0, cells := 1, slots := 8, locals := 0 } : Room).cells ({ frames := 0, cells := 1, slots := 8, locals := 0 } : Room).slots) := by
  refine MetFree.of_bodySF (plainFor_of_name own_pn_com_example_words_into_queries_wordsintoqueries_CodePointOrderComparePinLaw) hisR ?_
  intro p e s m args below meth c s₁ Bd hml0 hP hK
  obtain ⟨rfl, hZ, hh⟩ := hP
  have hx := Bd.exec
  have hby := Bd.bytes
  have hml : c.maxLocals = 6 := hml0
  have hown : s.vm.findClass "com/example/words_into_queries/wordsintoqueries/CodePointOrderComparePinLaw" = some m.cls := findClass_of_methodNamed Bd.named
  have hnm := (name_of_methodNamed Bd.named Bd.method).1
  have X0 : Stand p l e ({ frames := 0, cells := 1, slots := 8, locals := 0 } : Room) s m #[(.long bb), (.int ii), (.int fl)] below meth c s₁ [] 0 0 := Stand.of_body Bd
  have e0 : s₁.heap = h0 := by rw [← hh, Bd.state]; rfl
  have N0 := Fr.nil n0
  have K0 : Keep h0 h0 [] := Keep.refl _ _
  refine own_go (S' := s₁.setTop (mkF m 0 #[.val (.long bb), .second, .val (.int ii), .val (.int fl), .unset, .unset] [])) (fun tq kq => castTop (own_ef_rmPick m bb ii fl) kq) ?_
  refine own_go (fun tq kq => XS.lloadN X0.here hx rfl (hb hby own_d0_0) rfl kq) ?_
  show own_Rn p e below _ (s₁.setTop (mkF m 1 #[.val (.long bb), .second, .val (.int ii), .val (.int fl), .unset, .unset] [(.long bb)]))
  refine own_go (fun tq kq => XS.bipush X0.here hx rfl (hb hby own_d0_1) kq) ?_
  show own_Rn p e below _ (s₁.setTop (mkF m 3 #[.val (.long bb), .second, .val (.int ii), .val (.int fl), .unset, .unset] [(.int (16 : Int32)), (.long bb)]))
  refine own_go (fun tq kq => XS.iloadN X0.here hx rfl (hb hby own_d0_3) rfl kq) ?_
  show own_Rn p e below _ (s₁.setTop (mkF m 4 #[.val (.long bb), .second, .val (.int ii), .val (.int fl), .unset, .unset] [(.int ii), (.int (16 : Int32)), (.long bb)]))
  refine own_go (fun tq kq => XS.imul X0.here hx rfl (hb hby own_d0_4) rfl kq) ?_
  show own_Rn p e below _ (s₁.setTop (mkF m 5 #[.val (.long bb), .second, .val (.int ii), .val (.int fl), .unset, .unset] [(.int ((16 : Int32) * ii)), (.long bb)]))
  refine own_go (fun tq kq => XS.lushr X0.here hx rfl (hb hby own_d0_5) rfl kq) ?_
  show own_Rn p e below _ (s₁.setTop (mkF m 6 #[.val (.long bb), .second, .val (.int ii), .val (.int fl), .unset, .unset] [(.long ((bb.toUInt64 >>> (((16 : Int32) * ii) &&& 0x3f).toInt64.toUInt64).toInt64))]))
  refine own_go (fun tq kq => X0.ldc2Long hx hown (mvT hZ (hw _ (List.mem_of_getElem? (i := 4) rfl))) (g := (mkF m 6 #[.val (.long bb), .second, .val (.int ii), .val (.int fl), .unset, .unset] [(.long ((bb.toUInt64 >>> (((16 : Int32) * ii) &&& 0x3f).toInt64.toUInt64).toInt64))])) rfl (hb hby own_d0_6) _ kq) ?_
  show own_Rn p e below _ (s₁.setTop (mkF m 9 #[.val (.long bb), .second, .val (.int ii), .val (.int fl), .unset, .unset] [(.long (65535 : Int64)), (.long ((bb.toUInt64 >>> (((16 : Int32) * ii) &&& 0x3f).toInt64.toUInt64).toInt64))]))
  refine own_go (fun tq kq => XS.land X0.here hx rfl (hb hby own_d0_9) rfl kq) ?_
  show own_Rn p e below _ (s₁.setTop (mkF m 10 #[.val (.long bb), .second, .val (.int ii), .val (.int fl), .unset, .unset] [(.long (((bb.toUInt64 >>> (((16 : Int32) * ii) &&& 0x3f).toInt64.toUInt64).toInt64) &&& (65535 : Int64)))]))
  refine own_go (fun tq kq => XS.l2i X0.here hx rfl (hb hby own_d0_10) rfl kq) ?_
  show own_Rn p e below _ (s₁.setTop (mkF m 11 #[.val (.long bb), .second, .val (.int ii), .val (.int fl), .unset, .unset] [(.int ((((bb.toUInt64 >>> (((16 : Int32) * ii) &&& 0x3f).toInt64.toUInt64).toInt64) &&& (65535 : Int64)).toInt32))]))
  refine own_go (fun tq kq => XS.istore X0.here hx rfl (hb hby own_d0_11) rfl (l' := #[.val (.long bb), .second, .val (.int ii), .val (.int fl), .val (.int ((((bb.toUInt64 >>> (((16 : Int32) * ii) &&& 0x3f).toInt64.toUInt64).toInt64) &&& (65535 : Int64)).toInt32)), .unset]) rfl kq) ?_
  show own_Rn p e below _ (s₁.setTop (mkF m 13 #[.val (.long bb), .second, .val (.int ii), .val (.int fl), .val (.int ((((bb.toUInt64 >>> (((16 : Int32) * ii) &&& 0x3f).toInt64.toUInt64).toInt64) &&& (65535 : Int64)).toInt32)), .unset] []))
  refine own_go (fun tq kq => XS.iloadN X0.here hx rfl (hb hby own_d0_13) rfl kq) ?_
  show own_Rn p e below _ (s₁.setTop (mkF m 14 #[.val (.long bb), .second, .val (.int ii), .val (.int fl), .val (.int ((((bb.toUInt64 >>> (((16 : Int32) * ii) &&& 0x3f).toInt64.toUInt64).toInt64) &&& (65535 : Int64)).toInt32)), .unset] [(.int fl)]))
  by_cases hf : fl = (0 : Int32)
  · skip
    refine own_go (fun tq kq => XS.ifYes X0.here hx rfl (pc0 := 14) (pc' := 21) rfl (hb hby own_d0_14) rfl ((if0 _ _).trans (teq (hf : fl = (0 : Int32))).1) (by decide) (by decide) kq) ?_
    show own_Rn p e below _ (s₁.setTop (mkF m 21 #[.val (.long bb), .second, .val (.int ii), .val (.int fl), .val (.int ((((bb.toUInt64 >>> (((16 : Int32) * ii) &&& 0x3f).toInt64.toUInt64).toInt64) &&& (65535 : Int64)).toInt32)), .unset] []))
    refine own_go (fun tq kq => XS.bipush X0.here hx rfl (hb hby own_d0_21) kq) ?_
    show own_Rn p e below _ (s₁.setTop (mkF m 23 #[.val (.long bb), .second, .val (.int ii), .val (.int fl), .val (.int ((((bb.toUInt64 >>> (((16 : Int32) * ii) &&& 0x3f).toInt64.toUInt64).toInt64) &&& (65535 : Int64)).toInt32)), .unset] [(.int (8 : Int32))]))
    obtain ⟨T2, h2, k2, X2, e2, E2, A2, st2⟩ := newP X0 hx hZ (hw _ (List.mem_of_getElem? (i := 5) rfl)) e0 (g := (mkF m 23 #[.val (.long bb), .second, .val (.int ii), .val (.int fl), .val (.int ((((bb.toUInt64 >>> (((16 : Int32) * ii) &&& 0x3f).toInt64.toUInt64).toInt64) &&& (65535 : Int64)).toInt32)), .unset] [(.int (8 : Int32))])) rfl (hb hby own_d0_23) rfl (by decide) (cap := 8) (by decide) (by decide) (by decide) (by decide)
    obtain ⟨b2, g2⟩ : ∃ z, z = h0.size := ⟨_, rfl⟩
    rw [← g2] at A2 st2
    refine own_go st2 ?_
    have sz3 : h0.size ≤ h2.size := E2.1
    have K3 := K0.ext E2
    have gn2 : n0 ≤ b2 := by omega
    have V2 : Arv Z h2 b2 k2 .char (8 : Int32) [(.int (0 : Int32)), (.int (0 : Int32)), (.int (0 : Int32)), (.int (0 : Int32)), (.int (0 : Int32)), (.int (0 : Int32)), (.int (0 : Int32)), (.int (0 : Int32))] (.int (0 : Int32)) := (Arv.new A2 (by decide)).pad (pad_rep [] _ 8)
    have lt4 : @LT.lt Nat _ b2 h2.size := V2.lt
    show own_Rn p e below _ (T2.setTop (mkF m 25 #[.val (.long bb), .second, .val (.int ii), .val (.int fl), .val (.int ((((bb.toUInt64 >>> (((16 : Int32) * ii) &&& 0x3f).toInt64.toUInt64).toInt64) &&& (65535 : Int64)).toInt32)), .unset] [(.ref b2)]))
    refine own_go (fun tq kq => XS.dup X2.here hx rfl (hb hby own_d0_25) rfl rfl kq) ?_
    show own_Rn p e below _ (T2.setTop (mkF m 26 #[.val (.long bb), .second, .val (.int ii), .val (.int fl), .val (.int ((((bb.toUInt64 >>> (((16 : Int32) * ii) &&& 0x3f).toInt64.toUInt64).toInt64) &&& (65535 : Int64)).toInt32)), .unset] [(.ref b2), (.ref b2)]))
    refine own_go (fun tq kq => XS.iconst X2.here hx rfl (hb hby own_d0_26) kq) ?_
    show own_Rn p e below _ (T2.setTop (mkF m 27 #[.val (.long bb), .second, .val (.int ii), .val (.int fl), .val (.int ((((bb.toUInt64 >>> (((16 : Int32) * ii) &&& 0x3f).toInt64.toUInt64).toInt64) &&& (65535 : Int64)).toInt32)), .unset] [(.int (0 : Int32)), (.ref b2), (.ref b2)]))
    refine own_go (fun tq kq => XS.bipush X2.here hx rfl (hb hby own_d0_27) kq) ?_
    show own_Rn p e below _ (T2.setTop (mkF m 29 #[.val (.long bb), .second, .val (.int ii), .val (.int fl), .val (.int ((((bb.toUInt64 >>> (((16 : Int32) * ii) &&& 0x3f).toInt64.toUInt64).toInt64) &&& (65535 : Int64)).toInt32)), .unset] [(.int (97 : Int32)), (.int (0 : Int32)), (.ref b2), (.ref b2)]))
    obtain ⟨cl5, Ar5, q5, Sz5, Nn5, Hs5, G5⟩ := id V2
    obtain ⟨T5, h5, X5, e5, W5, st5⟩ := stC X2 hx hZ e2 Ar5 (j := (0 : Int32)) (inb_of Sz5 ⟨by decide, by decide⟩) (g := (mkF m 29 #[.val (.long bb), .second, .val (.int ii), .val (.int fl), .val (.int ((((bb.toUInt64 >>> (((16 : Int32) * ii) &&& 0x3f).toInt64.toUInt64).toInt64) &&& (65535 : Int64)).toInt32)), .unset] [(.int (97 : Int32)), (.int (0 : Int32)), (.ref b2), (.ref b2)])) rfl rfl (hb hby own_d0_29)
    refine own_go st5 ?_
    have V5 : Arv Z h5 b2 k2 .char (8 : Int32) [(.int (97 : Int32)), (.int (0 : Int32)), (.int (0 : Int32)), (.int (0 : Int32)), (.int (0 : Int32)), (.int (0 : Int32)), (.int (0 : Int32)), (.int (0 : Int32))] (.int (0 : Int32)) := Arv.set Ar5 q5 Sz5 Nn5 Hs5 G5 rfl W5 0 rfl (Nat.le_of_ble_eq_true rfl)
    have N5 := Fr.snoc X5 N0 gn2
    have sz6 : h2.size ≤ h5.size := Nat.le_of_eq (Wr.size W5).symm
    have K6 := K3.wr W5 (Or.inr (by omega))
    show own_Rn p e below _ (T5.setTop (mkF m 30 #[.val (.long bb), .second, .val (.int ii), .val (.int fl), .val (.int ((((bb.toUInt64 >>> (((16 : Int32) * ii) &&& 0x3f).toInt64.toUInt64).toInt64) &&& (65535 : Int64)).toInt32)), .unset] [(.ref b2)]))
    refine own_go (fun tq kq => XS.dup X5.here hx rfl (hb hby own_d0_30) rfl rfl kq) ?_
    show own_Rn p e below _ (T5.setTop (mkF m 31 #[.val (.long bb), .second, .val (.int ii), .val (.int fl), .val (.int ((((bb.toUInt64 >>> (((16 : Int32) * ii) &&& 0x3f).toInt64.toUInt64).toInt64) &&& (65535 : Int64)).toInt32)), .unset] [(.ref b2), (.ref b2)]))
    refine own_go (fun tq kq => XS.iconst X5.here hx rfl (hb hby own_d0_31) kq) ?_
    show own_Rn p e below _ (T5.setTop (mkF m 32 #[.val (.long bb), .second, .val (.int ii), .val (.int fl), .val (.int ((((bb.toUInt64 >>> (((16 : Int32) * ii) &&& 0x3f).toInt64.toUInt64).toInt64) &&& (65535 : Int64)).toInt32)), .unset] [(.int (1 : Int32)), (.ref b2), (.ref b2)]))
    refine own_go (fun tq kq => XS.bipush X5.here hx rfl (hb hby own_d0_32) kq) ?_
    show own_Rn p e below _ (T5.setTop (mkF m 34 #[.val (.long bb), .second, .val (.int ii), .val (.int fl), .val (.int ((((bb.toUInt64 >>> (((16 : Int32) * ii) &&& 0x3f).toInt64.toUInt64).toInt64) &&& (65535 : Int64)).toInt32)), .unset] [(.int (98 : Int32)), (.int (1 : Int32)), (.ref b2), (.ref b2)]))
    obtain ⟨cl7, Ar7, q7, Sz7, Nn7, Hs7, G7⟩ := id V5
    obtain ⟨T7, h7, X7, e7, W7, st7⟩ := stC X5 hx hZ e5 Ar7 (j := (1 : Int32)) (inb_of Sz7 ⟨by decide, by decide⟩) (g := (mkF m 34 #[.val (.long bb), .second, .val (.int ii), .val (.int fl), .val (.int ((((bb.toUInt64 >>> (((16 : Int32) * ii) &&& 0x3f).toInt64.toUInt64).toInt64) &&& (65535 : Int64)).toInt32)), .unset] [(.int (98 : Int32)), (.int (1 : Int32)), (.ref b2), (.ref b2)])) rfl rfl (hb hby own_d0_34)
    refine own_go st7 ?_
    have V7 : Arv Z h7 b2 k2 .char (8 : Int32) [(.int (97 : Int32)), (.int (98 : Int32)), (.int (0 : Int32)), (.int (0 : Int32)), (.int (0 : Int32)), (.int (0 : Int32)), (.int (0 : Int32)), (.int (0 : Int32))] (.int (0 : Int32)) := Arv.set Ar7 q7 Sz7 Nn7 Hs7 G7 rfl W7 1 rfl (Nat.le_of_ble_eq_true rfl)
    have N7 := Fr.snoc X7 N5 gn2
    have sz8 : h5.size ≤ h7.size := Nat.le_of_eq (Wr.size W7).symm
    have K8 := K6.wr W7 (Or.inr (by omega))
    show own_Rn p e below _ (T7.setTop (mkF m 35 #[.val (.long bb), .second, .val (.int ii), .val (.int fl), .val (.int ((((bb.toUInt64 >>> (((16 : Int32) * ii) &&& 0x3f).toInt64.toUInt64).toInt64) &&& (65535 : Int64)).toInt32)), .unset] [(.ref b2)]))
    refine own_go (fun tq kq => XS.dup X7.here hx rfl (hb hby own_d0_35) rfl rfl kq) ?_
    show own_Rn p e below _ (T7.setTop (mkF m 36 #[.val (.long bb), .second, .val (.int ii), .val (.int fl), .val (.int ((((bb.toUInt64 >>> (((16 : Int32) * ii) &&& 0x3f).toInt64.toUInt64).toInt64) &&& (65535 : Int64)).toInt32)), .unset] [(.ref b2), (.ref b2)]))
    refine own_go (fun tq kq => XS.iconst X7.here hx rfl (hb hby own_d0_36) kq) ?_
    show own_Rn p e below _ (T7.setTop (mkF m 37 #[.val (.long bb), .second, .val (.int ii), .val (.int fl), .val (.int ((((bb.toUInt64 >>> (((16 : Int32) * ii) &&& 0x3f).toInt64.toUInt64).toInt64) &&& (65535 : Int64)).toInt32)), .unset] [(.int (2 : Int32)), (.ref b2), (.ref b2)]))
    refine own_go (fun tq kq => X7.ldcInt hx hown (mvT hZ (hw _ (List.mem_of_getElem? (i := 6) rfl))) (g := (mkF m 37 #[.val (.long bb), .second, .val (.int ii), .val (.int fl), .val (.int ((((bb.toUInt64 >>> (((16 : Int32) * ii) &&& 0x3f).toInt64.toUInt64).toInt64) &&& (65535 : Int64)).toInt32)), .unset] [(.int (2 : Int32)), (.ref b2), (.ref b2)])) rfl (hb hby own_d0_37) _ kq) ?_
    show own_Rn p e below _ (T7.setTop (mkF m 39 #[.val (.long bb), .second, .val (.int ii), .val (.int fl), .val (.int ((((bb.toUInt64 >>> (((16 : Int32) * ii) &&& 0x3f).toInt64.toUInt64).toInt64) &&& (65535 : Int64)).toInt32)), .unset] [(.int (55296 : Int32)), (.int (2 : Int32)), (.ref b2), (.ref b2)]))
    obtain ⟨cl9, Ar9, q9, Sz9, Nn9, Hs9, G9⟩ := id V7
    obtain ⟨T9, h9, X9, e9, W9, st9⟩ := stC X7 hx hZ e7 Ar9 (j := (2 : Int32)) (inb_of Sz9 ⟨by decide, by decide⟩) (g := (mkF m 39 #[.val (.long bb), .second, .val (.int ii), .val (.int fl), .val (.int ((((bb.toUInt64 >>> (((16 : Int32) * ii) &&& 0x3f).toInt64.toUInt64).toInt64) &&& (65535 : Int64)).toInt32)), .unset] [(.int (55296 : Int32)), (.int (2 : Int32)), (.ref b2), (.ref b2)])) rfl rfl (hb hby own_d0_39)
    refine own_go st9 ?_
    have V9 : Arv Z h9 b2 k2 .char (8 : Int32) [(.int (97 : Int32)), (.int (98 : Int32)), (.int (55296 : Int32)), (.int (0 : Int32)), (.int (0 : Int32)), (.int (0 : Int32)), (.int (0 : Int32)), (.int (0 : Int32))] (.int (0 : Int32)) := Arv.set Ar9 q9 Sz9 Nn9 Hs9 G9 rfl W9 2 rfl (Nat.le_of_ble_eq_true rfl)
    have N9 := Fr.snoc X9 N7 gn2
    have sz10 : h7.size ≤ h9.size := Nat.le_of_eq (Wr.size W9).symm
    have K10 := K8.wr W9 (Or.inr (by omega))
    show own_Rn p e below _ (T9.setTop (mkF m 40 #[.val (.long bb), .second, .val (.int ii), .val (.int fl), .val (.int ((((bb.toUInt64 >>> (((16 : Int32) * ii) &&& 0x3f).toInt64.toUInt64).toInt64) &&& (65535 : Int64)).toInt32)), .unset] [(.ref b2)]))
    refine own_go (fun tq kq => XS.dup X9.here hx rfl (hb hby own_d0_40) rfl rfl kq) ?_
    show own_Rn p e below _ (T9.setTop (mkF m 41 #[.val (.long bb), .second, .val (.int ii), .val (.int fl), .val (.int ((((bb.toUInt64 >>> (((16 : Int32) * ii) &&& 0x3f).toInt64.toUInt64).toInt64) &&& (65535 : Int64)).toInt32)), .unset] [(.ref b2), (.ref b2)]))
    refine own_go (fun tq kq => XS.iconst X9.here hx rfl (hb hby own_d0_41) kq) ?_
    show own_Rn p e below _ (T9.setTop (mkF m 42 #[.val (.long bb), .second, .val (.int ii), .val (.int fl), .val (.int ((((bb.toUInt64 >>> (((16 : Int32) * ii) &&& 0x3f).toInt64.toUInt64).toInt64) &&& (65535 : Int64)).toInt32)), .unset] [(.int (3 : Int32)), (.ref b2), (.ref b2)]))
    refine own_go (fun tq kq => X9.ldcInt hx hown (mvT hZ (hw _ (List.mem_of_getElem? (i := 7) rfl))) (g := (mkF m 42 #[.val (.long bb), .second, .val (.int ii), .val (.int fl), .val (.int ((((bb.toUInt64 >>> (((16 : Int32) * ii) &&& 0x3f).toInt64.toUInt64).toInt64) &&& (65535 : Int64)).toInt32)), .unset] [(.int (3 : Int32)), (.ref b2), (.ref b2)])) rfl (hb hby own_d0_42) _ kq) ?_
    show own_Rn p e below _ (T9.setTop (mkF m 44 #[.val (.long bb), .second, .val (.int ii), .val (.int fl), .val (.int ((((bb.toUInt64 >>> (((16 : Int32) * ii) &&& 0x3f).toInt64.toUInt64).toInt64) &&& (65535 : Int64)).toInt32)), .unset] [(.int (56319 : Int32)), (.int (3 : Int32)), (.ref b2), (.ref b2)]))
    obtain ⟨cl11, Ar11, q11, Sz11, Nn11, Hs11, G11⟩ := id V9
    obtain ⟨T11, h11, X11, e11, W11, st11⟩ := stC X9 hx hZ e9 Ar11 (j := (3 : Int32)) (inb_of Sz11 ⟨by decide, by decide⟩) (g := (mkF m 44 #[.val (.long bb), .second, .val (.int ii), .val (.int fl), .val (.int ((((bb.toUInt64 >>> (((16 : Int32) * ii) &&& 0x3f).toInt64.toUInt64).toInt64) &&& (65535 : Int64)).toInt32)), .unset] [(.int (56319 : Int32)), (.int (3 : Int32)), (.ref b2), (.ref b2)])) rfl rfl (hb hby own_d0_44)
    refine own_go st11 ?_
    have V11 : Arv Z h11 b2 k2 .char (8 : Int32) [(.int (97 : Int32)), (.int (98 : Int32)), (.int (55296 : Int32)), (.int (56319 : Int32)), (.int (0 : Int32)), (.int (0 : Int32)), (.int (0 : Int32)), (.int (0 : Int32))] (.int (0 : Int32)) := Arv.set Ar11 q11 Sz11 Nn11 Hs11 G11 rfl W11 3 rfl (Nat.le_of_ble_eq_true rfl)
    have N11 := Fr.snoc X11 N9 gn2
    have sz12 : h9.size ≤ h11.size := Nat.le_of_eq (Wr.size W11).symm
    have K12 := K10.wr W11 (Or.inr (by omega))
    show own_Rn p e below _ (T11.setTop (mkF m 45 #[.val (.long bb), .second, .val (.int ii), .val (.int fl), .val (.int ((((bb.toUInt64 >>> (((16 : Int32) * ii) &&& 0x3f).toInt64.toUInt64).toInt64) &&& (65535 : Int64)).toInt32)), .unset] [(.ref b2)]))
    refine own_go (fun tq kq => XS.dup X11.here hx rfl (hb hby own_d0_45) rfl rfl kq) ?_
    show own_Rn p e below _ (T11.setTop (mkF m 46 #[.val (.long bb), .second, .val (.int ii), .val (.int fl), .val (.int ((((bb.toUInt64 >>> (((16 : Int32) * ii) &&& 0x3f).toInt64.toUInt64).toInt64) &&& (65535 : Int64)).toInt32)), .unset] [(.ref b2), (.ref b2)]))
    refine own_go (fun tq kq => XS.iconst X11.here hx rfl (hb hby own_d0_46) kq) ?_
    show own_Rn p e below _ (T11.setTop (mkF m 47 #[.val (.long bb), .second, .val (.int ii), .val (.int fl), .val (.int ((((bb.toUInt64 >>> (((16 : Int32) * ii) &&& 0x3f).toInt64.toUInt64).toInt64) &&& (65535 : Int64)).toInt32)), .unset] [(.int (4 : Int32)), (.ref b2), (.ref b2)]))
    refine own_go (fun tq kq => X11.ldcInt hx hown (mvT hZ (hw _ (List.mem_of_getElem? (i := 8) rfl))) (g := (mkF m 47 #[.val (.long bb), .second, .val (.int ii), .val (.int fl), .val (.int ((((bb.toUInt64 >>> (((16 : Int32) * ii) &&& 0x3f).toInt64.toUInt64).toInt64) &&& (65535 : Int64)).toInt32)), .unset] [(.int (4 : Int32)), (.ref b2), (.ref b2)])) rfl (hb hby own_d0_47) _ kq) ?_
    show own_Rn p e below _ (T11.setTop (mkF m 49 #[.val (.long bb), .second, .val (.int ii), .val (.int fl), .val (.int ((((bb.toUInt64 >>> (((16 : Int32) * ii) &&& 0x3f).toInt64.toUInt64).toInt64) &&& (65535 : Int64)).toInt32)), .unset] [(.int (56320 : Int32)), (.int (4 : Int32)), (.ref b2), (.ref b2)]))
    obtain ⟨cl13, Ar13, q13, Sz13, Nn13, Hs13, G13⟩ := id V11
    obtain ⟨T13, h13, X13, e13, W13, st13⟩ := stC X11 hx hZ e11 Ar13 (j := (4 : Int32)) (inb_of Sz13 ⟨by decide, by decide⟩) (g := (mkF m 49 #[.val (.long bb), .second, .val (.int ii), .val (.int fl), .val (.int ((((bb.toUInt64 >>> (((16 : Int32) * ii) &&& 0x3f).toInt64.toUInt64).toInt64) &&& (65535 : Int64)).toInt32)), .unset] [(.int (56320 : Int32)), (.int (4 : Int32)), (.ref b2), (.ref b2)])) rfl rfl (hb hby own_d0_49)
    refine own_go st13 ?_
    have V13 : Arv Z h13 b2 k2 .char (8 : Int32) [(.int (97 : Int32)), (.int (98 : Int32)), (.int (55296 : Int32)), (.int (56319 : Int32)), (.int (56320 : Int32)), (.int (0 : Int32)), (.int (0 : Int32)), (.int (0 : Int32))] (.int (0 : Int32)) := Arv.set Ar13 q13 Sz13 Nn13 Hs13 G13 rfl W13 4 rfl (Nat.le_of_ble_eq_true rfl)
    have N13 := Fr.snoc X13 N11 gn2
    have sz14 : h11.size ≤ h13.size := Nat.le_of_eq (Wr.size W13).symm
    have K14 := K12.wr W13 (Or.inr (by omega))
    show own_Rn p e below _ (T13.setTop (mkF m 50 #[.val (.long bb), .second, .val (.int ii), .val (.int fl), .val (.int ((((bb.toUInt64 >>> (((16 : Int32) * ii) &&& 0x3f).toInt64.toUInt64).toInt64) &&& (65535 : Int64)).toInt32)), .unset] [(.ref b2)]))
    refine own_go (fun tq kq => XS.dup X13.here hx rfl (hb hby own_d0_50) rfl rfl kq) ?_
    show own_Rn p e below _ (T13.setTop (mkF m 51 #[.val (.long bb), .second, .val (.int ii), .val (.int fl), .val (.int ((((bb.toUInt64 >>> (((16 : Int32) * ii) &&& 0x3f).toInt64.toUInt64).toInt64) &&& (65535 : Int64)).toInt32)), .unset] [(.ref b2), (.ref b2)]))
    refine own_go (fun tq kq => XS.iconst X13.here hx rfl (hb hby own_d0_51) kq) ?_
    show own_Rn p e below _ (T13.setTop (mkF m 52 #[.val (.long bb), .second, .val (.int ii), .val (.int fl), .val (.int ((((bb.toUInt64 >>> (((16 : Int32) * ii) &&& 0x3f).toInt64.toUInt64).toInt64) &&& (65535 : Int64)).toInt32)), .unset] [(.int (5 : Int32)), (.ref b2), (.ref b2)]))
    refine own_go (fun tq kq => X13.ldcInt hx hown (mvT hZ (hw _ (List.mem_of_getElem? (i := 9) rfl))) (g := (mkF m 52 #[.val (.long bb), .second, .val (.int ii), .val (.int fl), .val (.int ((((bb.toUInt64 >>> (((16 : Int32) * ii) &&& 0x3f).toInt64.toUInt64).toInt64) &&& (65535 : Int64)).toInt32)), .unset] [(.int (5 : Int32)), (.ref b2), (.ref b2)])) rfl (hb hby own_d0_52) _ kq) ?_
    show own_Rn p e below _ (T13.setTop (mkF m 54 #[.val (.long bb), .second, .val (.int ii), .val (.int fl), .val (.int ((((bb.toUInt64 >>> (((16 : Int32) * ii) &&& 0x3f).toInt64.toUInt64).toInt64) &&& (65535 : Int64)).toInt32)), .unset] [(.int (57343 : Int32)), (.int (5 : Int32)), (.ref b2), (.ref b2)]))
    obtain ⟨cl15, Ar15, q15, Sz15, Nn15, Hs15, G15⟩ := id V13
    obtain ⟨T15, h15, X15, e15, W15, st15⟩ := stC X13 hx hZ e13 Ar15 (j := (5 : Int32)) (inb_of Sz15 ⟨by decide, by decide⟩) (g := (mkF m 54 #[.val (.long bb), .second, .val (.int ii), .val (.int fl), .val (.int ((((bb.toUInt64 >>> (((16 : Int32) * ii) &&& 0x3f).toInt64.toUInt64).toInt64) &&& (65535 : Int64)).toInt32)), .unset] [(.int (57343 : Int32)), (.int (5 : Int32)), (.ref b2), (.ref b2)])) rfl rfl (hb hby own_d0_54)
    refine own_go st15 ?_
    have V15 : Arv Z h15 b2 k2 .char (8 : Int32) [(.int (97 : Int32)), (.int (98 : Int32)), (.int (55296 : Int32)), (.int (56319 : Int32)), (.int (56320 : Int32)), (.int (57343 : Int32)), (.int (0 : Int32)), (.int (0 : Int32))] (.int (0 : Int32)) := Arv.set Ar15 q15 Sz15 Nn15 Hs15 G15 rfl W15 5 rfl (Nat.le_of_ble_eq_true rfl)
    have N15 := Fr.snoc X15 N13 gn2
    have sz16 : h13.size ≤ h15.size := Nat.le_of_eq (Wr.size W15).symm
    have K16 := K14.wr W15 (Or.inr (by omega))
    show own_Rn p e below _ (T15.setTop (mkF m 55 #[.val (.long bb), .second, .val (.int ii), .val (.int fl), .val (.int ((((bb.toUInt64 >>> (((16 : Int32) * ii) &&& 0x3f).toInt64.toUInt64).toInt64) &&& (65535 : Int64)).toInt32)), .unset] [(.ref b2)]))
    refine own_go (fun tq kq => XS.dup X15.here hx rfl (hb hby own_d0_55) rfl rfl kq) ?_
    show own_Rn p e below _ (T15.setTop (mkF m 56 #[.val (.long bb), .second, .val (.int ii), .val (.int fl), .val (.int ((((bb.toUInt64 >>> (((16 : Int32) * ii) &&& 0x3f).toInt64.toUInt64).toInt64) &&& (65535 : Int64)).toInt32)), .unset] [(.ref b2), (.ref b2)]))
    refine own_go (fun tq kq => XS.bipush X15.here hx rfl (hb hby own_d0_56) kq) ?_
    show own_Rn p e below _ (T15.setTop (mkF m 58 #[.val (.long bb), .second, .val (.int ii), .val (.int fl), .val (.int ((((bb.toUInt64 >>> (((16 : Int32) * ii) &&& 0x3f).toInt64.toUInt64).toInt64) &&& (65535 : Int64)).toInt32)), .unset] [(.int (6 : Int32)), (.ref b2), (.ref b2)]))
    refine own_go (fun tq kq => X15.ldcInt hx hown (mvT hZ (hw _ (List.mem_of_getElem? (i := 10) rfl))) (g := (mkF m 58 #[.val (.long bb), .second, .val (.int ii), .val (.int fl), .val (.int ((((bb.toUInt64 >>> (((16 : Int32) * ii) &&& 0x3f).toInt64.toUInt64).toInt64) &&& (65535 : Int64)).toInt32)), .unset] [(.int (6 : Int32)), (.ref b2), (.ref b2)])) rfl (hb hby own_d0_58) _ kq) ?_
    show own_Rn p e below _ (T15.setTop (mkF m 60 #[.val (.long bb), .second, .val (.int ii), .val (.int fl), .val (.int ((((bb.toUInt64 >>> (((16 : Int32) * ii) &&& 0x3f).toInt64.toUInt64).toInt64) &&& (65535 : Int64)).toInt32)), .unset] [(.int (57344 : Int32)), (.int (6 : Int32)), (.ref b2), (.ref b2)]))
    obtain ⟨cl17, Ar17, q17, Sz17, Nn17, Hs17, G17⟩ := id V15
    obtain ⟨T17, h17, X17, e17, W17, st17⟩ := stC X15 hx hZ e15 Ar17 (j := (6 : Int32)) (inb_of Sz17 ⟨by decide, by decide⟩) (g := (mkF m 60 #[.val (.long bb), .second, .val (.int ii), .val (.int fl), .val (.int ((((bb.toUInt64 >>> (((16 : Int32) * ii) &&& 0x3f).toInt64.toUInt64).toInt64) &&& (65535 : Int64)).toInt32)), .unset] [(.int (57344 : Int32)), (.int (6 : Int32)), (.ref b2), (.ref b2)])) rfl rfl (hb hby own_d0_60)
    refine own_go st17 ?_
    have V17 : Arv Z h17 b2 k2 .char (8 : Int32) [(.int (97 : Int32)), (.int (98 : Int32)), (.int (55296 : Int32)), (.int (56319 : Int32)), (.int (56320 : Int32)), (.int (57343 : Int32)), (.int (57344 : Int32)), (.int (0 : Int32))] (.int (0 : Int32)) := Arv.set Ar17 q17 Sz17 Nn17 Hs17 G17 rfl W17 6 rfl (Nat.le_of_ble_eq_true rfl)
    have N17 := Fr.snoc X17 N15 gn2
    have sz18 : h15.size ≤ h17.size := Nat.le_of_eq (Wr.size W17).symm
    have K18 := K16.wr W17 (Or.inr (by omega))
    show own_Rn p e below _ (T17.setTop (mkF m 61 #[.val (.long bb), .second, .val (.int ii), .val (.int fl), .val (.int ((((bb.toUInt64 >>> (((16 : Int32) * ii) &&& 0x3f).toInt64.toUInt64).toInt64) &&& (65535 : Int64)).toInt32)), .unset] [(.ref b2)]))
    refine own_go (fun tq kq => XS.dup X17.here hx rfl (hb hby own_d0_61) rfl rfl kq) ?_
    show own_Rn p e below _ (T17.setTop (mkF m 62 #[.val (.long bb), .second, .val (.int ii), .val (.int fl), .val (.int ((((bb.toUInt64 >>> (((16 : Int32) * ii) &&& 0x3f).toInt64.toUInt64).toInt64) &&& (65535 : Int64)).toInt32)), .unset] [(.ref b2), (.ref b2)]))
    refine own_go (fun tq kq => XS.bipush X17.here hx rfl (hb hby own_d0_62) kq) ?_
    show own_Rn p e below _ (T17.setTop (mkF m 64 #[.val (.long bb), .second, .val (.int ii), .val (.int fl), .val (.int ((((bb.toUInt64 >>> (((16 : Int32) * ii) &&& 0x3f).toInt64.toUInt64).toInt64) &&& (65535 : Int64)).toInt32)), .unset] [(.int (7 : Int32)), (.ref b2), (.ref b2)]))
    refine own_go (fun tq kq => X17.ldcInt hx hown (mvT hZ (hw _ (List.mem_of_getElem? (i := 11) rfl))) (g := (mkF m 64 #[.val (.long bb), .second, .val (.int ii), .val (.int fl), .val (.int ((((bb.toUInt64 >>> (((16 : Int32) * ii) &&& 0x3f).toInt64.toUInt64).toInt64) &&& (65535 : Int64)).toInt32)), .unset] [(.int (7 : Int32)), (.ref b2), (.ref b2)])) rfl (hb hby own_d0_64) _ kq) ?_
    show own_Rn p e below _ (T17.setTop (mkF m 66 #[.val (.long bb), .second, .val (.int ii), .val (.int fl), .val (.int ((((bb.toUInt64 >>> (((16 : Int32) * ii) &&& 0x3f).toInt64.toUInt64).toInt64) &&& (65535 : Int64)).toInt32)), .unset] [(.int (65535 : Int32)), (.int (7 : Int32)), (.ref b2), (.ref b2)]))
    obtain ⟨cl19, Ar19, q19, Sz19, Nn19, Hs19, G19⟩ := id V17
    obtain ⟨T19, h19, X19, e19, W19, st19⟩ := stC X17 hx hZ e17 Ar19 (j := (7 : Int32)) (inb_of Sz19 ⟨by decide, by decide⟩) (g := (mkF m 66 #[.val (.long bb), .second, .val (.int ii), .val (.int fl), .val (.int ((((bb.toUInt64 >>> (((16 : Int32) * ii) &&& 0x3f).toInt64.toUInt64).toInt64) &&& (65535 : Int64)).toInt32)), .unset] [(.int (65535 : Int32)), (.int (7 : Int32)), (.ref b2), (.ref b2)])) rfl rfl (hb hby own_d0_66)
    refine own_go st19 ?_
    have V19 : Arv Z h19 b2 k2 .char (8 : Int32) [(.int (97 : Int32)), (.int (98 : Int32)), (.int (55296 : Int32)), (.int (56319 : Int32)), (.int (56320 : Int32)), (.int (57343 : Int32)), (.int (57344 : Int32)), (.int (65535 : Int32))] (.int (0 : Int32)) := Arv.set Ar19 q19 Sz19 Nn19 Hs19 G19 rfl W19 7 rfl (Nat.le_of_ble_eq_true rfl)
    have N19 := Fr.snoc X19 N17 gn2
    have sz20 : h17.size ≤ h19.size := Nat.le_of_eq (Wr.size W19).symm
    have K20 := K18.wr W19 (Or.inr (by omega))
    show own_Rn p e below _ (T19.setTop (mkF m 67 #[.val (.long bb), .second, .val (.int ii), .val (.int fl), .val (.int ((((bb.toUInt64 >>> (((16 : Int32) * ii) &&& 0x3f).toInt64.toUInt64).toInt64) &&& (65535 : Int64)).toInt32)), .unset] [(.ref b2)]))
    refine own_go (fun tq kq => XS.astore X19.here hx rfl (hb hby own_d0_67) rfl rfl (l' := #[.val (.long bb), .second, .val (.int ii), .val (.int fl), .val (.int ((((bb.toUInt64 >>> (((16 : Int32) * ii) &&& 0x3f).toInt64.toUInt64).toInt64) &&& (65535 : Int64)).toInt32)), .val (.ref b2)]) rfl kq) ?_
    show own_Rn p e below _ (T19.setTop (mkF m 69 #[.val (.long bb), .second, .val (.int ii), .val (.int fl), .val (.int ((((bb.toUInt64 >>> (((16 : Int32) * ii) &&& 0x3f).toInt64.toUInt64).toInt64) &&& (65535 : Int64)).toInt32)), .val (.ref b2)] []))
    refine own_go (fun tq kq => XS.aload X19.here hx rfl (hb hby own_d0_69) rfl rfl kq) ?_
    show own_Rn p e below _ (T19.setTop (mkF m 71 #[.val (.long bb), .second, .val (.int ii), .val (.int fl), .val (.int ((((bb.toUInt64 >>> (((16 : Int32) * ii) &&& 0x3f).toInt64.toUInt64).toInt64) &&& (65535 : Int64)).toInt32)), .val (.ref b2)] [(.ref b2)]))
    refine own_go (fun tq kq => XS.iload X19.here hx rfl (hb hby own_d0_71) rfl kq) ?_
    show own_Rn p e below _ (T19.setTop (mkF m 73 #[.val (.long bb), .second, .val (.int ii), .val (.int fl), .val (.int ((((bb.toUInt64 >>> (((16 : Int32) * ii) &&& 0x3f).toInt64.toUInt64).toInt64) &&& (65535 : Int64)).toInt32)), .val (.ref b2)] [(.int ((((bb.toUInt64 >>> (((16 : Int32) * ii) &&& 0x3f).toInt64.toUInt64).toInt64) &&& (65535 : Int64)).toInt32)), (.ref b2)]))
    refine own_go (fun tq kq => XS.bipush X19.here hx rfl (hb hby own_d0_73) kq) ?_
    show own_Rn p e below _ (T19.setTop (mkF m 75 #[.val (.long bb), .second, .val (.int ii), .val (.int fl), .val (.int ((((bb.toUInt64 >>> (((16 : Int32) * ii) &&& 0x3f).toInt64.toUInt64).toInt64) &&& (65535 : Int64)).toInt32)), .val (.ref b2)] [(.int (7 : Int32)), (.int ((((bb.toUInt64 >>> (((16 : Int32) * ii) &&& 0x3f).toInt64.toUInt64).toInt64) &&& (65535 : Int64)).toInt32)), (.ref b2)]))
    refine own_go (fun tq kq => XS.iand X19.here hx rfl (hb hby own_d0_75) rfl kq) ?_
    show own_Rn p e below _ (T19.setTop (mkF m 76 #[.val (.long bb), .second, .val (.int ii), .val (.int fl), .val (.int ((((bb.toUInt64 >>> (((16 : Int32) * ii) &&& 0x3f).toInt64.toUInt64).toInt64) &&& (65535 : Int64)).toInt32)), .val (.ref b2)] [(.int (((((bb.toUInt64 >>> (((16 : Int32) * ii) &&& 0x3f).toInt64.toUInt64).toInt64) &&& (65535 : Int64)).toInt32) &&& (7 : Int32))), (.ref b2)]))
    obtain ⟨kk, hk, ek⟩ := own_msk ((((bb.toUInt64 >>> (((16 : Int32) * ii) &&& 0x3f).toInt64.toUInt64).toInt64) &&& (65535 : Int64)).toInt32) 7 (Or.inr rfl)
    rw [ek]
    show own_Rn p e below _ (T19.setTop (mkF m 76 #[.val (.long bb), .second, .val (.int ii), .val (.int fl), .val (.int ((((bb.toUInt64 >>> (((16 : Int32) * ii) &&& 0x3f).toInt64.toUInt64).toInt64) &&& (65535 : Int64)).toInt32)), .val (.ref b2)] [(.int (Int32.ofNat kk)), (.ref b2)]))
    have hk8 : kk < own_l8.length := by rw [show (7 : Int32).toInt = 7 from rfl] at hk; show kk < 8; omega
    obtain ⟨cl21, Ar21, q21, Sz21, Nn21, Hs21, G21⟩ := id V19
    have in21 := inb_of (j := (Int32.ofNat kk)) Sz21 (own_inb kk 8 hk8 (by decide))
    refine own_go (fun tq kq => X19.caload hx (j := (Int32.ofNat kk)) (v := (.int (own_l8.getD kk 0))) (by rw [e19]; exact Ar21.1) (State.isArrayOf_alike hZ.alike Ar21.2.1) Ar21.2.2 in21 (Hs21.at in21 (own_mapget own_l8 kk hk8 (by decide) _)) (g := (mkF m 76 #[.val (.long bb), .second, .val (.int ii), .val (.int fl), .val (.int ((((bb.toUInt64 >>> (((16 : Int32) * ii) &&& 0x3f).toInt64.toUInt64).toInt64) &&& (65535 : Int64)).toInt32)), .val (.ref b2)] [(.int (Int32.ofNat kk)), (.ref b2)])) rfl rfl (hb hby own_d0_76) tq kq) ?_
    show own_Rn p e below _ (T19.setTop (mkF m 77 #[.val (.long bb), .second, .val (.int ii), .val (.int fl), .val (.int ((((bb.toUInt64 >>> (((16 : Int32) * ii) &&& 0x3f).toInt64.toUInt64).toInt64) &&& (65535 : Int64)).toInt32)), .val (.ref b2)] [(.int (own_l8.getD kk 0))]))
    exact own_ret X19 (v := some (.int (nar .char (own_l8.getD kk 0)))) (fun h => by rw [Bd.returns] at h; cases h) (fun fs hr => retN X19 hx (t := .char) Bd.returns (by simp) (hb hby own_d0_77) hr) (by rw [e19]; exact ⟨(nar .char (own_l8.getD kk 0)), rfl, N19, K20, own_i2c16 _⟩) (by decide) (by decide)
  · skip
    refine own_go (fun tq kq => XS.ifNo X0.here hx rfl (hb hby own_d0_14) rfl ((if0 _ _).trans (feq (hf : ¬ (fl = (0 : Int32)))).1) kq) ?_
    show own_Rn p e below _ (s₁.setTop (mkF m 17 #[.val (.long bb), .second, .val (.int ii), .val (.int fl), .val (.int ((((bb.toUInt64 >>> (((16 : Int32) * ii) &&& 0x3f).toInt64.toUInt64).toInt64) &&& (65535 : Int64)).toInt32)), .unset] []))
    refine own_go (fun tq kq => XS.iload X0.here hx rfl (hb hby own_d0_17) rfl kq) ?_
    show own_Rn p e below _ (s₁.setTop (mkF m 19 #[.val (.long bb), .second, .val (.int ii), .val (.int fl), .val (.int ((((bb.toUInt64 >>> (((16 : Int32) * ii) &&& 0x3f).toInt64.toUInt64).toInt64) &&& (65535 : Int64)).toInt32)), .unset] [(.int ((((bb.toUInt64 >>> (((16 : Int32) * ii) &&& 0x3f).toInt64.toUInt64).toInt64) &&& (65535 : Int64)).toInt32))]))
    refine own_go (fun tq kq => XS.i2c X0.here hx rfl (hb hby own_d0_19) rfl kq) ?_
    show own_Rn p e below _ (s₁.setTop (mkF m 20 #[.val (.long bb), .second, .val (.int ii), .val (.int fl), .val (.int ((((bb.toUInt64 >>> (((16 : Int32) * ii) &&& 0x3f).toInt64.toUInt64).toInt64) &&& (65535 : Int64)).toInt32)), .unset] [(.int (((((bb.toUInt64 >>> (((16 : Int32) * ii) &&& 0x3f).toInt64.toUInt64).toInt64) &&& (65535 : Int64)).toInt32).toUInt32.toUInt16.toUInt32.toInt32))]))
    exact own_ret X0 (v := some (.int (nar .char (((((bb.toUInt64 >>> (((16 : Int32) * ii) &&& 0x3f).toInt64.toUInt64).toInt64) &&& (65535 : Int64)).toInt32).toUInt32.toUInt16.toUInt32.toInt32)))) (fun h => by rw [Bd.returns] at h; cases h) (fun fs hr => retN X0 hx (t := .char) Bd.returns (by simp) (hb hby own_d0_20) hr) (by rw [e0]; exact ⟨(nar .char (((((bb.toUInt64 >>> (((16 : Int32) * ii) &&& 0x3f).toInt64.toUInt64).toInt64) &&& (65535 : Int64)).toInt32).toUInt32.toUInt16.toUInt32.toInt32)), rfl, N0, K0, own_i2c16 _⟩) (by decide) (by decide)
theorem own_ef_rmMk (m : MethodId) (K : Nat) (ca : Int32) (cb : Int32) (cc : Int32) : entryFrame m #[(.int (Int32.ofNat K)), (.int ca), (.int cb), (.int cc)] 4 = mkF m 0 #[.val (.int (Int32.ofNat K)), .val (.int ca), .val (.int cb), .val (.int cc)] [] := by first | (simp [entryFrame, mkF, argsToLocals, Value.category]; done) | rfl
theorem own_d1_0 : decode method_3_code 0 = .ok (.iload_n 0, 1) := by decide +kernel
theorem own_d1_1 : decode method_3_code 1 = .ok (.ifCond .ne 7, 3) := by decide +kernel
theorem own_d1_4 : decode method_3_code 4 = .ok (.iconst 0, 1) := by decide +kernel
theorem own_d1_5 : decode method_3_code 5 = .ok (.newarray .char, 2) := by decide +kernel
theorem own_d1_7 : decode method_3_code 7 = .ok (.areturn, 1) := by decide +kernel
theorem own_d1_8 : decode method_3_code 8 = .ok (.iload_n 0, 1) := by decide +kernel
theorem own_d1_9 : decode method_3_code 9 = .ok (.iconst 1, 1) := by decide +kernel
theorem own_d1_10 : decode method_3_code 10 = .ok (.if_icmp .ne 11, 3) := by decide +kernel
theorem own_d1_13 : decode method_3_code 13 = .ok (.iconst 1, 1) := by decide +kernel
theorem own_d1_14 : decode method_3_code 14 = .ok (.newarray .char, 2) := by decide +kernel
theorem own_d1_16 : decode method_3_code 16 = .ok (.dup, 1) := by decide +kernel
theorem own_d1_17 : decode method_3_code 17 = .ok (.iconst 0, 1) := by decide +kernel
theorem own_d1_18 : decode method_3_code 18 = .ok (.iload_n 1, 1) := by decide +kernel
theorem own_d1_19 : decode method_3_code 19 = .ok (.castore, 1) := by decide +kernel
theorem own_d1_20 : decode method_3_code 20 = .ok (.areturn, 1) := by decide +kernel
theorem own_d1_21 : decode method_3_code 21 = .ok (.iload_n 0, 1) := by decide +kernel
theorem own_d1_22 : decode method_3_code 22 = .ok (.iconst 2, 1) := by decide +kernel
theorem own_d1_23 : decode method_3_code 23 = .ok (.if_icmp .ne 15, 3) := by decide +kernel
theorem own_d1_26 : decode method_3_code 26 = .ok (.iconst 2, 1) := by decide +kernel
theorem own_d1_27 : decode method_3_code 27 = .ok (.newarray .char, 2) := by decide +kernel
theorem own_d1_29 : decode method_3_code 29 = .ok (.dup, 1) := by decide +kernel
theorem own_d1_30 : decode method_3_code 30 = .ok (.iconst 0, 1) := by decide +kernel
theorem own_d1_31 : decode method_3_code 31 = .ok (.iload_n 1, 1) := by decide +kernel
theorem own_d1_32 : decode method_3_code 32 = .ok (.castore, 1) := by decide +kernel
theorem own_d1_33 : decode method_3_code 33 = .ok (.dup, 1) := by decide +kernel
theorem own_d1_34 : decode method_3_code 34 = .ok (.iconst 1, 1) := by decide +kernel
theorem own_d1_35 : decode method_3_code 35 = .ok (.iload_n 2, 1) := by decide +kernel
theorem own_d1_36 : decode method_3_code 36 = .ok (.castore, 1) := by decide +kernel
theorem own_d1_37 : decode method_3_code 37 = .ok (.areturn, 1) := by decide +kernel
theorem own_d1_38 : decode method_3_code 38 = .ok (.iconst 3, 1) := by decide +kernel
theorem own_d1_39 : decode method_3_code 39 = .ok (.newarray .char, 2) := by decide +kernel
theorem own_d1_41 : decode method_3_code 41 = .ok (.dup, 1) := by decide +kernel
theorem own_d1_42 : decode method_3_code 42 = .ok (.iconst 0, 1) := by decide +kernel
theorem own_d1_43 : decode method_3_code 43 = .ok (.iload_n 1, 1) := by decide +kernel
theorem own_d1_44 : decode method_3_code 44 = .ok (.castore, 1) := by decide +kernel
theorem own_d1_45 : decode method_3_code 45 = .ok (.dup, 1) := by decide +kernel
theorem own_d1_46 : decode method_3_code 46 = .ok (.iconst 1, 1) := by decide +kernel
theorem own_d1_47 : decode method_3_code 47 = .ok (.iload_n 2, 1) := by decide +kernel
theorem own_d1_48 : decode method_3_code 48 = .ok (.castore, 1) := by decide +kernel
theorem own_d1_49 : decode method_3_code 49 = .ok (.dup, 1) := by decide +kernel
theorem own_d1_50 : decode method_3_code 50 = .ok (.iconst 2, 1) := by decide +kernel
theorem own_d1_51 : decode method_3_code 51 = .ok (.iload_n 3, 1) := by decide +kernel
theorem own_d1_52 : decode method_3_code 52 = .ok (.castore, 1) := by decide +kernel
theorem own_d1_53 : decode method_3_code 53 = .ok (.areturn, 1) := by decide +kernel
def Q_rmMk (Z : State) (K : Nat) (ca : Int32) (cb : Int32) (cc : Int32) (h0 : Heap) (n0 : Nat) (v : Option Value) (h : Heap) (L : List Loc) : Prop := ∃ (t : Addr), ∃ (kt : ClassId), v = some (.ref t) ∧ Fr n0 L ∧ Keep h0 h [] ∧ h0.size ≤ t ∧ n0 ≤ t ∧ Arv Z h t kt .char (Int32.ofNat (own_tk K ca cb cc).length) ((own_tk K ca cb cc).map Value.int) (.int (0 : Int32))
set_option maxRecDepth 65536 in
set_option maxHeartbeats 40000000 in
theorem rmMk (l : Launch) (Z : State) (a0 : Array Value) (hw : ∀ d ∈ tables_1, d.before a0 Z = true) (ws : List Jvm.Cond) (K : Nat) (ca : Int32) (cb : Int32) (cc : Int32) (h0 : Heap) (n0 : Nat) (Z0 : n0 ≤ h0.size) (hK : (K ≤ 3)) (rca : (¬ ca < 0 ∧ ¬ (65535 : Int32) < ca)) (rcb : (¬ cb < 0 ∧ ¬ (65535 : Int32) < cb)) (rcc : (¬ cc < 0 ∧ ¬ (65535 : Int32) < cc)) :
    MetFree l (⟨"com/example/words_into_queries/wordsintoqueries/CodePointOrderComparePinLaw", "mk", "(ICCC)[C"⟩ : MethodName) (head1 (Jvm.Cond.code (⟨"com/example/words_into_queries/wordsintoqueries/CodePointOrderComparePinLaw", "mk", "(ICCC)[C"⟩ : MethodName) method_3_code 4 (some (.array .char)) :: ws) ({ frames := 0, cells := 1, slots := 3, locals := 0 } : Room)) (fun a U => a = #[(.int (Int32.ofNat K)), (.int ca), (.int cb), (.int cc)] ∧ Z.Warmed39 U.vm ∧ U.heap = h0) (fun _ _ _ _ _ => True) (fun _ U o U' => ∃ v L, o = .returned v ∧ Q_rmMk Z K ca cb cc h0 n0 v U'.heap L ∧ FrameEnd U o U' L ({ frames := 0, cells := 1, slots := 3, locals := 0 } : Room).cells ({ frames := 0, cells := 1, slots := 3, locals := 0 } : Room).slots) := by
  refine MetFree.of_bodySF (plainFor_of_name own_pn_com_example_words_into_queries_wordsintoqueries_CodePointOrderComparePinLaw) hisR ?_
  intro p e s m args below meth c s₁ Bd hml0 hP hK
  obtain ⟨rfl, hZ, hh⟩ := hP
  have hx := Bd.exec
  have hby := Bd.bytes
  have hml : c.maxLocals = 4 := hml0
  have hown : s.vm.findClass "com/example/words_into_queries/wordsintoqueries/CodePointOrderComparePinLaw" = some m.cls := findClass_of_methodNamed Bd.named
  have hnm := (name_of_methodNamed Bd.named Bd.method).1
  have X0 : Stand p l e ({ frames := 0, cells := 1, slots := 3, locals := 0 } : Room) s m #[(.int (Int32.ofNat K)), (.int ca), (.int cb), (.int cc)] below meth c s₁ [] 0 0 := Stand.of_body Bd
  have e0 : s₁.heap = h0 := by rw [← hh, Bd.state]; rfl
  have N0 := Fr.nil n0
  have K0 : Keep h0 h0 [] := Keep.refl _ _
  refine own_go (S' := s₁.setTop (mkF m 0 #[.val (.int (Int32.ofNat K)), .val (.int ca), .val (.int cb), .val (.int cc)] [])) (fun tq kq => castTop (own_ef_rmMk m K ca cb cc) kq) ?_
  have nca : nar .char ca = ca := own_c16 ca rca
  have ncb : nar .char cb = cb := own_c16 cb rcb
  have ncc : nar .char cc = cc := own_c16 cc rcc
  obtain rfl | rfl | rfl | rfl : K = 0 ∨ K = 1 ∨ K = 2 ∨ K = 3 := by omega
  · skip
    show own_Rn p e below _ (s₁.setTop (mkF m 0 #[.val (.int (0 : Int32)), .val (.int ca), .val (.int cb), .val (.int cc)] []))
    refine own_go (fun tq kq => XS.iloadN X0.here hx rfl (hb hby own_d1_0) rfl kq) ?_
    show own_Rn p e below _ (s₁.setTop (mkF m 1 #[.val (.int (0 : Int32)), .val (.int ca), .val (.int cb), .val (.int cc)] [(.int (0 : Int32))]))
    refine own_go (fun tq kq => XS.ifNo X0.here hx rfl (hb hby own_d1_1) rfl ((if0 _ _).trans (teq (rfl : (0 : Int32) = (0 : Int32))).2) kq) ?_
    show own_Rn p e below _ (s₁.setTop (mkF m 4 #[.val (.int (0 : Int32)), .val (.int ca), .val (.int cb), .val (.int cc)] []))
    refine own_go (fun tq kq => XS.iconst X0.here hx rfl (hb hby own_d1_4) kq) ?_
    show own_Rn p e below _ (s₁.setTop (mkF m 5 #[.val (.int (0 : Int32)), .val (.int ca), .val (.int cb), .val (.int cc)] [(.int (0 : Int32))]))
    obtain ⟨T2, h2, k2, X2, e2, E2, A2, st2⟩ := newP X0 hx hZ (hw _ (List.mem_of_getElem? (i := 5) rfl)) e0 (g := (mkF m 5 #[.val (.int (0 : Int32)), .val (.int ca), .val (.int cb), .val (.int cc)] [(.int (0 : Int32))])) rfl (hb hby own_d1_5) rfl (by decide) (cap := 0) (by decide) (by decide) (by decide) (by decide)
    obtain ⟨b2, g2⟩ : ∃ z, z = h0.size := ⟨_, rfl⟩
    rw [← g2] at A2 st2
    refine own_go st2 ?_
    have sz3 : h0.size ≤ h2.size := E2.1
    have K3 := K0.ext E2
    have gn2 : n0 ≤ b2 := by omega
    have V2 : Arv Z h2 b2 k2 .char (0 : Int32) [] (.int (0 : Int32)) := (Arv.new A2 (by decide)).pad (pad_rep [] _ 0)
    have lt4 : @LT.lt Nat _ b2 h2.size := V2.lt
    show own_Rn p e below _ (T2.setTop (mkF m 7 #[.val (.int (0 : Int32)), .val (.int ca), .val (.int cb), .val (.int cc)] [(.ref b2)]))
    exact own_ret X2 (v := some (.ref b2)) (fun h => by rw [Bd.returns] at h; cases h) (fun fs hr => X2.areturnOut hx rfl Bd.returns rfl (hb hby own_d1_7) hr) (by rw [e2]; exact ⟨b2, k2, rfl, N0, K3, (by omega), gn2, V2⟩) (by decide) (by decide)
  · skip
    show own_Rn p e below _ (s₁.setTop (mkF m 0 #[.val (.int (1 : Int32)), .val (.int ca), .val (.int cb), .val (.int cc)] []))
    refine own_go (fun tq kq => XS.iloadN X0.here hx rfl (hb hby own_d1_0) rfl kq) ?_
    show own_Rn p e below _ (s₁.setTop (mkF m 1 #[.val (.int (1 : Int32)), .val (.int ca), .val (.int cb), .val (.int cc)] [(.int (1 : Int32))]))
    refine own_go (fun tq kq => XS.ifYes X0.here hx rfl (pc0 := 1) (pc' := 8) rfl (hb hby own_d1_1) rfl ((if0 _ _).trans (feq (by decide : ¬ ((1 : Int32) = (0 : Int32)))).2) (by decide) (by decide) kq) ?_
    show own_Rn p e below _ (s₁.setTop (mkF m 8 #[.val (.int (1 : Int32)), .val (.int ca), .val (.int cb), .val (.int cc)] []))
    refine own_go (fun tq kq => XS.iloadN X0.here hx rfl (hb hby own_d1_8) rfl kq) ?_
    show own_Rn p e below _ (s₁.setTop (mkF m 9 #[.val (.int (1 : Int32)), .val (.int ca), .val (.int cb), .val (.int cc)] [(.int (1 : Int32))]))
    refine own_go (fun tq kq => XS.iconst X0.here hx rfl (hb hby own_d1_9) kq) ?_
    show own_Rn p e below _ (s₁.setTop (mkF m 10 #[.val (.int (1 : Int32)), .val (.int ca), .val (.int cb), .val (.int cc)] [(.int (1 : Int32)), (.int (1 : Int32))]))
    refine own_go (fun tq kq => XS.icmpNo X0.here hx rfl (hb hby own_d1_10) rfl (teq (rfl : (1 : Int32) = (1 : Int32))).2 kq) ?_
    show own_Rn p e below _ (s₁.setTop (mkF m 13 #[.val (.int (1 : Int32)), .val (.int ca), .val (.int cb), .val (.int cc)] []))
    refine own_go (fun tq kq => XS.iconst X0.here hx rfl (hb hby own_d1_13) kq) ?_
    show own_Rn p e below _ (s₁.setTop (mkF m 14 #[.val (.int (1 : Int32)), .val (.int ca), .val (.int cb), .val (.int cc)] [(.int (1 : Int32))]))
    obtain ⟨T6, h6, k6, X6, e6, E6, A6, st6⟩ := newP X0 hx hZ (hw _ (List.mem_of_getElem? (i := 5) rfl)) e0 (g := (mkF m 14 #[.val (.int (1 : Int32)), .val (.int ca), .val (.int cb), .val (.int cc)] [(.int (1 : Int32))])) rfl (hb hby own_d1_14) rfl (by decide) (cap := 1) (by decide) (by decide) (by decide) (by decide)
    obtain ⟨b6, g6⟩ : ∃ z, z = h0.size := ⟨_, rfl⟩
    rw [← g6] at A6 st6
    refine own_go st6 ?_
    have sz7 : h0.size ≤ h6.size := E6.1
    have K7 := K0.ext E6
    have gn6 : n0 ≤ b6 := by omega
    have V6 : Arv Z h6 b6 k6 .char (1 : Int32) [(.int (0 : Int32))] (.int (0 : Int32)) := (Arv.new A6 (by decide)).pad (pad_rep [] _ 1)
    have lt8 : @LT.lt Nat _ b6 h6.size := V6.lt
    show own_Rn p e below _ (T6.setTop (mkF m 16 #[.val (.int (1 : Int32)), .val (.int ca), .val (.int cb), .val (.int cc)] [(.ref b6)]))
    refine own_go (fun tq kq => XS.dup X6.here hx rfl (hb hby own_d1_16) rfl rfl kq) ?_
    show own_Rn p e below _ (T6.setTop (mkF m 17 #[.val (.int (1 : Int32)), .val (.int ca), .val (.int cb), .val (.int cc)] [(.ref b6), (.ref b6)]))
    refine own_go (fun tq kq => XS.iconst X6.here hx rfl (hb hby own_d1_17) kq) ?_
    show own_Rn p e below _ (T6.setTop (mkF m 18 #[.val (.int (1 : Int32)), .val (.int ca), .val (.int cb), .val (.int cc)] [(.int (0 : Int32)), (.ref b6), (.ref b6)]))
    refine own_go (fun tq kq => XS.iloadN X6.here hx rfl (hb hby own_d1_18) rfl kq) ?_
    show own_Rn p e below _ (T6.setTop (mkF m 19 #[.val (.int (1 : Int32)), .val (.int ca), .val (.int cb), .val (.int cc)] [(.int ca), (.int (0 : Int32)), (.ref b6), (.ref b6)]))
    obtain ⟨cl9, Ar9, q9, Sz9, Nn9, Hs9, G9⟩ := id V6
    obtain ⟨T9, h9, X9, e9, W9, st9⟩ := stC X6 hx hZ e6 Ar9 (j := (0 : Int32)) (inb_of Sz9 ⟨by decide, by decide⟩) (g := (mkF m 19 #[.val (.int (1 : Int32)), .val (.int ca), .val (.int cb), .val (.int cc)] [(.int ca), (.int (0 : Int32)), (.ref b6), (.ref b6)])) rfl rfl (hb hby own_d1_19)
    rw [nca] at W9
    refine own_go st9 ?_
    have V9 : Arv Z h9 b6 k6 .char (1 : Int32) [(.int ca)] (.int (0 : Int32)) := Arv.set Ar9 q9 Sz9 Nn9 Hs9 G9 (by rw [← nca]; exact fits_nar_char _) W9 0 rfl (Nat.le_of_ble_eq_true rfl)
    have N9 := Fr.snoc X9 N0 gn6
    have sz10 : h6.size ≤ h9.size := Nat.le_of_eq (Wr.size W9).symm
    have K10 := K7.wr W9 (Or.inr (by omega))
    show own_Rn p e below _ (T9.setTop (mkF m 20 #[.val (.int (1 : Int32)), .val (.int ca), .val (.int cb), .val (.int cc)] [(.ref b6)]))
    exact own_ret X9 (v := some (.ref b6)) (fun h => by rw [Bd.returns] at h; cases h) (fun fs hr => X9.areturnOut hx rfl Bd.returns rfl (hb hby own_d1_20) hr) (by rw [e9]; exact ⟨b6, k6, rfl, N9, K10, (by omega), gn6, V9⟩) (by decide) (by decide)
  · skip
    show own_Rn p e below _ (s₁.setTop (mkF m 0 #[.val (.int (2 : Int32)), .val (.int ca), .val (.int cb), .val (.int cc)] []))
    refine own_go (fun tq kq => XS.iloadN X0.here hx rfl (hb hby own_d1_0) rfl kq) ?_
    show own_Rn p e below _ (s₁.setTop (mkF m 1 #[.val (.int (2 : Int32)), .val (.int ca), .val (.int cb), .val (.int cc)] [(.int (2 : Int32))]))
    refine own_go (fun tq kq => XS.ifYes X0.here hx rfl (pc0 := 1) (pc' := 8) rfl (hb hby own_d1_1) rfl ((if0 _ _).trans (feq (by decide : ¬ ((2 : Int32) = (0 : Int32)))).2) (by decide) (by decide) kq) ?_
    show own_Rn p e below _ (s₁.setTop (mkF m 8 #[.val (.int (2 : Int32)), .val (.int ca), .val (.int cb), .val (.int cc)] []))
    refine own_go (fun tq kq => XS.iloadN X0.here hx rfl (hb hby own_d1_8) rfl kq) ?_
    show own_Rn p e below _ (s₁.setTop (mkF m 9 #[.val (.int (2 : Int32)), .val (.int ca), .val (.int cb), .val (.int cc)] [(.int (2 : Int32))]))
    refine own_go (fun tq kq => XS.iconst X0.here hx rfl (hb hby own_d1_9) kq) ?_
    show own_Rn p e below _ (s₁.setTop (mkF m 10 #[.val (.int (2 : Int32)), .val (.int ca), .val (.int cb), .val (.int cc)] [(.int (1 : Int32)), (.int (2 : Int32))]))
    refine own_go (fun tq kq => XS.icmpYes X0.here hx rfl (pc0 := 10) (pc' := 21) rfl (hb hby own_d1_10) rfl (feq (by decide : ¬ ((2 : Int32) = (1 : Int32)))).2 (by decide) (by decide) kq) ?_
    show own_Rn p e below _ (s₁.setTop (mkF m 21 #[.val (.int (2 : Int32)), .val (.int ca), .val (.int cb), .val (.int cc)] []))
    refine own_go (fun tq kq => XS.iloadN X0.here hx rfl (hb hby own_d1_21) rfl kq) ?_
    show own_Rn p e below _ (s₁.setTop (mkF m 22 #[.val (.int (2 : Int32)), .val (.int ca), .val (.int cb), .val (.int cc)] [(.int (2 : Int32))]))
    refine own_go (fun tq kq => XS.iconst X0.here hx rfl (hb hby own_d1_22) kq) ?_
    show own_Rn p e below _ (s₁.setTop (mkF m 23 #[.val (.int (2 : Int32)), .val (.int ca), .val (.int cb), .val (.int cc)] [(.int (2 : Int32)), (.int (2 : Int32))]))
    refine own_go (fun tq kq => XS.icmpNo X0.here hx rfl (hb hby own_d1_23) rfl (teq (rfl : (2 : Int32) = (2 : Int32))).2 kq) ?_
    show own_Rn p e below _ (s₁.setTop (mkF m 26 #[.val (.int (2 : Int32)), .val (.int ca), .val (.int cb), .val (.int cc)] []))
    refine own_go (fun tq kq => XS.iconst X0.here hx rfl (hb hby own_d1_26) kq) ?_
    show own_Rn p e below _ (s₁.setTop (mkF m 27 #[.val (.int (2 : Int32)), .val (.int ca), .val (.int cb), .val (.int cc)] [(.int (2 : Int32))]))
    obtain ⟨T12, h12, k12, X12, e12, E12, A12, st12⟩ := newP X0 hx hZ (hw _ (List.mem_of_getElem? (i := 5) rfl)) e0 (g := (mkF m 27 #[.val (.int (2 : Int32)), .val (.int ca), .val (.int cb), .val (.int cc)] [(.int (2 : Int32))])) rfl (hb hby own_d1_27) rfl (by decide) (cap := 2) (by decide) (by decide) (by decide) (by decide)
    obtain ⟨b12, g12⟩ : ∃ z, z = h0.size := ⟨_, rfl⟩
    rw [← g12] at A12 st12
    refine own_go st12 ?_
    have sz13 : h0.size ≤ h12.size := E12.1
    have K13 := K0.ext E12
    have gn12 : n0 ≤ b12 := by omega
    have V12 : Arv Z h12 b12 k12 .char (2 : Int32) [(.int (0 : Int32)), (.int (0 : Int32))] (.int (0 : Int32)) := (Arv.new A12 (by decide)).pad (pad_rep [] _ 2)
    have lt14 : @LT.lt Nat _ b12 h12.size := V12.lt
    show own_Rn p e below _ (T12.setTop (mkF m 29 #[.val (.int (2 : Int32)), .val (.int ca), .val (.int cb), .val (.int cc)] [(.ref b12)]))
    refine own_go (fun tq kq => XS.dup X12.here hx rfl (hb hby own_d1_29) rfl rfl kq) ?_
    show own_Rn p e below _ (T12.setTop (mkF m 30 #[.val (.int (2 : Int32)), .val (.int ca), .val (.int cb), .val (.int cc)] [(.ref b12), (.ref b12)]))
    refine own_go (fun tq kq => XS.iconst X12.here hx rfl (hb hby own_d1_30) kq) ?_
    show own_Rn p e below _ (T12.setTop (mkF m 31 #[.val (.int (2 : Int32)), .val (.int ca), .val (.int cb), .val (.int cc)] [(.int (0 : Int32)), (.ref b12), (.ref b12)]))
    refine own_go (fun tq kq => XS.iloadN X12.here hx rfl (hb hby own_d1_31) rfl kq) ?_
    show own_Rn p e below _ (T12.setTop (mkF m 32 #[.val (.int (2 : Int32)), .val (.int ca), .val (.int cb), .val (.int cc)] [(.int ca), (.int (0 : Int32)), (.ref b12), (.ref b12)]))
    obtain ⟨cl15, Ar15, q15, Sz15, Nn15, Hs15, G15⟩ := id V12
    obtain ⟨T15, h15, X15, e15, W15, st15⟩ := stC X12 hx hZ e12 Ar15 (j := (0 : Int32)) (inb_of Sz15 ⟨by decide, by decide⟩) (g := (mkF m 32 #[.val (.int (2 : Int32)), .val (.int ca), .val (.int cb), .val (.int cc)] [(.int ca), (.int (0 : Int32)), (.ref b12), (.ref b12)])) rfl rfl (hb hby own_d1_32)
    rw [nca] at W15
    refine own_go st15 ?_
    have V15 : Arv Z h15 b12 k12 .char (2 : Int32) [(.int ca), (.int (0 : Int32))] (.int (0 : Int32)) := Arv.set Ar15 q15 Sz15 Nn15 Hs15 G15 (by rw [← nca]; exact fits_nar_char _) W15 0 rfl (Nat.le_of_ble_eq_true rfl)
    have N15 := Fr.snoc X15 N0 gn12
    have sz16 : h12.size ≤ h15.size := Nat.le_of_eq (Wr.size W15).symm
    have K16 := K13.wr W15 (Or.inr (by omega))
    show own_Rn p e below _ (T15.setTop (mkF m 33 #[.val (.int (2 : Int32)), .val (.int ca), .val (.int cb), .val (.int cc)] [(.ref b12)]))
    refine own_go (fun tq kq => XS.dup X15.here hx rfl (hb hby own_d1_33) rfl rfl kq) ?_
    show own_Rn p e below _ (T15.setTop (mkF m 34 #[.val (.int (2 : Int32)), .val (.int ca), .val (.int cb), .val (.int cc)] [(.ref b12), (.ref b12)]))
    refine own_go (fun tq kq => XS.iconst X15.here hx rfl (hb hby own_d1_34) kq) ?_
    show own_Rn p e below _ (T15.setTop (mkF m 35 #[.val (.int (2 : Int32)), .val (.int ca), .val (.int cb), .val (.int cc)] [(.int (1 : Int32)), (.ref b12), (.ref b12)]))
    refine own_go (fun tq kq => XS.iloadN X15.here hx rfl (hb hby own_d1_35) rfl kq) ?_
    show own_Rn p e below _ (T15.setTop (mkF m 36 #[.val (.int (2 : Int32)), .val (.int ca), .val (.int cb), .val (.int cc)] [(.int cb), (.int (1 : Int32)), (.ref b12), (.ref b12)]))
    obtain ⟨cl17, Ar17, q17, Sz17, Nn17, Hs17, G17⟩ := id V15
    obtain ⟨T17, h17, X17, e17, W17, st17⟩ := stC X15 hx hZ e15 Ar17 (j := (1 : Int32)) (inb_of Sz17 ⟨by decide, by decide⟩) (g := (mkF m 36 #[.val (.int (2 : Int32)), .val (.int ca), .val (.int cb), .val (.int cc)] [(.int cb), (.int (1 : Int32)), (.ref b12), (.ref b12)])) rfl rfl (hb hby own_d1_36)
    rw [ncb] at W17
    refine own_go st17 ?_
    have V17 : Arv Z h17 b12 k12 .char (2 : Int32) [(.int ca), (.int cb)] (.int (0 : Int32)) := Arv.set Ar17 q17 Sz17 Nn17 Hs17 G17 (by rw [← ncb]; exact fits_nar_char _) W17 1 rfl (Nat.le_of_ble_eq_true rfl)
    have N17 := Fr.snoc X17 N15 gn12
    have sz18 : h15.size ≤ h17.size := Nat.le_of_eq (Wr.size W17).symm
    have K18 := K16.wr W17 (Or.inr (by omega))
    show own_Rn p e below _ (T17.setTop (mkF m 37 #[.val (.int (2 : Int32)), .val (.int ca), .val (.int cb), .val (.int cc)] [(.ref b12)]))
    exact own_ret X17 (v := some (.ref b12)) (fun h => by rw [Bd.returns] at h; cases h) (fun fs hr => X17.areturnOut hx rfl Bd.returns rfl (hb hby own_d1_37) hr) (by rw [e17]; exact ⟨b12, k12, rfl, N17, K18, (by omega), gn12, V17⟩) (by decide) (by decide)
  · skip
    show own_Rn p e below _ (s₁.setTop (mkF m 0 #[.val (.int (3 : Int32)), .val (.int ca), .val (.int cb), .val (.int cc)] []))
    refine own_go (fun tq kq => XS.iloadN X0.here hx rfl (hb hby own_d1_0) rfl kq) ?_
    show own_Rn p e below _ (s₁.setTop (mkF m 1 #[.val (.int (3 : Int32)), .val (.int ca), .val (.int cb), .val (.int cc)] [(.int (3 : Int32))]))
    refine own_go (fun tq kq => XS.ifYes X0.here hx rfl (pc0 := 1) (pc' := 8) rfl (hb hby own_d1_1) rfl ((if0 _ _).trans (feq (by decide : ¬ ((3 : Int32) = (0 : Int32)))).2) (by decide) (by decide) kq) ?_
    show own_Rn p e below _ (s₁.setTop (mkF m 8 #[.val (.int (3 : Int32)), .val (.int ca), .val (.int cb), .val (.int cc)] []))
    refine own_go (fun tq kq => XS.iloadN X0.here hx rfl (hb hby own_d1_8) rfl kq) ?_
    show own_Rn p e below _ (s₁.setTop (mkF m 9 #[.val (.int (3 : Int32)), .val (.int ca), .val (.int cb), .val (.int cc)] [(.int (3 : Int32))]))
    refine own_go (fun tq kq => XS.iconst X0.here hx rfl (hb hby own_d1_9) kq) ?_
    show own_Rn p e below _ (s₁.setTop (mkF m 10 #[.val (.int (3 : Int32)), .val (.int ca), .val (.int cb), .val (.int cc)] [(.int (1 : Int32)), (.int (3 : Int32))]))
    refine own_go (fun tq kq => XS.icmpYes X0.here hx rfl (pc0 := 10) (pc' := 21) rfl (hb hby own_d1_10) rfl (feq (by decide : ¬ ((3 : Int32) = (1 : Int32)))).2 (by decide) (by decide) kq) ?_
    show own_Rn p e below _ (s₁.setTop (mkF m 21 #[.val (.int (3 : Int32)), .val (.int ca), .val (.int cb), .val (.int cc)] []))
    refine own_go (fun tq kq => XS.iloadN X0.here hx rfl (hb hby own_d1_21) rfl kq) ?_
    show own_Rn p e below _ (s₁.setTop (mkF m 22 #[.val (.int (3 : Int32)), .val (.int ca), .val (.int cb), .val (.int cc)] [(.int (3 : Int32))]))
    refine own_go (fun tq kq => XS.iconst X0.here hx rfl (hb hby own_d1_22) kq) ?_
    show own_Rn p e below _ (s₁.setTop (mkF m 23 #[.val (.int (3 : Int32)), .val (.int ca), .val (.int cb), .val (.int cc)] [(.int (2 : Int32)), (.int (3 : Int32))]))
    refine own_go (fun tq kq => XS.icmpYes X0.here hx rfl (pc0 := 23) (pc' := 38) rfl (hb hby own_d1_23) rfl (feq (by decide : ¬ ((3 : Int32) = (2 : Int32)))).2 (by decide) (by decide) kq) ?_
    show own_Rn p e below _ (s₁.setTop (mkF m 38 #[.val (.int (3 : Int32)), .val (.int ca), .val (.int cb), .val (.int cc)] []))
    refine own_go (fun tq kq => XS.iconst X0.here hx rfl (hb hby own_d1_38) kq) ?_
    show own_Rn p e below _ (s₁.setTop (mkF m 39 #[.val (.int (3 : Int32)), .val (.int ca), .val (.int cb), .val (.int cc)] [(.int (3 : Int32))]))
    obtain ⟨T20, h20, k20, X20, e20, E20, A20, st20⟩ := newP X0 hx hZ (hw _ (List.mem_of_getElem? (i := 5) rfl)) e0 (g := (mkF m 39 #[.val (.int (3 : Int32)), .val (.int ca), .val (.int cb), .val (.int cc)] [(.int (3 : Int32))])) rfl (hb hby own_d1_39) rfl (by decide) (cap := 3) (by decide) (by decide) (by decide) (by decide)
    obtain ⟨b20, g20⟩ : ∃ z, z = h0.size := ⟨_, rfl⟩
    rw [← g20] at A20 st20
    refine own_go st20 ?_
    have sz21 : h0.size ≤ h20.size := E20.1
    have K21 := K0.ext E20
    have gn20 : n0 ≤ b20 := by omega
    have V20 : Arv Z h20 b20 k20 .char (3 : Int32) [(.int (0 : Int32)), (.int (0 : Int32)), (.int (0 : Int32))] (.int (0 : Int32)) := (Arv.new A20 (by decide)).pad (pad_rep [] _ 3)
    have lt22 : @LT.lt Nat _ b20 h20.size := V20.lt
    show own_Rn p e below _ (T20.setTop (mkF m 41 #[.val (.int (3 : Int32)), .val (.int ca), .val (.int cb), .val (.int cc)] [(.ref b20)]))
    refine own_go (fun tq kq => XS.dup X20.here hx rfl (hb hby own_d1_41) rfl rfl kq) ?_
    show own_Rn p e below _ (T20.setTop (mkF m 42 #[.val (.int (3 : Int32)), .val (.int ca), .val (.int cb), .val (.int cc)] [(.ref b20), (.ref b20)]))
    refine own_go (fun tq kq => XS.iconst X20.here hx rfl (hb hby own_d1_42) kq) ?_
    show own_Rn p e below _ (T20.setTop (mkF m 43 #[.val (.int (3 : Int32)), .val (.int ca), .val (.int cb), .val (.int cc)] [(.int (0 : Int32)), (.ref b20), (.ref b20)]))
    refine own_go (fun tq kq => XS.iloadN X20.here hx rfl (hb hby own_d1_43) rfl kq) ?_
    show own_Rn p e below _ (T20.setTop (mkF m 44 #[.val (.int (3 : Int32)), .val (.int ca), .val (.int cb), .val (.int cc)] [(.int ca), (.int (0 : Int32)), (.ref b20), (.ref b20)]))
    obtain ⟨cl23, Ar23, q23, Sz23, Nn23, Hs23, G23⟩ := id V20
    obtain ⟨T23, h23, X23, e23, W23, st23⟩ := stC X20 hx hZ e20 Ar23 (j := (0 : Int32)) (inb_of Sz23 ⟨by decide, by decide⟩) (g := (mkF m 44 #[.val (.int (3 : Int32)), .val (.int ca), .val (.int cb), .val (.int cc)] [(.int ca), (.int (0 : Int32)), (.ref b20), (.ref b20)])) rfl rfl (hb hby own_d1_44)
    rw [nca] at W23
    refine own_go st23 ?_
    have V23 : Arv Z h23 b20 k20 .char (3 : Int32) [(.int ca), (.int (0 : Int32)), (.int (0 : Int32))] (.int (0 : Int32)) := Arv.set Ar23 q23 Sz23 Nn23 Hs23 G23 (by rw [← nca]; exact fits_nar_char _) W23 0 rfl (Nat.le_of_ble_eq_true rfl)
    have N23 := Fr.snoc X23 N0 gn20
    have sz24 : h20.size ≤ h23.size := Nat.le_of_eq (Wr.size W23).symm
    have K24 := K21.wr W23 (Or.inr (by omega))
    show own_Rn p e below _ (T23.setTop (mkF m 45 #[.val (.int (3 : Int32)), .val (.int ca), .val (.int cb), .val (.int cc)] [(.ref b20)]))
    refine own_go (fun tq kq => XS.dup X23.here hx rfl (hb hby own_d1_45) rfl rfl kq) ?_
    show own_Rn p e below _ (T23.setTop (mkF m 46 #[.val (.int (3 : Int32)), .val (.int ca), .val (.int cb), .val (.int cc)] [(.ref b20), (.ref b20)]))
    refine own_go (fun tq kq => XS.iconst X23.here hx rfl (hb hby own_d1_46) kq) ?_
    show own_Rn p e below _ (T23.setTop (mkF m 47 #[.val (.int (3 : Int32)), .val (.int ca), .val (.int cb), .val (.int cc)] [(.int (1 : Int32)), (.ref b20), (.ref b20)]))
    refine own_go (fun tq kq => XS.iloadN X23.here hx rfl (hb hby own_d1_47) rfl kq) ?_
    show own_Rn p e below _ (T23.setTop (mkF m 48 #[.val (.int (3 : Int32)), .val (.int ca), .val (.int cb), .val (.int cc)] [(.int cb), (.int (1 : Int32)), (.ref b20), (.ref b20)]))
    obtain ⟨cl25, Ar25, q25, Sz25, Nn25, Hs25, G25⟩ := id V23
    obtain ⟨T25, h25, X25, e25, W25, st25⟩ := stC X23 hx hZ e23 Ar25 (j := (1 : Int32)) (inb_of Sz25 ⟨by decide, by decide⟩) (g := (mkF m 48 #[.val (.int (3 : Int32)), .val (.int ca), .val (.int cb), .val (.int cc)] [(.int cb), (.int (1 : Int32)), (.ref b20), (.ref b20)])) rfl rfl (hb hby own_d1_48)
    rw [ncb] at W25
    refine own_go st25 ?_
    have V25 : Arv Z h25 b20 k20 .char (3 : Int32) [(.int ca), (.int cb), (.int (0 : Int32))] (.int (0 : Int32)) := Arv.set Ar25 q25 Sz25 Nn25 Hs25 G25 (by rw [← ncb]; exact fits_nar_char _) W25 1 rfl (Nat.le_of_ble_eq_true rfl)
    have N25 := Fr.snoc X25 N23 gn20
    have sz26 : h23.size ≤ h25.size := Nat.le_of_eq (Wr.size W25).symm
    have K26 := K24.wr W25 (Or.inr (by omega))
    show own_Rn p e below _ (T25.setTop (mkF m 49 #[.val (.int (3 : Int32)), .val (.int ca), .val (.int cb), .val (.int cc)] [(.ref b20)]))
    refine own_go (fun tq kq => XS.dup X25.here hx rfl (hb hby own_d1_49) rfl rfl kq) ?_
    show own_Rn p e below _ (T25.setTop (mkF m 50 #[.val (.int (3 : Int32)), .val (.int ca), .val (.int cb), .val (.int cc)] [(.ref b20), (.ref b20)]))
    refine own_go (fun tq kq => XS.iconst X25.here hx rfl (hb hby own_d1_50) kq) ?_
    show own_Rn p e below _ (T25.setTop (mkF m 51 #[.val (.int (3 : Int32)), .val (.int ca), .val (.int cb), .val (.int cc)] [(.int (2 : Int32)), (.ref b20), (.ref b20)]))
    refine own_go (fun tq kq => XS.iloadN X25.here hx rfl (hb hby own_d1_51) rfl kq) ?_
    show own_Rn p e below _ (T25.setTop (mkF m 52 #[.val (.int (3 : Int32)), .val (.int ca), .val (.int cb), .val (.int cc)] [(.int cc), (.int (2 : Int32)), (.ref b20), (.ref b20)]))
    obtain ⟨cl27, Ar27, q27, Sz27, Nn27, Hs27, G27⟩ := id V25
    obtain ⟨T27, h27, X27, e27, W27, st27⟩ := stC X25 hx hZ e25 Ar27 (j := (2 : Int32)) (inb_of Sz27 ⟨by decide, by decide⟩) (g := (mkF m 52 #[.val (.int (3 : Int32)), .val (.int ca), .val (.int cb), .val (.int cc)] [(.int cc), (.int (2 : Int32)), (.ref b20), (.ref b20)])) rfl rfl (hb hby own_d1_52)
    rw [ncc] at W27
    refine own_go st27 ?_
    have V27 : Arv Z h27 b20 k20 .char (3 : Int32) [(.int ca), (.int cb), (.int cc)] (.int (0 : Int32)) := Arv.set Ar27 q27 Sz27 Nn27 Hs27 G27 (by rw [← ncc]; exact fits_nar_char _) W27 2 rfl (Nat.le_of_ble_eq_true rfl)
    have N27 := Fr.snoc X27 N25 gn20
    have sz28 : h25.size ≤ h27.size := Nat.le_of_eq (Wr.size W27).symm
    have K28 := K26.wr W27 (Or.inr (by omega))
    show own_Rn p e below _ (T27.setTop (mkF m 53 #[.val (.int (3 : Int32)), .val (.int ca), .val (.int cb), .val (.int cc)] [(.ref b20)]))
    exact own_ret X27 (v := some (.ref b20)) (fun h => by rw [Bd.returns] at h; cases h) (fun fs hr => X27.areturnOut hx rfl Bd.returns rfl (hb hby own_d1_53) hr) (by rw [e27]; exact ⟨b20, k20, rfl, N27, K28, (by omega), gn20, V27⟩) (by decide) (by decide)
theorem own_ef_rmSI4 (m : MethodId) (x : Addr) (b : Addr) : entryFrame m #[(.ref x), (.ref b), (.int (0 : Int32)), (.int (0 : Int32)), .null] 6 = mkF m 0 #[.val (.ref x), .val (.ref b), .val (.int (0 : Int32)), .val (.int (0 : Int32)), .val .null, .unset] [] := by first | (simp [entryFrame, mkF, argsToLocals, Value.category]; done) | rfl
theorem own_d3_8 : decode jdk_42_method_149_code 8 = .ok (.aload_n 0, 1) := by decide +kernel
theorem own_d3_9 : decode jdk_42_method_149_code 9 = .ok (.ldc 7, 2) := by decide +kernel
theorem own_d3_11 : decode jdk_42_method_149_code 11 = .ok (.getfield 9, 3) := by decide +kernel
theorem own_d3_14 : decode jdk_42_method_149_code 14 = .ok (.putfield 9, 3) := by decide +kernel
theorem own_d3_17 : decode jdk_42_method_149_code 17 = .ok (.aload_n 0, 1) := by decide +kernel
theorem own_d3_18 : decode jdk_42_method_149_code 18 = .ok (.ldc 7, 2) := by decide +kernel
theorem own_d3_20 : decode jdk_42_method_149_code 20 = .ok (.getfield 15, 3) := by decide +kernel
theorem own_d3_23 : decode jdk_42_method_149_code 23 = .ok (.putfield 15, 3) := by decide +kernel
theorem own_d3_26 : decode jdk_42_method_149_code 26 = .ok (.return_, 1) := by decide +kernel
def Q_rmSI4 (Z : State) (x : Addr) (b : Addr) (h0 : Heap) (n0 : Nat) (v : Option Value) (h : Heap) (L : List Loc) : Prop := ∃ (t : Addr), ∃ (kb : ClassId), v = none ∧ Fr n0 L ∧ Keep h0 h [x] ∧ Fld Z h x "java/lang/String" "value" "[B" (.ref t) ∧ Fld Z h x "java/lang/String" "coder" "B" (.int (0 : Int32)) ∧ Arv Z h t kb .byte (0 : Int32) ((([] : List Int32).map (fun c => c.toInt8.toInt32)).map Value.int) (.int 0)
set_option maxRecDepth 65536 in
set_option maxHeartbeats 40000000 in
theorem rmSI4 (l : Launch) (Z : State) (a0 : Array Value) (hw : ∀ d ∈ tables_1, d.before a0 Z = true) (ws : List Jvm.Cond) (x : Addr) (b : Addr) (h0 : Heap) (n0 : Nat) (Z0 : n0 ≤ h0.size) (hEL : EW Z a0 consts_1) (Pm0 : Exa Z h0 x "java/lang/String") (Pm1 : Fld Z h0 x "java/lang/String" "value" "[B" .null) (Pm2 : Fld Z h0 x "java/lang/String" "coder" "B" (.int (0 : Int32))) (Pm3 : n0 ≤ x) :
    MetFree l (⟨"java/lang/String", "<init>", "([CIILjava/lang/Void;)V"⟩ : MethodName) (head1 (Jvm.Cond.code (⟨"java/lang/String", "<init>", "([CIILjava/lang/Void;)V"⟩ : MethodName) jdk_42_method_149_code 6 none :: ws) ({ frames := 1, cells := 4, slots := 8, locals := 12 } : Room)) (fun a U => a = #[(.ref x), (.ref b), (.int (0 : Int32)), (.int (0 : Int32)), .null] ∧ Z.Warmed39 U.vm ∧ U.heap = h0 ∧ CHv Z consts_1 U.vm h0 ∧ ∀ ax ∈ ([x] : List Addr), Safe Z consts_1 U.vm h0 ax) (fun _ _ _ _ _ => True) (fun _ U o U' => ∃ v L, o = .returned v ∧ Q_rmSI4 Z x b h0 n0 v U'.heap L ∧ CHr Z consts_1 U.vm U.heap U'.vm U'.heap ∧ ReturnedEndW U o U' L ({ frames := 1, cells := 4, slots := 8, locals := 12 } : Room).cells ({ frames := 1, cells := 4, slots := 8, locals := 12 } : Room).slots) := by
  refine MetFree.of_bodySF (plainFor_of_name own_pn_java_lang_String) hisR ?_
  intro p e s m args below meth c s₁ Bd hml0 hP hK
  obtain ⟨rfl, hZ, hh, hH, hSf⟩ := hP
  have hx := Bd.exec
  have hby := Bd.bytes
  have hml : c.maxLocals = 6 := hml0
  have hown : s.vm.findClass "java/lang/String" = some m.cls := findClass_of_methodNamed Bd.named
  have hnm := (name_of_methodNamed Bd.named Bd.method).1
  have X0 : Stand p l e ({ frames := 1, cells := 4, slots := 8, locals := 12 } : Room) (s.setVm s.vm) m #[(.ref x), (.ref b), (.int (0 : Int32)), (.int (0 : Int32)), .null] below meth c s₁ [] 0 0 := Stand.of_body Bd
  have e0 : s₁.heap = h0 := by rw [← hh, Bd.state]; rfl
  have N0 := Fr.nil n0
  have K0 : Keep h0 h0 [x] := Keep.refl _ _
  refine own_go (S' := s₁.setTop (mkF m 0 #[.val (.ref x), .val (.ref b), .val (.int (0 : Int32)), .val (.int (0 : Int32)), .val .null, .unset] [])) (fun tq kq => castTop (own_ef_rmSI4 m x b) kq) ?_
  have lt1 : @LT.lt Nat _ x h0.size := Pm0.lt
  have hS0 : s.Since s.vm h0.size := (State.WarmedH.refl s).since _
  have CR0 : CHr Z consts_1 s.vm h0 s.vm h0 := CHr.refl hH
  have hwS : ∀ d ∈ Bundle.stringAtoms, d.before a0 Z = true := fun d hd => hw d ((by decide +kernel : ∀ d ∈ Bundle.stringAtoms, d ∈ tables_1) d hd)
  have sf_x : Safe Z consts_1 s.vm h0 x := hSf _ (List.mem_of_getElem? (i := 0) rfl)
  refine own_go (fun tq kq => XS.aloadN X0.here hx rfl (hb hby own_d3_0) rfl rfl kq) ?_
  show own_Rn p e below _ (s₁.setTop (mkF m 1 #[.val (.ref x), .val (.ref b), .val (.int (0 : Int32)), .val (.int (0 : Int32)), .val .null, .unset] [(.ref x)]))
  obtain ⟨T2, X2, e2, st2⟩ := initO X0 hx hZ hown (hw _ (List.mem_of_getElem? (i := 25) rfl)) (hw _ (List.mem_of_getElem? (i := 26) rfl)) (hw _ (List.mem_of_getElem? (i := 27) rfl)) e0 (g := (mkF m 1 #[.val (.ref x), .val (.ref b), .val (.int (0 : Int32)), .val (.int (0 : Int32)), .val .null, .unset] [(.ref x)])) rfl (by rw [hml]; rfl) rfl (hb hby own_d3_1) (by decide) (W := 0) (by show 2 * 0 + _ ≤ _; exact Nat.le_of_eq rfl) (by decide)
  refine own_go st2 ?_
  show own_Rn p e below _ (T2.setTop (mkF m 4 #[.val (.ref x), .val (.ref b), .val (.int (0 : Int32)), .val (.int (0 : Int32)), .val .null, .unset] []))
  refine own_go (fun tq kq => XS.iloadN X2.here hx rfl (hb hby own_d3_4) rfl kq) ?_
  show own_Rn p e below _ (T2.setTop (mkF m 5 #[.val (.ref x), .val (.ref b), .val (.int (0 : Int32)), .val (.int (0 : Int32)), .val .null, .unset] [(.int (0 : Int32))]))
  refine own_go (fun tq kq => XS.ifNo X2.here hx rfl (hb hby own_d3_5) rfl ((if0 _ _).trans (teq ((by decide : (0 : Int32) = (0 : Int32)) : (0 : Int32) = (0 : Int32))).2) kq) ?_
  show own_Rn p e below _ (T2.setTop (mkF m 8 #[.val (.ref x), .val (.ref b), .val (.int (0 : Int32)), .val (.int (0 : Int32)), .val .null, .unset] []))
  refine own_go (fun tq kq => XS.aloadN X2.here hx rfl (hb hby own_d3_8) rfl rfl kq) ?_
  show own_Rn p e below _ (T2.setTop (mkF m 9 #[.val (.ref x), .val (.ref b), .val (.int (0 : Int32)), .val (.int (0 : Int32)), .val .null, .unset] [(.ref x)]))
  obtain ⟨a3, T3, h3, kk3, bb3, kc3, X3, e3, E3, hS3, hk3, hZ3, hown3, Ex3, Co3, Va3, Ab3, la3, lb3, crq3, Li3, sn3, st3⟩ := ldcCH X2 hx hZ hown (hw _ (List.mem_of_getElem? (i := 28) rfl)) hwS e2 hS0 (by omega) hEL (List.mem_of_getElem? (i := 0) rfl) CR0.1 (vs := ((([] : List Int32).map (fun c => c.toInt8.toInt32)).map Value.int)) (z := (0 : Int32)) ⟨by decide, by decide⟩ (by decide) (by decide) (g := (mkF m 9 #[.val (.ref x), .val (.ref b), .val (.int (0 : Int32)), .val (.int (0 : Int32)), .val .null, .unset] [(.ref x)])) rfl (hb hby own_d3_9) (n := 0) (by decide) (by decide) (by decide) (by decide)
  refine own_go st3 ?_
  have sz4 : h0.size ≤ h3.size := E3.1
  have K4 := K0.ext E3
  have cr4 : CHr Z consts_1 s.vm h0 T3.vm h3 := crq3
  have CR4 := CR0.trans cr4
  have sf6 : Safe Z consts_1 T3.vm h3 x := (CHr.safe cr4 (show @LT.lt Nat _ _ _ by omega) sf_x)
  obtain ⟨na3_x, nb3_x⟩ := sn3 x sf6
  have lt7 : @LT.lt Nat _ a3 h3.size := Ex3.lt
  have lt8 : @LT.lt Nat _ bb3 h3.size := Ab3.lt
  show own_Rn p e below _ (T3.setTop (mkF m 11 #[.val (.ref x), .val (.ref b), .val (.int (0 : Int32)), .val (.int (0 : Int32)), .val .null, .unset] [(.ref a3), (.ref x)]))
  obtain ⟨T9, X9, e9, st9⟩ := getF X3 hx hZ3 hown3 (host := "") (Or.inl (hw _ (List.mem_of_getElem? (i := 34) rfl))) Via.refl e3 Va3 (g := (mkF m 11 #[.val (.ref x), .val (.ref b), .val (.int (0 : Int32)), .val (.int (0 : Int32)), .val .null, .unset] [(.ref a3), (.ref x)])) rfl rfl (hb hby own_d3_11)
  refine own_go st9 ?_
  show own_Rn p e below _ (T9.setTop (mkF m 14 #[.val (.ref x), .val (.ref b), .val (.int (0 : Int32)), .val (.int (0 : Int32)), .val .null, .unset] [(.ref bb3), (.ref x)]))
  have F10 : Fld Z h3 x "java/lang/String" "value" "[B" .null := (Pm1.ext E3)
  have F11 : Exa Z h3 x "java/lang/String" := (Pm0.ext E3)
  obtain ⟨T12, h12, X12, e12, W12, st12⟩ := putF X9 hx hZ3 hown3 (host := "") (Or.inl (hw _ (List.mem_of_getElem? (i := 34) rfl))) Via.refl e9 F10 F11 (Or.inr ⟨(hw _ (List.mem_of_getElem? (i := 30) rfl)), rfl, hnm⟩) (hw _ (List.mem_of_getElem? (i := 16) rfl)) (ty := (.array .byte)) own_fd_5bB rfl rfl (g := (mkF m 14 #[.val (.ref x), .val (.ref b), .val (.int (0 : Int32)), .val (.int (0 : Int32)), .val .null, .unset] [(.ref bb3), (.ref x)])) rfl rfl (hb hby own_d3_14)
  refine own_go st12 ?_
  have N12 := Fr.snoc X12 N0 Pm3
  have Fw12 := F10.same W12
  have sz14 : h3.size ≤ h12.size := Nat.le_of_eq (Wr.size W12).symm
  have K14 := K4.wr W12 (Or.inl (List.mem_of_getElem? (i := 0) rfl))
  have cr14 : CHr Z consts_1 T3.vm h3 T3.vm h12 := CHr.wr W12 sf6 CR4.1
  have CR14 := CR4.trans cr14
  show own_Rn p e below _ (T12.setTop (mkF m 17 #[.val (.ref x), .val (.ref b), .val (.int (0 : Int32)), .val (.int (0 : Int32)), .val .null, .unset] []))
  refine own_go (fun tq kq => XS.aloadN X12.here hx rfl (hb hby own_d3_17) rfl rfl kq) ?_
  show own_Rn p e below _ (T12.setTop (mkF m 18 #[.val (.ref x), .val (.ref b), .val (.int (0 : Int32)), .val (.int (0 : Int32)), .val .null, .unset] [(.ref x)]))
  obtain ⟨a15, T15, h15, kk15, bb15, kc15, X15, e15, E15, hS15, hk15, hZ15, hown15, Ex15, Co15, Va15, Ab15, la15, lb15, crq15, Li15, sn15, st15⟩ := ldcCH X12 hx hZ3 hown3 (hw _ (List.mem_of_getElem? (i := 28) rfl)) hwS e12 hS3 (by omega) hEL (List.mem_of_getElem? (i := 0) rfl) CR14.1 (vs := ((([] : List Int32).map (fun c => c.toInt8.toInt32)).map Value.int)) (z := (0 : Int32)) ⟨by decide, by decide⟩ (by decide) (by decide) (g := (mkF m 18 #[.val (.ref x), .val (.ref b), .val (.int (0 : Int32)), .val (.int (0 : Int32)), .val .null, .unset] [(.ref x)])) rfl (hb hby own_d3_18) (n := 0) (by decide) (by decide) (by decide) (by decide)
  refine own_go st15 ?_
  have sz16 : h12.size ≤ h15.size := E15.1
  have K16 := K14.ext E15
  have cr16 : CHr Z consts_1 T3.vm h12 T15.vm h15 := crq15
  have CR16 := CR14.trans cr16
  have sf18 : Safe Z consts_1 T15.vm h15 x := (CHr.safe cr16 (show @LT.lt Nat _ _ _ by omega) (CHr.safe cr14 (show @LT.lt Nat _ _ _ by omega) sf6))
  obtain ⟨na15_x, nb15_x⟩ := sn15 x sf18
  have lt19 : @LT.lt Nat _ a15 h15.size := Ex15.lt
  have lt20 : @LT.lt Nat _ bb15 h15.size := Ab15.lt
  show own_Rn p e below _ (T15.setTop (mkF m 20 #[.val (.ref x), .val (.ref b), .val (.int (0 : Int32)), .val (.int (0 : Int32)), .val .null, .unset] [(.ref a15), (.ref x)]))
  obtain ⟨T21, X21, e21, st21⟩ := getF X15 hx hZ15 hown15 (host := "") (Or.inl (hw _ (List.mem_of_getElem? (i := 35) rfl))) Via.refl e15 Co15 (g := (mkF m 20 #[.val (.ref x), .val (.ref b), .val (.int (0 : Int32)), .val (.int (0 : Int32)), .val .null, .unset] [(.ref a15), (.ref x)])) rfl rfl (hb hby own_d3_20)
  refine own_go st21 ?_
  show own_Rn p e below _ (T21.setTop (mkF m 23 #[.val (.ref x), .val (.ref b), .val (.int (0 : Int32)), .val (.int (0 : Int32)), .val .null, .unset] [(.int (0 : Int32)), (.ref x)]))
  have F22 : Fld Z h15 x "java/lang/String" "coder" "B" (.int (0 : Int32)) := (((Pm2.ext E3).other W12 (Or.inr (slot_ne (Or.inr (hw _ (List.mem_of_getElem? (i := 31) rfl))) (Or.inr (hw _ (List.mem_of_getElem? (i := 30) rfl))) (by decide) (t := .byte) (t' := (.array .byte)) own_fd_B own_fd_5bB))).ext E15)
  have F23 : Exa Z h15 x "java/lang/String" := ((F11.wr W12).ext E15)
  obtain ⟨T24, h24, X24, e24, W24, st24⟩ := putFN X21 hx hZ15 hown15 (hw _ (List.mem_of_getElem? (i := 35) rfl)) Via.refl e21 F22 F23 (Or.inr ⟨(hw _ (List.mem_of_getElem? (i := 31) rfl)), rfl, hnm⟩) (hw _ (List.mem_of_getElem? (i := 16) rfl)) (ty := .byte) (v' := (.int ((0 : Int32)))) own_fd_B rfl (by decide) (g := (mkF m 23 #[.val (.ref x), .val (.ref b), .val (.int (0 : Int32)), .val (.int (0 : Int32)), .val .null, .unset] [(.int (0 : Int32)), (.ref x)])) rfl rfl (hb hby own_d3_23)
  refine own_go st24 ?_
  have N24 := Fr.snoc X24 N12 Pm3
  have Fw24 := F22.same W24
  have sz26 : h15.size ≤ h24.size := Nat.le_of_eq (Wr.size W24).symm
  have K26 := K16.wr W24 (Or.inl (List.mem_of_getElem? (i := 0) rfl))
  have cr26 : CHr Z consts_1 T15.vm h15 T15.vm h24 := CHr.wr W24 sf18 CR16.1
  have CR26 := CR16.trans cr26
  show own_Rn p e below _ (T24.setTop (mkF m 26 #[.val (.ref x), .val (.ref b), .val (.int (0 : Int32)), .val (.int (0 : Int32)), .val .null, .unset] []))
  have F27 : Fld Z h24 x "java/lang/String" "value" "[B" (.ref bb3) := ((Fw12.ext E15).other W24 (Or.inr (slot_ne (Or.inr (hw _ (List.mem_of_getElem? (i := 30) rfl))) (Or.inr (hw _ (List.mem_of_getElem? (i := 31) rfl))) (by decide) (t := (.array .byte)) (t' := .byte) own_fd_5bB own_fd_B)))
  have F28 : Arv Z h24 bb3 kc3 .byte (0 : Int32) ((([] : List Int32).map (fun c => c.toInt8.toInt32)).map Value.int) (.int 0) := (((Ab3.other W12 (Ne.symm nb3_x)).ext E15).other W24 (Ne.symm nb3_x))
  exact own_retS X24 hS15 (by rw [e24]; omega) (v := none) (fun _ => rfl) (fun fs hr => X24.returnOut hx Bd.returns (hb hby own_d3_26) hr) (by rw [e24]; exact ⟨bb3, kc3, rfl, N24, K26, F27, Fw24, F28⟩) (by rw [hh, e24]; exact CR26.trans (CHv.at X24 hZ15 hEL CR26.1)) (by decide) (by decide)
theorem own_ef_rmSI1 (m : MethodId) (x : Addr) (b : Addr) (kz : ClassId) : entryFrame m #[(.ref x), (.ref b)] 2 = mkF m 0 #[.val (.ref x), .val (.ref b)] [] := by first | (simp [entryFrame, mkF, argsToLocals, Value.category]; done) | rfl
def Q_rmSI1 (Z : State) (x : Addr) (b : Addr) (kz : ClassId) (h0 : Heap) (n0 : Nat) (v : Option Value) (h : Heap) (L : List Loc) : Prop := ∃ (t : Addr), ∃ (kb : ClassId), v = none ∧ Fr n0 L ∧ Keep h0 h [x] ∧ Fld Z h x "java/lang/String" "value" "[B" (.ref t) ∧ Fld Z h x "java/lang/String" "coder" "B" (.int (0 : Int32)) ∧ Arv Z h t kb .byte (0 : Int32) ((([] : List Int32).map (fun c => c.toInt8.toInt32)).map Value.int) (.int 0)
set_option maxRecDepth 65536 in
set_option maxHeartbeats 40000000 in
theorem rmSI1 (l : Launch) (Z : State) (a0 : Array Value) (hw : ∀ d ∈ tables_1, d.before a0 Z = true) (ws : List Jvm.Cond) (x : Addr) (b : Addr) (kz : ClassId) (h0 : Heap) (n0 : Nat) (Z0 : n0 ≤ h0.size) (hEL : EW Z a0 consts_1) (Pm0 : Exa Z h0 x "java/lang/String") (Pm1 : Fld Z h0 x "java/lang/String" "value" "[B" .null) (Pm2 : Fld Z h0 x "java/lang/String" "coder" "B" (.int (0 : Int32))) (Pm3 : n0 ≤ x) (Pm4 : Arv Z h0 b kz .char (0 : Int32) [] (.int (0 : Int32))) :
    MetFree l (⟨"java/lang/String", "<init>", "([C)V"⟩ : MethodName) (head1 (Jvm.Cond.code (⟨"java/lang/String", "<init>", "([C)V"⟩ : MethodName) jdk_42_method_3_code 2 none :: ws) ({ frames := 2, cells := 4, slots := 8, locals := 29 } : Room)) (fun a U => a = #[(.ref x), (.ref b)] ∧ Z.Warmed39 U.vm ∧ U.heap = h0 ∧ CHv Z consts_1 U.vm h0 ∧ ∀ ax ∈ ([x] : List Addr), Safe Z consts_1 U.vm h0 ax) (fun _ _ _ _ _ => True) (fun _ U o U' => ∃ v L, o = .returned v ∧ Q_rmSI1 Z x b kz h0 n0 v U'.heap L ∧ CHr Z consts_1 U.vm U.heap U'.vm U'.heap ∧ ReturnedEndW U o U' L ({ frames := 2, cells := 4, slots := 8, locals := 29 } : Room).cells ({ frames := 2, cells := 4, slots := 8, locals := 29 } : Room).slots) := by
  refine MetFree.of_bodySF (plainFor_of_name own_pn_java_lang_String) hisR ?_
  intro p e s m args below meth c s₁ Bd hml0 hP hK
  obtain ⟨rfl, hZ, hh, hH, hSf⟩ := hP
  have hx := Bd.exec
  have hby := Bd.bytes
  have hml : c.maxLocals = 2 := hml0
  have hown : s.vm.findClass "java/lang/String" = some m.cls := findClass_of_methodNamed Bd.named
  have hnm := (name_of_methodNamed Bd.named Bd.method).1
  have X0 : Stand p l e ({ frames := 2, cells := 4, slots := 8, locals := 29 } : Room) (s.setVm s.vm) m #[(.ref x), (.ref b)] below meth c s₁ [] 0 0 := Stand.of_body Bd
  have e0 : s₁.heap = h0 := by rw [← hh, Bd.state]; rfl
  have N0 := Fr.nil n0
  have K0 : Keep h0 h0 [x] := Keep.refl _ _
  refine own_go (S' := s₁.setTop (mkF m 0 #[.val (.ref x), .val (.ref b)] [])) (fun tq kq => castTop (own_ef_rmSI1 m x b kz) kq) ?_
  have lt1 : @LT.lt Nat _ x h0.size := Pm0.lt
  have lt2 : @LT.lt Nat _ b h0.size := Pm4.lt
  have hS0 : s.Since s.vm h0.size := (State.WarmedH.refl s).since _
  have CR0 : CHr Z consts_1 s.vm h0 s.vm h0 := CHr.refl hH
  have hwS : ∀ d ∈ Bundle.stringAtoms, d.before a0 Z = true := fun d hd => hw d ((by decide +kernel : ∀ d ∈ Bundle.stringAtoms, d ∈ tables_1) d hd)
  have sf_x : Safe Z consts_1 s.vm h0 x := hSf _ (List.mem_of_getElem? (i := 0) rfl)
  refine own_go (fun tq kq => XS.aloadN X0.here hx rfl (hb hby own_d2_0) rfl rfl kq) ?_
  show own_Rn p e below _ (s₁.setTop (mkF m 1 #[.val (.ref x), .val (.ref b)] [(.ref x)]))
  refine own_go (fun tq kq => XS.aloadN X0.here hx rfl (hb hby own_d2_1) rfl rfl kq) ?_
  show own_Rn p e below _ (s₁.setTop (mkF m 2 #[.val (.ref x), .val (.ref b)] [(.ref b), (.ref x)]))
  refine own_go (fun tq kq => XS.iconst X0.here hx rfl (hb hby own_d2_2) kq) ?_
  show own_Rn p e below _ (s₁.setTop (mkF m 3 #[.val (.ref x), .val (.ref b)] [(.int (0 : Int32)), (.ref b), (.ref x)]))
  refine own_go (fun tq kq => XS.aloadN X0.here hx rfl (hb hby own_d2_3) rfl rfl kq) ?_
  show own_Rn p e below _ (s₁.setTop (mkF m 4 #[.val (.ref x), .val (.ref b)] [(.ref b), (.int (0 : Int32)), (.ref b), (.ref x)]))
  obtain ⟨cl3, Ar3, -, Sz3, Nn3, -, -⟩ := id Pm4
  refine own_go (fun tq kq => X0.arraylength hx (cell := cl3) (by rw [e0]; exact Ar3.1) (State.isArrayOf_alike hZ.alike Ar3.2.1) (g := (mkF m 4 #[.val (.ref x), .val (.ref b)] [(.ref b), (.int (0 : Int32)), (.ref b), (.ref x)])) rfl rfl (hb hby own_d2_4) tq kq) ?_
  rw [len_of Sz3 Nn3]
  show own_Rn p e below _ (s₁.setTop (mkF m 5 #[.val (.ref x), .val (.ref b)] [(.int (0 : Int32)), (.int (0 : Int32)), (.ref b), (.ref x)]))
  refine own_go (fun tq kq => XS.aconstNull X0.here hx rfl (hb hby own_d2_5) kq) ?_
  show own_Rn p e below _ (s₁.setTop (mkF m 6 #[.val (.ref x), .val (.ref b)] [.null, (.int (0 : Int32)), (.int (0 : Int32)), (.ref b), (.ref x)]))
  have Zn4 : n0 ≤ h0.size := by omega
  obtain ⟨rv4, _, ⟨T4, L4, k4, n4⟩, -, X4, hS4, hG4, ⟨Lc4, hQ4, l4, y4, z4, CR4q⟩, st4⟩ := X0.specialBackS hx (y := (⟨"java/lang/String", "<init>", "([CIILjava/lang/Void;)V"⟩ : MethodName)) rfl hown (mvT hZ (hw _ (List.mem_of_getElem? (i := 21) rfl))) (mvT hZ (hw _ (List.mem_of_getElem? (i := 22) rfl))) (mvT hZ (hw _ (List.mem_of_getElem? (i := 24) rfl))) (by decide) (own_backSH (W := 0) (rm := ({ frames := 1, cells := 4, slots := 8, locals := 12 } : Room)) (sf := [x]) (h := h0) (rmSI4 l Z a0 hw [] (x) (b) h0 n0 Zn4 hEL Pm0 Pm1 Pm2 Pm3) hZ (hw _ (List.mem_of_getElem? (i := 24) rfl)) (hw _ (List.mem_of_getElem? (i := 17) rfl)) (by decide) (by decide) hEL CR0.1 (sfS sf_x sf0)) (g := (mkF m 6 #[.val (.ref x), .val (.ref b)] [.null, (.int (0 : Int32)), (.int (0 : Int32)), (.ref b), (.ref x)])) rfl (by rw [hml]; rfl) (Steps.refl _) (a := x) (argsL := [(.ref b), (.int (0 : Int32)), (.int (0 : Int32)), .null]) (rest := []) (lenOf own_pd_285bCIILjava2flang2fVoid3b29V rfl) rfl (by show 2 * 0 + _ ≤ _; exact Nat.le_of_eq rfl) (hb hby own_d2_6) (fun _ _ => ⟨rfl, e0, (by decide : 0 + 4 ≤ _), (by decide : 0 + 8 ≤ _)⟩)
  dsimp only [Pt.U, Pt.locs, Pt.cells, Pt.slots] at X4 l4 y4 z4 st4 hQ4 hS4 hG4 CR4q
  subst l4 y4 z4
  obtain ⟨tt, kk, rfl, Nq4, Kq4, G0_4, G1_4, G2_4⟩ := hQ4
  have N4 := Fr.app N0 Nq4
  obtain ⟨Xr4, hSr4, hZ4, hown4⟩ := rebS hS0 (n1 := s₁.heap.size) (by rw [e0]; omega) X4 hS4 hG4 hZ hown
  have sz6 : h0.size ≤ T4.heap.size := Kq4.1
  have K6 := K0.trans Kq4 (allS (Or.inl (List.mem_of_getElem? (i := 0) rfl)) all0)
  have cr6 : CHr Z consts_1 s.vm h0 T4.vm T4.heap := CR4q
  have CR6 := CR0.trans cr6
  have lt7 : @LT.lt Nat _ tt T4.heap.size := G2_4.lt
  refine own_go (fun tq kq => st4.trans kq) ?_
  show own_Rn p e below _ (T4.setTop (mkF m 9 #[.val (.ref x), .val (.ref b)] []))
  exact own_retS Xr4 hSr4 (by omega) (v := none) (fun _ => rfl) (fun fs hr => Xr4.returnOut hx Bd.returns (hb hby own_d2_9) hr) (⟨tt, kk, rfl, N4, K6, G0_4, G1_4, G2_4⟩) (by rw [hh]; exact CR6.trans (CHv.at Xr4 hZ4 hEL CR6.1)) (by decide) (by decide)
theorem own_ef_rmNews (m : MethodId) (x : Addr) (sa : Addr) (ka : ClassId) (cs : List Int32) (dv : Value) (G1 : Int32) : entryFrame m #[(.ref x), (.ref sa)] 2 = mkF m 0 #[.val (.ref x), .val (.ref sa)] [] := by first | (simp [entryFrame, mkF, argsToLocals, Value.category]; done) | rfl
def Q_rmNews (Z : State) (x : Addr) (sa : Addr) (ka : ClassId) (cs : List Int32) (dv : Value) (G1 : Int32) (h0 : Heap) (n0 : Nat) (v : Option Value) (h : Heap) (L : List Loc) : Prop := ∃ (t : Addr), ∃ (kt : ClassId), ∃ (N : Int32), ∃ (vs : List Value), ∃ (cd : Int32), v = none ∧ Fr n0 L ∧ Keep h0 h [x] ∧ Fld Z h x "java/lang/String" "value" "[B" (.ref t) ∧ Fld Z h x "java/lang/String" "coder" "B" (.int cd) ∧ Arv Z h t kt .byte N vs (.int 0) ∧ ((cd = 0 ∧ N = (Int32.ofNat cs.length) ∧ vs = own_bs cs ∧ ∀ c ∈ cs, ¬ (255 : Int32) < c) ∨ (cd = 1 ∧ N = (Int32.ofNat (2 * cs.length)) ∧ vs = own_u16 cs))
set_option maxRecDepth 65536 in
set_option maxHeartbeats 40000000 in
theorem rmNews (l : Launch) (Z : State) (a0 : Array Value) (hw : ∀ d ∈ tables_1, d.before a0 Z = true) (ws : List Jvm.Cond) (x : Addr) (sa : Addr) (ka : ClassId) (cs : List Int32) (dv : Value) (G1 : Int32) (h0 : Heap) (n0 : Nat) (Z0 : n0 ≤ h0.size) (hEL : EW Z a0 consts_1) (Pm0 : Exa Z h0 x "java/lang/String") (Pm1 : Fld Z h0 x "java/lang/String" "value" "[B" .null) (Pm2 : Fld Z h0 x "java/lang/String" "coder" "B" (.int (0 : Int32))) (Pm3 : n0 ≤ x) (Pm4 : Arv Z h0 sa ka .char (Int32.ofNat cs.length) (cs.map Value.int) dv) (hn : (cs.length ≤ 3)) (hr : (∀ c ∈ cs, ¬ c < 0 ∧ ¬ (65535 : Int32) < c)) (OAD : Sta Z Z.heap "java/lang/StringUTF16" "$assertionsDisabled" "Z" (.int (1 : Int32))) (OHI : Sta Z Z.heap "java/lang/StringUTF16" "HI_BYTE_SHIFT" "I" (.int (0 : Int32))) (OLO : Sta Z Z.heap "java/lang/StringUTF16" "LO_BYTE_SHIFT" "I" (.int (8 : Int32))) (O2 : Sta Z Z.heap "java/lang/String" "COMPACT_STRINGS" "Z" (.int G1)) (P5 : (¬ (G1 = (0 : Int32)))) (X00 : Old Z n0 h0) :
    MetFree l (⟨"java/lang/String", "<init>", "([C)V"⟩ : MethodName) (head1 (Jvm.Cond.code (⟨"java/lang/String", "<init>", "([C)V"⟩ : MethodName) jdk_42_method_3_code 2 none :: ws) ({ frames := 5, cells := 4, slots := 9, locals := 74 } : Room)) (fun a U => a = #[(.ref x), (.ref sa)] ∧ Z.Warmed39 U.vm ∧ U.heap = h0 ∧ CHv Z consts_1 U.vm h0 ∧ ∀ ax ∈ ([x] : List Addr), Safe Z consts_1 U.vm h0 ax) (fun _ _ _ _ _ => True) (fun _ U o U' => ∃ v L, o = .returned v ∧ Q_rmNews Z x sa ka cs dv G1 h0 n0 v U'.heap L ∧ CHr Z consts_1 U.vm U.heap U'.vm U'.heap ∧ ReturnedEndW U o U' L ({ frames := 5, cells := 4, slots := 9, locals := 74 } : Room).cells ({ frames := 5, cells := 4, slots := 9, locals := 74 } : Room).slots) := by
  refine MetFree.of_bodySF (plainFor_of_name own_pn_java_lang_String) hisR ?_
  intro p e s m args below meth c s₁ Bd hml0 hP hK
  obtain ⟨rfl, hZ, hh, hH, hSf⟩ := hP
  have hx := Bd.exec
  have hby := Bd.bytes
  have hml : c.maxLocals = 2 := hml0
  have hown : s.vm.findClass "java/lang/String" = some m.cls := findClass_of_methodNamed Bd.named
  have hnm := (name_of_methodNamed Bd.named Bd.method).1
  have X0 : Stand p l e ({ frames := 5, cells := 4, slots := 9, locals := 74 } : Room) (s.setVm s.vm) m #[(.ref x), (.ref sa)] below meth c s₁ [] 0 0 := Stand.of_body Bd
  have e0 : s₁.heap = h0 := by rw [← hh, Bd.state]; rfl
  have N0 := Fr.nil n0
  have K0 : Keep h0 h0 [x] := Keep.refl _ _
  refine own_go (S' := s₁.setTop (mkF m 0 #[.val (.ref x), .val (.ref sa)] [])) (fun tq kq => castTop (own_ef_rmNews m x sa ka cs dv G1) kq) ?_
  have lt1 : @LT.lt Nat _ x h0.size := Pm0.lt
  have lt2 : @LT.lt Nat _ sa h0.size := Pm4.lt
  have hS0 : s.Since s.vm h0.size := (State.WarmedH.refl s).since _
  have CR0 : CHr Z consts_1 s.vm h0 s.vm h0 := CHr.refl hH
  have hwS : ∀ d ∈ Bundle.stringAtoms, d.before a0 Z = true := fun d hd => hw d ((by decide +kernel : ∀ d ∈ Bundle.stringAtoms, d ∈ tables_1) d hd)
  have sf_x : Safe Z consts_1 s.vm h0 x := hSf _ (List.mem_of_getElem? (i := 0) rfl)
  refine own_go (fun tq kq => XS.aloadN X0.here hx rfl (hb hby own_d2_0) rfl rfl kq) ?_
  show own_Rn p e below _ (s₁.setTop (mkF m 1 #[.val (.ref x), .val (.ref sa)] [(.ref x)]))
  refine own_go (fun tq kq => XS.aloadN X0.here hx rfl (hb hby own_d2_1) rfl rfl kq) ?_
  show own_Rn p e below _ (s₁.setTop (mkF m 2 #[.val (.ref x), .val (.ref sa)] [(.ref sa), (.ref x)]))
  refine own_go (fun tq kq => XS.iconst X0.here hx rfl (hb hby own_d2_2) kq) ?_
  show own_Rn p e below _ (s₁.setTop (mkF m 3 #[.val (.ref x), .val (.ref sa)] [(.int (0 : Int32)), (.ref sa), (.ref x)]))
  refine own_go (fun tq kq => XS.aloadN X0.here hx rfl (hb hby own_d2_3) rfl rfl kq) ?_
  show own_Rn p e below _ (s₁.setTop (mkF m 4 #[.val (.ref x), .val (.ref sa)] [(.ref sa), (.int (0 : Int32)), (.ref sa), (.ref x)]))
  obtain ⟨cl3, Ar3, -, Sz3, Nn3, -, -⟩ := id Pm4
  refine own_go (fun tq kq => X0.arraylength hx (cell := cl3) (by rw [e0]; exact Ar3.1) (State.isArrayOf_alike hZ.alike Ar3.2.1) (g := (mkF m 4 #[.val (.ref x), .val (.ref sa)] [(.ref sa), (.int (0 : Int32)), (.ref sa), (.ref x)])) rfl rfl (hb hby own_d2_4) tq kq) ?_
  rw [len_of Sz3 Nn3]
  show own_Rn p e below _ (s₁.setTop (mkF m 5 #[.val (.ref x), .val (.ref sa)] [(.int (Int32.ofNat cs.length)), (.int (0 : Int32)), (.ref sa), (.ref x)]))
  refine own_go (fun tq kq => XS.aconstNull X0.here hx rfl (hb hby own_d2_5) kq) ?_
  show own_Rn p e below _ (s₁.setTop (mkF m 6 #[.val (.ref x), .val (.ref sa)] [.null, (.int (Int32.ofNat cs.length)), (.int (0 : Int32)), (.ref sa), (.ref x)]))
  rcases Nat.eq_zero_or_pos cs.length with hz | h0n
  · skip
    obtain rfl : cs = [] := List.length_eq_zero_iff.mp hz
    show own_Rn p e below _ (s₁.setTop (mkF m 6 #[.val (.ref x), .val (.ref sa)] [.null, (.int (0 : Int32)), (.int (0 : Int32)), (.ref sa), (.ref x)]))
    have Zn4 : n0 ≤ h0.size := by omega
    obtain ⟨rv4, _, ⟨T4, L4, k4, n4⟩, -, X4, hS4, hG4, ⟨Lc4, hQ4, l4, y4, z4, CR4q⟩, st4⟩ := X0.specialBackS hx (y := (⟨"java/lang/String", "<init>", "([CIILjava/lang/Void;)V"⟩ : MethodName)) rfl hown (mvT hZ (hw _ (List.mem_of_getElem? (i := 21) rfl))) (mvT hZ (hw _ (List.mem_of_getElem? (i := 22) rfl))) (mvT hZ (hw _ (List.mem_of_getElem? (i := 24) rfl))) (by decide) (own_backSH (W := 0) (rm := ({ frames := 1, cells := 4, slots := 8, locals := 12 } : Room)) (sf := [x]) (h := h0) (rmSI4 l Z a0 hw [] (x) (sa) h0 n0 Zn4 hEL Pm0 Pm1 Pm2 Pm3) hZ (hw _ (List.mem_of_getElem? (i := 24) rfl)) (hw _ (List.mem_of_getElem? (i := 17) rfl)) (by decide) (by decide) hEL CR0.1 (sfS sf_x sf0)) (g := (mkF m 6 #[.val (.ref x), .val (.ref sa)] [.null, (.int (0 : Int32)), (.int (0 : Int32)), (.ref sa), (.ref x)])) rfl (by rw [hml]; rfl) (Steps.refl _) (a := x) (argsL := [(.ref sa), (.int (0 : Int32)), (.int (0 : Int32)), .null]) (rest := []) (lenOf own_pd_285bCIILjava2flang2fVoid3b29V rfl) rfl (by show 2 * 0 + _ ≤ _; exact Nat.le_of_eq rfl) (hb hby own_d2_6) (fun _ _ => ⟨rfl, e0, (by decide : 0 + 4 ≤ _), (by decide : 0 + 8 ≤ _)⟩)
    dsimp only [Pt.U, Pt.locs, Pt.cells, Pt.slots] at X4 l4 y4 z4 st4 hQ4 hS4 hG4 CR4q
    subst l4 y4 z4
    obtain ⟨tt, kk, rfl, Nq4, Kq4, G0_4, G1_4, G2_4⟩ := hQ4
    have N4 := Fr.app N0 Nq4
    obtain ⟨Xr4, hSr4, hZ4, hown4⟩ := rebS hS0 (n1 := s₁.heap.size) (by rw [e0]; omega) X4 hS4 hG4 hZ hown
    have sz6 : h0.size ≤ T4.heap.size := Kq4.1
    have K6 := K0.trans Kq4 (allS (Or.inl (List.mem_of_getElem? (i := 0) rfl)) all0)
    have cr6 : CHr Z consts_1 s.vm h0 T4.vm T4.heap := CR4q
    have CR6 := CR0.trans cr6
    have lt7 : @LT.lt Nat _ tt T4.heap.size := G2_4.lt
    refine own_go (fun tq kq => st4.trans kq) ?_
    show own_Rn p e below _ (T4.setTop (mkF m 9 #[.val (.ref x), .val (.ref sa)] []))
    exact own_retS Xr4 hSr4 (by omega) (v := none) (fun _ => rfl) (fun fs hr => Xr4.returnOut hx Bd.returns (hb hby own_d2_9) hr) (⟨tt, kk, (0 : Int32), (own_bs []), (0 : Int32), rfl, N4, K6, G0_4, G1_4, G2_4, Or.inl ⟨rfl, rfl, rfl, fun c hc => nomatch hc⟩⟩) (by rw [hh]; exact CR6.trans (CHv.at Xr4 hZ4 hEL CR6.1)) (by decide) (by decide)
  · skip
    have Zn8 : n0 ≤ h0.size := by omega
    obtain ⟨rv8, _, ⟨T8, L8, k8, n8⟩, -, X8, ⟨Lc8, hQ8, l8, y8, z8⟩, st8⟩ := X0.specialBack hx (y := (⟨"java/lang/String", "<init>", "([CIILjava/lang/Void;)V"⟩ : MethodName)) rfl hown (mvT hZ (hw _ (List.mem_of_getElem? (i := 21) rfl))) (mvT hZ (hw _ (List.mem_of_getElem? (i := 22) rfl))) (mvT hZ (hw _ (List.mem_of_getElem? (i := 24) rfl))) (by decide) (backOf (W := 0) (rmI4 l Z a0 hw [] (x) (sa) (ka) (cs) (dv) (G1) h0 n0 Zn8 Pm0 Pm1 Pm2 Pm3 Pm4 (hn) (h0n) (hr) (OAD) (OHI) (OLO) (O2) (P5) X00) hZ (hw _ (List.mem_of_getElem? (i := 24) rfl)) (hw _ (List.mem_of_getElem? (i := 17) rfl)) (by decide) (by decide)) (g := (mkF m 6 #[.val (.ref x), .val (.ref sa)] [.null, (.int (Int32.ofNat cs.length)), (.int (0 : Int32)), (.ref sa), (.ref x)])) rfl (by rw [hml]; rfl) (Steps.refl _) (a := x) (argsL := [(.ref sa), (.int (0 : Int32)), (.int (Int32.ofNat cs.length)), .null]) (rest := []) (lenOf own_pd_285bCIILjava2flang2fVoid3b29V rfl) rfl (by show 2 * 0 + _ ≤ _; exact Nat.le_of_eq rfl) (hb hby own_d2_6) (fun _ _ => ⟨rfl, e0, (by decide : 0 + 2 ≤ _), (by decide : 0 + 9 ≤ _)⟩)
    dsimp only [Pt.U, Pt.locs, Pt.cells, Pt.slots] at X8 l8 y8 z8 st8 hQ8
    subst l8 y8 z8
    obtain ⟨tt, ktt, NN, vv, cc, rfl, Nq8, Kq8, G0_8, G1_8, G2_8, G3_8, G4_8, RL_8⟩ := hQ8
    have N8 := Fr.app N0 Nq8
    have sz10 : h0.size ≤ T8.heap.size := Kq8.1
    have K10 := K0.trans Kq8 (allS (Or.inl (List.mem_of_getElem? (i := 0) rfl)) all0)
    have cr10 : CHr Z consts_1 s.vm h0 s.vm T8.heap := CHr.keep Kq8 (sfS sf_x sf0) CR0.1
    have CR10 := CR0.trans cr10
    have sf11 : Safe Z consts_1 s.vm T8.heap tt := Safe.keep Kq8 (sfS sf_x sf0) CR0.1 (Safe.new (by omega))
    have lt12 : @LT.lt Nat _ tt T8.heap.size := G4_8.lt
    refine own_go (fun tq kq => st8.trans kq) ?_
    show own_Rn p e below _ (T8.setTop (mkF m 9 #[.val (.ref x), .val (.ref sa)] []))
    exact own_retS X8 hS0 (by omega) (v := none) (fun _ => rfl) (fun fs hr => X8.returnOut hx Bd.returns (hb hby own_d2_9) hr) (⟨tt, ktt, NN, vv, cc, rfl, N8, K10, G2_8, G3_8, G4_8, RL_8⟩) (by rw [hh]; exact CR10.trans (CHv.at X8 hZ hEL CR10.1)) (by decide) (by decide)
theorem own_ef_rm0 (m : MethodId) (l0 : Int64) (l1 : Int64) (sh : Int32) (G1 : Int32) (G3 : Value) : entryFrame m #[(.long l0), (.long l1), (.int sh)] maxLocals = mkF m 0 #[.val (.long l0), .second, .val (.long l1), .second, .val (.int sh), .unset, .unset, .unset, .unset, .unset, .unset, .unset, .unset, .unset, .unset, .unset, .unset, .unset, .unset] [] := by first | (simp [entryFrame, mkF, argsToLocals, Value.category, maxLocals]; done) | rfl
theorem own_pd_28JIZ29C : parseMethodDescriptor "(JIZ)C" = some ⟨[.long, .int, .boolean], some .char⟩ := by decide +kernel
theorem own_pd_28ICCC295bC : parseMethodDescriptor "(ICCC)[C" = some ⟨[.int, .char, .char, .char], some (.array .char)⟩ := by decide +kernel
theorem own_pd_285bC29V : parseMethodDescriptor "([C)V" = some ⟨[(.array .char)], none⟩ := by decide +kernel
theorem own_pd_28Ljava2flang2fString3bLjava2flang2fString3b29I : parseMethodDescriptor "(Ljava/lang/String;Ljava/lang/String;)I" = some ⟨[(.object "java/lang/String"), (.object "java/lang/String")], some .int⟩ := by decide +kernel
theorem own_pd_285bC5bC29I : parseMethodDescriptor "([C[C)I" = some ⟨[(.array .char), (.array .char)], some .int⟩ := by decide +kernel
def Q_rm0 (Z : State) (l0 : Int64) (l1 : Int64) (sh : Int32) (G1 : Int32) (G3 : Value) (h0 : Heap) (n0 : Nat) (v : Option Value) (h : Heap) (L : List Loc) : Prop := v = some (.int (1 : Int32)) ∧ Fr n0 L
set_option maxRecDepth 65536 in
set_option maxHeartbeats 40000000 in
theorem rm0 (l : Launch) (Z : State) (a0 : Array Value) (hw : ∀ d ∈ tables_1, d.before a0 Z = true) (ws : List Jvm.Cond) (l0 : Int64) (l1 : Int64) (sh : Int32) (G1 : Int32) (G3 : Value) (h0 : Heap) (n0 : Nat) (Z0 : n0 ≤ h0.size) (hEL : EW Z a0 consts_1) (OAD : Sta Z Z.heap "java/lang/StringUTF16" "$assertionsDisabled" "Z" (.int (1 : Int32))) (OHI : Sta Z Z.heap "java/lang/StringUTF16" "HI_BYTE_SHIFT" "I" (.int (0 : Int32))) (OLO : Sta Z Z.heap "java/lang/StringUTF16" "LO_BYTE_SHIFT" "I" (.int (8 : Int32))) (O4 : Sta Z Z.heap "jdk/internal/util/Preconditions" "SIOOBE_FORMATTER" "Ljava/util/function/BiFunction;" G3) (hG3 : (G3 = .null ∨ ∃ ga, G3 = .ref ga)) (O2 : Sta Z Z.heap "java/lang/String" "COMPACT_STRINGS" "Z" (.int G1)) (P5 : (¬ (G1 = (0 : Int32)))) (X00 : Old Z n0 h0) :
    MetFree l x (head1 (Jvm.Cond.code x code maxLocals ret :: ws) room_1) (fun a U => a = #[(.long l0), (.long l1), (.int sh)] ∧ Z.Warmed39 U.vm ∧ U.heap = h0 ∧ CHv Z consts_1 U.vm h0 ∧ ∀ ax ∈ ([] : List Addr), Safe Z consts_1 U.vm h0 ax) (fun _ _ _ _ _ => True) (fun _ U o U' => ∃ v L, o = .returned v ∧ Q_rm0 Z l0 l1 sh G1 G3 h0 n0 v U'.heap L ∧ CHr Z consts_1 U.vm U.heap U'.vm U'.heap ∧ ReturnedEndW U o U' L 40 1280) := by
  refine MetFree.of_bodySF (plainFor_of_name own_pn_com_example_words_into_queries_wordsintoqueries_CodePointOrderComparePinLaw) hisR ?_
  intro p e s m args below meth c s₁ Bd hml0 hP hK
  obtain ⟨rfl, hZ, hh, hH, hSf⟩ := hP
  have hx := Bd.exec
  have hby := Bd.bytes
  have hml : c.maxLocals = 19 := hml0
  have hown : s.vm.findClass "com/example/words_into_queries/wordsintoqueries/CodePointOrderComparePinLaw" = some m.cls := findClass_of_methodNamed Bd.named
  have hnm := (name_of_methodNamed Bd.named Bd.method).1
  have X0 : Stand p l e room_1 (s.setVm s.vm) m #[(.long l0), (.long l1), (.int sh)] below meth c s₁ [] 0 0 := Stand.of_body Bd
  have e0 : s₁.heap = h0 := by rw [← hh, Bd.state]; rfl
  have N0 := Fr.nil n0
  have K0 : Keep h0 h0 [] := Keep.refl _ _
  refine own_go (S' := s₁.setTop (mkF m 0 #[.val (.long l0), .second, .val (.long l1), .second, .val (.int sh), .unset, .unset, .unset, .unset, .unset, .unset, .unset, .unset, .unset, .unset, .unset, .unset, .unset, .unset] [])) (fun tq kq => castTop (own_ef_rm0 m l0 l1 sh G1 G3) kq) ?_
  have hS0 : s.Since s.vm h0.size := (State.WarmedH.refl s).since _
  have CR0 : CHr Z consts_1 s.vm h0 s.vm h0 := CHr.refl hH
  have hwS : ∀ d ∈ Bundle.stringAtoms, d.before a0 Z = true := fun d hd => hw d ((by decide +kernel : ∀ d ∈ Bundle.stringAtoms, d ∈ tables_1) d hd)
  refine own_go (fun tq kq => XS.iload X0.here hx rfl (hb hby at_0) rfl kq) ?_
  show own_Rn p e below _ (s₁.setTop (mkF m 2 #[.val (.long l0), .second, .val (.long l1), .second, .val (.int sh), .unset, .unset, .unset, .unset, .unset, .unset, .unset, .unset, .unset, .unset, .unset, .unset, .unset, .unset] [(.int sh)]))
  refine own_go (fun tq kq => XS.iconst X0.here hx rfl (hb hby at_2) kq) ?_
  show own_Rn p e below _ (s₁.setTop (mkF m 3 #[.val (.long l0), .second, .val (.long l1), .second, .val (.int sh), .unset, .unset, .unset, .unset, .unset, .unset, .unset, .unset, .unset, .unset, .unset, .unset, .unset, .unset] [(.int (3 : Int32)), (.int sh)]))
  refine own_go (fun tq kq => XS.iand X0.here hx rfl (hb hby at_3) rfl kq) ?_
  show own_Rn p e below _ (s₁.setTop (mkF m 4 #[.val (.long l0), .second, .val (.long l1), .second, .val (.int sh), .unset, .unset, .unset, .unset, .unset, .unset, .unset, .unset, .unset, .unset, .unset, .unset, .unset, .unset] [(.int (sh &&& (3 : Int32)))]))
  obtain ⟨K1, hK1, eK1⟩ := own_msk sh 3 (Or.inl rfl)
  rw [show (3 : Int32).toInt = 3 from rfl] at hK1
  rw [eK1]
  show own_Rn p e below _ (s₁.setTop (mkF m 4 #[.val (.long l0), .second, .val (.long l1), .second, .val (.int sh), .unset, .unset, .unset, .unset, .unset, .unset, .unset, .unset, .unset, .unset, .unset, .unset, .unset, .unset] [(.int (Int32.ofNat K1))]))
  refine own_go (fun tq kq => XS.istore X0.here hx rfl (hb hby at_4) rfl (l' := #[.val (.long l0), .second, .val (.long l1), .second, .val (.int sh), .val (.int (Int32.ofNat K1)), .unset, .unset, .unset, .unset, .unset, .unset, .unset, .unset, .unset, .unset, .unset, .unset, .unset]) rfl kq) ?_
  show own_Rn p e below _ (s₁.setTop (mkF m 6 #[.val (.long l0), .second, .val (.long l1), .second, .val (.int sh), .val (.int (Int32.ofNat K1)), .unset, .unset, .unset, .unset, .unset, .unset, .unset, .unset, .unset, .unset, .unset, .unset, .unset] []))
  refine own_go (fun tq kq => XS.iload X0.here hx rfl (hb hby at_6) rfl kq) ?_
  show own_Rn p e below _ (s₁.setTop (mkF m 8 #[.val (.long l0), .second, .val (.long l1), .second, .val (.int sh), .val (.int (Int32.ofNat K1)), .unset, .unset, .unset, .unset, .unset, .unset, .unset, .unset, .unset, .unset, .unset, .unset, .unset] [(.int sh)]))
  refine own_go (fun tq kq => XS.iconst X0.here hx rfl (hb hby at_8) kq) ?_
  show own_Rn p e below _ (s₁.setTop (mkF m 9 #[.val (.long l0), .second, .val (.long l1), .second, .val (.int sh), .val (.int (Int32.ofNat K1)), .unset, .unset, .unset, .unset, .unset, .unset, .unset, .unset, .unset, .unset, .unset, .unset, .unset] [(.int (2 : Int32)), (.int sh)]))
  refine own_go (fun tq kq => XS.iushr X0.here hx rfl (hb hby at_9) rfl kq) ?_
  show own_Rn p e below _ (s₁.setTop (mkF m 10 #[.val (.long l0), .second, .val (.long l1), .second, .val (.int sh), .val (.int (Int32.ofNat K1)), .unset, .unset, .unset, .unset, .unset, .unset, .unset, .unset, .unset, .unset, .unset, .unset, .unset] [(.int ((sh.toUInt32 >>> ((2 : Int32) &&& 31).toUInt32).toInt32))]))
  refine own_go (fun tq kq => XS.iconst X0.here hx rfl (hb hby at_10) kq) ?_
  show own_Rn p e below _ (s₁.setTop (mkF m 11 #[.val (.long l0), .second, .val (.long l1), .second, .val (.int sh), .val (.int (Int32.ofNat K1)), .unset, .unset, .unset, .unset, .unset, .unset, .unset, .unset, .unset, .unset, .unset, .unset, .unset] [(.int (3 : Int32)), (.int ((sh.toUInt32 >>> ((2 : Int32) &&& 31).toUInt32).toInt32))]))
  refine own_go (fun tq kq => XS.iand X0.here hx rfl (hb hby at_11) rfl kq) ?_
  show own_Rn p e below _ (s₁.setTop (mkF m 12 #[.val (.long l0), .second, .val (.long l1), .second, .val (.int sh), .val (.int (Int32.ofNat K1)), .unset, .unset, .unset, .unset, .unset, .unset, .unset, .unset, .unset, .unset, .unset, .unset, .unset] [(.int (((sh.toUInt32 >>> ((2 : Int32) &&& 31).toUInt32).toInt32) &&& (3 : Int32)))]))
  obtain ⟨K2, hK2, eK2⟩ := own_msk ((sh.toUInt32 >>> ((2 : Int32) &&& 31).toUInt32).toInt32) 3 (Or.inl rfl)
  rw [show (3 : Int32).toInt = 3 from rfl] at hK2
  rw [eK2]
  show own_Rn p e below _ (s₁.setTop (mkF m 12 #[.val (.long l0), .second, .val (.long l1), .second, .val (.int sh), .val (.int (Int32.ofNat K1)), .unset, .unset, .unset, .unset, .unset, .unset, .unset, .unset, .unset, .unset, .unset, .unset, .unset] [(.int (Int32.ofNat K2))]))
  refine own_go (fun tq kq => XS.istore X0.here hx rfl (hb hby at_12) rfl (l' := #[.val (.long l0), .second, .val (.long l1), .second, .val (.int sh), .val (.int (Int32.ofNat K1)), .val (.int (Int32.ofNat K2)), .unset, .unset, .unset, .unset, .unset, .unset, .unset, .unset, .unset, .unset, .unset, .unset]) rfl kq) ?_
  show own_Rn p e below _ (s₁.setTop (mkF m 14 #[.val (.long l0), .second, .val (.long l1), .second, .val (.int sh), .val (.int (Int32.ofNat K1)), .val (.int (Int32.ofNat K2)), .unset, .unset, .unset, .unset, .unset, .unset, .unset, .unset, .unset, .unset, .unset, .unset] []))
  refine own_go (fun tq kq => XS.lloadN X0.here hx rfl (hb hby at_14) rfl kq) ?_
  show own_Rn p e below _ (s₁.setTop (mkF m 15 #[.val (.long l0), .second, .val (.long l1), .second, .val (.int sh), .val (.int (Int32.ofNat K1)), .val (.int (Int32.ofNat K2)), .unset, .unset, .unset, .unset, .unset, .unset, .unset, .unset, .unset, .unset, .unset, .unset] [(.long l0)]))
  refine own_go (fun tq kq => XS.iconst X0.here hx rfl (hb hby at_15) kq) ?_
  show own_Rn p e below _ (s₁.setTop (mkF m 16 #[.val (.long l0), .second, .val (.long l1), .second, .val (.int sh), .val (.int (Int32.ofNat K1)), .val (.int (Int32.ofNat K2)), .unset, .unset, .unset, .unset, .unset, .unset, .unset, .unset, .unset, .unset, .unset, .unset] [(.int (0 : Int32)), (.long l0)]))
  refine own_go (fun tq kq => XS.iload X0.here hx rfl (hb hby at_16) rfl kq) ?_
  show own_Rn p e below _ (s₁.setTop (mkF m 18 #[.val (.long l0), .second, .val (.long l1), .second, .val (.int sh), .val (.int (Int32.ofNat K1)), .val (.int (Int32.ofNat K2)), .unset, .unset, .unset, .unset, .unset, .unset, .unset, .unset, .unset, .unset, .unset, .unset] [(.int sh), (.int (0 : Int32)), (.long l0)]))
  refine own_go (fun tq kq => XS.iconst X0.here hx rfl (hb hby at_18) kq) ?_
  show own_Rn p e below _ (s₁.setTop (mkF m 19 #[.val (.long l0), .second, .val (.long l1), .second, .val (.int sh), .val (.int (Int32.ofNat K1)), .val (.int (Int32.ofNat K2)), .unset, .unset, .unset, .unset, .unset, .unset, .unset, .unset, .unset, .unset, .unset, .unset] [(.int (4 : Int32)), (.int sh), (.int (0 : Int32)), (.long l0)]))
  refine own_go (fun tq kq => XS.iushr X0.here hx rfl (hb hby at_19) rfl kq) ?_
  show own_Rn p e below _ (s₁.setTop (mkF m 20 #[.val (.long l0), .second, .val (.long l1), .second, .val (.int sh), .val (.int (Int32.ofNat K1)), .val (.int (Int32.ofNat K2)), .unset, .unset, .unset, .unset, .unset, .unset, .unset, .unset, .unset, .unset, .unset, .unset] [(.int ((sh.toUInt32 >>> ((4 : Int32) &&& 31).toUInt32).toInt32)), (.int (0 : Int32)), (.long l0)]))
  refine own_go (fun tq kq => XS.iconst X0.here hx rfl (hb hby at_20) kq) ?_
  show own_Rn p e below _ (s₁.setTop (mkF m 21 #[.val (.long l0), .second, .val (.long l1), .second, .val (.int sh), .val (.int (Int32.ofNat K1)), .val (.int (Int32.ofNat K2)), .unset, .unset, .unset, .unset, .unset, .unset, .unset, .unset, .unset, .unset, .unset, .unset] [(.int (1 : Int32)), (.int ((sh.toUInt32 >>> ((4 : Int32) &&& 31).toUInt32).toInt32)), (.int (0 : Int32)), (.long l0)]))
  refine own_go (fun tq kq => XS.iand X0.here hx rfl (hb hby at_21) rfl kq) ?_
  show own_Rn p e below _ (s₁.setTop (mkF m 22 #[.val (.long l0), .second, .val (.long l1), .second, .val (.int sh), .val (.int (Int32.ofNat K1)), .val (.int (Int32.ofNat K2)), .unset, .unset, .unset, .unset, .unset, .unset, .unset, .unset, .unset, .unset, .unset, .unset] [(.int (((sh.toUInt32 >>> ((4 : Int32) &&& 31).toUInt32).toInt32) &&& (1 : Int32))), (.int (0 : Int32)), (.long l0)]))
  have J1 : ∀ fl : Int32, own_Rn p e below (fun o U' => ∃ v L, o = .returned v ∧ Q_rm0 Z l0 l1 sh G1 G3 h0 n0 v U'.heap L ∧ CHr Z consts_1 s.vm s.heap U'.vm U'.heap ∧ ReturnedEndW s o U' L 40 1280) (s₁.setTop (mkF m 30 #[.val (.long l0), .second, .val (.long l1), .second, .val (.int sh), .val (.int (Int32.ofNat K1)), .val (.int (Int32.ofNat K2)), .unset, .unset, .unset, .unset, .unset, .unset, .unset, .unset, .unset, .unset, .unset, .unset] [(.int fl), (.int (0 : Int32)), (.long l0)])) := by
    intro fl
    have Zn2 : n0 ≤ h0.size := by omega
    obtain ⟨rv2, _, ⟨T2, L2, k2, n2⟩, -, X2, ⟨Lc2, hQ2, l2, y2, z2⟩, st2⟩ := Jvm.LawKit.callS X0 hx (y := (⟨"com/example/words_into_queries/wordsintoqueries/CodePointOrderComparePinLaw", "pick", "(JIZ)C"⟩ : MethodName)) hown (mvT hZ (hw _ (List.mem_of_getElem? (i := 0) rfl))) (mvT hZ (hw _ (List.mem_of_getElem? (i := 1) rfl))) (mvT hZ (hw _ (List.mem_of_getElem? (i := 2) rfl))) (mvT hZ (hw _ (List.mem_of_getElem? (i := 3) rfl))) (by decide) (backOf (W := 0) (rmPick l Z a0 hw [] (l0) ((0 : Int32)) (fl) h0 n0 Zn2 ) hZ (hw _ (List.mem_of_getElem? (i := 3) rfl)) (hw _ (List.mem_of_getElem? (i := 2) rfl)) (by decide) (by decide)) (g := (mkF m 30 #[.val (.long l0), .second, .val (.long l1), .second, .val (.int sh), .val (.int (Int32.ofNat K1)), .val (.int (Int32.ofNat K2)), .unset, .unset, .unset, .unset, .unset, .unset, .unset, .unset, .unset, .unset, .unset, .unset] [(.int fl), (.int (0 : Int32)), (.long l0)])) rfl (by rw [hml]; rfl) (argsL := [(.long l0), (.int (0 : Int32)), (.int fl)]) (rest := []) (lenOf own_pd_28JIZ29C rfl) rfl (by show 2 * 0 + _ ≤ _; exact Nat.le_of_eq rfl) (hb hby at_30) (fun _ _ => ⟨rfl, e0, (by decide : 0 + 1 ≤ _), (by decide : 0 + 8 ≤ _)⟩)
    dsimp only [Pt.U, Pt.locs, Pt.cells, Pt.slots] at X2 l2 y2 z2 st2 hQ2
    subst l2 y2 z2
    obtain ⟨c0, rfl, Nq2, Kq2, R_2⟩ := hQ2
    have N2 := Fr.app N0 Nq2
    have sz3 : h0.size ≤ T2.heap.size := Kq2.1
    have cr3 : CHr Z consts_1 s.vm h0 s.vm T2.heap := CHr.keep Kq2 sf0 CR0.1
    have CR3 := CR0.trans cr3
    refine own_go st2 ?_
    show own_Rn p e below _ (T2.setTop (mkF m 33 #[.val (.long l0), .second, .val (.long l1), .second, .val (.int sh), .val (.int (Int32.ofNat K1)), .val (.int (Int32.ofNat K2)), .unset, .unset, .unset, .unset, .unset, .unset, .unset, .unset, .unset, .unset, .unset, .unset] [(.int c0)]))
    have rc0 := R_2
    refine own_go (fun tq kq => XS.istore X2.here hx rfl (hb hby at_33) rfl (l' := #[.val (.long l0), .second, .val (.long l1), .second, .val (.int sh), .val (.int (Int32.ofNat K1)), .val (.int (Int32.ofNat K2)), .val (.int c0), .unset, .unset, .unset, .unset, .unset, .unset, .unset, .unset, .unset, .unset, .unset]) rfl kq) ?_
    show own_Rn p e below _ (T2.setTop (mkF m 35 #[.val (.long l0), .second, .val (.long l1), .second, .val (.int sh), .val (.int (Int32.ofNat K1)), .val (.int (Int32.ofNat K2)), .val (.int c0), .unset, .unset, .unset, .unset, .unset, .unset, .unset, .unset, .unset, .unset, .unset] []))
    refine own_go (fun tq kq => XS.lloadN X2.here hx rfl (hb hby at_35) rfl kq) ?_
    show own_Rn p e below _ (T2.setTop (mkF m 36 #[.val (.long l0), .second, .val (.long l1), .second, .val (.int sh), .val (.int (Int32.ofNat K1)), .val (.int (Int32.ofNat K2)), .val (.int c0), .unset, .unset, .unset, .unset, .unset, .unset, .unset, .unset, .unset, .unset, .unset] [(.long l0)]))
    refine own_go (fun tq kq => XS.iconst X2.here hx rfl (hb hby at_36) kq) ?_
    show own_Rn p e below _ (T2.setTop (mkF m 37 #[.val (.long l0), .second, .val (.long l1), .second, .val (.int sh), .val (.int (Int32.ofNat K1)), .val (.int (Int32.ofNat K2)), .val (.int c0), .unset, .unset, .unset, .unset, .unset, .unset, .unset, .unset, .unset, .unset, .unset] [(.int (1 : Int32)), (.long l0)]))
    refine own_go (fun tq kq => XS.iload X2.here hx rfl (hb hby at_37) rfl kq) ?_
    show own_Rn p e below _ (T2.setTop (mkF m 39 #[.val (.long l0), .second, .val (.long l1), .second, .val (.int sh), .val (.int (Int32.ofNat K1)), .val (.int (Int32.ofNat K2)), .val (.int c0), .unset, .unset, .unset, .unset, .unset, .unset, .unset, .unset, .unset, .unset, .unset] [(.int sh), (.int (1 : Int32)), (.long l0)]))
    refine own_go (fun tq kq => XS.iconst X2.here hx rfl (hb hby at_39) kq) ?_
    show own_Rn p e below _ (T2.setTop (mkF m 40 #[.val (.long l0), .second, .val (.long l1), .second, .val (.int sh), .val (.int (Int32.ofNat K1)), .val (.int (Int32.ofNat K2)), .val (.int c0), .unset, .unset, .unset, .unset, .unset, .unset, .unset, .unset, .unset, .unset, .unset] [(.int (5 : Int32)), (.int sh), (.int (1 : Int32)), (.long l0)]))
    refine own_go (fun tq kq => XS.iushr X2.here hx rfl (hb hby at_40) rfl kq) ?_
    show own_Rn p e below _ (T2.setTop (mkF m 41 #[.val (.long l0), .second, .val (.long l1), .second, .val (.int sh), .val (.int (Int32.ofNat K1)), .val (.int (Int32.ofNat K2)), .val (.int c0), .unset, .unset, .unset, .unset, .unset, .unset, .unset, .unset, .unset, .unset, .unset] [(.int ((sh.toUInt32 >>> ((5 : Int32) &&& 31).toUInt32).toInt32)), (.int (1 : Int32)), (.long l0)]))
    refine own_go (fun tq kq => XS.iconst X2.here hx rfl (hb hby at_41) kq) ?_
    show own_Rn p e below _ (T2.setTop (mkF m 42 #[.val (.long l0), .second, .val (.long l1), .second, .val (.int sh), .val (.int (Int32.ofNat K1)), .val (.int (Int32.ofNat K2)), .val (.int c0), .unset, .unset, .unset, .unset, .unset, .unset, .unset, .unset, .unset, .unset, .unset] [(.int (1 : Int32)), (.int ((sh.toUInt32 >>> ((5 : Int32) &&& 31).toUInt32).toInt32)), (.int (1 : Int32)), (.long l0)]))
    refine own_go (fun tq kq => XS.iand X2.here hx rfl (hb hby at_42) rfl kq) ?_
    show own_Rn p e below _ (T2.setTop (mkF m 43 #[.val (.long l0), .second, .val (.long l1), .second, .val (.int sh), .val (.int (Int32.ofNat K1)), .val (.int (Int32.ofNat K2)), .val (.int c0), .unset, .unset, .unset, .unset, .unset, .unset, .unset, .unset, .unset, .unset, .unset] [(.int (((sh.toUInt32 >>> ((5 : Int32) &&& 31).toUInt32).toInt32) &&& (1 : Int32))), (.int (1 : Int32)), (.long l0)]))
    have J4 : ∀ fl : Int32, own_Rn p e below (fun o U' => ∃ v L, o = .returned v ∧ Q_rm0 Z l0 l1 sh G1 G3 h0 n0 v U'.heap L ∧ CHr Z consts_1 s.vm s.heap U'.vm U'.heap ∧ ReturnedEndW s o U' L 40 1280) (T2.setTop (mkF m 51 #[.val (.long l0), .second, .val (.long l1), .second, .val (.int sh), .val (.int (Int32.ofNat K1)), .val (.int (Int32.ofNat K2)), .val (.int c0), .unset, .unset, .unset, .unset, .unset, .unset, .unset, .unset, .unset, .unset, .unset] [(.int fl), (.int (1 : Int32)), (.long l0)])) := by
      intro fl
      have Zn5 : n0 ≤ T2.heap.size := by omega
      obtain ⟨rv5, _, ⟨T5, L5, k5, n5⟩, -, X5, ⟨Lc5, hQ5, l5, y5, z5⟩, st5⟩ := Jvm.LawKit.callS X2 hx (y := (⟨"com/example/words_into_queries/wordsintoqueries/CodePointOrderComparePinLaw", "pick", "(JIZ)C"⟩ : MethodName)) hown (mvT hZ (hw _ (List.mem_of_getElem? (i := 0) rfl))) (mvT hZ (hw _ (List.mem_of_getElem? (i := 1) rfl))) (mvT hZ (hw _ (List.mem_of_getElem? (i := 2) rfl))) (mvT hZ (hw _ (List.mem_of_getElem? (i := 3) rfl))) (by decide) (backOf (W := 0) (rmPick l Z a0 hw [] (l0) ((1 : Int32)) (fl) T2.heap n0 Zn5 ) hZ (hw _ (List.mem_of_getElem? (i := 3) rfl)) (hw _ (List.mem_of_getElem? (i := 2) rfl)) (by decide) (by decide)) (g := (mkF m 51 #[.val (.long l0), .second, .val (.long l1), .second, .val (.int sh), .val (.int (Int32.ofNat K1)), .val (.int (Int32.ofNat K2)), .val (.int c0), .unset, .unset, .unset, .unset, .unset, .unset, .unset, .unset, .unset, .unset, .unset] [(.int fl), (.int (1 : Int32)), (.long l0)])) rfl (by rw [hml]; rfl) (argsL := [(.long l0), (.int (1 : Int32)), (.int fl)]) (rest := []) (lenOf own_pd_28JIZ29C rfl) rfl (by show 2 * 0 + _ ≤ _; exact Nat.le_of_eq rfl) (hb hby at_51) (fun _ _ => ⟨rfl, rfl, (by decide : 1 + 1 ≤ _), (by decide : 8 + 8 ≤ _)⟩)
      dsimp only [Pt.U, Pt.locs, Pt.cells, Pt.slots] at X5 l5 y5 z5 st5 hQ5
      subst l5 y5 z5
      obtain ⟨c1, rfl, Nq5, Kq5, R_5⟩ := hQ5
      have N5 := Fr.app N2 Nq5
      have sz6 : T2.heap.size ≤ T5.heap.size := Kq5.1
      have cr6 : CHr Z consts_1 s.vm T2.heap s.vm T5.heap := CHr.keep Kq5 sf0 CR3.1
      have CR6 := CR3.trans cr6
      refine own_go st5 ?_
      show own_Rn p e below _ (T5.setTop (mkF m 54 #[.val (.long l0), .second, .val (.long l1), .second, .val (.int sh), .val (.int (Int32.ofNat K1)), .val (.int (Int32.ofNat K2)), .val (.int c0), .unset, .unset, .unset, .unset, .unset, .unset, .unset, .unset, .unset, .unset, .unset] [(.int c1)]))
      have rc1 := R_5
      refine own_go (fun tq kq => XS.istore X5.here hx rfl (hb hby at_54) rfl (l' := #[.val (.long l0), .second, .val (.long l1), .second, .val (.int sh), .val (.int (Int32.ofNat K1)), .val (.int (Int32.ofNat K2)), .val (.int c0), .val (.int c1), .unset, .unset, .unset, .unset, .unset, .unset, .unset, .unset, .unset, .unset]) rfl kq) ?_
      show own_Rn p e below _ (T5.setTop (mkF m 56 #[.val (.long l0), .second, .val (.long l1), .second, .val (.int sh), .val (.int (Int32.ofNat K1)), .val (.int (Int32.ofNat K2)), .val (.int c0), .val (.int c1), .unset, .unset, .unset, .unset, .unset, .unset, .unset, .unset, .unset, .unset] []))
      refine own_go (fun tq kq => XS.lloadN X5.here hx rfl (hb hby at_56) rfl kq) ?_
      show own_Rn p e below _ (T5.setTop (mkF m 57 #[.val (.long l0), .second, .val (.long l1), .second, .val (.int sh), .val (.int (Int32.ofNat K1)), .val (.int (Int32.ofNat K2)), .val (.int c0), .val (.int c1), .unset, .unset, .unset, .unset, .unset, .unset, .unset, .unset, .unset, .unset] [(.long l0)]))
      refine own_go (fun tq kq => XS.iconst X5.here hx rfl (hb hby at_57) kq) ?_
      show own_Rn p e below _ (T5.setTop (mkF m 58 #[.val (.long l0), .second, .val (.long l1), .second, .val (.int sh), .val (.int (Int32.ofNat K1)), .val (.int (Int32.ofNat K2)), .val (.int c0), .val (.int c1), .unset, .unset, .unset, .unset, .unset, .unset, .unset, .unset, .unset, .unset] [(.int (2 : Int32)), (.long l0)]))
      refine own_go (fun tq kq => XS.iload X5.here hx rfl (hb hby at_58) rfl kq) ?_
      show own_Rn p e below _ (T5.setTop (mkF m 60 #[.val (.long l0), .second, .val (.long l1), .second, .val (.int sh), .val (.int (Int32.ofNat K1)), .val (.int (Int32.ofNat K2)), .val (.int c0), .val (.int c1), .unset, .unset, .unset, .unset, .unset, .unset, .unset, .unset, .unset, .unset] [(.int sh), (.int (2 : Int32)), (.long l0)]))
      refine own_go (fun tq kq => XS.bipush X5.here hx rfl (hb hby at_60) kq) ?_
      show own_Rn p e below _ (T5.setTop (mkF m 62 #[.val (.long l0), .second, .val (.long l1), .second, .val (.int sh), .val (.int (Int32.ofNat K1)), .val (.int (Int32.ofNat K2)), .val (.int c0), .val (.int c1), .unset, .unset, .unset, .unset, .unset, .unset, .unset, .unset, .unset, .unset] [(.int (6 : Int32)), (.int sh), (.int (2 : Int32)), (.long l0)]))
      refine own_go (fun tq kq => XS.iushr X5.here hx rfl (hb hby at_62) rfl kq) ?_
      show own_Rn p e below _ (T5.setTop (mkF m 63 #[.val (.long l0), .second, .val (.long l1), .second, .val (.int sh), .val (.int (Int32.ofNat K1)), .val (.int (Int32.ofNat K2)), .val (.int c0), .val (.int c1), .unset, .unset, .unset, .unset, .unset, .unset, .unset, .unset, .unset, .unset] [(.int ((sh.toUInt32 >>> ((6 : Int32) &&& 31).toUInt32).toInt32)), (.int (2 : Int32)), (.long l0)]))
      refine own_go (fun tq kq => XS.iconst X5.here hx rfl (hb hby at_63) kq) ?_
      show own_Rn p e below _ (T5.setTop (mkF m 64 #[.val (.long l0), .second, .val (.long l1), .second, .val (.int sh), .val (.int (Int32.ofNat K1)), .val (.int (Int32.ofNat K2)), .val (.int c0), .val (.int c1), .unset, .unset, .unset, .unset, .unset, .unset, .unset, .unset, .unset, .unset] [(.int (1 : Int32)), (.int ((sh.toUInt32 >>> ((6 : Int32) &&& 31).toUInt32).toInt32)), (.int (2 : Int32)), (.long l0)]))
      refine own_go (fun tq kq => XS.iand X5.here hx rfl (hb hby at_64) rfl kq) ?_
      show own_Rn p e below _ (T5.setTop (mkF m 65 #[.val (.long l0), .second, .val (.long l1), .second, .val (.int sh), .val (.int (Int32.ofNat K1)), .val (.int (Int32.ofNat K2)), .val (.int c0), .val (.int c1), .unset, .unset, .unset, .unset, .unset, .unset, .unset, .unset, .unset, .unset] [(.int (((sh.toUInt32 >>> ((6 : Int32) &&& 31).toUInt32).toInt32) &&& (1 : Int32))), (.int (2 : Int32)), (.long l0)]))
      have J7 : ∀ fl : Int32, own_Rn p e below (fun o U' => ∃ v L, o = .returned v ∧ Q_rm0 Z l0 l1 sh G1 G3 h0 n0 v U'.heap L ∧ CHr Z consts_1 s.vm s.heap U'.vm U'.heap ∧ ReturnedEndW s o U' L 40 1280) (T5.setTop (mkF m 73 #[.val (.long l0), .second, .val (.long l1), .second, .val (.int sh), .val (.int (Int32.ofNat K1)), .val (.int (Int32.ofNat K2)), .val (.int c0), .val (.int c1), .unset, .unset, .unset, .unset, .unset, .unset, .unset, .unset, .unset, .unset] [(.int fl), (.int (2 : Int32)), (.long l0)])) := by
        intro fl
        have Zn8 : n0 ≤ T5.heap.size := by omega
        obtain ⟨rv8, _, ⟨T8, L8, k8, n8⟩, -, X8, ⟨Lc8, hQ8, l8, y8, z8⟩, st8⟩ := Jvm.LawKit.callS X5 hx (y := (⟨"com/example/words_into_queries/wordsintoqueries/CodePointOrderComparePinLaw", "pick", "(JIZ)C"⟩ : MethodName)) hown (mvT hZ (hw _ (List.mem_of_getElem? (i := 0) rfl))) (mvT hZ (hw _ (List.mem_of_getElem? (i := 1) rfl))) (mvT hZ (hw _ (List.mem_of_getElem? (i := 2) rfl))) (mvT hZ (hw _ (List.mem_of_getElem? (i := 3) rfl))) (by decide) (backOf (W := 0) (rmPick l Z a0 hw [] (l0) ((2 : Int32)) (fl) T5.heap n0 Zn8 ) hZ (hw _ (List.mem_of_getElem? (i := 3) rfl)) (hw _ (List.mem_of_getElem? (i := 2) rfl)) (by decide) (by decide)) (g := (mkF m 73 #[.val (.long l0), .second, .val (.long l1), .second, .val (.int sh), .val (.int (Int32.ofNat K1)), .val (.int (Int32.ofNat K2)), .val (.int c0), .val (.int c1), .unset, .unset, .unset, .unset, .unset, .unset, .unset, .unset, .unset, .unset] [(.int fl), (.int (2 : Int32)), (.long l0)])) rfl (by rw [hml]; rfl) (argsL := [(.long l0), (.int (2 : Int32)), (.int fl)]) (rest := []) (lenOf own_pd_28JIZ29C rfl) rfl (by show 2 * 0 + _ ≤ _; exact Nat.le_of_eq rfl) (hb hby at_73) (fun _ _ => ⟨rfl, rfl, (by decide : 2 + 1 ≤ _), (by decide : 16 + 8 ≤ _)⟩)
        dsimp only [Pt.U, Pt.locs, Pt.cells, Pt.slots] at X8 l8 y8 z8 st8 hQ8
        subst l8 y8 z8
        obtain ⟨c2, rfl, Nq8, Kq8, R_8⟩ := hQ8
        have N8 := Fr.app N5 Nq8
        have sz9 : T5.heap.size ≤ T8.heap.size := Kq8.1
        have cr9 : CHr Z consts_1 s.vm T5.heap s.vm T8.heap := CHr.keep Kq8 sf0 CR6.1
        have CR9 := CR6.trans cr9
        refine own_go st8 ?_
        show own_Rn p e below _ (T8.setTop (mkF m 76 #[.val (.long l0), .second, .val (.long l1), .second, .val (.int sh), .val (.int (Int32.ofNat K1)), .val (.int (Int32.ofNat K2)), .val (.int c0), .val (.int c1), .unset, .unset, .unset, .unset, .unset, .unset, .unset, .unset, .unset, .unset] [(.int c2)]))
        have rc2 := R_8
        refine own_go (fun tq kq => XS.istore X8.here hx rfl (hb hby at_76) rfl (l' := #[.val (.long l0), .second, .val (.long l1), .second, .val (.int sh), .val (.int (Int32.ofNat K1)), .val (.int (Int32.ofNat K2)), .val (.int c0), .val (.int c1), .val (.int c2), .unset, .unset, .unset, .unset, .unset, .unset, .unset, .unset, .unset]) rfl kq) ?_
        show own_Rn p e below _ (T8.setTop (mkF m 78 #[.val (.long l0), .second, .val (.long l1), .second, .val (.int sh), .val (.int (Int32.ofNat K1)), .val (.int (Int32.ofNat K2)), .val (.int c0), .val (.int c1), .val (.int c2), .unset, .unset, .unset, .unset, .unset, .unset, .unset, .unset, .unset] []))
        have J187 : ∀ (bb0 bb1 bb2 : Int32) (Tl : State) (hl : Heap) (ls : List Loc), (¬ bb0 < 0 ∧ ¬ (65535 : Int32) < bb0) → (¬ bb1 < 0 ∧ ¬ (65535 : Int32) < bb1) → (¬ bb2 < 0 ∧ ¬ (65535 : Int32) < bb2) → Stand p l e room_1 (s.setVm s.vm) m #[(.long l0), (.long l1), (.int sh)] below meth c Tl ls 6 48 → Tl.heap = hl → Fr n0 ls → n0 ≤ hl.size → h0.size ≤ hl.size → Old Z n0 hl → CHr Z consts_1 s.vm h0 s.vm hl → own_Rn p e below (fun o U' => ∃ v L, o = .returned v ∧ Q_rm0 Z l0 l1 sh G1 G3 h0 n0 v U'.heap L ∧ CHr Z consts_1 s.vm s.heap U'.vm U'.heap ∧ ReturnedEndW s o U' L 40 1280) (Tl.setTop (mkF m 187 #[.val (.long l0), .second, .val (.long l1), .second, .val (.int sh), .val (.int (Int32.ofNat K1)), .val (.int (Int32.ofNat K2)), .val (.int c0), .val (.int c1), .val (.int c2), .val (.int bb0), .val (.int bb1), .unset, .unset, .unset, .unset, .unset, .unset, .unset] [(.int bb2)])) := by
          intro bb0 bb1 bb2 Tl hl ls rb0 rb1 rb2 Xl el Nl zl zl2 Ol CRl
          refine own_go (fun tq kq => XS.istore Xl.here hx rfl (hb hby at_187) rfl (l' := #[.val (.long l0), .second, .val (.long l1), .second, .val (.int sh), .val (.int (Int32.ofNat K1)), .val (.int (Int32.ofNat K2)), .val (.int c0), .val (.int c1), .val (.int c2), .val (.int bb0), .val (.int bb1), .val (.int bb2), .unset, .unset, .unset, .unset, .unset, .unset]) rfl kq) ?_
          show own_Rn p e below _ (Tl.setTop (mkF m 189 #[.val (.long l0), .second, .val (.long l1), .second, .val (.int sh), .val (.int (Int32.ofNat K1)), .val (.int (Int32.ofNat K2)), .val (.int c0), .val (.int c1), .val (.int c2), .val (.int bb0), .val (.int bb1), .val (.int bb2), .unset, .unset, .unset, .unset, .unset, .unset] []))
          refine own_go (fun tq kq => XS.iload Xl.here hx rfl (hb hby at_189) rfl kq) ?_
          show own_Rn p e below _ (Tl.setTop (mkF m 191 #[.val (.long l0), .second, .val (.long l1), .second, .val (.int sh), .val (.int (Int32.ofNat K1)), .val (.int (Int32.ofNat K2)), .val (.int c0), .val (.int c1), .val (.int c2), .val (.int bb0), .val (.int bb1), .val (.int bb2), .unset, .unset, .unset, .unset, .unset, .unset] [(.int (Int32.ofNat K1))]))
          refine own_go (fun tq kq => XS.iload Xl.here hx rfl (hb hby at_191) rfl kq) ?_
          show own_Rn p e below _ (Tl.setTop (mkF m 193 #[.val (.long l0), .second, .val (.long l1), .second, .val (.int sh), .val (.int (Int32.ofNat K1)), .val (.int (Int32.ofNat K2)), .val (.int c0), .val (.int c1), .val (.int c2), .val (.int bb0), .val (.int bb1), .val (.int bb2), .unset, .unset, .unset, .unset, .unset, .unset] [(.int c0), (.int (Int32.ofNat K1))]))
          refine own_go (fun tq kq => XS.iload Xl.here hx rfl (hb hby at_193) rfl kq) ?_
          show own_Rn p e below _ (Tl.setTop (mkF m 195 #[.val (.long l0), .second, .val (.long l1), .second, .val (.int sh), .val (.int (Int32.ofNat K1)), .val (.int (Int32.ofNat K2)), .val (.int c0), .val (.int c1), .val (.int c2), .val (.int bb0), .val (.int bb1), .val (.int bb2), .unset, .unset, .unset, .unset, .unset, .unset] [(.int c1), (.int c0), (.int (Int32.ofNat K1))]))
          refine own_go (fun tq kq => XS.iload Xl.here hx rfl (hb hby at_195) rfl kq) ?_
          show own_Rn p e below _ (Tl.setTop (mkF m 197 #[.val (.long l0), .second, .val (.long l1), .second, .val (.int sh), .val (.int (Int32.ofNat K1)), .val (.int (Int32.ofNat K2)), .val (.int c0), .val (.int c1), .val (.int c2), .val (.int bb0), .val (.int bb1), .val (.int bb2), .unset, .unset, .unset, .unset, .unset, .unset] [(.int c2), (.int c1), (.int c0), (.int (Int32.ofNat K1))]))
          have Zn10 : n0 ≤ hl.size := by omega
          obtain ⟨rv10, _, ⟨T10, L10, k10, n10⟩, -, X10, ⟨Lc10, hQ10, l10, y10, z10⟩, st10⟩ := Jvm.LawKit.callS Xl hx (y := (⟨"com/example/words_into_queries/wordsintoqueries/CodePointOrderComparePinLaw", "mk", "(ICCC)[C"⟩ : MethodName)) hown (mvT hZ (hw _ (List.mem_of_getElem? (i := 12) rfl))) (mvT hZ (hw _ (List.mem_of_getElem? (i := 13) rfl))) (mvT hZ (hw _ (List.mem_of_getElem? (i := 2) rfl))) (mvT hZ (hw _ (List.mem_of_getElem? (i := 14) rfl))) (by decide) (backOf (W := 0) (rmMk l Z a0 hw [] (K1) (c0) (c1) (c2) hl n0 Zn10 (by omega) (rc0) (rc1) (rc2)) hZ (hw _ (List.mem_of_getElem? (i := 14) rfl)) (hw _ (List.mem_of_getElem? (i := 2) rfl)) (by decide) (by decide)) (g := (mkF m 197 #[.val (.long l0), .second, .val (.long l1), .second, .val (.int sh), .val (.int (Int32.ofNat K1)), .val (.int (Int32.ofNat K2)), .val (.int c0), .val (.int c1), .val (.int c2), .val (.int bb0), .val (.int bb1), .val (.int bb2), .unset, .unset, .unset, .unset, .unset, .unset] [(.int c2), (.int c1), (.int c0), (.int (Int32.ofNat K1))])) rfl (by rw [hml]; rfl) (argsL := [(.int (Int32.ofNat K1)), (.int c0), (.int c1), (.int c2)]) (rest := []) (lenOf own_pd_28ICCC295bC rfl) rfl (by show 2 * 0 + _ ≤ _; exact Nat.le_of_eq rfl) (hb hby at_197) (fun _ _ => ⟨rfl, el, (by decide : 6 + 1 ≤ _), (by decide : 48 + 3 ≤ _)⟩)
          dsimp only [Pt.U, Pt.locs, Pt.cells, Pt.slots] at X10 l10 y10 z10 st10 hQ10
          subst l10 y10 z10
          obtain ⟨aa, kaa, rfl, Nq10, Kq10, G0_10, G1_10, G2_10⟩ := hQ10
          have N10 := Fr.app Nl Nq10
          have sz11 : hl.size ≤ T10.heap.size := Kq10.1
          have cr11 : CHr Z consts_1 s.vm hl s.vm T10.heap := CHr.keep Kq10 sf0 CRl.1
          have CR11 := CRl.trans cr11
          have sf12 : Safe Z consts_1 s.vm T10.heap aa := Safe.keep Kq10 sf0 CRl.1 (Safe.new (by omega))
          have lt13 : @LT.lt Nat _ aa T10.heap.size := G2_10.lt
          refine own_go st10 ?_
          show own_Rn p e below _ (T10.setTop (mkF m 200 #[.val (.long l0), .second, .val (.long l1), .second, .val (.int sh), .val (.int (Int32.ofNat K1)), .val (.int (Int32.ofNat K2)), .val (.int c0), .val (.int c1), .val (.int c2), .val (.int bb0), .val (.int bb1), .val (.int bb2), .unset, .unset, .unset, .unset, .unset, .unset] [(.ref aa)]))
          refine own_go (fun tq kq => XS.astore X10.here hx rfl (hb hby at_200) rfl rfl (l' := #[.val (.long l0), .second, .val (.long l1), .second, .val (.int sh), .val (.int (Int32.ofNat K1)), .val (.int (Int32.ofNat K2)), .val (.int c0), .val (.int c1), .val (.int c2), .val (.int bb0), .val (.int bb1), .val (.int bb2), .val (.ref aa), .unset, .unset, .unset, .unset, .unset]) rfl kq) ?_
          show own_Rn p e below _ (T10.setTop (mkF m 202 #[.val (.long l0), .second, .val (.long l1), .second, .val (.int sh), .val (.int (Int32.ofNat K1)), .val (.int (Int32.ofNat K2)), .val (.int c0), .val (.int c1), .val (.int c2), .val (.int bb0), .val (.int bb1), .val (.int bb2), .val (.ref aa), .unset, .unset, .unset, .unset, .unset] []))
          refine own_go (fun tq kq => XS.iload X10.here hx rfl (hb hby at_202) rfl kq) ?_
          show own_Rn p e below _ (T10.setTop (mkF m 204 #[.val (.long l0), .second, .val (.long l1), .second, .val (.int sh), .val (.int (Int32.ofNat K1)), .val (.int (Int32.ofNat K2)), .val (.int c0), .val (.int c1), .val (.int c2), .val (.int bb0), .val (.int bb1), .val (.int bb2), .val (.ref aa), .unset, .unset, .unset, .unset, .unset] [(.int (Int32.ofNat K2))]))
          refine own_go (fun tq kq => XS.iload X10.here hx rfl (hb hby at_204) rfl kq) ?_
          show own_Rn p e below _ (T10.setTop (mkF m 206 #[.val (.long l0), .second, .val (.long l1), .second, .val (.int sh), .val (.int (Int32.ofNat K1)), .val (.int (Int32.ofNat K2)), .val (.int c0), .val (.int c1), .val (.int c2), .val (.int bb0), .val (.int bb1), .val (.int bb2), .val (.ref aa), .unset, .unset, .unset, .unset, .unset] [(.int bb0), (.int (Int32.ofNat K2))]))
          refine own_go (fun tq kq => XS.iload X10.here hx rfl (hb hby at_206) rfl kq) ?_
          show own_Rn p e below _ (T10.setTop (mkF m 208 #[.val (.long l0), .second, .val (.long l1), .second, .val (.int sh), .val (.int (Int32.ofNat K1)), .val (.int (Int32.ofNat K2)), .val (.int c0), .val (.int c1), .val (.int c2), .val (.int bb0), .val (.int bb1), .val (.int bb2), .val (.ref aa), .unset, .unset, .unset, .unset, .unset] [(.int bb1), (.int bb0), (.int (Int32.ofNat K2))]))
          refine own_go (fun tq kq => XS.iload X10.here hx rfl (hb hby at_208) rfl kq) ?_
          show own_Rn p e below _ (T10.setTop (mkF m 210 #[.val (.long l0), .second, .val (.long l1), .second, .val (.int sh), .val (.int (Int32.ofNat K1)), .val (.int (Int32.ofNat K2)), .val (.int c0), .val (.int c1), .val (.int c2), .val (.int bb0), .val (.int bb1), .val (.int bb2), .val (.ref aa), .unset, .unset, .unset, .unset, .unset] [(.int bb2), (.int bb1), (.int bb0), (.int (Int32.ofNat K2))]))
          have Zn14 : n0 ≤ T10.heap.size := by omega
          obtain ⟨rv14, _, ⟨T14, L14, k14, n14⟩, -, X14, ⟨Lc14, hQ14, l14, y14, z14⟩, st14⟩ := Jvm.LawKit.callS X10 hx (y := (⟨"com/example/words_into_queries/wordsintoqueries/CodePointOrderComparePinLaw", "mk", "(ICCC)[C"⟩ : MethodName)) hown (mvT hZ (hw _ (List.mem_of_getElem? (i := 12) rfl))) (mvT hZ (hw _ (List.mem_of_getElem? (i := 13) rfl))) (mvT hZ (hw _ (List.mem_of_getElem? (i := 2) rfl))) (mvT hZ (hw _ (List.mem_of_getElem? (i := 14) rfl))) (by decide) (backOf (W := 0) (rmMk l Z a0 hw [] (K2) (bb0) (bb1) (bb2) T10.heap n0 Zn14 (by omega) (rb0) (rb1) (rb2)) hZ (hw _ (List.mem_of_getElem? (i := 14) rfl)) (hw _ (List.mem_of_getElem? (i := 2) rfl)) (by decide) (by decide)) (g := (mkF m 210 #[.val (.long l0), .second, .val (.long l1), .second, .val (.int sh), .val (.int (Int32.ofNat K1)), .val (.int (Int32.ofNat K2)), .val (.int c0), .val (.int c1), .val (.int c2), .val (.int bb0), .val (.int bb1), .val (.int bb2), .val (.ref aa), .unset, .unset, .unset, .unset, .unset] [(.int bb2), (.int bb1), (.int bb0), (.int (Int32.ofNat K2))])) rfl (by rw [hml]; rfl) (argsL := [(.int (Int32.ofNat K2)), (.int bb0), (.int bb1), (.int bb2)]) (rest := []) (lenOf own_pd_28ICCC295bC rfl) rfl (by show 2 * 0 + _ ≤ _; exact Nat.le_of_eq rfl) (hb hby at_210) (fun _ _ => ⟨rfl, rfl, (by decide : 7 + 1 ≤ _), (by decide : 51 + 3 ≤ _)⟩)
          dsimp only [Pt.U, Pt.locs, Pt.cells, Pt.slots] at X14 l14 y14 z14 st14 hQ14
          subst l14 y14 z14
          obtain ⟨ab, kab, rfl, Nq14, Kq14, G0_14, G1_14, G2_14⟩ := hQ14
          have N14 := Fr.app N10 Nq14
          have sz15 : T10.heap.size ≤ T14.heap.size := Kq14.1
          have cr15 : CHr Z consts_1 s.vm T10.heap s.vm T14.heap := CHr.keep Kq14 sf0 CR11.1
          have CR15 := CR11.trans cr15
          have sf16 : Safe Z consts_1 s.vm T14.heap ab := Safe.keep Kq14 sf0 CR11.1 (Safe.new (by omega))
          have lt17 : @LT.lt Nat _ ab T14.heap.size := G2_14.lt
          refine own_go st14 ?_
          show own_Rn p e below _ (T14.setTop (mkF m 213 #[.val (.long l0), .second, .val (.long l1), .second, .val (.int sh), .val (.int (Int32.ofNat K1)), .val (.int (Int32.ofNat K2)), .val (.int c0), .val (.int c1), .val (.int c2), .val (.int bb0), .val (.int bb1), .val (.int bb2), .val (.ref aa), .unset, .unset, .unset, .unset, .unset] [(.ref ab)]))
          have hnA : (own_tk K1 c0 c1 c2).length ≤ 3 := by rw [own_tk, List.length_take]; exact Nat.min_le_right _ _
          have hrA : ∀ c ∈ (own_tk K1 c0 c1 c2), ¬ c < 0 ∧ ¬ (65535 : Int32) < c := by
            intro c hc
            have hc := List.mem_of_mem_take hc
            simp only [List.mem_cons, List.not_mem_nil, or_false] at hc
            rcases hc with rfl | rfl | rfl
            · exact rc0
            · exact rc1
            · exact rc2
          have hnB : (own_tk K2 bb0 bb1 bb2).length ≤ 3 := by rw [own_tk, List.length_take]; exact Nat.min_le_right _ _
          have hrB : ∀ c ∈ (own_tk K2 bb0 bb1 bb2), ¬ c < 0 ∧ ¬ (65535 : Int32) < c := by
            intro c hc
            have hc := List.mem_of_mem_take hc
            simp only [List.mem_cons, List.not_mem_nil, or_false] at hc
            rcases hc with rfl | rfl | rfl
            · exact rb0
            · exact rb1
            · exact rb2
          refine own_go (fun tq kq => XS.astore X14.here hx rfl (hb hby at_213) rfl rfl (l' := #[.val (.long l0), .second, .val (.long l1), .second, .val (.int sh), .val (.int (Int32.ofNat K1)), .val (.int (Int32.ofNat K2)), .val (.int c0), .val (.int c1), .val (.int c2), .val (.int bb0), .val (.int bb1), .val (.int bb2), .val (.ref aa), .val (.ref ab), .unset, .unset, .unset, .unset]) rfl kq) ?_
          show own_Rn p e below _ (T14.setTop (mkF m 215 #[.val (.long l0), .second, .val (.long l1), .second, .val (.int sh), .val (.int (Int32.ofNat K1)), .val (.int (Int32.ofNat K2)), .val (.int c0), .val (.int c1), .val (.int c2), .val (.int bb0), .val (.int bb1), .val (.int bb2), .val (.ref aa), .val (.ref ab), .unset, .unset, .unset, .unset] []))
          obtain ⟨T18, h18, X18, e18, E18, A18, D18, -, st18⟩ := newO X14 hx hZ hown (hw _ (List.mem_of_getElem? (i := 15) rfl)) (hw _ (List.mem_of_getElem? (i := 16) rfl)) (hw _ (List.mem_of_getElem? (i := 17) rfl)) rfl (g := (mkF m 215 #[.val (.long l0), .second, .val (.long l1), .second, .val (.int sh), .val (.int (Int32.ofNat K1)), .val (.int (Int32.ofNat K2)), .val (.int c0), .val (.int c1), .val (.int c2), .val (.int bb0), .val (.int bb1), .val (.int bb2), .val (.ref aa), .val (.ref ab), .unset, .unset, .unset, .unset] [])) rfl (hb hby at_215) (by decide) (by decide)
          obtain ⟨b18, g18⟩ : ∃ z, z = T14.heap.size := ⟨_, rfl⟩
          rw [← g18] at A18 D18 st18
          refine own_go st18 ?_
          have sz19 : T14.heap.size ≤ h18.size := E18.1
          have cr19 : CHr Z consts_1 s.vm T14.heap s.vm h18 := CHr.ext E18 CR15.1
          have CR19 := CR15.trans cr19
          have sf20 : Safe Z consts_1 s.vm h18 b18 := Safe.ext E18 CR15.1 (Safe.new (by omega))
          have lt21 : @LT.lt Nat _ b18 h18.size := A18.lt
          have gn18 : n0 ≤ b18 := by omega
          have D18_value : Fld Z h18 b18 "java/lang/String" "value" "[B" .null := D18 (Or.inr (hw _ (List.mem_of_getElem? (i := 30) rfl))) (ty := (.array .byte)) own_fd_5bB
          have D18_coder : Fld Z h18 b18 "java/lang/String" "coder" "B" (.int (0 : Int32)) := D18 (Or.inr (hw _ (List.mem_of_getElem? (i := 31) rfl))) (ty := .byte) own_fd_B
          show own_Rn p e below _ (T18.setTop (mkF m 218 #[.val (.long l0), .second, .val (.long l1), .second, .val (.int sh), .val (.int (Int32.ofNat K1)), .val (.int (Int32.ofNat K2)), .val (.int c0), .val (.int c1), .val (.int c2), .val (.int bb0), .val (.int bb1), .val (.int bb2), .val (.ref aa), .val (.ref ab), .unset, .unset, .unset, .unset] [(.ref b18)]))
          refine own_go (fun tq kq => XS.dup X18.here hx rfl (hb hby at_218) rfl rfl kq) ?_
          show own_Rn p e below _ (T18.setTop (mkF m 219 #[.val (.long l0), .second, .val (.long l1), .second, .val (.int sh), .val (.int (Int32.ofNat K1)), .val (.int (Int32.ofNat K2)), .val (.int c0), .val (.int c1), .val (.int c2), .val (.int bb0), .val (.int bb1), .val (.int bb2), .val (.ref aa), .val (.ref ab), .unset, .unset, .unset, .unset] [(.ref b18), (.ref b18)]))
          refine own_go (fun tq kq => XS.aload X18.here hx rfl (hb hby at_219) rfl rfl kq) ?_
          show own_Rn p e below _ (T18.setTop (mkF m 221 #[.val (.long l0), .second, .val (.long l1), .second, .val (.int sh), .val (.int (Int32.ofNat K1)), .val (.int (Int32.ofNat K2)), .val (.int c0), .val (.int c1), .val (.int c2), .val (.int bb0), .val (.int bb1), .val (.int bb2), .val (.ref aa), .val (.ref ab), .unset, .unset, .unset, .unset] [(.ref aa), (.ref b18), (.ref b18)]))
          have Zn22 : n0 ≤ h18.size := by omega
          have F23 : Arv Z h18 aa kaa .char (Int32.ofNat (own_tk K1 c0 c1 c2).length) ((own_tk K1 c0 c1 c2).map Value.int) (.int (0 : Int32)) := ((G2_10.keep Kq14 nin0).ext E18)
          have F24 : Old Z n0 h18 := (((Ol.keep Kq10 all0).keep Kq14 all0).ext E18)
          obtain ⟨rv22, _, ⟨T22, L22, k22, n22⟩, -, X22, hS22, hG22, ⟨Lc22, hQ22, l22, y22, z22, CR22q⟩, st22⟩ := X18.specialBackS hx (y := (⟨"java/lang/String", "<init>", "([C)V"⟩ : MethodName)) rfl hown (mvT hZ (hw _ (List.mem_of_getElem? (i := 18) rfl))) (mvT hZ (hw _ (List.mem_of_getElem? (i := 19) rfl))) (mvT hZ (hw _ (List.mem_of_getElem? (i := 20) rfl))) (by decide) (own_backSH (W := 1) (rm := ({ frames := 5, cells := 4, slots := 9, locals := 74 } : Room)) (sf := [b18]) (h := h18) (rmNews l Z a0 hw [] (b18) (aa) (kaa) ((own_tk K1 c0 c1 c2)) ((.int (0 : Int32))) (G1) h18 n0 Zn22 hEL A18 D18_value D18_coder gn18 F23 (hnA) (hrA) (OAD) (OHI) (OLO) (O2) (P5) F24) hZ (hw _ (List.mem_of_getElem? (i := 20) rfl)) (hw _ (List.mem_of_getElem? (i := 17) rfl)) (by decide) (by decide) hEL CR19.1 (sfS sf20 sf0)) (g := (mkF m 221 #[.val (.long l0), .second, .val (.long l1), .second, .val (.int sh), .val (.int (Int32.ofNat K1)), .val (.int (Int32.ofNat K2)), .val (.int c0), .val (.int c1), .val (.int c2), .val (.int bb0), .val (.int bb1), .val (.int bb2), .val (.ref aa), .val (.ref ab), .unset, .unset, .unset, .unset] [(.ref aa), (.ref b18), (.ref b18)])) rfl (by rw [hml]; rfl) (Steps.refl _) (a := b18) (argsL := [(.ref aa)]) (rest := [(.ref b18)]) (lenOf own_pd_285bC29V rfl) rfl (by show 2 * 0 + _ ≤ _; exact Nat.le_of_eq rfl) (hb hby at_221) (fun _ _ => ⟨rfl, e18, (by decide : 9 + 4 ≤ _), (by decide : 58 + 9 ≤ _)⟩)
          dsimp only [Pt.U, Pt.locs, Pt.cells, Pt.slots] at X22 l22 y22 z22 st22 hQ22 hS22 hG22 CR22q
          subst l22 y22 z22
          obtain ⟨t1, k1, N1, v1, d1, rfl, Nq22, Kq22, G0_22, G1_22, G2_22, RL_22⟩ := hQ22
          have N22 := Fr.app N14 Nq22
          obtain ⟨Xr22, hSr22, hZ22, hown22⟩ := rebS hS0 (n1 := T18.heap.size) (by rw [e18]; omega) X22 hS22 hG22 hZ hown
          have sz26 : h18.size ≤ T22.heap.size := Kq22.1
          have cr26 : CHr Z consts_1 s.vm h18 T22.vm T22.heap := CR22q
          have CR26 := CR19.trans cr26
          have lt27 : @LT.lt Nat _ t1 T22.heap.size := G2_22.lt
          refine own_go (fun tq kq => st22.trans kq) ?_
          show own_Rn p e below _ (T22.setTop (mkF m 224 #[.val (.long l0), .second, .val (.long l1), .second, .val (.int sh), .val (.int (Int32.ofNat K1)), .val (.int (Int32.ofNat K2)), .val (.int c0), .val (.int c1), .val (.int c2), .val (.int bb0), .val (.int bb1), .val (.int bb2), .val (.ref aa), .val (.ref ab), .unset, .unset, .unset, .unset] [(.ref b18)]))
          refine own_go (fun tq kq => XS.astore Xr22.here hx rfl (hb hby at_224) rfl rfl (l' := #[.val (.long l0), .second, .val (.long l1), .second, .val (.int sh), .val (.int (Int32.ofNat K1)), .val (.int (Int32.ofNat K2)), .val (.int c0), .val (.int c1), .val (.int c2), .val (.int bb0), .val (.int bb1), .val (.int bb2), .val (.ref aa), .val (.ref ab), .val (.ref b18), .unset, .unset, .unset]) rfl kq) ?_
          show own_Rn p e below _ (T22.setTop (mkF m 226 #[.val (.long l0), .second, .val (.long l1), .second, .val (.int sh), .val (.int (Int32.ofNat K1)), .val (.int (Int32.ofNat K2)), .val (.int c0), .val (.int c1), .val (.int c2), .val (.int bb0), .val (.int bb1), .val (.int bb2), .val (.ref aa), .val (.ref ab), .val (.ref b18), .unset, .unset, .unset] []))
          obtain ⟨T28, h28, X28, e28, E28, A28, D28, -, st28⟩ := newO Xr22 hx hZ22 hown22 (hw _ (List.mem_of_getElem? (i := 15) rfl)) (hw _ (List.mem_of_getElem? (i := 16) rfl)) (hw _ (List.mem_of_getElem? (i := 17) rfl)) rfl (g := (mkF m 226 #[.val (.long l0), .second, .val (.long l1), .second, .val (.int sh), .val (.int (Int32.ofNat K1)), .val (.int (Int32.ofNat K2)), .val (.int c0), .val (.int c1), .val (.int c2), .val (.int bb0), .val (.int bb1), .val (.int bb2), .val (.ref aa), .val (.ref ab), .val (.ref b18), .unset, .unset, .unset] [])) rfl (hb hby at_226) (by decide) (by decide)
          obtain ⟨b28, g28⟩ : ∃ z, z = T22.heap.size := ⟨_, rfl⟩
          rw [← g28] at A28 D28 st28
          refine own_go st28 ?_
          have sz29 : T22.heap.size ≤ h28.size := E28.1
          have cr29 : CHr Z consts_1 T22.vm T22.heap T22.vm h28 := CHr.ext E28 CR26.1
          have CR29 := CR26.trans cr29
          have sf30 : Safe Z consts_1 T22.vm h28 b28 := Safe.ext E28 CR26.1 (Safe.new (by omega))
          have lt31 : @LT.lt Nat _ b28 h28.size := A28.lt
          have gn28 : n0 ≤ b28 := by omega
          have D28_value : Fld Z h28 b28 "java/lang/String" "value" "[B" .null := D28 (Or.inr (hw _ (List.mem_of_getElem? (i := 30) rfl))) (ty := (.array .byte)) own_fd_5bB
          have D28_coder : Fld Z h28 b28 "java/lang/String" "coder" "B" (.int (0 : Int32)) := D28 (Or.inr (hw _ (List.mem_of_getElem? (i := 31) rfl))) (ty := .byte) own_fd_B
          show own_Rn p e below _ (T28.setTop (mkF m 229 #[.val (.long l0), .second, .val (.long l1), .second, .val (.int sh), .val (.int (Int32.ofNat K1)), .val (.int (Int32.ofNat K2)), .val (.int c0), .val (.int c1), .val (.int c2), .val (.int bb0), .val (.int bb1), .val (.int bb2), .val (.ref aa), .val (.ref ab), .val (.ref b18), .unset, .unset, .unset] [(.ref b28)]))
          refine own_go (fun tq kq => XS.dup X28.here hx rfl (hb hby at_229) rfl rfl kq) ?_
          show own_Rn p e below _ (T28.setTop (mkF m 230 #[.val (.long l0), .second, .val (.long l1), .second, .val (.int sh), .val (.int (Int32.ofNat K1)), .val (.int (Int32.ofNat K2)), .val (.int c0), .val (.int c1), .val (.int c2), .val (.int bb0), .val (.int bb1), .val (.int bb2), .val (.ref aa), .val (.ref ab), .val (.ref b18), .unset, .unset, .unset] [(.ref b28), (.ref b28)]))
          refine own_go (fun tq kq => XS.aload X28.here hx rfl (hb hby at_230) rfl rfl kq) ?_
          show own_Rn p e below _ (T28.setTop (mkF m 232 #[.val (.long l0), .second, .val (.long l1), .second, .val (.int sh), .val (.int (Int32.ofNat K1)), .val (.int (Int32.ofNat K2)), .val (.int c0), .val (.int c1), .val (.int c2), .val (.int bb0), .val (.int bb1), .val (.int bb2), .val (.ref aa), .val (.ref ab), .val (.ref b18), .unset, .unset, .unset] [(.ref ab), (.ref b28), (.ref b28)]))
          have Zn32 : n0 ≤ h28.size := by omega
          have ne33 : ab ≠ b18 := own_nea (by omega)
          have F34 : Arv Z h28 ab kab .char (Int32.ofNat (own_tk K2 bb0 bb1 bb2).length) ((own_tk K2 bb0 bb1 bb2).map Value.int) (.int (0 : Int32)) := (((G2_14.ext E18).keep Kq22 (ninS ne33 nin0)).ext E28)
          have F35 : Old Z n0 h28 := ((F24.keep Kq22 (allS gn18 all0)).ext E28)
          obtain ⟨rv32, _, ⟨T32, L32, k32, n32⟩, -, X32, hS32, hG32, ⟨Lc32, hQ32, l32, y32, z32, CR32q⟩, st32⟩ := X28.specialBackS hx (y := (⟨"java/lang/String", "<init>", "([C)V"⟩ : MethodName)) rfl hown22 (mvT hZ22 (hw _ (List.mem_of_getElem? (i := 18) rfl))) (mvT hZ22 (hw _ (List.mem_of_getElem? (i := 19) rfl))) (mvT hZ22 (hw _ (List.mem_of_getElem? (i := 20) rfl))) (by decide) (own_backSH (W := 1) (rm := ({ frames := 5, cells := 4, slots := 9, locals := 74 } : Room)) (sf := [b28]) (h := h28) (rmNews l Z a0 hw [] (b28) (ab) (kab) ((own_tk K2 bb0 bb1 bb2)) ((.int (0 : Int32))) (G1) h28 n0 Zn32 hEL A28 D28_value D28_coder gn28 F34 (hnB) (hrB) (OAD) (OHI) (OLO) (O2) (P5) F35) hZ22 (hw _ (List.mem_of_getElem? (i := 20) rfl)) (hw _ (List.mem_of_getElem? (i := 17) rfl)) (by decide) (by decide) hEL CR29.1 (sfS sf30 sf0)) (g := (mkF m 232 #[.val (.long l0), .second, .val (.long l1), .second, .val (.int sh), .val (.int (Int32.ofNat K1)), .val (.int (Int32.ofNat K2)), .val (.int c0), .val (.int c1), .val (.int c2), .val (.int bb0), .val (.int bb1), .val (.int bb2), .val (.ref aa), .val (.ref ab), .val (.ref b18), .unset, .unset, .unset] [(.ref ab), (.ref b28), (.ref b28)])) rfl (by rw [hml]; rfl) (Steps.refl _) (a := b28) (argsL := [(.ref ab)]) (rest := [(.ref b28)]) (lenOf own_pd_285bC29V rfl) rfl (by show 2 * 0 + _ ≤ _; exact Nat.le_of_eq rfl) (hb hby at_232) (fun _ _ => ⟨rfl, e28, (by decide : 14 + 4 ≤ _), (by decide : 71 + 9 ≤ _)⟩)
          dsimp only [Pt.U, Pt.locs, Pt.cells, Pt.slots] at X32 l32 y32 z32 st32 hQ32 hS32 hG32 CR32q
          subst l32 y32 z32
          obtain ⟨t2, k2, N2, v2, d2, rfl, Nq32, Kq32, G0_32, G1_32, G2_32, RL_32⟩ := hQ32
          have N32 := Fr.app N22 Nq32
          obtain ⟨Xr32, hSr32, hZ32, hown32⟩ := rebS hSr22 (n1 := T28.heap.size) (by rw [e28]; omega) X32 hS32 hG32 hZ22 hown22
          have sz37 : h28.size ≤ T32.heap.size := Kq32.1
          have cr37 : CHr Z consts_1 T22.vm h28 T32.vm T32.heap := CR32q
          have CR37 := CR29.trans cr37
          have lt38 : @LT.lt Nat _ t2 T32.heap.size := G2_32.lt
          refine own_go (fun tq kq => st32.trans kq) ?_
          show own_Rn p e below _ (T32.setTop (mkF m 235 #[.val (.long l0), .second, .val (.long l1), .second, .val (.int sh), .val (.int (Int32.ofNat K1)), .val (.int (Int32.ofNat K2)), .val (.int c0), .val (.int c1), .val (.int c2), .val (.int bb0), .val (.int bb1), .val (.int bb2), .val (.ref aa), .val (.ref ab), .val (.ref b18), .unset, .unset, .unset] [(.ref b28)]))
          refine own_go (fun tq kq => XS.astore Xr32.here hx rfl (hb hby at_235) rfl rfl (l' := #[.val (.long l0), .second, .val (.long l1), .second, .val (.int sh), .val (.int (Int32.ofNat K1)), .val (.int (Int32.ofNat K2)), .val (.int c0), .val (.int c1), .val (.int c2), .val (.int bb0), .val (.int bb1), .val (.int bb2), .val (.ref aa), .val (.ref ab), .val (.ref b18), .val (.ref b28), .unset, .unset]) rfl kq) ?_
          show own_Rn p e below _ (T32.setTop (mkF m 237 #[.val (.long l0), .second, .val (.long l1), .second, .val (.int sh), .val (.int (Int32.ofNat K1)), .val (.int (Int32.ofNat K2)), .val (.int c0), .val (.int c1), .val (.int c2), .val (.int bb0), .val (.int bb1), .val (.int bb2), .val (.ref aa), .val (.ref ab), .val (.ref b18), .val (.ref b28), .unset, .unset] []))
          refine own_go (fun tq kq => XS.aload Xr32.here hx rfl (hb hby at_237) rfl rfl kq) ?_
          show own_Rn p e below _ (T32.setTop (mkF m 239 #[.val (.long l0), .second, .val (.long l1), .second, .val (.int sh), .val (.int (Int32.ofNat K1)), .val (.int (Int32.ofNat K2)), .val (.int c0), .val (.int c1), .val (.int c2), .val (.int bb0), .val (.int bb1), .val (.int bb2), .val (.ref aa), .val (.ref ab), .val (.ref b18), .val (.ref b28), .unset, .unset] [(.ref b18)]))
          refine own_go (fun tq kq => XS.aload Xr32.here hx rfl (hb hby at_239) rfl rfl kq) ?_
          show own_Rn p e below _ (T32.setTop (mkF m 241 #[.val (.long l0), .second, .val (.long l1), .second, .val (.int sh), .val (.int (Int32.ofNat K1)), .val (.int (Int32.ofNat K2)), .val (.int c0), .val (.int c1), .val (.int c2), .val (.int bb0), .val (.int bb1), .val (.int bb2), .val (.ref aa), .val (.ref ab), .val (.ref b18), .val (.ref b28), .unset, .unset] [(.ref b28), (.ref b18)]))
          have Zn39 : n0 ≤ T32.heap.size := by omega
          have F40 : Exa Z T32.heap b18 "java/lang/String" := (((A18.keep Kq22).ext E28).keep Kq32)
          have ne41 : b18 ≠ b28 := own_nea (by omega)
          have F42 : Fld Z T32.heap b18 "java/lang/String" "value" "[B" (.ref t1) := ((G0_22.ext E28).keep Kq32 (ninS ne41 nin0))
          have F43 : Fld Z T32.heap b18 "java/lang/String" "coder" "B" (.int d1) := ((G1_22.ext E28).keep Kq32 (ninS ne41 nin0))
          have ne44 : t1 ≠ b28 := own_nea (by omega)
          have F45 : Arv Z T32.heap t1 k1 .byte N1 v1 (.int 0) := ((G2_22.ext E28).keep Kq32 (ninS ne44 nin0))
          have F46 : Exa Z T32.heap b28 "java/lang/String" := (A28.keep Kq32)
          have F47 : Old Z n0 T32.heap := (F35.keep Kq32 (allS gn28 all0))
          obtain ⟨rv39, _, ⟨T39, L39, k39, n39⟩, -, X39, ⟨Lc39, hQ39, l39, y39, z39⟩, st39⟩ := Jvm.LawKit.callS Xr32 hx (y := (⟨"com/example/words_into_queries/wordsintoqueries/CodePointOrder", "compare", "(Ljava/lang/String;Ljava/lang/String;)I"⟩ : MethodName)) hown32 (mvT hZ32 (hw _ (List.mem_of_getElem? (i := 36) rfl))) (mvT hZ32 (hw _ (List.mem_of_getElem? (i := 37) rfl))) (mvT hZ32 (hw _ (List.mem_of_getElem? (i := 38) rfl))) (mvT hZ32 (hw _ (List.mem_of_getElem? (i := 39) rfl))) (by decide) (backOf (W := 0) (rmCmp l Z a0 hw [] (b18) (t1) (k1) (N1) (v1) (d1) ((own_tk K1 c0 c1 c2)) (b28) (t2) (k2) (N2) (v2) (d2) ((own_tk K2 bb0 bb1 bb2)) (G1) (G3) T32.heap n0 Zn39 F40 F42 F43 F45 (RL_22) (hnA) (hrA) F46 G0_32 G1_32 G2_32 (RL_32) (hnB) (hrB) (OAD) (OHI) (OLO) (O4) (hG3) (O2) (P5) F47) hZ32 (hw _ (List.mem_of_getElem? (i := 39) rfl)) (hw _ (List.mem_of_getElem? (i := 38) rfl)) (by decide) (by decide)) (g := (mkF m 241 #[.val (.long l0), .second, .val (.long l1), .second, .val (.int sh), .val (.int (Int32.ofNat K1)), .val (.int (Int32.ofNat K2)), .val (.int c0), .val (.int c1), .val (.int c2), .val (.int bb0), .val (.int bb1), .val (.int bb2), .val (.ref aa), .val (.ref ab), .val (.ref b18), .val (.ref b28), .unset, .unset] [(.ref b28), (.ref b18)])) rfl (by rw [hml]; rfl) (argsL := [(.ref b18), (.ref b28)]) (rest := []) (lenOf own_pd_28Ljava2flang2fString3bLjava2flang2fString3b29I rfl) rfl (by show 2 * 0 + _ ≤ _; exact Nat.le_of_eq rfl) (hb hby at_241) (fun _ _ => ⟨rfl, rfl, (by decide : 18 + 0 ≤ _), (by decide : 80 + 0 ≤ _)⟩)
          dsimp only [Pt.U, Pt.locs, Pt.cells, Pt.slots] at X39 l39 y39 z39 st39 hQ39
          subst l39 y39 z39
          obtain ⟨rr, rfl, Nq39, eh39, R_39⟩ := hQ39
          have N39 := Fr.app N32 Nq39
          refine own_go st39 ?_
          show own_Rn p e below _ (T39.setTop (mkF m 244 #[.val (.long l0), .second, .val (.long l1), .second, .val (.int sh), .val (.int (Int32.ofNat K1)), .val (.int (Int32.ofNat K2)), .val (.int c0), .val (.int c1), .val (.int c2), .val (.int bb0), .val (.int bb1), .val (.int bb2), .val (.ref aa), .val (.ref ab), .val (.ref b18), .val (.ref b28), .unset, .unset] [(.int rr)]))
          refine own_go (fun tq kq => XS.istore X39.here hx rfl (hb hby at_244) rfl (l' := #[.val (.long l0), .second, .val (.long l1), .second, .val (.int sh), .val (.int (Int32.ofNat K1)), .val (.int (Int32.ofNat K2)), .val (.int c0), .val (.int c1), .val (.int c2), .val (.int bb0), .val (.int bb1), .val (.int bb2), .val (.ref aa), .val (.ref ab), .val (.ref b18), .val (.ref b28), .val (.int rr), .unset]) rfl kq) ?_
          show own_Rn p e below _ (T39.setTop (mkF m 246 #[.val (.long l0), .second, .val (.long l1), .second, .val (.int sh), .val (.int (Int32.ofNat K1)), .val (.int (Int32.ofNat K2)), .val (.int c0), .val (.int c1), .val (.int c2), .val (.int bb0), .val (.int bb1), .val (.int bb2), .val (.ref aa), .val (.ref ab), .val (.ref b18), .val (.ref b28), .val (.int rr), .unset] []))
          refine own_go (fun tq kq => XS.aload X39.here hx rfl (hb hby at_246) rfl rfl kq) ?_
          show own_Rn p e below _ (T39.setTop (mkF m 248 #[.val (.long l0), .second, .val (.long l1), .second, .val (.int sh), .val (.int (Int32.ofNat K1)), .val (.int (Int32.ofNat K2)), .val (.int c0), .val (.int c1), .val (.int c2), .val (.int bb0), .val (.int bb1), .val (.int bb2), .val (.ref aa), .val (.ref ab), .val (.ref b18), .val (.ref b28), .val (.int rr), .unset] [(.ref aa)]))
          refine own_go (fun tq kq => XS.aload X39.here hx rfl (hb hby at_248) rfl rfl kq) ?_
          show own_Rn p e below _ (T39.setTop (mkF m 250 #[.val (.long l0), .second, .val (.long l1), .second, .val (.int sh), .val (.int (Int32.ofNat K1)), .val (.int (Int32.ofNat K2)), .val (.int c0), .val (.int c1), .val (.int c2), .val (.int bb0), .val (.int bb1), .val (.int bb2), .val (.ref aa), .val (.ref ab), .val (.ref b18), .val (.ref b28), .val (.int rr), .unset] [(.ref ab), (.ref aa)]))
          have Zn48 : n0 ≤ T32.heap.size := by omega
          have ne49 : aa ≠ b18 := own_nea (by omega)
          have ne50 : aa ≠ b28 := own_nea (by omega)
          have F51 : Arv Z T32.heap aa kaa .char (Int32.ofNat (own_tk K1 c0 c1 c2).length) ((own_tk K1 c0 c1 c2).map Value.int) (.int (0 : Int32)) := (((F23.keep Kq22 (ninS ne49 nin0)).ext E28).keep Kq32 (ninS ne50 nin0))
          have ne52 : ab ≠ b28 := own_nea (by omega)
          have F53 : Arv Z T32.heap ab kab .char (Int32.ofNat (own_tk K2 bb0 bb1 bb2).length) ((own_tk K2 bb0 bb1 bb2).map Value.int) (.int (0 : Int32)) := (F34.keep Kq32 (ninS ne52 nin0))
          obtain ⟨rv48, _, ⟨T48, L48, k48, n48⟩, -, X48, ⟨Lc48, hQ48, l48, y48, z48⟩, st48⟩ := Jvm.LawKit.callS X39 hx (y := (⟨"com/example/words_into_queries/wordsintoqueries/CodePointOrderComparePinLaw", "ref", "([C[C)I"⟩ : MethodName)) hown32 (mvT hZ32 (hw _ (List.mem_of_getElem? (i := 59) rfl))) (mvT hZ32 (hw _ (List.mem_of_getElem? (i := 60) rfl))) (mvT hZ32 (hw _ (List.mem_of_getElem? (i := 2) rfl))) (mvT hZ32 (hw _ (List.mem_of_getElem? (i := 61) rfl))) (by decide) (backOf (W := 0) (rmRef l Z a0 hw [] (aa) (kaa) ((own_tk K1 c0 c1 c2)) ((.int (0 : Int32))) (ab) (kab) ((own_tk K2 bb0 bb1 bb2)) ((.int (0 : Int32))) T32.heap n0 Zn48 F51 (hnA) (hrA) F53 (hnB) (hrB)) hZ32 (hw _ (List.mem_of_getElem? (i := 61) rfl)) (hw _ (List.mem_of_getElem? (i := 2) rfl)) (by decide) (by decide)) (g := (mkF m 250 #[.val (.long l0), .second, .val (.long l1), .second, .val (.int sh), .val (.int (Int32.ofNat K1)), .val (.int (Int32.ofNat K2)), .val (.int c0), .val (.int c1), .val (.int c2), .val (.int bb0), .val (.int bb1), .val (.int bb2), .val (.ref aa), .val (.ref ab), .val (.ref b18), .val (.ref b28), .val (.int rr), .unset] [(.ref ab), (.ref aa)])) rfl (by rw [hml]; rfl) (argsL := [(.ref aa), (.ref ab)]) (rest := []) (lenOf own_pd_285bC5bC29I rfl) rfl (by show 2 * 0 + _ ≤ _; exact Nat.le_of_eq rfl) (hb hby at_250) (fun _ _ => ⟨rfl, eh39, (by decide : 18 + 0 ≤ _), (by decide : 80 + 0 ≤ _)⟩)
          dsimp only [Pt.U, Pt.locs, Pt.cells, Pt.slots] at X48 l48 y48 z48 st48 hQ48
          subst l48 y48 z48
          obtain ⟨er, rfl, Nq48, eh48, R_48⟩ := hQ48
          have N48 := Fr.app N39 Nq48
          refine own_go st48 ?_
          show own_Rn p e below _ (T48.setTop (mkF m 253 #[.val (.long l0), .second, .val (.long l1), .second, .val (.int sh), .val (.int (Int32.ofNat K1)), .val (.int (Int32.ofNat K2)), .val (.int c0), .val (.int c1), .val (.int c2), .val (.int bb0), .val (.int bb1), .val (.int bb2), .val (.ref aa), .val (.ref ab), .val (.ref b18), .val (.ref b28), .val (.int rr), .unset] [(.int er)]))
          refine own_go (fun tq kq => XS.istore X48.here hx rfl (hb hby at_253) rfl (l' := #[.val (.long l0), .second, .val (.long l1), .second, .val (.int sh), .val (.int (Int32.ofNat K1)), .val (.int (Int32.ofNat K2)), .val (.int c0), .val (.int c1), .val (.int c2), .val (.int bb0), .val (.int bb1), .val (.int bb2), .val (.ref aa), .val (.ref ab), .val (.ref b18), .val (.ref b28), .val (.int rr), .val (.int er)]) rfl kq) ?_
          show own_Rn p e below _ (T48.setTop (mkF m 255 #[.val (.long l0), .second, .val (.long l1), .second, .val (.int sh), .val (.int (Int32.ofNat K1)), .val (.int (Int32.ofNat K2)), .val (.int c0), .val (.int c1), .val (.int c2), .val (.int bb0), .val (.int bb1), .val (.int bb2), .val (.ref aa), .val (.ref ab), .val (.ref b18), .val (.ref b28), .val (.int rr), .val (.int er)] []))
          refine own_go (fun tq kq => XS.iload X48.here hx rfl (hb hby at_255) rfl kq) ?_
          show own_Rn p e below _ (T48.setTop (mkF m 257 #[.val (.long l0), .second, .val (.long l1), .second, .val (.int sh), .val (.int (Int32.ofNat K1)), .val (.int (Int32.ofNat K2)), .val (.int c0), .val (.int c1), .val (.int c2), .val (.int bb0), .val (.int bb1), .val (.int bb2), .val (.ref aa), .val (.ref ab), .val (.ref b18), .val (.ref b28), .val (.int rr), .val (.int er)] [(.int rr)]))
          obtain ⟨i1, i2⟩ := own_sg_eq (R_39.trans R_48.symm)
          by_cases g1 : rr < (0 : Int32)
          · skip
            refine own_go (fun tq kq => XS.ifNo X48.here hx rfl (hb hby at_257) rfl ((if0 _ _).trans (tlt (g1 : rr < (0 : Int32))).2.1) kq) ?_
            show own_Rn p e below _ (T48.setTop (mkF m 260 #[.val (.long l0), .second, .val (.long l1), .second, .val (.int sh), .val (.int (Int32.ofNat K1)), .val (.int (Int32.ofNat K2)), .val (.int c0), .val (.int c1), .val (.int c2), .val (.int bb0), .val (.int bb1), .val (.int bb2), .val (.ref aa), .val (.ref ab), .val (.ref b18), .val (.ref b28), .val (.int rr), .val (.int er)] []))
            refine own_go (fun tq kq => XS.iconst X48.here hx rfl (hb hby at_260) kq) ?_
            show own_Rn p e below _ (T48.setTop (mkF m 261 #[.val (.long l0), .second, .val (.long l1), .second, .val (.int sh), .val (.int (Int32.ofNat K1)), .val (.int (Int32.ofNat K2)), .val (.int c0), .val (.int c1), .val (.int c2), .val (.int bb0), .val (.int bb1), .val (.int bb2), .val (.ref aa), .val (.ref ab), .val (.ref b18), .val (.ref b28), .val (.int rr), .val (.int er)] [(.int (1 : Int32))]))
            refine own_go (fun tq kq => XS.goto X48.here hx rfl (pc0 := 261) (pc' := 265) rfl (hb hby at_261) (by decide) (by decide) kq) ?_
            show own_Rn p e below _ (T48.setTop (mkF m 265 #[.val (.long l0), .second, .val (.long l1), .second, .val (.int sh), .val (.int (Int32.ofNat K1)), .val (.int (Int32.ofNat K2)), .val (.int c0), .val (.int c1), .val (.int c2), .val (.int bb0), .val (.int bb1), .val (.int bb2), .val (.ref aa), .val (.ref ab), .val (.ref b18), .val (.ref b28), .val (.int rr), .val (.int er)] [(.int (1 : Int32))]))
            refine own_go (fun tq kq => XS.iload X48.here hx rfl (hb hby at_265) rfl kq) ?_
            show own_Rn p e below _ (T48.setTop (mkF m 267 #[.val (.long l0), .second, .val (.long l1), .second, .val (.int sh), .val (.int (Int32.ofNat K1)), .val (.int (Int32.ofNat K2)), .val (.int c0), .val (.int c1), .val (.int c2), .val (.int bb0), .val (.int bb1), .val (.int bb2), .val (.ref aa), .val (.ref ab), .val (.ref b18), .val (.ref b28), .val (.int rr), .val (.int er)] [(.int er), (.int (1 : Int32))]))
            refine own_go (fun tq kq => XS.ifNo X48.here hx rfl (hb hby at_267) rfl ((if0 _ _).trans (tlt ((i1.mp g1) : er < (0 : Int32))).2.1) kq) ?_
            show own_Rn p e below _ (T48.setTop (mkF m 270 #[.val (.long l0), .second, .val (.long l1), .second, .val (.int sh), .val (.int (Int32.ofNat K1)), .val (.int (Int32.ofNat K2)), .val (.int c0), .val (.int c1), .val (.int c2), .val (.int bb0), .val (.int bb1), .val (.int bb2), .val (.ref aa), .val (.ref ab), .val (.ref b18), .val (.ref b28), .val (.int rr), .val (.int er)] [(.int (1 : Int32))]))
            refine own_go (fun tq kq => XS.iconst X48.here hx rfl (hb hby at_270) kq) ?_
            show own_Rn p e below _ (T48.setTop (mkF m 271 #[.val (.long l0), .second, .val (.long l1), .second, .val (.int sh), .val (.int (Int32.ofNat K1)), .val (.int (Int32.ofNat K2)), .val (.int c0), .val (.int c1), .val (.int c2), .val (.int bb0), .val (.int bb1), .val (.int bb2), .val (.ref aa), .val (.ref ab), .val (.ref b18), .val (.ref b28), .val (.int rr), .val (.int er)] [(.int (1 : Int32)), (.int (1 : Int32))]))
            refine own_go (fun tq kq => XS.goto X48.here hx rfl (pc0 := 271) (pc' := 275) rfl (hb hby at_271) (by decide) (by decide) kq) ?_
            show own_Rn p e below _ (T48.setTop (mkF m 275 #[.val (.long l0), .second, .val (.long l1), .second, .val (.int sh), .val (.int (Int32.ofNat K1)), .val (.int (Int32.ofNat K2)), .val (.int c0), .val (.int c1), .val (.int c2), .val (.int bb0), .val (.int bb1), .val (.int bb2), .val (.ref aa), .val (.ref ab), .val (.ref b18), .val (.ref b28), .val (.int rr), .val (.int er)] [(.int (1 : Int32)), (.int (1 : Int32))]))
            refine own_go (fun tq kq => XS.icmpNo X48.here hx rfl (hb hby at_275) rfl (teq (rfl : (1 : Int32) = (1 : Int32))).2 kq) ?_
            show own_Rn p e below _ (T48.setTop (mkF m 278 #[.val (.long l0), .second, .val (.long l1), .second, .val (.int sh), .val (.int (Int32.ofNat K1)), .val (.int (Int32.ofNat K2)), .val (.int c0), .val (.int c1), .val (.int c2), .val (.int bb0), .val (.int bb1), .val (.int bb2), .val (.ref aa), .val (.ref ab), .val (.ref b18), .val (.ref b28), .val (.int rr), .val (.int er)] []))
            refine own_go (fun tq kq => XS.iload X48.here hx rfl (hb hby at_278) rfl kq) ?_
            show own_Rn p e below _ (T48.setTop (mkF m 280 #[.val (.long l0), .second, .val (.long l1), .second, .val (.int sh), .val (.int (Int32.ofNat K1)), .val (.int (Int32.ofNat K2)), .val (.int c0), .val (.int c1), .val (.int c2), .val (.int bb0), .val (.int bb1), .val (.int bb2), .val (.ref aa), .val (.ref ab), .val (.ref b18), .val (.ref b28), .val (.int rr), .val (.int er)] [(.int rr)]))
            by_cases g2 : (0 : Int32) < rr
            · skip
              refine own_go (fun tq kq => XS.ifNo X48.here hx rfl (hb hby at_280) rfl ((if0 _ _).trans (tlt (g2 : (0 : Int32) < rr)).2.2.2) kq) ?_
              show own_Rn p e below _ (T48.setTop (mkF m 283 #[.val (.long l0), .second, .val (.long l1), .second, .val (.int sh), .val (.int (Int32.ofNat K1)), .val (.int (Int32.ofNat K2)), .val (.int c0), .val (.int c1), .val (.int c2), .val (.int bb0), .val (.int bb1), .val (.int bb2), .val (.ref aa), .val (.ref ab), .val (.ref b18), .val (.ref b28), .val (.int rr), .val (.int er)] []))
              refine own_go (fun tq kq => XS.iconst X48.here hx rfl (hb hby at_283) kq) ?_
              show own_Rn p e below _ (T48.setTop (mkF m 284 #[.val (.long l0), .second, .val (.long l1), .second, .val (.int sh), .val (.int (Int32.ofNat K1)), .val (.int (Int32.ofNat K2)), .val (.int c0), .val (.int c1), .val (.int c2), .val (.int bb0), .val (.int bb1), .val (.int bb2), .val (.ref aa), .val (.ref ab), .val (.ref b18), .val (.ref b28), .val (.int rr), .val (.int er)] [(.int (1 : Int32))]))
              refine own_go (fun tq kq => XS.goto X48.here hx rfl (pc0 := 284) (pc' := 288) rfl (hb hby at_284) (by decide) (by decide) kq) ?_
              show own_Rn p e below _ (T48.setTop (mkF m 288 #[.val (.long l0), .second, .val (.long l1), .second, .val (.int sh), .val (.int (Int32.ofNat K1)), .val (.int (Int32.ofNat K2)), .val (.int c0), .val (.int c1), .val (.int c2), .val (.int bb0), .val (.int bb1), .val (.int bb2), .val (.ref aa), .val (.ref ab), .val (.ref b18), .val (.ref b28), .val (.int rr), .val (.int er)] [(.int (1 : Int32))]))
              refine own_go (fun tq kq => XS.iload X48.here hx rfl (hb hby at_288) rfl kq) ?_
              show own_Rn p e below _ (T48.setTop (mkF m 290 #[.val (.long l0), .second, .val (.long l1), .second, .val (.int sh), .val (.int (Int32.ofNat K1)), .val (.int (Int32.ofNat K2)), .val (.int c0), .val (.int c1), .val (.int c2), .val (.int bb0), .val (.int bb1), .val (.int bb2), .val (.ref aa), .val (.ref ab), .val (.ref b18), .val (.ref b28), .val (.int rr), .val (.int er)] [(.int er), (.int (1 : Int32))]))
              refine own_go (fun tq kq => XS.ifNo X48.here hx rfl (hb hby at_290) rfl ((if0 _ _).trans (tlt ((i2.mp g2) : (0 : Int32) < er)).2.2.2) kq) ?_
              show own_Rn p e below _ (T48.setTop (mkF m 293 #[.val (.long l0), .second, .val (.long l1), .second, .val (.int sh), .val (.int (Int32.ofNat K1)), .val (.int (Int32.ofNat K2)), .val (.int c0), .val (.int c1), .val (.int c2), .val (.int bb0), .val (.int bb1), .val (.int bb2), .val (.ref aa), .val (.ref ab), .val (.ref b18), .val (.ref b28), .val (.int rr), .val (.int er)] [(.int (1 : Int32))]))
              refine own_go (fun tq kq => XS.iconst X48.here hx rfl (hb hby at_293) kq) ?_
              show own_Rn p e below _ (T48.setTop (mkF m 294 #[.val (.long l0), .second, .val (.long l1), .second, .val (.int sh), .val (.int (Int32.ofNat K1)), .val (.int (Int32.ofNat K2)), .val (.int c0), .val (.int c1), .val (.int c2), .val (.int bb0), .val (.int bb1), .val (.int bb2), .val (.ref aa), .val (.ref ab), .val (.ref b18), .val (.ref b28), .val (.int rr), .val (.int er)] [(.int (1 : Int32)), (.int (1 : Int32))]))
              refine own_go (fun tq kq => XS.goto X48.here hx rfl (pc0 := 294) (pc' := 298) rfl (hb hby at_294) (by decide) (by decide) kq) ?_
              show own_Rn p e below _ (T48.setTop (mkF m 298 #[.val (.long l0), .second, .val (.long l1), .second, .val (.int sh), .val (.int (Int32.ofNat K1)), .val (.int (Int32.ofNat K2)), .val (.int c0), .val (.int c1), .val (.int c2), .val (.int bb0), .val (.int bb1), .val (.int bb2), .val (.ref aa), .val (.ref ab), .val (.ref b18), .val (.ref b28), .val (.int rr), .val (.int er)] [(.int (1 : Int32)), (.int (1 : Int32))]))
              refine own_go (fun tq kq => XS.icmpNo X48.here hx rfl (hb hby at_298) rfl (teq (rfl : (1 : Int32) = (1 : Int32))).2 kq) ?_
              show own_Rn p e below _ (T48.setTop (mkF m 301 #[.val (.long l0), .second, .val (.long l1), .second, .val (.int sh), .val (.int (Int32.ofNat K1)), .val (.int (Int32.ofNat K2)), .val (.int c0), .val (.int c1), .val (.int c2), .val (.int bb0), .val (.int bb1), .val (.int bb2), .val (.ref aa), .val (.ref ab), .val (.ref b18), .val (.ref b28), .val (.int rr), .val (.int er)] []))
              refine own_go (fun tq kq => XS.iconst X48.here hx rfl (hb hby at_301) kq) ?_
              show own_Rn p e below _ (T48.setTop (mkF m 302 #[.val (.long l0), .second, .val (.long l1), .second, .val (.int sh), .val (.int (Int32.ofNat K1)), .val (.int (Int32.ofNat K2)), .val (.int c0), .val (.int c1), .val (.int c2), .val (.int bb0), .val (.int bb1), .val (.int bb2), .val (.ref aa), .val (.ref ab), .val (.ref b18), .val (.ref b28), .val (.int rr), .val (.int er)] [(.int (1 : Int32))]))
              refine own_go (fun tq kq => XS.goto X48.here hx rfl (pc0 := 302) (pc' := 306) rfl (hb hby at_302) (by decide) (by decide) kq) ?_
              show own_Rn p e below _ (T48.setTop (mkF m 306 #[.val (.long l0), .second, .val (.long l1), .second, .val (.int sh), .val (.int (Int32.ofNat K1)), .val (.int (Int32.ofNat K2)), .val (.int c0), .val (.int c1), .val (.int c2), .val (.int bb0), .val (.int bb1), .val (.int bb2), .val (.ref aa), .val (.ref ab), .val (.ref b18), .val (.ref b28), .val (.int rr), .val (.int er)] [(.int (1 : Int32))]))
              exact own_retS X48 hSr32 (by rw [eh48]; omega) (v := some (.int (nar .boolean (1 : Int32)))) (fun h => by rw [Bd.returns] at h; cases h) (fun fs hr => retN X48 hx (t := .boolean) Bd.returns (by simp) (hb hby at_306) hr) (by rw [eh48]; exact ⟨rfl, N48⟩) (by rw [hh, eh48]; exact CR37.trans (CHv.at X48 hZ32 hEL CR37.1)) (by decide) (by decide)
            · skip
              refine own_go (fun tq kq => XS.ifYes X48.here hx rfl (pc0 := 280) (pc' := 287) rfl (hb hby at_280) rfl ((if0 _ _).trans (flt (g2 : ¬ ((0 : Int32) < rr))).2.2.2) (by decide) (by decide) kq) ?_
              show own_Rn p e below _ (T48.setTop (mkF m 287 #[.val (.long l0), .second, .val (.long l1), .second, .val (.int sh), .val (.int (Int32.ofNat K1)), .val (.int (Int32.ofNat K2)), .val (.int c0), .val (.int c1), .val (.int c2), .val (.int bb0), .val (.int bb1), .val (.int bb2), .val (.ref aa), .val (.ref ab), .val (.ref b18), .val (.ref b28), .val (.int rr), .val (.int er)] []))
              refine own_go (fun tq kq => XS.iconst X48.here hx rfl (hb hby at_287) kq) ?_
              show own_Rn p e below _ (T48.setTop (mkF m 288 #[.val (.long l0), .second, .val (.long l1), .second, .val (.int sh), .val (.int (Int32.ofNat K1)), .val (.int (Int32.ofNat K2)), .val (.int c0), .val (.int c1), .val (.int c2), .val (.int bb0), .val (.int bb1), .val (.int bb2), .val (.ref aa), .val (.ref ab), .val (.ref b18), .val (.ref b28), .val (.int rr), .val (.int er)] [(.int (0 : Int32))]))
              refine own_go (fun tq kq => XS.iload X48.here hx rfl (hb hby at_288) rfl kq) ?_
              show own_Rn p e below _ (T48.setTop (mkF m 290 #[.val (.long l0), .second, .val (.long l1), .second, .val (.int sh), .val (.int (Int32.ofNat K1)), .val (.int (Int32.ofNat K2)), .val (.int c0), .val (.int c1), .val (.int c2), .val (.int bb0), .val (.int bb1), .val (.int bb2), .val (.ref aa), .val (.ref ab), .val (.ref b18), .val (.ref b28), .val (.int rr), .val (.int er)] [(.int er), (.int (0 : Int32))]))
              refine own_go (fun tq kq => XS.ifYes X48.here hx rfl (pc0 := 290) (pc' := 297) rfl (hb hby at_290) rfl ((if0 _ _).trans (flt ((fun h => g2 (i2.mpr h)) : ¬ ((0 : Int32) < er))).2.2.2) (by decide) (by decide) kq) ?_
              show own_Rn p e below _ (T48.setTop (mkF m 297 #[.val (.long l0), .second, .val (.long l1), .second, .val (.int sh), .val (.int (Int32.ofNat K1)), .val (.int (Int32.ofNat K2)), .val (.int c0), .val (.int c1), .val (.int c2), .val (.int bb0), .val (.int bb1), .val (.int bb2), .val (.ref aa), .val (.ref ab), .val (.ref b18), .val (.ref b28), .val (.int rr), .val (.int er)] [(.int (0 : Int32))]))
              refine own_go (fun tq kq => XS.iconst X48.here hx rfl (hb hby at_297) kq) ?_
              show own_Rn p e below _ (T48.setTop (mkF m 298 #[.val (.long l0), .second, .val (.long l1), .second, .val (.int sh), .val (.int (Int32.ofNat K1)), .val (.int (Int32.ofNat K2)), .val (.int c0), .val (.int c1), .val (.int c2), .val (.int bb0), .val (.int bb1), .val (.int bb2), .val (.ref aa), .val (.ref ab), .val (.ref b18), .val (.ref b28), .val (.int rr), .val (.int er)] [(.int (0 : Int32)), (.int (0 : Int32))]))
              refine own_go (fun tq kq => XS.icmpNo X48.here hx rfl (hb hby at_298) rfl (teq (rfl : (0 : Int32) = (0 : Int32))).2 kq) ?_
              show own_Rn p e below _ (T48.setTop (mkF m 301 #[.val (.long l0), .second, .val (.long l1), .second, .val (.int sh), .val (.int (Int32.ofNat K1)), .val (.int (Int32.ofNat K2)), .val (.int c0), .val (.int c1), .val (.int c2), .val (.int bb0), .val (.int bb1), .val (.int bb2), .val (.ref aa), .val (.ref ab), .val (.ref b18), .val (.ref b28), .val (.int rr), .val (.int er)] []))
              refine own_go (fun tq kq => XS.iconst X48.here hx rfl (hb hby at_301) kq) ?_
              show own_Rn p e below _ (T48.setTop (mkF m 302 #[.val (.long l0), .second, .val (.long l1), .second, .val (.int sh), .val (.int (Int32.ofNat K1)), .val (.int (Int32.ofNat K2)), .val (.int c0), .val (.int c1), .val (.int c2), .val (.int bb0), .val (.int bb1), .val (.int bb2), .val (.ref aa), .val (.ref ab), .val (.ref b18), .val (.ref b28), .val (.int rr), .val (.int er)] [(.int (1 : Int32))]))
              refine own_go (fun tq kq => XS.goto X48.here hx rfl (pc0 := 302) (pc' := 306) rfl (hb hby at_302) (by decide) (by decide) kq) ?_
              show own_Rn p e below _ (T48.setTop (mkF m 306 #[.val (.long l0), .second, .val (.long l1), .second, .val (.int sh), .val (.int (Int32.ofNat K1)), .val (.int (Int32.ofNat K2)), .val (.int c0), .val (.int c1), .val (.int c2), .val (.int bb0), .val (.int bb1), .val (.int bb2), .val (.ref aa), .val (.ref ab), .val (.ref b18), .val (.ref b28), .val (.int rr), .val (.int er)] [(.int (1 : Int32))]))
              exact own_retS X48 hSr32 (by rw [eh48]; omega) (v := some (.int (nar .boolean (1 : Int32)))) (fun h => by rw [Bd.returns] at h; cases h) (fun fs hr => retN X48 hx (t := .boolean) Bd.returns (by simp) (hb hby at_306) hr) (by rw [eh48]; exact ⟨rfl, N48⟩) (by rw [hh, eh48]; exact CR37.trans (CHv.at X48 hZ32 hEL CR37.1)) (by decide) (by decide)
          · skip
            refine own_go (fun tq kq => XS.ifYes X48.here hx rfl (pc0 := 257) (pc' := 264) rfl (hb hby at_257) rfl ((if0 _ _).trans (flt (g1 : ¬ (rr < (0 : Int32)))).2.1) (by decide) (by decide) kq) ?_
            show own_Rn p e below _ (T48.setTop (mkF m 264 #[.val (.long l0), .second, .val (.long l1), .second, .val (.int sh), .val (.int (Int32.ofNat K1)), .val (.int (Int32.ofNat K2)), .val (.int c0), .val (.int c1), .val (.int c2), .val (.int bb0), .val (.int bb1), .val (.int bb2), .val (.ref aa), .val (.ref ab), .val (.ref b18), .val (.ref b28), .val (.int rr), .val (.int er)] []))
            refine own_go (fun tq kq => XS.iconst X48.here hx rfl (hb hby at_264) kq) ?_
            show own_Rn p e below _ (T48.setTop (mkF m 265 #[.val (.long l0), .second, .val (.long l1), .second, .val (.int sh), .val (.int (Int32.ofNat K1)), .val (.int (Int32.ofNat K2)), .val (.int c0), .val (.int c1), .val (.int c2), .val (.int bb0), .val (.int bb1), .val (.int bb2), .val (.ref aa), .val (.ref ab), .val (.ref b18), .val (.ref b28), .val (.int rr), .val (.int er)] [(.int (0 : Int32))]))
            refine own_go (fun tq kq => XS.iload X48.here hx rfl (hb hby at_265) rfl kq) ?_
            show own_Rn p e below _ (T48.setTop (mkF m 267 #[.val (.long l0), .second, .val (.long l1), .second, .val (.int sh), .val (.int (Int32.ofNat K1)), .val (.int (Int32.ofNat K2)), .val (.int c0), .val (.int c1), .val (.int c2), .val (.int bb0), .val (.int bb1), .val (.int bb2), .val (.ref aa), .val (.ref ab), .val (.ref b18), .val (.ref b28), .val (.int rr), .val (.int er)] [(.int er), (.int (0 : Int32))]))
            refine own_go (fun tq kq => XS.ifYes X48.here hx rfl (pc0 := 267) (pc' := 274) rfl (hb hby at_267) rfl ((if0 _ _).trans (flt ((fun h => g1 (i1.mpr h)) : ¬ (er < (0 : Int32)))).2.1) (by decide) (by decide) kq) ?_
            show own_Rn p e below _ (T48.setTop (mkF m 274 #[.val (.long l0), .second, .val (.long l1), .second, .val (.int sh), .val (.int (Int32.ofNat K1)), .val (.int (Int32.ofNat K2)), .val (.int c0), .val (.int c1), .val (.int c2), .val (.int bb0), .val (.int bb1), .val (.int bb2), .val (.ref aa), .val (.ref ab), .val (.ref b18), .val (.ref b28), .val (.int rr), .val (.int er)] [(.int (0 : Int32))]))
            refine own_go (fun tq kq => XS.iconst X48.here hx rfl (hb hby at_274) kq) ?_
            show own_Rn p e below _ (T48.setTop (mkF m 275 #[.val (.long l0), .second, .val (.long l1), .second, .val (.int sh), .val (.int (Int32.ofNat K1)), .val (.int (Int32.ofNat K2)), .val (.int c0), .val (.int c1), .val (.int c2), .val (.int bb0), .val (.int bb1), .val (.int bb2), .val (.ref aa), .val (.ref ab), .val (.ref b18), .val (.ref b28), .val (.int rr), .val (.int er)] [(.int (0 : Int32)), (.int (0 : Int32))]))
            refine own_go (fun tq kq => XS.icmpNo X48.here hx rfl (hb hby at_275) rfl (teq (rfl : (0 : Int32) = (0 : Int32))).2 kq) ?_
            show own_Rn p e below _ (T48.setTop (mkF m 278 #[.val (.long l0), .second, .val (.long l1), .second, .val (.int sh), .val (.int (Int32.ofNat K1)), .val (.int (Int32.ofNat K2)), .val (.int c0), .val (.int c1), .val (.int c2), .val (.int bb0), .val (.int bb1), .val (.int bb2), .val (.ref aa), .val (.ref ab), .val (.ref b18), .val (.ref b28), .val (.int rr), .val (.int er)] []))
            refine own_go (fun tq kq => XS.iload X48.here hx rfl (hb hby at_278) rfl kq) ?_
            show own_Rn p e below _ (T48.setTop (mkF m 280 #[.val (.long l0), .second, .val (.long l1), .second, .val (.int sh), .val (.int (Int32.ofNat K1)), .val (.int (Int32.ofNat K2)), .val (.int c0), .val (.int c1), .val (.int c2), .val (.int bb0), .val (.int bb1), .val (.int bb2), .val (.ref aa), .val (.ref ab), .val (.ref b18), .val (.ref b28), .val (.int rr), .val (.int er)] [(.int rr)]))
            by_cases g2 : (0 : Int32) < rr
            · skip
              refine own_go (fun tq kq => XS.ifNo X48.here hx rfl (hb hby at_280) rfl ((if0 _ _).trans (tlt (g2 : (0 : Int32) < rr)).2.2.2) kq) ?_
              show own_Rn p e below _ (T48.setTop (mkF m 283 #[.val (.long l0), .second, .val (.long l1), .second, .val (.int sh), .val (.int (Int32.ofNat K1)), .val (.int (Int32.ofNat K2)), .val (.int c0), .val (.int c1), .val (.int c2), .val (.int bb0), .val (.int bb1), .val (.int bb2), .val (.ref aa), .val (.ref ab), .val (.ref b18), .val (.ref b28), .val (.int rr), .val (.int er)] []))
              refine own_go (fun tq kq => XS.iconst X48.here hx rfl (hb hby at_283) kq) ?_
              show own_Rn p e below _ (T48.setTop (mkF m 284 #[.val (.long l0), .second, .val (.long l1), .second, .val (.int sh), .val (.int (Int32.ofNat K1)), .val (.int (Int32.ofNat K2)), .val (.int c0), .val (.int c1), .val (.int c2), .val (.int bb0), .val (.int bb1), .val (.int bb2), .val (.ref aa), .val (.ref ab), .val (.ref b18), .val (.ref b28), .val (.int rr), .val (.int er)] [(.int (1 : Int32))]))
              refine own_go (fun tq kq => XS.goto X48.here hx rfl (pc0 := 284) (pc' := 288) rfl (hb hby at_284) (by decide) (by decide) kq) ?_
              show own_Rn p e below _ (T48.setTop (mkF m 288 #[.val (.long l0), .second, .val (.long l1), .second, .val (.int sh), .val (.int (Int32.ofNat K1)), .val (.int (Int32.ofNat K2)), .val (.int c0), .val (.int c1), .val (.int c2), .val (.int bb0), .val (.int bb1), .val (.int bb2), .val (.ref aa), .val (.ref ab), .val (.ref b18), .val (.ref b28), .val (.int rr), .val (.int er)] [(.int (1 : Int32))]))
              refine own_go (fun tq kq => XS.iload X48.here hx rfl (hb hby at_288) rfl kq) ?_
              show own_Rn p e below _ (T48.setTop (mkF m 290 #[.val (.long l0), .second, .val (.long l1), .second, .val (.int sh), .val (.int (Int32.ofNat K1)), .val (.int (Int32.ofNat K2)), .val (.int c0), .val (.int c1), .val (.int c2), .val (.int bb0), .val (.int bb1), .val (.int bb2), .val (.ref aa), .val (.ref ab), .val (.ref b18), .val (.ref b28), .val (.int rr), .val (.int er)] [(.int er), (.int (1 : Int32))]))
              refine own_go (fun tq kq => XS.ifNo X48.here hx rfl (hb hby at_290) rfl ((if0 _ _).trans (tlt ((i2.mp g2) : (0 : Int32) < er)).2.2.2) kq) ?_
              show own_Rn p e below _ (T48.setTop (mkF m 293 #[.val (.long l0), .second, .val (.long l1), .second, .val (.int sh), .val (.int (Int32.ofNat K1)), .val (.int (Int32.ofNat K2)), .val (.int c0), .val (.int c1), .val (.int c2), .val (.int bb0), .val (.int bb1), .val (.int bb2), .val (.ref aa), .val (.ref ab), .val (.ref b18), .val (.ref b28), .val (.int rr), .val (.int er)] [(.int (1 : Int32))]))
              refine own_go (fun tq kq => XS.iconst X48.here hx rfl (hb hby at_293) kq) ?_
              show own_Rn p e below _ (T48.setTop (mkF m 294 #[.val (.long l0), .second, .val (.long l1), .second, .val (.int sh), .val (.int (Int32.ofNat K1)), .val (.int (Int32.ofNat K2)), .val (.int c0), .val (.int c1), .val (.int c2), .val (.int bb0), .val (.int bb1), .val (.int bb2), .val (.ref aa), .val (.ref ab), .val (.ref b18), .val (.ref b28), .val (.int rr), .val (.int er)] [(.int (1 : Int32)), (.int (1 : Int32))]))
              refine own_go (fun tq kq => XS.goto X48.here hx rfl (pc0 := 294) (pc' := 298) rfl (hb hby at_294) (by decide) (by decide) kq) ?_
              show own_Rn p e below _ (T48.setTop (mkF m 298 #[.val (.long l0), .second, .val (.long l1), .second, .val (.int sh), .val (.int (Int32.ofNat K1)), .val (.int (Int32.ofNat K2)), .val (.int c0), .val (.int c1), .val (.int c2), .val (.int bb0), .val (.int bb1), .val (.int bb2), .val (.ref aa), .val (.ref ab), .val (.ref b18), .val (.ref b28), .val (.int rr), .val (.int er)] [(.int (1 : Int32)), (.int (1 : Int32))]))
              refine own_go (fun tq kq => XS.icmpNo X48.here hx rfl (hb hby at_298) rfl (teq (rfl : (1 : Int32) = (1 : Int32))).2 kq) ?_
              show own_Rn p e below _ (T48.setTop (mkF m 301 #[.val (.long l0), .second, .val (.long l1), .second, .val (.int sh), .val (.int (Int32.ofNat K1)), .val (.int (Int32.ofNat K2)), .val (.int c0), .val (.int c1), .val (.int c2), .val (.int bb0), .val (.int bb1), .val (.int bb2), .val (.ref aa), .val (.ref ab), .val (.ref b18), .val (.ref b28), .val (.int rr), .val (.int er)] []))
              refine own_go (fun tq kq => XS.iconst X48.here hx rfl (hb hby at_301) kq) ?_
              show own_Rn p e below _ (T48.setTop (mkF m 302 #[.val (.long l0), .second, .val (.long l1), .second, .val (.int sh), .val (.int (Int32.ofNat K1)), .val (.int (Int32.ofNat K2)), .val (.int c0), .val (.int c1), .val (.int c2), .val (.int bb0), .val (.int bb1), .val (.int bb2), .val (.ref aa), .val (.ref ab), .val (.ref b18), .val (.ref b28), .val (.int rr), .val (.int er)] [(.int (1 : Int32))]))
              refine own_go (fun tq kq => XS.goto X48.here hx rfl (pc0 := 302) (pc' := 306) rfl (hb hby at_302) (by decide) (by decide) kq) ?_
              show own_Rn p e below _ (T48.setTop (mkF m 306 #[.val (.long l0), .second, .val (.long l1), .second, .val (.int sh), .val (.int (Int32.ofNat K1)), .val (.int (Int32.ofNat K2)), .val (.int c0), .val (.int c1), .val (.int c2), .val (.int bb0), .val (.int bb1), .val (.int bb2), .val (.ref aa), .val (.ref ab), .val (.ref b18), .val (.ref b28), .val (.int rr), .val (.int er)] [(.int (1 : Int32))]))
              exact own_retS X48 hSr32 (by rw [eh48]; omega) (v := some (.int (nar .boolean (1 : Int32)))) (fun h => by rw [Bd.returns] at h; cases h) (fun fs hr => retN X48 hx (t := .boolean) Bd.returns (by simp) (hb hby at_306) hr) (by rw [eh48]; exact ⟨rfl, N48⟩) (by rw [hh, eh48]; exact CR37.trans (CHv.at X48 hZ32 hEL CR37.1)) (by decide) (by decide)
            · skip
              refine own_go (fun tq kq => XS.ifYes X48.here hx rfl (pc0 := 280) (pc' := 287) rfl (hb hby at_280) rfl ((if0 _ _).trans (flt (g2 : ¬ ((0 : Int32) < rr))).2.2.2) (by decide) (by decide) kq) ?_
              show own_Rn p e below _ (T48.setTop (mkF m 287 #[.val (.long l0), .second, .val (.long l1), .second, .val (.int sh), .val (.int (Int32.ofNat K1)), .val (.int (Int32.ofNat K2)), .val (.int c0), .val (.int c1), .val (.int c2), .val (.int bb0), .val (.int bb1), .val (.int bb2), .val (.ref aa), .val (.ref ab), .val (.ref b18), .val (.ref b28), .val (.int rr), .val (.int er)] []))
              refine own_go (fun tq kq => XS.iconst X48.here hx rfl (hb hby at_287) kq) ?_
              show own_Rn p e below _ (T48.setTop (mkF m 288 #[.val (.long l0), .second, .val (.long l1), .second, .val (.int sh), .val (.int (Int32.ofNat K1)), .val (.int (Int32.ofNat K2)), .val (.int c0), .val (.int c1), .val (.int c2), .val (.int bb0), .val (.int bb1), .val (.int bb2), .val (.ref aa), .val (.ref ab), .val (.ref b18), .val (.ref b28), .val (.int rr), .val (.int er)] [(.int (0 : Int32))]))
              refine own_go (fun tq kq => XS.iload X48.here hx rfl (hb hby at_288) rfl kq) ?_
              show own_Rn p e below _ (T48.setTop (mkF m 290 #[.val (.long l0), .second, .val (.long l1), .second, .val (.int sh), .val (.int (Int32.ofNat K1)), .val (.int (Int32.ofNat K2)), .val (.int c0), .val (.int c1), .val (.int c2), .val (.int bb0), .val (.int bb1), .val (.int bb2), .val (.ref aa), .val (.ref ab), .val (.ref b18), .val (.ref b28), .val (.int rr), .val (.int er)] [(.int er), (.int (0 : Int32))]))
              refine own_go (fun tq kq => XS.ifYes X48.here hx rfl (pc0 := 290) (pc' := 297) rfl (hb hby at_290) rfl ((if0 _ _).trans (flt ((fun h => g2 (i2.mpr h)) : ¬ ((0 : Int32) < er))).2.2.2) (by decide) (by decide) kq) ?_
              show own_Rn p e below _ (T48.setTop (mkF m 297 #[.val (.long l0), .second, .val (.long l1), .second, .val (.int sh), .val (.int (Int32.ofNat K1)), .val (.int (Int32.ofNat K2)), .val (.int c0), .val (.int c1), .val (.int c2), .val (.int bb0), .val (.int bb1), .val (.int bb2), .val (.ref aa), .val (.ref ab), .val (.ref b18), .val (.ref b28), .val (.int rr), .val (.int er)] [(.int (0 : Int32))]))
              refine own_go (fun tq kq => XS.iconst X48.here hx rfl (hb hby at_297) kq) ?_
              show own_Rn p e below _ (T48.setTop (mkF m 298 #[.val (.long l0), .second, .val (.long l1), .second, .val (.int sh), .val (.int (Int32.ofNat K1)), .val (.int (Int32.ofNat K2)), .val (.int c0), .val (.int c1), .val (.int c2), .val (.int bb0), .val (.int bb1), .val (.int bb2), .val (.ref aa), .val (.ref ab), .val (.ref b18), .val (.ref b28), .val (.int rr), .val (.int er)] [(.int (0 : Int32)), (.int (0 : Int32))]))
              refine own_go (fun tq kq => XS.icmpNo X48.here hx rfl (hb hby at_298) rfl (teq (rfl : (0 : Int32) = (0 : Int32))).2 kq) ?_
              show own_Rn p e below _ (T48.setTop (mkF m 301 #[.val (.long l0), .second, .val (.long l1), .second, .val (.int sh), .val (.int (Int32.ofNat K1)), .val (.int (Int32.ofNat K2)), .val (.int c0), .val (.int c1), .val (.int c2), .val (.int bb0), .val (.int bb1), .val (.int bb2), .val (.ref aa), .val (.ref ab), .val (.ref b18), .val (.ref b28), .val (.int rr), .val (.int er)] []))
              refine own_go (fun tq kq => XS.iconst X48.here hx rfl (hb hby at_301) kq) ?_
              show own_Rn p e below _ (T48.setTop (mkF m 302 #[.val (.long l0), .second, .val (.long l1), .second, .val (.int sh), .val (.int (Int32.ofNat K1)), .val (.int (Int32.ofNat K2)), .val (.int c0), .val (.int c1), .val (.int c2), .val (.int bb0), .val (.int bb1), .val (.int bb2), .val (.ref aa), .val (.ref ab), .val (.ref b18), .val (.ref b28), .val (.int rr), .val (.int er)] [(.int (1 : Int32))]))
              refine own_go (fun tq kq => XS.goto X48.here hx rfl (pc0 := 302) (pc' := 306) rfl (hb hby at_302) (by decide) (by decide) kq) ?_
              show own_Rn p e below _ (T48.setTop (mkF m 306 #[.val (.long l0), .second, .val (.long l1), .second, .val (.int sh), .val (.int (Int32.ofNat K1)), .val (.int (Int32.ofNat K2)), .val (.int c0), .val (.int c1), .val (.int c2), .val (.int bb0), .val (.int bb1), .val (.int bb2), .val (.ref aa), .val (.ref ab), .val (.ref b18), .val (.ref b28), .val (.int rr), .val (.int er)] [(.int (1 : Int32))]))
              exact own_retS X48 hSr32 (by rw [eh48]; omega) (v := some (.int (nar .boolean (1 : Int32)))) (fun h => by rw [Bd.returns] at h; cases h) (fun fs hr => retN X48 hx (t := .boolean) Bd.returns (by simp) (hb hby at_306) hr) (by rw [eh48]; exact ⟨rfl, N48⟩) (by rw [hh, eh48]; exact CR37.trans (CHv.at X48 hZ32 hEL CR37.1)) (by decide) (by decide)
        have J150 : ∀ (bb0 bb1 : Int32) (Tl : State) (hl : Heap) (ls : List Loc), (¬ bb0 < 0 ∧ ¬ (65535 : Int32) < bb0) → (¬ bb1 < 0 ∧ ¬ (65535 : Int32) < bb1) → Stand p l e room_1 (s.setVm s.vm) m #[(.long l0), (.long l1), (.int sh)] below meth c Tl ls 5 40 → Tl.heap = hl → Fr n0 ls → n0 ≤ hl.size → h0.size ≤ hl.size → Old Z n0 hl → CHr Z consts_1 s.vm h0 s.vm hl → own_Rn p e below (fun o U' => ∃ v L, o = .returned v ∧ Q_rm0 Z l0 l1 sh G1 G3 h0 n0 v U'.heap L ∧ CHr Z consts_1 s.vm s.heap U'.vm U'.heap ∧ ReturnedEndW s o U' L 40 1280) (Tl.setTop (mkF m 150 #[.val (.long l0), .second, .val (.long l1), .second, .val (.int sh), .val (.int (Int32.ofNat K1)), .val (.int (Int32.ofNat K2)), .val (.int c0), .val (.int c1), .val (.int c2), .val (.int bb0), .unset, .unset, .unset, .unset, .unset, .unset, .unset, .unset] [(.int bb1)])) := by
          intro bb0 bb1 Tl hl ls rb0 rb1 Xl el Nl zl zl2 Ol CRl
          refine own_go (fun tq kq => XS.istore Xl.here hx rfl (hb hby at_150) rfl (l' := #[.val (.long l0), .second, .val (.long l1), .second, .val (.int sh), .val (.int (Int32.ofNat K1)), .val (.int (Int32.ofNat K2)), .val (.int c0), .val (.int c1), .val (.int c2), .val (.int bb0), .val (.int bb1), .unset, .unset, .unset, .unset, .unset, .unset, .unset]) rfl kq) ?_
          show own_Rn p e below _ (Tl.setTop (mkF m 152 #[.val (.long l0), .second, .val (.long l1), .second, .val (.int sh), .val (.int (Int32.ofNat K1)), .val (.int (Int32.ofNat K2)), .val (.int c0), .val (.int c1), .val (.int c2), .val (.int bb0), .val (.int bb1), .unset, .unset, .unset, .unset, .unset, .unset, .unset] []))
          refine own_go (fun tq kq => XS.iload Xl.here hx rfl (hb hby at_152) rfl kq) ?_
          show own_Rn p e below _ (Tl.setTop (mkF m 154 #[.val (.long l0), .second, .val (.long l1), .second, .val (.int sh), .val (.int (Int32.ofNat K1)), .val (.int (Int32.ofNat K2)), .val (.int c0), .val (.int c1), .val (.int c2), .val (.int bb0), .val (.int bb1), .unset, .unset, .unset, .unset, .unset, .unset, .unset] [(.int sh)]))
          refine own_go (fun tq kq => XS.bipush Xl.here hx rfl (hb hby at_154) kq) ?_
          show own_Rn p e below _ (Tl.setTop (mkF m 156 #[.val (.long l0), .second, .val (.long l1), .second, .val (.int sh), .val (.int (Int32.ofNat K1)), .val (.int (Int32.ofNat K2)), .val (.int c0), .val (.int c1), .val (.int c2), .val (.int bb0), .val (.int bb1), .unset, .unset, .unset, .unset, .unset, .unset, .unset] [(.int (12 : Int32)), (.int sh)]))
          refine own_go (fun tq kq => XS.iushr Xl.here hx rfl (hb hby at_156) rfl kq) ?_
          show own_Rn p e below _ (Tl.setTop (mkF m 157 #[.val (.long l0), .second, .val (.long l1), .second, .val (.int sh), .val (.int (Int32.ofNat K1)), .val (.int (Int32.ofNat K2)), .val (.int c0), .val (.int c1), .val (.int c2), .val (.int bb0), .val (.int bb1), .unset, .unset, .unset, .unset, .unset, .unset, .unset] [(.int ((sh.toUInt32 >>> ((12 : Int32) &&& 31).toUInt32).toInt32))]))
          refine own_go (fun tq kq => XS.iconst Xl.here hx rfl (hb hby at_157) kq) ?_
          show own_Rn p e below _ (Tl.setTop (mkF m 158 #[.val (.long l0), .second, .val (.long l1), .second, .val (.int sh), .val (.int (Int32.ofNat K1)), .val (.int (Int32.ofNat K2)), .val (.int c0), .val (.int c1), .val (.int c2), .val (.int bb0), .val (.int bb1), .unset, .unset, .unset, .unset, .unset, .unset, .unset] [(.int (1 : Int32)), (.int ((sh.toUInt32 >>> ((12 : Int32) &&& 31).toUInt32).toInt32))]))
          refine own_go (fun tq kq => XS.iand Xl.here hx rfl (hb hby at_158) rfl kq) ?_
          show own_Rn p e below _ (Tl.setTop (mkF m 159 #[.val (.long l0), .second, .val (.long l1), .second, .val (.int sh), .val (.int (Int32.ofNat K1)), .val (.int (Int32.ofNat K2)), .val (.int c0), .val (.int c1), .val (.int c2), .val (.int bb0), .val (.int bb1), .unset, .unset, .unset, .unset, .unset, .unset, .unset] [(.int (((sh.toUInt32 >>> ((12 : Int32) &&& 31).toUInt32).toInt32) &&& (1 : Int32)))]))
          by_cases hc54 : (((sh.toUInt32 >>> ((12 : Int32) &&& 31).toUInt32).toInt32) &&& (1 : Int32)) = (0 : Int32)
          · skip
            refine own_go (fun tq kq => XS.ifYes Xl.here hx rfl (pc0 := 159) (pc' := 167) rfl (hb hby at_159) rfl ((if0 _ _).trans (teq (hc54 : (((sh.toUInt32 >>> ((12 : Int32) &&& 31).toUInt32).toInt32) &&& (1 : Int32)) = (0 : Int32))).1) (by decide) (by decide) kq) ?_
            show own_Rn p e below _ (Tl.setTop (mkF m 167 #[.val (.long l0), .second, .val (.long l1), .second, .val (.int sh), .val (.int (Int32.ofNat K1)), .val (.int (Int32.ofNat K2)), .val (.int c0), .val (.int c1), .val (.int c2), .val (.int bb0), .val (.int bb1), .unset, .unset, .unset, .unset, .unset, .unset, .unset] []))
            refine own_go (fun tq kq => XS.lloadN Xl.here hx rfl (hb hby at_167) rfl kq) ?_
            show own_Rn p e below _ (Tl.setTop (mkF m 168 #[.val (.long l0), .second, .val (.long l1), .second, .val (.int sh), .val (.int (Int32.ofNat K1)), .val (.int (Int32.ofNat K2)), .val (.int c0), .val (.int c1), .val (.int c2), .val (.int bb0), .val (.int bb1), .unset, .unset, .unset, .unset, .unset, .unset, .unset] [(.long l1)]))
            refine own_go (fun tq kq => XS.iconst Xl.here hx rfl (hb hby at_168) kq) ?_
            show own_Rn p e below _ (Tl.setTop (mkF m 169 #[.val (.long l0), .second, .val (.long l1), .second, .val (.int sh), .val (.int (Int32.ofNat K1)), .val (.int (Int32.ofNat K2)), .val (.int c0), .val (.int c1), .val (.int c2), .val (.int bb0), .val (.int bb1), .unset, .unset, .unset, .unset, .unset, .unset, .unset] [(.int (2 : Int32)), (.long l1)]))
            refine own_go (fun tq kq => XS.iload Xl.here hx rfl (hb hby at_169) rfl kq) ?_
            show own_Rn p e below _ (Tl.setTop (mkF m 171 #[.val (.long l0), .second, .val (.long l1), .second, .val (.int sh), .val (.int (Int32.ofNat K1)), .val (.int (Int32.ofNat K2)), .val (.int c0), .val (.int c1), .val (.int c2), .val (.int bb0), .val (.int bb1), .unset, .unset, .unset, .unset, .unset, .unset, .unset] [(.int sh), (.int (2 : Int32)), (.long l1)]))
            refine own_go (fun tq kq => XS.bipush Xl.here hx rfl (hb hby at_171) kq) ?_
            show own_Rn p e below _ (Tl.setTop (mkF m 173 #[.val (.long l0), .second, .val (.long l1), .second, .val (.int sh), .val (.int (Int32.ofNat K1)), .val (.int (Int32.ofNat K2)), .val (.int c0), .val (.int c1), .val (.int c2), .val (.int bb0), .val (.int bb1), .unset, .unset, .unset, .unset, .unset, .unset, .unset] [(.int (9 : Int32)), (.int sh), (.int (2 : Int32)), (.long l1)]))
            refine own_go (fun tq kq => XS.iushr Xl.here hx rfl (hb hby at_173) rfl kq) ?_
            show own_Rn p e below _ (Tl.setTop (mkF m 174 #[.val (.long l0), .second, .val (.long l1), .second, .val (.int sh), .val (.int (Int32.ofNat K1)), .val (.int (Int32.ofNat K2)), .val (.int c0), .val (.int c1), .val (.int c2), .val (.int bb0), .val (.int bb1), .unset, .unset, .unset, .unset, .unset, .unset, .unset] [(.int ((sh.toUInt32 >>> ((9 : Int32) &&& 31).toUInt32).toInt32)), (.int (2 : Int32)), (.long l1)]))
            refine own_go (fun tq kq => XS.iconst Xl.here hx rfl (hb hby at_174) kq) ?_
            show own_Rn p e below _ (Tl.setTop (mkF m 175 #[.val (.long l0), .second, .val (.long l1), .second, .val (.int sh), .val (.int (Int32.ofNat K1)), .val (.int (Int32.ofNat K2)), .val (.int c0), .val (.int c1), .val (.int c2), .val (.int bb0), .val (.int bb1), .unset, .unset, .unset, .unset, .unset, .unset, .unset] [(.int (1 : Int32)), (.int ((sh.toUInt32 >>> ((9 : Int32) &&& 31).toUInt32).toInt32)), (.int (2 : Int32)), (.long l1)]))
            refine own_go (fun tq kq => XS.iand Xl.here hx rfl (hb hby at_175) rfl kq) ?_
            show own_Rn p e below _ (Tl.setTop (mkF m 176 #[.val (.long l0), .second, .val (.long l1), .second, .val (.int sh), .val (.int (Int32.ofNat K1)), .val (.int (Int32.ofNat K2)), .val (.int c0), .val (.int c1), .val (.int c2), .val (.int bb0), .val (.int bb1), .unset, .unset, .unset, .unset, .unset, .unset, .unset] [(.int (((sh.toUInt32 >>> ((9 : Int32) &&& 31).toUInt32).toInt32) &&& (1 : Int32))), (.int (2 : Int32)), (.long l1)]))
            have J55 : ∀ fl : Int32, own_Rn p e below (fun o U' => ∃ v L, o = .returned v ∧ Q_rm0 Z l0 l1 sh G1 G3 h0 n0 v U'.heap L ∧ CHr Z consts_1 s.vm s.heap U'.vm U'.heap ∧ ReturnedEndW s o U' L 40 1280) (Tl.setTop (mkF m 184 #[.val (.long l0), .second, .val (.long l1), .second, .val (.int sh), .val (.int (Int32.ofNat K1)), .val (.int (Int32.ofNat K2)), .val (.int c0), .val (.int c1), .val (.int c2), .val (.int bb0), .val (.int bb1), .unset, .unset, .unset, .unset, .unset, .unset, .unset] [(.int fl), (.int (2 : Int32)), (.long l1)])) := by
              intro fl
              have Zn56 : n0 ≤ hl.size := by omega
              obtain ⟨rv56, _, ⟨T56, L56, k56, n56⟩, -, X56, ⟨Lc56, hQ56, l56, y56, z56⟩, st56⟩ := Jvm.LawKit.callS Xl hx (y := (⟨"com/example/words_into_queries/wordsintoqueries/CodePointOrderComparePinLaw", "pick", "(JIZ)C"⟩ : MethodName)) hown (mvT hZ (hw _ (List.mem_of_getElem? (i := 0) rfl))) (mvT hZ (hw _ (List.mem_of_getElem? (i := 1) rfl))) (mvT hZ (hw _ (List.mem_of_getElem? (i := 2) rfl))) (mvT hZ (hw _ (List.mem_of_getElem? (i := 3) rfl))) (by decide) (backOf (W := 0) (rmPick l Z a0 hw [] (l1) ((2 : Int32)) (fl) hl n0 Zn56 ) hZ (hw _ (List.mem_of_getElem? (i := 3) rfl)) (hw _ (List.mem_of_getElem? (i := 2) rfl)) (by decide) (by decide)) (g := (mkF m 184 #[.val (.long l0), .second, .val (.long l1), .second, .val (.int sh), .val (.int (Int32.ofNat K1)), .val (.int (Int32.ofNat K2)), .val (.int c0), .val (.int c1), .val (.int c2), .val (.int bb0), .val (.int bb1), .unset, .unset, .unset, .unset, .unset, .unset, .unset] [(.int fl), (.int (2 : Int32)), (.long l1)])) rfl (by rw [hml]; rfl) (argsL := [(.long l1), (.int (2 : Int32)), (.int fl)]) (rest := []) (lenOf own_pd_28JIZ29C rfl) rfl (by show 2 * 0 + _ ≤ _; exact Nat.le_of_eq rfl) (hb hby at_184) (fun _ _ => ⟨rfl, el, (by decide : 5 + 1 ≤ _), (by decide : 40 + 8 ≤ _)⟩)
              dsimp only [Pt.U, Pt.locs, Pt.cells, Pt.slots] at X56 l56 y56 z56 st56 hQ56
              subst l56 y56 z56
              obtain ⟨pb, rfl, Nq56, Kq56, R_56⟩ := hQ56
              have N56 := Fr.app Nl Nq56
              have sz57 : hl.size ≤ T56.heap.size := Kq56.1
              have cr57 : CHr Z consts_1 s.vm hl s.vm T56.heap := CHr.keep Kq56 sf0 CRl.1
              have CR57 := CRl.trans cr57
              refine own_go st56 ?_
              show own_Rn p e below _ (T56.setTop (mkF m 187 #[.val (.long l0), .second, .val (.long l1), .second, .val (.int sh), .val (.int (Int32.ofNat K1)), .val (.int (Int32.ofNat K2)), .val (.int c0), .val (.int c1), .val (.int c2), .val (.int bb0), .val (.int bb1), .unset, .unset, .unset, .unset, .unset, .unset, .unset] [(.int pb)]))
              have F58 : Old Z n0 T56.heap := (Ol.keep Kq56 all0)
              exact J187 bb0 bb1 pb _ _ _ rb0 rb1 R_56 (X56.mono (by decide) (by decide)) rfl N56 (by omega) (by omega) F58 CR57
            by_cases hc59 : (((sh.toUInt32 >>> ((9 : Int32) &&& 31).toUInt32).toInt32) &&& (1 : Int32)) = (0 : Int32)
            · skip
              refine own_go (fun tq kq => XS.ifYes Xl.here hx rfl (pc0 := 176) (pc' := 183) rfl (hb hby at_176) rfl ((if0 _ _).trans (teq (hc59 : (((sh.toUInt32 >>> ((9 : Int32) &&& 31).toUInt32).toInt32) &&& (1 : Int32)) = (0 : Int32))).1) (by decide) (by decide) kq) ?_
              show own_Rn p e below _ (Tl.setTop (mkF m 183 #[.val (.long l0), .second, .val (.long l1), .second, .val (.int sh), .val (.int (Int32.ofNat K1)), .val (.int (Int32.ofNat K2)), .val (.int c0), .val (.int c1), .val (.int c2), .val (.int bb0), .val (.int bb1), .unset, .unset, .unset, .unset, .unset, .unset, .unset] [(.int (2 : Int32)), (.long l1)]))
              refine own_go (fun tq kq => XS.iconst Xl.here hx rfl (hb hby at_183) kq) ?_
              show own_Rn p e below _ (Tl.setTop (mkF m 184 #[.val (.long l0), .second, .val (.long l1), .second, .val (.int sh), .val (.int (Int32.ofNat K1)), .val (.int (Int32.ofNat K2)), .val (.int c0), .val (.int c1), .val (.int c2), .val (.int bb0), .val (.int bb1), .unset, .unset, .unset, .unset, .unset, .unset, .unset] [(.int (0 : Int32)), (.int (2 : Int32)), (.long l1)]))
              exact J55 _
            · skip
              refine own_go (fun tq kq => XS.ifNo Xl.here hx rfl (hb hby at_176) rfl ((if0 _ _).trans (feq (hc59 : ¬ ((((sh.toUInt32 >>> ((9 : Int32) &&& 31).toUInt32).toInt32) &&& (1 : Int32)) = (0 : Int32)))).1) kq) ?_
              show own_Rn p e below _ (Tl.setTop (mkF m 179 #[.val (.long l0), .second, .val (.long l1), .second, .val (.int sh), .val (.int (Int32.ofNat K1)), .val (.int (Int32.ofNat K2)), .val (.int c0), .val (.int c1), .val (.int c2), .val (.int bb0), .val (.int bb1), .unset, .unset, .unset, .unset, .unset, .unset, .unset] [(.int (2 : Int32)), (.long l1)]))
              refine own_go (fun tq kq => XS.iconst Xl.here hx rfl (hb hby at_179) kq) ?_
              show own_Rn p e below _ (Tl.setTop (mkF m 180 #[.val (.long l0), .second, .val (.long l1), .second, .val (.int sh), .val (.int (Int32.ofNat K1)), .val (.int (Int32.ofNat K2)), .val (.int c0), .val (.int c1), .val (.int c2), .val (.int bb0), .val (.int bb1), .unset, .unset, .unset, .unset, .unset, .unset, .unset] [(.int (1 : Int32)), (.int (2 : Int32)), (.long l1)]))
              refine own_go (fun tq kq => XS.goto Xl.here hx rfl (pc0 := 180) (pc' := 184) rfl (hb hby at_180) (by decide) (by decide) kq) ?_
              show own_Rn p e below _ (Tl.setTop (mkF m 184 #[.val (.long l0), .second, .val (.long l1), .second, .val (.int sh), .val (.int (Int32.ofNat K1)), .val (.int (Int32.ofNat K2)), .val (.int c0), .val (.int c1), .val (.int c2), .val (.int bb0), .val (.int bb1), .unset, .unset, .unset, .unset, .unset, .unset, .unset] [(.int (1 : Int32)), (.int (2 : Int32)), (.long l1)]))
              exact J55 _
          · skip
            refine own_go (fun tq kq => XS.ifNo Xl.here hx rfl (hb hby at_159) rfl ((if0 _ _).trans (feq (hc54 : ¬ ((((sh.toUInt32 >>> ((12 : Int32) &&& 31).toUInt32).toInt32) &&& (1 : Int32)) = (0 : Int32)))).1) kq) ?_
            show own_Rn p e below _ (Tl.setTop (mkF m 162 #[.val (.long l0), .second, .val (.long l1), .second, .val (.int sh), .val (.int (Int32.ofNat K1)), .val (.int (Int32.ofNat K2)), .val (.int c0), .val (.int c1), .val (.int c2), .val (.int bb0), .val (.int bb1), .unset, .unset, .unset, .unset, .unset, .unset, .unset] []))
            refine own_go (fun tq kq => XS.iload Xl.here hx rfl (hb hby at_162) rfl kq) ?_
            show own_Rn p e below _ (Tl.setTop (mkF m 164 #[.val (.long l0), .second, .val (.long l1), .second, .val (.int sh), .val (.int (Int32.ofNat K1)), .val (.int (Int32.ofNat K2)), .val (.int c0), .val (.int c1), .val (.int c2), .val (.int bb0), .val (.int bb1), .unset, .unset, .unset, .unset, .unset, .unset, .unset] [(.int c2)]))
            refine own_go (fun tq kq => XS.goto Xl.here hx rfl (pc0 := 164) (pc' := 187) rfl (hb hby at_164) (by decide) (by decide) kq) ?_
            show own_Rn p e below _ (Tl.setTop (mkF m 187 #[.val (.long l0), .second, .val (.long l1), .second, .val (.int sh), .val (.int (Int32.ofNat K1)), .val (.int (Int32.ofNat K2)), .val (.int c0), .val (.int c1), .val (.int c2), .val (.int bb0), .val (.int bb1), .unset, .unset, .unset, .unset, .unset, .unset, .unset] [(.int c2)]))
            exact J187 bb0 bb1 c2 _ _ _ rb0 rb1 rc2 (Xl.mono (by decide) (by decide)) el Nl (by omega) (by omega) Ol CRl
        have J113 : ∀ (bb0 : Int32) (Tl : State) (hl : Heap) (ls : List Loc), (¬ bb0 < 0 ∧ ¬ (65535 : Int32) < bb0) → Stand p l e room_1 (s.setVm s.vm) m #[(.long l0), (.long l1), (.int sh)] below meth c Tl ls 4 32 → Tl.heap = hl → Fr n0 ls → n0 ≤ hl.size → h0.size ≤ hl.size → Old Z n0 hl → CHr Z consts_1 s.vm h0 s.vm hl → own_Rn p e below (fun o U' => ∃ v L, o = .returned v ∧ Q_rm0 Z l0 l1 sh G1 G3 h0 n0 v U'.heap L ∧ CHr Z consts_1 s.vm s.heap U'.vm U'.heap ∧ ReturnedEndW s o U' L 40 1280) (Tl.setTop (mkF m 113 #[.val (.long l0), .second, .val (.long l1), .second, .val (.int sh), .val (.int (Int32.ofNat K1)), .val (.int (Int32.ofNat K2)), .val (.int c0), .val (.int c1), .val (.int c2), .unset, .unset, .unset, .unset, .unset, .unset, .unset, .unset, .unset] [(.int bb0)])) := by
          intro bb0 Tl hl ls rb0 Xl el Nl zl zl2 Ol CRl
          refine own_go (fun tq kq => XS.istore Xl.here hx rfl (hb hby at_113) rfl (l' := #[.val (.long l0), .second, .val (.long l1), .second, .val (.int sh), .val (.int (Int32.ofNat K1)), .val (.int (Int32.ofNat K2)), .val (.int c0), .val (.int c1), .val (.int c2), .val (.int bb0), .unset, .unset, .unset, .unset, .unset, .unset, .unset, .unset]) rfl kq) ?_
          show own_Rn p e below _ (Tl.setTop (mkF m 115 #[.val (.long l0), .second, .val (.long l1), .second, .val (.int sh), .val (.int (Int32.ofNat K1)), .val (.int (Int32.ofNat K2)), .val (.int c0), .val (.int c1), .val (.int c2), .val (.int bb0), .unset, .unset, .unset, .unset, .unset, .unset, .unset, .unset] []))
          refine own_go (fun tq kq => XS.iload Xl.here hx rfl (hb hby at_115) rfl kq) ?_
          show own_Rn p e below _ (Tl.setTop (mkF m 117 #[.val (.long l0), .second, .val (.long l1), .second, .val (.int sh), .val (.int (Int32.ofNat K1)), .val (.int (Int32.ofNat K2)), .val (.int c0), .val (.int c1), .val (.int c2), .val (.int bb0), .unset, .unset, .unset, .unset, .unset, .unset, .unset, .unset] [(.int sh)]))
          refine own_go (fun tq kq => XS.bipush Xl.here hx rfl (hb hby at_117) kq) ?_
          show own_Rn p e below _ (Tl.setTop (mkF m 119 #[.val (.long l0), .second, .val (.long l1), .second, .val (.int sh), .val (.int (Int32.ofNat K1)), .val (.int (Int32.ofNat K2)), .val (.int c0), .val (.int c1), .val (.int c2), .val (.int bb0), .unset, .unset, .unset, .unset, .unset, .unset, .unset, .unset] [(.int (11 : Int32)), (.int sh)]))
          refine own_go (fun tq kq => XS.iushr Xl.here hx rfl (hb hby at_119) rfl kq) ?_
          show own_Rn p e below _ (Tl.setTop (mkF m 120 #[.val (.long l0), .second, .val (.long l1), .second, .val (.int sh), .val (.int (Int32.ofNat K1)), .val (.int (Int32.ofNat K2)), .val (.int c0), .val (.int c1), .val (.int c2), .val (.int bb0), .unset, .unset, .unset, .unset, .unset, .unset, .unset, .unset] [(.int ((sh.toUInt32 >>> ((11 : Int32) &&& 31).toUInt32).toInt32))]))
          refine own_go (fun tq kq => XS.iconst Xl.here hx rfl (hb hby at_120) kq) ?_
          show own_Rn p e below _ (Tl.setTop (mkF m 121 #[.val (.long l0), .second, .val (.long l1), .second, .val (.int sh), .val (.int (Int32.ofNat K1)), .val (.int (Int32.ofNat K2)), .val (.int c0), .val (.int c1), .val (.int c2), .val (.int bb0), .unset, .unset, .unset, .unset, .unset, .unset, .unset, .unset] [(.int (1 : Int32)), (.int ((sh.toUInt32 >>> ((11 : Int32) &&& 31).toUInt32).toInt32))]))
          refine own_go (fun tq kq => XS.iand Xl.here hx rfl (hb hby at_121) rfl kq) ?_
          show own_Rn p e below _ (Tl.setTop (mkF m 122 #[.val (.long l0), .second, .val (.long l1), .second, .val (.int sh), .val (.int (Int32.ofNat K1)), .val (.int (Int32.ofNat K2)), .val (.int c0), .val (.int c1), .val (.int c2), .val (.int bb0), .unset, .unset, .unset, .unset, .unset, .unset, .unset, .unset] [(.int (((sh.toUInt32 >>> ((11 : Int32) &&& 31).toUInt32).toInt32) &&& (1 : Int32)))]))
          by_cases hc60 : (((sh.toUInt32 >>> ((11 : Int32) &&& 31).toUInt32).toInt32) &&& (1 : Int32)) = (0 : Int32)
          · skip
            refine own_go (fun tq kq => XS.ifYes Xl.here hx rfl (pc0 := 122) (pc' := 130) rfl (hb hby at_122) rfl ((if0 _ _).trans (teq (hc60 : (((sh.toUInt32 >>> ((11 : Int32) &&& 31).toUInt32).toInt32) &&& (1 : Int32)) = (0 : Int32))).1) (by decide) (by decide) kq) ?_
            show own_Rn p e below _ (Tl.setTop (mkF m 130 #[.val (.long l0), .second, .val (.long l1), .second, .val (.int sh), .val (.int (Int32.ofNat K1)), .val (.int (Int32.ofNat K2)), .val (.int c0), .val (.int c1), .val (.int c2), .val (.int bb0), .unset, .unset, .unset, .unset, .unset, .unset, .unset, .unset] []))
            refine own_go (fun tq kq => XS.lloadN Xl.here hx rfl (hb hby at_130) rfl kq) ?_
            show own_Rn p e below _ (Tl.setTop (mkF m 131 #[.val (.long l0), .second, .val (.long l1), .second, .val (.int sh), .val (.int (Int32.ofNat K1)), .val (.int (Int32.ofNat K2)), .val (.int c0), .val (.int c1), .val (.int c2), .val (.int bb0), .unset, .unset, .unset, .unset, .unset, .unset, .unset, .unset] [(.long l1)]))
            refine own_go (fun tq kq => XS.iconst Xl.here hx rfl (hb hby at_131) kq) ?_
            show own_Rn p e below _ (Tl.setTop (mkF m 132 #[.val (.long l0), .second, .val (.long l1), .second, .val (.int sh), .val (.int (Int32.ofNat K1)), .val (.int (Int32.ofNat K2)), .val (.int c0), .val (.int c1), .val (.int c2), .val (.int bb0), .unset, .unset, .unset, .unset, .unset, .unset, .unset, .unset] [(.int (1 : Int32)), (.long l1)]))
            refine own_go (fun tq kq => XS.iload Xl.here hx rfl (hb hby at_132) rfl kq) ?_
            show own_Rn p e below _ (Tl.setTop (mkF m 134 #[.val (.long l0), .second, .val (.long l1), .second, .val (.int sh), .val (.int (Int32.ofNat K1)), .val (.int (Int32.ofNat K2)), .val (.int c0), .val (.int c1), .val (.int c2), .val (.int bb0), .unset, .unset, .unset, .unset, .unset, .unset, .unset, .unset] [(.int sh), (.int (1 : Int32)), (.long l1)]))
            refine own_go (fun tq kq => XS.bipush Xl.here hx rfl (hb hby at_134) kq) ?_
            show own_Rn p e below _ (Tl.setTop (mkF m 136 #[.val (.long l0), .second, .val (.long l1), .second, .val (.int sh), .val (.int (Int32.ofNat K1)), .val (.int (Int32.ofNat K2)), .val (.int c0), .val (.int c1), .val (.int c2), .val (.int bb0), .unset, .unset, .unset, .unset, .unset, .unset, .unset, .unset] [(.int (8 : Int32)), (.int sh), (.int (1 : Int32)), (.long l1)]))
            refine own_go (fun tq kq => XS.iushr Xl.here hx rfl (hb hby at_136) rfl kq) ?_
            show own_Rn p e below _ (Tl.setTop (mkF m 137 #[.val (.long l0), .second, .val (.long l1), .second, .val (.int sh), .val (.int (Int32.ofNat K1)), .val (.int (Int32.ofNat K2)), .val (.int c0), .val (.int c1), .val (.int c2), .val (.int bb0), .unset, .unset, .unset, .unset, .unset, .unset, .unset, .unset] [(.int ((sh.toUInt32 >>> ((8 : Int32) &&& 31).toUInt32).toInt32)), (.int (1 : Int32)), (.long l1)]))
            refine own_go (fun tq kq => XS.iconst Xl.here hx rfl (hb hby at_137) kq) ?_
            show own_Rn p e below _ (Tl.setTop (mkF m 138 #[.val (.long l0), .second, .val (.long l1), .second, .val (.int sh), .val (.int (Int32.ofNat K1)), .val (.int (Int32.ofNat K2)), .val (.int c0), .val (.int c1), .val (.int c2), .val (.int bb0), .unset, .unset, .unset, .unset, .unset, .unset, .unset, .unset] [(.int (1 : Int32)), (.int ((sh.toUInt32 >>> ((8 : Int32) &&& 31).toUInt32).toInt32)), (.int (1 : Int32)), (.long l1)]))
            refine own_go (fun tq kq => XS.iand Xl.here hx rfl (hb hby at_138) rfl kq) ?_
            show own_Rn p e below _ (Tl.setTop (mkF m 139 #[.val (.long l0), .second, .val (.long l1), .second, .val (.int sh), .val (.int (Int32.ofNat K1)), .val (.int (Int32.ofNat K2)), .val (.int c0), .val (.int c1), .val (.int c2), .val (.int bb0), .unset, .unset, .unset, .unset, .unset, .unset, .unset, .unset] [(.int (((sh.toUInt32 >>> ((8 : Int32) &&& 31).toUInt32).toInt32) &&& (1 : Int32))), (.int (1 : Int32)), (.long l1)]))
            have J61 : ∀ fl : Int32, own_Rn p e below (fun o U' => ∃ v L, o = .returned v ∧ Q_rm0 Z l0 l1 sh G1 G3 h0 n0 v U'.heap L ∧ CHr Z consts_1 s.vm s.heap U'.vm U'.heap ∧ ReturnedEndW s o U' L 40 1280) (Tl.setTop (mkF m 147 #[.val (.long l0), .second, .val (.long l1), .second, .val (.int sh), .val (.int (Int32.ofNat K1)), .val (.int (Int32.ofNat K2)), .val (.int c0), .val (.int c1), .val (.int c2), .val (.int bb0), .unset, .unset, .unset, .unset, .unset, .unset, .unset, .unset] [(.int fl), (.int (1 : Int32)), (.long l1)])) := by
              intro fl
              have Zn62 : n0 ≤ hl.size := by omega
              obtain ⟨rv62, _, ⟨T62, L62, k62, n62⟩, -, X62, ⟨Lc62, hQ62, l62, y62, z62⟩, st62⟩ := Jvm.LawKit.callS Xl hx (y := (⟨"com/example/words_into_queries/wordsintoqueries/CodePointOrderComparePinLaw", "pick", "(JIZ)C"⟩ : MethodName)) hown (mvT hZ (hw _ (List.mem_of_getElem? (i := 0) rfl))) (mvT hZ (hw _ (List.mem_of_getElem? (i := 1) rfl))) (mvT hZ (hw _ (List.mem_of_getElem? (i := 2) rfl))) (mvT hZ (hw _ (List.mem_of_getElem? (i := 3) rfl))) (by decide) (backOf (W := 0) (rmPick l Z a0 hw [] (l1) ((1 : Int32)) (fl) hl n0 Zn62 ) hZ (hw _ (List.mem_of_getElem? (i := 3) rfl)) (hw _ (List.mem_of_getElem? (i := 2) rfl)) (by decide) (by decide)) (g := (mkF m 147 #[.val (.long l0), .second, .val (.long l1), .second, .val (.int sh), .val (.int (Int32.ofNat K1)), .val (.int (Int32.ofNat K2)), .val (.int c0), .val (.int c1), .val (.int c2), .val (.int bb0), .unset, .unset, .unset, .unset, .unset, .unset, .unset, .unset] [(.int fl), (.int (1 : Int32)), (.long l1)])) rfl (by rw [hml]; rfl) (argsL := [(.long l1), (.int (1 : Int32)), (.int fl)]) (rest := []) (lenOf own_pd_28JIZ29C rfl) rfl (by show 2 * 0 + _ ≤ _; exact Nat.le_of_eq rfl) (hb hby at_147) (fun _ _ => ⟨rfl, el, (by decide : 4 + 1 ≤ _), (by decide : 32 + 8 ≤ _)⟩)
              dsimp only [Pt.U, Pt.locs, Pt.cells, Pt.slots] at X62 l62 y62 z62 st62 hQ62
              subst l62 y62 z62
              obtain ⟨pb, rfl, Nq62, Kq62, R_62⟩ := hQ62
              have N62 := Fr.app Nl Nq62
              have sz63 : hl.size ≤ T62.heap.size := Kq62.1
              have cr63 : CHr Z consts_1 s.vm hl s.vm T62.heap := CHr.keep Kq62 sf0 CRl.1
              have CR63 := CRl.trans cr63
              refine own_go st62 ?_
              show own_Rn p e below _ (T62.setTop (mkF m 150 #[.val (.long l0), .second, .val (.long l1), .second, .val (.int sh), .val (.int (Int32.ofNat K1)), .val (.int (Int32.ofNat K2)), .val (.int c0), .val (.int c1), .val (.int c2), .val (.int bb0), .unset, .unset, .unset, .unset, .unset, .unset, .unset, .unset] [(.int pb)]))
              have F64 : Old Z n0 T62.heap := (Ol.keep Kq62 all0)
              exact J150 bb0 pb _ _ _ rb0 R_62 (X62.mono (by decide) (by decide)) rfl N62 (by omega) (by omega) F64 CR63
            by_cases hc65 : (((sh.toUInt32 >>> ((8 : Int32) &&& 31).toUInt32).toInt32) &&& (1 : Int32)) = (0 : Int32)
            · skip
              refine own_go (fun tq kq => XS.ifYes Xl.here hx rfl (pc0 := 139) (pc' := 146) rfl (hb hby at_139) rfl ((if0 _ _).trans (teq (hc65 : (((sh.toUInt32 >>> ((8 : Int32) &&& 31).toUInt32).toInt32) &&& (1 : Int32)) = (0 : Int32))).1) (by decide) (by decide) kq) ?_
              show own_Rn p e below _ (Tl.setTop (mkF m 146 #[.val (.long l0), .second, .val (.long l1), .second, .val (.int sh), .val (.int (Int32.ofNat K1)), .val (.int (Int32.ofNat K2)), .val (.int c0), .val (.int c1), .val (.int c2), .val (.int bb0), .unset, .unset, .unset, .unset, .unset, .unset, .unset, .unset] [(.int (1 : Int32)), (.long l1)]))
              refine own_go (fun tq kq => XS.iconst Xl.here hx rfl (hb hby at_146) kq) ?_
              show own_Rn p e below _ (Tl.setTop (mkF m 147 #[.val (.long l0), .second, .val (.long l1), .second, .val (.int sh), .val (.int (Int32.ofNat K1)), .val (.int (Int32.ofNat K2)), .val (.int c0), .val (.int c1), .val (.int c2), .val (.int bb0), .unset, .unset, .unset, .unset, .unset, .unset, .unset, .unset] [(.int (0 : Int32)), (.int (1 : Int32)), (.long l1)]))
              exact J61 _
            · skip
              refine own_go (fun tq kq => XS.ifNo Xl.here hx rfl (hb hby at_139) rfl ((if0 _ _).trans (feq (hc65 : ¬ ((((sh.toUInt32 >>> ((8 : Int32) &&& 31).toUInt32).toInt32) &&& (1 : Int32)) = (0 : Int32)))).1) kq) ?_
              show own_Rn p e below _ (Tl.setTop (mkF m 142 #[.val (.long l0), .second, .val (.long l1), .second, .val (.int sh), .val (.int (Int32.ofNat K1)), .val (.int (Int32.ofNat K2)), .val (.int c0), .val (.int c1), .val (.int c2), .val (.int bb0), .unset, .unset, .unset, .unset, .unset, .unset, .unset, .unset] [(.int (1 : Int32)), (.long l1)]))
              refine own_go (fun tq kq => XS.iconst Xl.here hx rfl (hb hby at_142) kq) ?_
              show own_Rn p e below _ (Tl.setTop (mkF m 143 #[.val (.long l0), .second, .val (.long l1), .second, .val (.int sh), .val (.int (Int32.ofNat K1)), .val (.int (Int32.ofNat K2)), .val (.int c0), .val (.int c1), .val (.int c2), .val (.int bb0), .unset, .unset, .unset, .unset, .unset, .unset, .unset, .unset] [(.int (1 : Int32)), (.int (1 : Int32)), (.long l1)]))
              refine own_go (fun tq kq => XS.goto Xl.here hx rfl (pc0 := 143) (pc' := 147) rfl (hb hby at_143) (by decide) (by decide) kq) ?_
              show own_Rn p e below _ (Tl.setTop (mkF m 147 #[.val (.long l0), .second, .val (.long l1), .second, .val (.int sh), .val (.int (Int32.ofNat K1)), .val (.int (Int32.ofNat K2)), .val (.int c0), .val (.int c1), .val (.int c2), .val (.int bb0), .unset, .unset, .unset, .unset, .unset, .unset, .unset, .unset] [(.int (1 : Int32)), (.int (1 : Int32)), (.long l1)]))
              exact J61 _
          · skip
            refine own_go (fun tq kq => XS.ifNo Xl.here hx rfl (hb hby at_122) rfl ((if0 _ _).trans (feq (hc60 : ¬ ((((sh.toUInt32 >>> ((11 : Int32) &&& 31).toUInt32).toInt32) &&& (1 : Int32)) = (0 : Int32)))).1) kq) ?_
            show own_Rn p e below _ (Tl.setTop (mkF m 125 #[.val (.long l0), .second, .val (.long l1), .second, .val (.int sh), .val (.int (Int32.ofNat K1)), .val (.int (Int32.ofNat K2)), .val (.int c0), .val (.int c1), .val (.int c2), .val (.int bb0), .unset, .unset, .unset, .unset, .unset, .unset, .unset, .unset] []))
            refine own_go (fun tq kq => XS.iload Xl.here hx rfl (hb hby at_125) rfl kq) ?_
            show own_Rn p e below _ (Tl.setTop (mkF m 127 #[.val (.long l0), .second, .val (.long l1), .second, .val (.int sh), .val (.int (Int32.ofNat K1)), .val (.int (Int32.ofNat K2)), .val (.int c0), .val (.int c1), .val (.int c2), .val (.int bb0), .unset, .unset, .unset, .unset, .unset, .unset, .unset, .unset] [(.int c1)]))
            refine own_go (fun tq kq => XS.goto Xl.here hx rfl (pc0 := 127) (pc' := 150) rfl (hb hby at_127) (by decide) (by decide) kq) ?_
            show own_Rn p e below _ (Tl.setTop (mkF m 150 #[.val (.long l0), .second, .val (.long l1), .second, .val (.int sh), .val (.int (Int32.ofNat K1)), .val (.int (Int32.ofNat K2)), .val (.int c0), .val (.int c1), .val (.int c2), .val (.int bb0), .unset, .unset, .unset, .unset, .unset, .unset, .unset, .unset] [(.int c1)]))
            exact J150 bb0 c1 _ _ _ rb0 rc1 (Xl.mono (by decide) (by decide)) el Nl (by omega) (by omega) Ol CRl
        refine own_go (fun tq kq => XS.iload X8.here hx rfl (hb hby at_78) rfl kq) ?_
        show own_Rn p e below _ (T8.setTop (mkF m 80 #[.val (.long l0), .second, .val (.long l1), .second, .val (.int sh), .val (.int (Int32.ofNat K1)), .val (.int (Int32.ofNat K2)), .val (.int c0), .val (.int c1), .val (.int c2), .unset, .unset, .unset, .unset, .unset, .unset, .unset, .unset, .unset] [(.int sh)]))
        refine own_go (fun tq kq => XS.bipush X8.here hx rfl (hb hby at_80) kq) ?_
        show own_Rn p e below _ (T8.setTop (mkF m 82 #[.val (.long l0), .second, .val (.long l1), .second, .val (.int sh), .val (.int (Int32.ofNat K1)), .val (.int (Int32.ofNat K2)), .val (.int c0), .val (.int c1), .val (.int c2), .unset, .unset, .unset, .unset, .unset, .unset, .unset, .unset, .unset] [(.int (10 : Int32)), (.int sh)]))
        refine own_go (fun tq kq => XS.iushr X8.here hx rfl (hb hby at_82) rfl kq) ?_
        show own_Rn p e below _ (T8.setTop (mkF m 83 #[.val (.long l0), .second, .val (.long l1), .second, .val (.int sh), .val (.int (Int32.ofNat K1)), .val (.int (Int32.ofNat K2)), .val (.int c0), .val (.int c1), .val (.int c2), .unset, .unset, .unset, .unset, .unset, .unset, .unset, .unset, .unset] [(.int ((sh.toUInt32 >>> ((10 : Int32) &&& 31).toUInt32).toInt32))]))
        refine own_go (fun tq kq => XS.iconst X8.here hx rfl (hb hby at_83) kq) ?_
        show own_Rn p e below _ (T8.setTop (mkF m 84 #[.val (.long l0), .second, .val (.long l1), .second, .val (.int sh), .val (.int (Int32.ofNat K1)), .val (.int (Int32.ofNat K2)), .val (.int c0), .val (.int c1), .val (.int c2), .unset, .unset, .unset, .unset, .unset, .unset, .unset, .unset, .unset] [(.int (1 : Int32)), (.int ((sh.toUInt32 >>> ((10 : Int32) &&& 31).toUInt32).toInt32))]))
        refine own_go (fun tq kq => XS.iand X8.here hx rfl (hb hby at_84) rfl kq) ?_
        show own_Rn p e below _ (T8.setTop (mkF m 85 #[.val (.long l0), .second, .val (.long l1), .second, .val (.int sh), .val (.int (Int32.ofNat K1)), .val (.int (Int32.ofNat K2)), .val (.int c0), .val (.int c1), .val (.int c2), .unset, .unset, .unset, .unset, .unset, .unset, .unset, .unset, .unset] [(.int (((sh.toUInt32 >>> ((10 : Int32) &&& 31).toUInt32).toInt32) &&& (1 : Int32)))]))
        by_cases hc66 : (((sh.toUInt32 >>> ((10 : Int32) &&& 31).toUInt32).toInt32) &&& (1 : Int32)) = (0 : Int32)
        · skip
          refine own_go (fun tq kq => XS.ifYes X8.here hx rfl (pc0 := 85) (pc' := 93) rfl (hb hby at_85) rfl ((if0 _ _).trans (teq (hc66 : (((sh.toUInt32 >>> ((10 : Int32) &&& 31).toUInt32).toInt32) &&& (1 : Int32)) = (0 : Int32))).1) (by decide) (by decide) kq) ?_
          show own_Rn p e below _ (T8.setTop (mkF m 93 #[.val (.long l0), .second, .val (.long l1), .second, .val (.int sh), .val (.int (Int32.ofNat K1)), .val (.int (Int32.ofNat K2)), .val (.int c0), .val (.int c1), .val (.int c2), .unset, .unset, .unset, .unset, .unset, .unset, .unset, .unset, .unset] []))
          refine own_go (fun tq kq => XS.lloadN X8.here hx rfl (hb hby at_93) rfl kq) ?_
          show own_Rn p e below _ (T8.setTop (mkF m 94 #[.val (.long l0), .second, .val (.long l1), .second, .val (.int sh), .val (.int (Int32.ofNat K1)), .val (.int (Int32.ofNat K2)), .val (.int c0), .val (.int c1), .val (.int c2), .unset, .unset, .unset, .unset, .unset, .unset, .unset, .unset, .unset] [(.long l1)]))
          refine own_go (fun tq kq => XS.iconst X8.here hx rfl (hb hby at_94) kq) ?_
          show own_Rn p e below _ (T8.setTop (mkF m 95 #[.val (.long l0), .second, .val (.long l1), .second, .val (.int sh), .val (.int (Int32.ofNat K1)), .val (.int (Int32.ofNat K2)), .val (.int c0), .val (.int c1), .val (.int c2), .unset, .unset, .unset, .unset, .unset, .unset, .unset, .unset, .unset] [(.int (0 : Int32)), (.long l1)]))
          refine own_go (fun tq kq => XS.iload X8.here hx rfl (hb hby at_95) rfl kq) ?_
          show own_Rn p e below _ (T8.setTop (mkF m 97 #[.val (.long l0), .second, .val (.long l1), .second, .val (.int sh), .val (.int (Int32.ofNat K1)), .val (.int (Int32.ofNat K2)), .val (.int c0), .val (.int c1), .val (.int c2), .unset, .unset, .unset, .unset, .unset, .unset, .unset, .unset, .unset] [(.int sh), (.int (0 : Int32)), (.long l1)]))
          refine own_go (fun tq kq => XS.bipush X8.here hx rfl (hb hby at_97) kq) ?_
          show own_Rn p e below _ (T8.setTop (mkF m 99 #[.val (.long l0), .second, .val (.long l1), .second, .val (.int sh), .val (.int (Int32.ofNat K1)), .val (.int (Int32.ofNat K2)), .val (.int c0), .val (.int c1), .val (.int c2), .unset, .unset, .unset, .unset, .unset, .unset, .unset, .unset, .unset] [(.int (7 : Int32)), (.int sh), (.int (0 : Int32)), (.long l1)]))
          refine own_go (fun tq kq => XS.iushr X8.here hx rfl (hb hby at_99) rfl kq) ?_
          show own_Rn p e below _ (T8.setTop (mkF m 100 #[.val (.long l0), .second, .val (.long l1), .second, .val (.int sh), .val (.int (Int32.ofNat K1)), .val (.int (Int32.ofNat K2)), .val (.int c0), .val (.int c1), .val (.int c2), .unset, .unset, .unset, .unset, .unset, .unset, .unset, .unset, .unset] [(.int ((sh.toUInt32 >>> ((7 : Int32) &&& 31).toUInt32).toInt32)), (.int (0 : Int32)), (.long l1)]))
          refine own_go (fun tq kq => XS.iconst X8.here hx rfl (hb hby at_100) kq) ?_
          show own_Rn p e below _ (T8.setTop (mkF m 101 #[.val (.long l0), .second, .val (.long l1), .second, .val (.int sh), .val (.int (Int32.ofNat K1)), .val (.int (Int32.ofNat K2)), .val (.int c0), .val (.int c1), .val (.int c2), .unset, .unset, .unset, .unset, .unset, .unset, .unset, .unset, .unset] [(.int (1 : Int32)), (.int ((sh.toUInt32 >>> ((7 : Int32) &&& 31).toUInt32).toInt32)), (.int (0 : Int32)), (.long l1)]))
          refine own_go (fun tq kq => XS.iand X8.here hx rfl (hb hby at_101) rfl kq) ?_
          show own_Rn p e below _ (T8.setTop (mkF m 102 #[.val (.long l0), .second, .val (.long l1), .second, .val (.int sh), .val (.int (Int32.ofNat K1)), .val (.int (Int32.ofNat K2)), .val (.int c0), .val (.int c1), .val (.int c2), .unset, .unset, .unset, .unset, .unset, .unset, .unset, .unset, .unset] [(.int (((sh.toUInt32 >>> ((7 : Int32) &&& 31).toUInt32).toInt32) &&& (1 : Int32))), (.int (0 : Int32)), (.long l1)]))
          have J67 : ∀ fl : Int32, own_Rn p e below (fun o U' => ∃ v L, o = .returned v ∧ Q_rm0 Z l0 l1 sh G1 G3 h0 n0 v U'.heap L ∧ CHr Z consts_1 s.vm s.heap U'.vm U'.heap ∧ ReturnedEndW s o U' L 40 1280) (T8.setTop (mkF m 110 #[.val (.long l0), .second, .val (.long l1), .second, .val (.int sh), .val (.int (Int32.ofNat K1)), .val (.int (Int32.ofNat K2)), .val (.int c0), .val (.int c1), .val (.int c2), .unset, .unset, .unset, .unset, .unset, .unset, .unset, .unset, .unset] [(.int fl), (.int (0 : Int32)), (.long l1)])) := by
            intro fl
            have Zn68 : n0 ≤ T8.heap.size := by omega
            obtain ⟨rv68, _, ⟨T68, L68, k68, n68⟩, -, X68, ⟨Lc68, hQ68, l68, y68, z68⟩, st68⟩ := Jvm.LawKit.callS X8 hx (y := (⟨"com/example/words_into_queries/wordsintoqueries/CodePointOrderComparePinLaw", "pick", "(JIZ)C"⟩ : MethodName)) hown (mvT hZ (hw _ (List.mem_of_getElem? (i := 0) rfl))) (mvT hZ (hw _ (List.mem_of_getElem? (i := 1) rfl))) (mvT hZ (hw _ (List.mem_of_getElem? (i := 2) rfl))) (mvT hZ (hw _ (List.mem_of_getElem? (i := 3) rfl))) (by decide) (backOf (W := 0) (rmPick l Z a0 hw [] (l1) ((0 : Int32)) (fl) T8.heap n0 Zn68 ) hZ (hw _ (List.mem_of_getElem? (i := 3) rfl)) (hw _ (List.mem_of_getElem? (i := 2) rfl)) (by decide) (by decide)) (g := (mkF m 110 #[.val (.long l0), .second, .val (.long l1), .second, .val (.int sh), .val (.int (Int32.ofNat K1)), .val (.int (Int32.ofNat K2)), .val (.int c0), .val (.int c1), .val (.int c2), .unset, .unset, .unset, .unset, .unset, .unset, .unset, .unset, .unset] [(.int fl), (.int (0 : Int32)), (.long l1)])) rfl (by rw [hml]; rfl) (argsL := [(.long l1), (.int (0 : Int32)), (.int fl)]) (rest := []) (lenOf own_pd_28JIZ29C rfl) rfl (by show 2 * 0 + _ ≤ _; exact Nat.le_of_eq rfl) (hb hby at_110) (fun _ _ => ⟨rfl, rfl, (by decide : 3 + 1 ≤ _), (by decide : 24 + 8 ≤ _)⟩)
            dsimp only [Pt.U, Pt.locs, Pt.cells, Pt.slots] at X68 l68 y68 z68 st68 hQ68
            subst l68 y68 z68
            obtain ⟨pb, rfl, Nq68, Kq68, R_68⟩ := hQ68
            have N68 := Fr.app N8 Nq68
            have sz69 : T8.heap.size ≤ T68.heap.size := Kq68.1
            have cr69 : CHr Z consts_1 s.vm T8.heap s.vm T68.heap := CHr.keep Kq68 sf0 CR9.1
            have CR69 := CR9.trans cr69
            refine own_go st68 ?_
            show own_Rn p e below _ (T68.setTop (mkF m 113 #[.val (.long l0), .second, .val (.long l1), .second, .val (.int sh), .val (.int (Int32.ofNat K1)), .val (.int (Int32.ofNat K2)), .val (.int c0), .val (.int c1), .val (.int c2), .unset, .unset, .unset, .unset, .unset, .unset, .unset, .unset, .unset] [(.int pb)]))
            have F70 : Old Z n0 T68.heap := ((((X00.keep Kq2 all0).keep Kq5 all0).keep Kq8 all0).keep Kq68 all0)
            exact J113 pb _ _ _ R_68 (X68.mono (by decide) (by decide)) rfl N68 (by omega) (by omega) F70 CR69
          by_cases hc71 : (((sh.toUInt32 >>> ((7 : Int32) &&& 31).toUInt32).toInt32) &&& (1 : Int32)) = (0 : Int32)
          · skip
            refine own_go (fun tq kq => XS.ifYes X8.here hx rfl (pc0 := 102) (pc' := 109) rfl (hb hby at_102) rfl ((if0 _ _).trans (teq (hc71 : (((sh.toUInt32 >>> ((7 : Int32) &&& 31).toUInt32).toInt32) &&& (1 : Int32)) = (0 : Int32))).1) (by decide) (by decide) kq) ?_
            show own_Rn p e below _ (T8.setTop (mkF m 109 #[.val (.long l0), .second, .val (.long l1), .second, .val (.int sh), .val (.int (Int32.ofNat K1)), .val (.int (Int32.ofNat K2)), .val (.int c0), .val (.int c1), .val (.int c2), .unset, .unset, .unset, .unset, .unset, .unset, .unset, .unset, .unset] [(.int (0 : Int32)), (.long l1)]))
            refine own_go (fun tq kq => XS.iconst X8.here hx rfl (hb hby at_109) kq) ?_
            show own_Rn p e below _ (T8.setTop (mkF m 110 #[.val (.long l0), .second, .val (.long l1), .second, .val (.int sh), .val (.int (Int32.ofNat K1)), .val (.int (Int32.ofNat K2)), .val (.int c0), .val (.int c1), .val (.int c2), .unset, .unset, .unset, .unset, .unset, .unset, .unset, .unset, .unset] [(.int (0 : Int32)), (.int (0 : Int32)), (.long l1)]))
            exact J67 _
          · skip
            refine own_go (fun tq kq => XS.ifNo X8.here hx rfl (hb hby at_102) rfl ((if0 _ _).trans (feq (hc71 : ¬ ((((sh.toUInt32 >>> ((7 : Int32) &&& 31).toUInt32).toInt32) &&& (1 : Int32)) = (0 : Int32)))).1) kq) ?_
            show own_Rn p e below _ (T8.setTop (mkF m 105 #[.val (.long l0), .second, .val (.long l1), .second, .val (.int sh), .val (.int (Int32.ofNat K1)), .val (.int (Int32.ofNat K2)), .val (.int c0), .val (.int c1), .val (.int c2), .unset, .unset, .unset, .unset, .unset, .unset, .unset, .unset, .unset] [(.int (0 : Int32)), (.long l1)]))
            refine own_go (fun tq kq => XS.iconst X8.here hx rfl (hb hby at_105) kq) ?_
            show own_Rn p e below _ (T8.setTop (mkF m 106 #[.val (.long l0), .second, .val (.long l1), .second, .val (.int sh), .val (.int (Int32.ofNat K1)), .val (.int (Int32.ofNat K2)), .val (.int c0), .val (.int c1), .val (.int c2), .unset, .unset, .unset, .unset, .unset, .unset, .unset, .unset, .unset] [(.int (1 : Int32)), (.int (0 : Int32)), (.long l1)]))
            refine own_go (fun tq kq => XS.goto X8.here hx rfl (pc0 := 106) (pc' := 110) rfl (hb hby at_106) (by decide) (by decide) kq) ?_
            show own_Rn p e below _ (T8.setTop (mkF m 110 #[.val (.long l0), .second, .val (.long l1), .second, .val (.int sh), .val (.int (Int32.ofNat K1)), .val (.int (Int32.ofNat K2)), .val (.int c0), .val (.int c1), .val (.int c2), .unset, .unset, .unset, .unset, .unset, .unset, .unset, .unset, .unset] [(.int (1 : Int32)), (.int (0 : Int32)), (.long l1)]))
            exact J67 _
        · skip
          refine own_go (fun tq kq => XS.ifNo X8.here hx rfl (hb hby at_85) rfl ((if0 _ _).trans (feq (hc66 : ¬ ((((sh.toUInt32 >>> ((10 : Int32) &&& 31).toUInt32).toInt32) &&& (1 : Int32)) = (0 : Int32)))).1) kq) ?_
          show own_Rn p e below _ (T8.setTop (mkF m 88 #[.val (.long l0), .second, .val (.long l1), .second, .val (.int sh), .val (.int (Int32.ofNat K1)), .val (.int (Int32.ofNat K2)), .val (.int c0), .val (.int c1), .val (.int c2), .unset, .unset, .unset, .unset, .unset, .unset, .unset, .unset, .unset] []))
          refine own_go (fun tq kq => XS.iload X8.here hx rfl (hb hby at_88) rfl kq) ?_
          show own_Rn p e below _ (T8.setTop (mkF m 90 #[.val (.long l0), .second, .val (.long l1), .second, .val (.int sh), .val (.int (Int32.ofNat K1)), .val (.int (Int32.ofNat K2)), .val (.int c0), .val (.int c1), .val (.int c2), .unset, .unset, .unset, .unset, .unset, .unset, .unset, .unset, .unset] [(.int c0)]))
          refine own_go (fun tq kq => XS.goto X8.here hx rfl (pc0 := 90) (pc' := 113) rfl (hb hby at_90) (by decide) (by decide) kq) ?_
          show own_Rn p e below _ (T8.setTop (mkF m 113 #[.val (.long l0), .second, .val (.long l1), .second, .val (.int sh), .val (.int (Int32.ofNat K1)), .val (.int (Int32.ofNat K2)), .val (.int c0), .val (.int c1), .val (.int c2), .unset, .unset, .unset, .unset, .unset, .unset, .unset, .unset, .unset] [(.int c0)]))
          have F72 : Old Z n0 T8.heap := (((X00.keep Kq2 all0).keep Kq5 all0).keep Kq8 all0)
          exact J113 c0 _ _ _ rc0 (X8.mono (by decide) (by decide)) rfl N8 (by omega) (by omega) F72 CR9
      by_cases hc73 : (((sh.toUInt32 >>> ((6 : Int32) &&& 31).toUInt32).toInt32) &&& (1 : Int32)) = (0 : Int32)
      · skip
        refine own_go (fun tq kq => XS.ifYes X5.here hx rfl (pc0 := 65) (pc' := 72) rfl (hb hby at_65) rfl ((if0 _ _).trans (teq (hc73 : (((sh.toUInt32 >>> ((6 : Int32) &&& 31).toUInt32).toInt32) &&& (1 : Int32)) = (0 : Int32))).1) (by decide) (by decide) kq) ?_
        show own_Rn p e below _ (T5.setTop (mkF m 72 #[.val (.long l0), .second, .val (.long l1), .second, .val (.int sh), .val (.int (Int32.ofNat K1)), .val (.int (Int32.ofNat K2)), .val (.int c0), .val (.int c1), .unset, .unset, .unset, .unset, .unset, .unset, .unset, .unset, .unset, .unset] [(.int (2 : Int32)), (.long l0)]))
        refine own_go (fun tq kq => XS.iconst X5.here hx rfl (hb hby at_72) kq) ?_
        show own_Rn p e below _ (T5.setTop (mkF m 73 #[.val (.long l0), .second, .val (.long l1), .second, .val (.int sh), .val (.int (Int32.ofNat K1)), .val (.int (Int32.ofNat K2)), .val (.int c0), .val (.int c1), .unset, .unset, .unset, .unset, .unset, .unset, .unset, .unset, .unset, .unset] [(.int (0 : Int32)), (.int (2 : Int32)), (.long l0)]))
        exact J7 _
      · skip
        refine own_go (fun tq kq => XS.ifNo X5.here hx rfl (hb hby at_65) rfl ((if0 _ _).trans (feq (hc73 : ¬ ((((sh.toUInt32 >>> ((6 : Int32) &&& 31).toUInt32).toInt32) &&& (1 : Int32)) = (0 : Int32)))).1) kq) ?_
        show own_Rn p e below _ (T5.setTop (mkF m 68 #[.val (.long l0), .second, .val (.long l1), .second, .val (.int sh), .val (.int (Int32.ofNat K1)), .val (.int (Int32.ofNat K2)), .val (.int c0), .val (.int c1), .unset, .unset, .unset, .unset, .unset, .unset, .unset, .unset, .unset, .unset] [(.int (2 : Int32)), (.long l0)]))
        refine own_go (fun tq kq => XS.iconst X5.here hx rfl (hb hby at_68) kq) ?_
        show own_Rn p e below _ (T5.setTop (mkF m 69 #[.val (.long l0), .second, .val (.long l1), .second, .val (.int sh), .val (.int (Int32.ofNat K1)), .val (.int (Int32.ofNat K2)), .val (.int c0), .val (.int c1), .unset, .unset, .unset, .unset, .unset, .unset, .unset, .unset, .unset, .unset] [(.int (1 : Int32)), (.int (2 : Int32)), (.long l0)]))
        refine own_go (fun tq kq => XS.goto X5.here hx rfl (pc0 := 69) (pc' := 73) rfl (hb hby at_69) (by decide) (by decide) kq) ?_
        show own_Rn p e below _ (T5.setTop (mkF m 73 #[.val (.long l0), .second, .val (.long l1), .second, .val (.int sh), .val (.int (Int32.ofNat K1)), .val (.int (Int32.ofNat K2)), .val (.int c0), .val (.int c1), .unset, .unset, .unset, .unset, .unset, .unset, .unset, .unset, .unset, .unset] [(.int (1 : Int32)), (.int (2 : Int32)), (.long l0)]))
        exact J7 _
    by_cases hc74 : (((sh.toUInt32 >>> ((5 : Int32) &&& 31).toUInt32).toInt32) &&& (1 : Int32)) = (0 : Int32)
    · skip
      refine own_go (fun tq kq => XS.ifYes X2.here hx rfl (pc0 := 43) (pc' := 50) rfl (hb hby at_43) rfl ((if0 _ _).trans (teq (hc74 : (((sh.toUInt32 >>> ((5 : Int32) &&& 31).toUInt32).toInt32) &&& (1 : Int32)) = (0 : Int32))).1) (by decide) (by decide) kq) ?_
      show own_Rn p e below _ (T2.setTop (mkF m 50 #[.val (.long l0), .second, .val (.long l1), .second, .val (.int sh), .val (.int (Int32.ofNat K1)), .val (.int (Int32.ofNat K2)), .val (.int c0), .unset, .unset, .unset, .unset, .unset, .unset, .unset, .unset, .unset, .unset, .unset] [(.int (1 : Int32)), (.long l0)]))
      refine own_go (fun tq kq => XS.iconst X2.here hx rfl (hb hby at_50) kq) ?_
      show own_Rn p e below _ (T2.setTop (mkF m 51 #[.val (.long l0), .second, .val (.long l1), .second, .val (.int sh), .val (.int (Int32.ofNat K1)), .val (.int (Int32.ofNat K2)), .val (.int c0), .unset, .unset, .unset, .unset, .unset, .unset, .unset, .unset, .unset, .unset, .unset] [(.int (0 : Int32)), (.int (1 : Int32)), (.long l0)]))
      exact J4 _
    · skip
      refine own_go (fun tq kq => XS.ifNo X2.here hx rfl (hb hby at_43) rfl ((if0 _ _).trans (feq (hc74 : ¬ ((((sh.toUInt32 >>> ((5 : Int32) &&& 31).toUInt32).toInt32) &&& (1 : Int32)) = (0 : Int32)))).1) kq) ?_
      show own_Rn p e below _ (T2.setTop (mkF m 46 #[.val (.long l0), .second, .val (.long l1), .second, .val (.int sh), .val (.int (Int32.ofNat K1)), .val (.int (Int32.ofNat K2)), .val (.int c0), .unset, .unset, .unset, .unset, .unset, .unset, .unset, .unset, .unset, .unset, .unset] [(.int (1 : Int32)), (.long l0)]))
      refine own_go (fun tq kq => XS.iconst X2.here hx rfl (hb hby at_46) kq) ?_
      show own_Rn p e below _ (T2.setTop (mkF m 47 #[.val (.long l0), .second, .val (.long l1), .second, .val (.int sh), .val (.int (Int32.ofNat K1)), .val (.int (Int32.ofNat K2)), .val (.int c0), .unset, .unset, .unset, .unset, .unset, .unset, .unset, .unset, .unset, .unset, .unset] [(.int (1 : Int32)), (.int (1 : Int32)), (.long l0)]))
      refine own_go (fun tq kq => XS.goto X2.here hx rfl (pc0 := 47) (pc' := 51) rfl (hb hby at_47) (by decide) (by decide) kq) ?_
      show own_Rn p e below _ (T2.setTop (mkF m 51 #[.val (.long l0), .second, .val (.long l1), .second, .val (.int sh), .val (.int (Int32.ofNat K1)), .val (.int (Int32.ofNat K2)), .val (.int c0), .unset, .unset, .unset, .unset, .unset, .unset, .unset, .unset, .unset, .unset, .unset] [(.int (1 : Int32)), (.int (1 : Int32)), (.long l0)]))
      exact J4 _
  by_cases hc75 : (((sh.toUInt32 >>> ((4 : Int32) &&& 31).toUInt32).toInt32) &&& (1 : Int32)) = (0 : Int32)
  · skip
    refine own_go (fun tq kq => XS.ifYes X0.here hx rfl (pc0 := 22) (pc' := 29) rfl (hb hby at_22) rfl ((if0 _ _).trans (teq (hc75 : (((sh.toUInt32 >>> ((4 : Int32) &&& 31).toUInt32).toInt32) &&& (1 : Int32)) = (0 : Int32))).1) (by decide) (by decide) kq) ?_
    show own_Rn p e below _ (s₁.setTop (mkF m 29 #[.val (.long l0), .second, .val (.long l1), .second, .val (.int sh), .val (.int (Int32.ofNat K1)), .val (.int (Int32.ofNat K2)), .unset, .unset, .unset, .unset, .unset, .unset, .unset, .unset, .unset, .unset, .unset, .unset] [(.int (0 : Int32)), (.long l0)]))
    refine own_go (fun tq kq => XS.iconst X0.here hx rfl (hb hby at_29) kq) ?_
    show own_Rn p e below _ (s₁.setTop (mkF m 30 #[.val (.long l0), .second, .val (.long l1), .second, .val (.int sh), .val (.int (Int32.ofNat K1)), .val (.int (Int32.ofNat K2)), .unset, .unset, .unset, .unset, .unset, .unset, .unset, .unset, .unset, .unset, .unset, .unset] [(.int (0 : Int32)), (.int (0 : Int32)), (.long l0)]))
    exact J1 _
  · skip
    refine own_go (fun tq kq => XS.ifNo X0.here hx rfl (hb hby at_22) rfl ((if0 _ _).trans (feq (hc75 : ¬ ((((sh.toUInt32 >>> ((4 : Int32) &&& 31).toUInt32).toInt32) &&& (1 : Int32)) = (0 : Int32)))).1) kq) ?_
    show own_Rn p e below _ (s₁.setTop (mkF m 25 #[.val (.long l0), .second, .val (.long l1), .second, .val (.int sh), .val (.int (Int32.ofNat K1)), .val (.int (Int32.ofNat K2)), .unset, .unset, .unset, .unset, .unset, .unset, .unset, .unset, .unset, .unset, .unset, .unset] [(.int (0 : Int32)), (.long l0)]))
    refine own_go (fun tq kq => XS.iconst X0.here hx rfl (hb hby at_25) kq) ?_
    show own_Rn p e below _ (s₁.setTop (mkF m 26 #[.val (.long l0), .second, .val (.long l1), .second, .val (.int sh), .val (.int (Int32.ofNat K1)), .val (.int (Int32.ofNat K2)), .unset, .unset, .unset, .unset, .unset, .unset, .unset, .unset, .unset, .unset, .unset, .unset] [(.int (1 : Int32)), (.int (0 : Int32)), (.long l0)]))
    refine own_go (fun tq kq => XS.goto X0.here hx rfl (pc0 := 26) (pc' := 30) rfl (hb hby at_26) (by decide) (by decide) kq) ?_
    show own_Rn p e below _ (s₁.setTop (mkF m 30 #[.val (.long l0), .second, .val (.long l1), .second, .val (.int sh), .val (.int (Int32.ofNat K1)), .val (.int (Int32.ofNat K2)), .unset, .unset, .unset, .unset, .unset, .unset, .unset, .unset, .unset, .unset, .unset, .unset] [(.int (1 : Int32)), (.int (0 : Int32)), (.long l0)]))
    exact J1 _
set_option maxRecDepth 65536 in
set_option maxHeartbeats 40000000 in
theorem comes_1 {Post : Tables → Env → Array Value → State → Outcome → State → Prop} (hpost : ∀ tb e args s v u, (limb_1_1.after args s (.returned v) u = true ∧ limb_1_2.after args s (.returned v) u = true ∧ True) → ReturnedEndW s (.returned v) u (Jvm.fieldLocs frame_1_writes args s ++ Jvm.arrayLocs frame_1_arrays args s ++ Jvm.staticLocs frame_1_statics s) 40 1280 → Post tb e args s (.returned v) u) :
    ArmFor flags0 classFile x code maxLocals ret World_1 tables_1 room_1 Calls_1 rest_1 Pre_1 Post := by
  intro l hfl _ _ p e ha hc hk s m args below hf hA hF happ hP
  obtain ⟨hcalls, hrest, hpre⟩ := hP
  obtain ⟨-, -, -, hnamed, -, -, -, hat⟩ := (Spec.applies_iff hf).mp happ
  obtain ⟨hg, hn⟩ := and_e (Cond.before_iff.mp (show (Jvm.Cond.and given_1 narrow_1).before args s = true from hpre))
  obtain ⟨h1, hr⟩ := and_e hg
  obtain ⟨w0, w1, w2, rfl⟩ : ∃ w0 w1 w2 : Value, args = #[w0, w1, w2] := by
    have hs : args.size = 3 := by simpa [Cond.value, given_1] using h1
    obtain ⟨L⟩ := args
    match L, hs with
    | [w0, w1, w2], _ => exact ⟨w0, w1, w2, rfl⟩
  have hw := fun d (hd : d ∈ tables_1) => atoms_spec (ws := Jvm.Cond.code x code maxLocals ret :: tables_1) hat d (List.mem_cons_of_mem _ hd)
  have hfit : Fit s := fun {y c} hc i hi => by
    obtain ⟨ha, rfl⟩ := Array.getElem?_eq_some_iff.mp hc
    have q := List.all_eq_true.mp ((Array.all_eq_true_iff_forall_mem.mp hF) _ (Array.getElem_mem ha)) i (List.mem_range.mpr hi)
    simpa [Array.getElem?_eq_getElem hi] using q
  obtain ⟨ha0, hr⟩ := and_e hr
  obtain ⟨l0, ee0⟩ := isL_v ha0
  obtain rfl : w0 = (.long l0) := Option.some.inj ee0
  obtain ⟨ha1, hr⟩ := and_e hr
  obtain ⟨l1, ee1⟩ := isL_v ha1
  obtain rfl : w1 = (.long l1) := Option.some.inj ee1
  obtain ⟨sh, ee2⟩ := is_v hr
  obtain rfl : w2 = (.int sh) := Option.some.inj ee2
  obtain ⟨hsets, hown0⟩ := atoms_of _ (rest_1_c_eq ▸ (show rest_1_c.before _ s = true from hrest))
  have n5 := not_v (Cond.before_iff.mp (hsets _ (List.mem_of_getElem? (i := 2) rfl)))
  obtain ⟨G1, e10⟩ := is_v (Cond.before_iff.mp (hsets _ (List.mem_of_getElem? (i := 1) rfl)))
  have O2 : Sta s s.heap "java/lang/String" "COMPACT_STRINGS" "Z" (.int G1) := Sta.start e10 (Or.inl (hsets _ (List.mem_of_getElem? (i := 0) rfl)))
  obtain ⟨G3, e14, rG3⟩ := isR_v (Cond.before_iff.mp (hsets _ (List.mem_of_getElem? (i := 8) rfl)))
  have O4 : Sta s s.heap "jdk/internal/util/Preconditions" "SIOOBE_FORMATTER" "Ljava/util/function/BiFunction;" G3 := Sta.start e14 (Or.inl (hsets _ (List.mem_of_getElem? (i := 7) rfl)))
  have P5 : ¬ (G1 = (0 : Int32)) := gotF (Cond.eq_ints e10 (Term.int_eval (0))) n5
  have OAD : Sta s s.heap "java/lang/StringUTF16" "$assertionsDisabled" "Z" (.int (1 : Int32)) := Sta.start (eqv_i (Term.int_eval _) (Cond.before_iff.mp (hsets _ (List.mem_of_getElem? (i := 12) rfl)))) (Or.inl (hsets _ (List.mem_of_getElem? (i := 11) rfl)))
  have OHI : Sta s s.heap "java/lang/StringUTF16" "HI_BYTE_SHIFT" "I" (.int (0 : Int32)) := Sta.start (eqv_i (Term.int_eval _) (Cond.before_iff.mp (hsets _ (List.mem_of_getElem? (i := 15) rfl)))) (Or.inl (hsets _ (List.mem_of_getElem? (i := 14) rfl)))
  have OLO : Sta s s.heap "java/lang/StringUTF16" "LO_BYTE_SHIFT" "I" (.int (8 : Int32)) := Sta.start (eqv_i (Term.int_eval _) (Cond.before_iff.mp (hsets _ (List.mem_of_getElem? (i := 18) rfl)))) (Or.inl (hsets _ (List.mem_of_getElem? (i := 17) rfl)))
  have hG3 : G3 = .null ∨ ∃ ga, G3 = .ref ga := by cases G3 <;> simp_all [Value.isRef]
  have hEL : EW s #[(.long l0), (.long l1), (.int sh)] consts_1 := (EW.cons (hw _ (List.mem_of_getElem? (i := 28) rfl)) (by decide) EW.nil)
  have hH : CHv s consts_1 s.vm s.heap := CHv.start hEL (fun p hp => hcalls.1 p hp) (hsets _ (List.mem_of_getElem? (i := 2) rfl)) (hw _ (List.mem_of_getElem? (i := 29) rfl)) (hw _ (List.mem_of_getElem? (i := 16) rfl))
  obtain ⟨n, o, h1, h2, h3, _, L, rfl, ⟨rfl, N⟩, -, hq⟩ := rm0 l s _ hw tables_1 l0 l1 sh G1 G3 s.heap s.heap.size (Nat.le_refl _) hEL OAD OHI OLO O4 hG3 O2 P5 (Old.start s) p e ha hc hk s m _ below hf ((Spec.applies_iff_loose hf).mp happ).1 ⟨rfl, State.Warmed39.refl s, rfl, hH, fun x hx => nomatch hx⟩ trivial
  refine ⟨n, _, h1, h2, h3, hpost _ _ _ _ _ _ ⟨Cond.after_iff.mpr rfl, Cond.after_iff.mpr (eq_i res_at (Term.int_eval (1)) rfl), trivial⟩ ⟨hq.1, hq.2.1, hq.2.2.1, (hq.2.2.2.sift fun y hy => Or.inr (N y hy)).mono (by decide) (by decide)⟩⟩
theorem main_1_1 : Claimed_1_1 := comes_1 fun _ _ _ _ _ _ h hF => ⟨h.1, hF⟩
theorem main_1_2 : Claimed_1_2 := comes_1 fun _ _ _ _ _ _ h hF => ⟨h.2.1, hF⟩
end Jvm.Pilot.@@N@@
namespace Jvm.Pilot.@@N@@
open Jvm Jvm.ClassFile Sem Op Lib Jvm.Free Jvm.Stand Jvm.Pilot.@@N@@.Jvm.D
/-! MADE BY PROGRAM (witnessworld.py) out of the Statement's table words and the real class files: 24 classes; the members and pool entries that the words name. The judged class is class 1, her method 8. -/
namespace start1
open Jvm.ClassFile
def u (s : String) : CpInfo := .utf8 (stringToUtf16 s)
/-- a pool by its gaps: so many unusable entries, then the entry; so many at the end -/
def gap : Nat → List CpInfo → List CpInfo
  | 0, r => r
  | n + 1, r => .unusable :: gap n r
def poolList (es : List (Nat × CpInfo)) (last : Nat) : List CpInfo := es.foldr (fun e r => gap e.1 (e.2 :: r)) (gap last [])
def pool (es : List (Nat × CpInfo)) (last : Nat) : Array CpInfo := ⟨poolList es last⟩
def fileOf (pool : Array CpInfo) (this : Nat) (attrs : Array Attribute := #[]) (ms : Array MethodInfo := #[]) (fl : Nat := 33) (sup : Nat := 0) (ifs : Array Nat := #[]) (fds : Array FieldInfo := #[]) : ClassFile where
  minorVersion := 0
  majorVersion := 65
  constantPool := pool
  accessFlags := fl
  thisClass := this
  superClass := sup
  interfaces := ifs
  fields := fds
  methods := ms
  attributes := attrs
def plain (name : String) (sup : Option ClassId) : Class where
  name := name
  kind := .ordinary
  loader := none
  accessFlags := 33
  super := sup
  interfaces := #[]
  cf := none
  fields := #[]
  methods := #[]
  instanceTypes := #[]
  staticTypes := #[]
  resolved := #[]
  callSites := []
  init := .initialized
  statics := none
  mirror := none

def pool0 : Array CpInfo := pool [(5, u "<init>"), (0, u "()V"), (1, .class_ 10), (1, u "java/lang/Object")] 113

def k0c0 : Code := { maxStack := 0, maxLocals := 1, code := object_method_1_code, exceptionTable := #[], attributes := #[] }
def k0m0 : Method := { name := "<init>", desc := "()V", sig := { parameters := [], returnType := none }, accessFlags := 1, code := some k0c0 }
/-- java/lang/Object -/
def k0 : Class := { plain "java/lang/Object" none with
  accessFlags := 33
  interfaces := #[]
  cf := some (fileOf pool0 8 #[] #[{ accessFlags := 1, nameIndex := 5, descriptorIndex := 6, attributes := #[] }] 33 0 #[] #[])
  fields := #[]
  methods := #[k0m0]
  instanceTypes := #[]
  staticTypes := #[]
  resolved := Array.replicate 124 none
  statics := none }

def pool1 : Array CpInfo := pool [(2, .class_ 4), (1, u "java/lang/Object"), (0, u "<init>"), (0, u "()V"), (0, .long 65535), (1, .integer 55296), (0, .integer 56319), (0, .integer 56320), (0, .integer 57343), (0, .integer 57344), (0, .integer 65535), (0, .methodref 16 17), (0, .class_ 18), (0, .nameAndType 19 20), (0, u "com/example/words_into_queries/wordsintoqueries/CodePointOrderComparePinLaw"), (0, u "high"), (0, u "(C)Z"), (0, .methodref 16 22), (0, .nameAndType 23 20), (0, u "low"), (0, .integer 65536), (0, .methodref 16 26), (0, .nameAndType 27 28), (0, u "at"), (0, u "([CI)I"), (0, .methodref 16 30), (0, .nameAndType 31 32), (0, u "next"), (0, u "(II)I"), (0, .methodref 16 34), (0, .nameAndType 35 36), (0, u "pick"), (0, u "(JIZ)C"), (0, .methodref 16 38), (0, .nameAndType 39 40), (0, u "mk"), (0, u "(ICCC)[C"), (0, .class_ 42), (0, u "java/lang/String"), (0, .methodref 41 44), (0, .nameAndType 5 45), (0, u "([C)V"), (0, .methodref 47 48), (0, .class_ 49), (0, .nameAndType 50 51), (0, u "com/example/words_into_queries/wordsintoqueries/CodePointOrder"), (0, u "compare"), (0, u "(Ljava/lang/String;Ljava/lang/String;)I"), (0, .methodref 16 53), (0, .nameAndType 54 55), (0, u "ref"), (0, u "([C[C)I"), (3, u "law"), (0, u "(JJI)Z")] 4

def k1m0 : Method := { name := "<init>", desc := "()V", sig := { parameters := [], returnType := none }, accessFlags := 2, code := none }
def k1c1 : Code := { maxStack := 4, maxLocals := 6, code := method_2_code, exceptionTable := #[], attributes := #[] }
def k1m1 : Method := { name := "pick", desc := "(JIZ)C", sig := { parameters := [.long, .int, .boolean], returnType := some .char }, accessFlags := 10, code := some k1c1 }
def k1c2 : Code := { maxStack := 4, maxLocals := 4, code := method_3_code, exceptionTable := #[], attributes := #[] }
def k1m2 : Method := { name := "mk", desc := "(ICCC)[C", sig := { parameters := [.int, .char, .char, .char], returnType := some (.array .char) }, accessFlags := 10, code := some k1c2 }
def k1c3 : Code := { maxStack := 2, maxLocals := 1, code := method_4_code, exceptionTable := #[], attributes := #[] }
def k1m3 : Method := { name := "high", desc := "(C)Z", sig := { parameters := [.char], returnType := some .boolean }, accessFlags := 10, code := some k1c3 }
def k1c4 : Code := { maxStack := 2, maxLocals := 1, code := method_5_code, exceptionTable := #[], attributes := #[] }
def k1m4 : Method := { name := "low", desc := "(C)Z", sig := { parameters := [.char], returnType := some .boolean }, accessFlags := 10, code := some k1c4 }
def k1c5 : Code := { maxStack := 4, maxLocals := 3, code := method_6_code, exceptionTable := #[], attributes := #[] }
def k1m5 : Method := { name := "at", desc := "([CI)I", sig := { parameters := [(.array .char), .int], returnType := some .int }, accessFlags := 10, code := some k1c5 }
def k1c6 : Code := { maxStack := 2, maxLocals := 2, code := method_7_code, exceptionTable := #[], attributes := #[] }
def k1m6 : Method := { name := "next", desc := "(II)I", sig := { parameters := [.int, .int], returnType := some .int }, accessFlags := 10, code := some k1c6 }
def k1c7 : Code := { maxStack := 2, maxLocals := 6, code := method_8_code, exceptionTable := #[], attributes := #[] }
def k1m7 : Method := { name := "ref", desc := "([C[C)I", sig := { parameters := [(.array .char), (.array .char)], returnType := some .int }, accessFlags := 10, code := some k1c7 }
def k1c8 : Code := { maxStack := 5, maxLocals := 19, code := code, exceptionTable := #[], attributes := #[] }
def k1m8 : Method := { name := "law", desc := "(JJI)Z", sig := { parameters := [.long, .long, .int], returnType := some .boolean }, accessFlags := 9, code := some k1c8 }
/-- com/example/words_into_queries/wordsintoqueries/CodePointOrderComparePinLaw -/
def k1 : Class := { plain "com/example/words_into_queries/wordsintoqueries/CodePointOrderComparePinLaw" (some 0) with
  accessFlags := 49
  interfaces := #[]
  cf := some (fileOf pool1 16 #[] #[{ accessFlags := 2, nameIndex := 5, descriptorIndex := 6, attributes := #[] }, { accessFlags := 10, nameIndex := 35, descriptorIndex := 36, attributes := #[] }, { accessFlags := 10, nameIndex := 39, descriptorIndex := 40, attributes := #[] }, { accessFlags := 10, nameIndex := 19, descriptorIndex := 20, attributes := #[] }, { accessFlags := 10, nameIndex := 23, descriptorIndex := 20, attributes := #[] }, { accessFlags := 10, nameIndex := 27, descriptorIndex := 28, attributes := #[] }, { accessFlags := 10, nameIndex := 31, descriptorIndex := 32, attributes := #[] }, { accessFlags := 10, nameIndex := 54, descriptorIndex := 55, attributes := #[] }, { accessFlags := 9, nameIndex := 59, descriptorIndex := 60, attributes := #[] }] 49 2 #[] #[])
  fields := #[]
  methods := #[k1m0, k1m1, k1m2, k1m3, k1m4, k1m5, k1m6, k1m7, k1m8]
  instanceTypes := #[]
  staticTypes := #[]
  resolved := Array.replicate 65 none
  statics := none }

def pool2 : Array CpInfo := pool [(1, .class_ 2), (0, u "java/io/Serializable"), (0, .class_ 4), (0, u "java/lang/Object")] 2

/-- java/io/Serializable -/
def k2 : Class := { plain "java/io/Serializable" (some 0) with
  accessFlags := 1537
  interfaces := #[]
  cf := some (fileOf pool2 1 #[] #[] 1537 3 #[] #[])
  fields := #[]
  methods := #[]
  instanceTypes := #[]
  staticTypes := #[]
  resolved := Array.replicate 7 none
  statics := none }

def pool3 : Array CpInfo := pool [(1, .class_ 2), (0, u "java/lang/Comparable"), (0, .class_ 4), (0, u "java/lang/Object")] 7

/-- java/lang/Comparable -/
def k3 : Class := { plain "java/lang/Comparable" (some 0) with
  accessFlags := 1537
  interfaces := #[]
  cf := some (fileOf pool3 1 #[] #[] 1537 3 #[] #[])
  fields := #[]
  methods := #[]
  instanceTypes := #[]
  staticTypes := #[]
  resolved := Array.replicate 12 none
  statics := none }

def pool4 : Array CpInfo := pool [(2, .class_ 4), (1, u "java/lang/CharSequence"), (42, .class_ 48), (0, u "java/lang/CharSequence$1CodePointIterator"), (10, .class_ 60), (0, u "java/lang/CharSequence$1CharIterator"), (5, .class_ 67), (0, u "java/lang/Object")] 63

/-- java/lang/CharSequence -/
def k4 : Class := { plain "java/lang/CharSequence" (some 0) with
  accessFlags := 1537
  interfaces := #[]
  cf := some (fileOf pool4 2 #[.nestMembers #[47, 59]] #[] 1537 66 #[] #[])
  fields := #[]
  methods := #[]
  instanceTypes := #[]
  staticTypes := #[]
  resolved := Array.replicate 131 none
  statics := none }

def pool5 : Array CpInfo := pool [(1, .class_ 2), (0, u "java/lang/constant/Constable"), (0, .class_ 4), (0, u "java/lang/Object")] 6

/-- java/lang/constant/Constable -/
def k5 : Class := { plain "java/lang/constant/Constable" (some 0) with
  accessFlags := 1537
  interfaces := #[]
  cf := some (fileOf pool5 1 #[] #[] 1537 3 #[] #[])
  fields := #[]
  methods := #[]
  instanceTypes := #[]
  staticTypes := #[]
  resolved := Array.replicate 11 none
  statics := none }

def pool6 : Array CpInfo := pool [(1, .class_ 2), (0, u "java/lang/constant/ConstantDesc"), (0, .class_ 4), (0, u "java/lang/Object")] 32

/-- java/lang/constant/ConstantDesc -/
def k6 : Class := { plain "java/lang/constant/ConstantDesc" (some 0) with
  accessFlags := 1537
  interfaces := #[]
  cf := some (fileOf pool6 1 #[] #[] 1537 3 #[] #[])
  fields := #[]
  methods := #[]
  instanceTypes := #[]
  staticTypes := #[]
  resolved := Array.replicate 37 none
  statics := none }

def pool7 : Array CpInfo := pool [(1, .methodref 2 3), (0, .class_ 4), (0, .nameAndType 5 6), (0, u "java/lang/Object"), (0, u "<init>"), (0, u "()V"), (0, .string 8), (0, u ""), (0, .fieldref 10 11), (0, .class_ 12), (0, .nameAndType 13 14), (0, u "java/lang/String"), (0, u "value"), (0, u "[B"), (0, .fieldref 10 16), (0, .nameAndType 17 18), (0, u "coder"), (0, u "B"), (2, u "hash"), (0, u "I"), (2, u "hashIsZero"), (0, u "Z"), (0, .methodref 10 28), (0, .nameAndType 5 29), (0, u "([CIILjava/lang/Void;)V"), (8, .fieldref 10 39), (0, .nameAndType 40 26), (0, u "COMPACT_STRINGS"), (1, .class_ 44), (1, u "java/lang/StringUTF16"), (0, u "compress"), (1, .methodref 42 48), (0, .nameAndType 49 50), (0, u "coderFromArrayLen"), (0, u "([BI)B"), (46, u "([BII)I"), (9, .class_ 109), (1, u "java/lang/StringLatin1"), (32, u "()Z"), (34, .methodref 42 178), (0, .nameAndType 45 179), (0, u "([CII)[B"), (154, u "()I"), (0, .methodref 10 336), (0, .nameAndType 17 337), (0, u "()B"), (25, u "([BI)C"), (27, u "(II)V"), (35, u "(I)C"), (64, .methodref 10 493), (0, .nameAndType 494 142), (0, u "isLatin1"), (0, .methodref 107 496), (0, .nameAndType 497 363), (0, u "charAt"), (0, .methodref 42 496), (0, .methodref 10 500), (0, .nameAndType 501 391), (0, u "checkIndex"), (0, .methodref 42 503), (0, .nameAndType 504 97), (0, u "codePointAt"), (2, u "length"), (67, .class_ 576), (0, u "java/lang/CharSequence"), (22, u "CASE_INSENSITIVE_ORDER"), (0, u "Ljava/util/Comparator;"), (164, u "(I)I"), (244, u "([C)V"), (42, .fieldref 1054 1055), (0, .class_ 1056), (0, .nameAndType 1057 1058), (0, u "jdk/internal/util/Preconditions"), (0, u "SIOOBE_FORMATTER"), (0, u "Ljava/util/function/BiFunction;"), (0, .methodref 1054 1060), (0, .nameAndType 501 1061), (0, u "(IILjava/util/function/BiFunction;)I"), (39, u "serialPersistentFields"), (0, u "[Ljava/io/ObjectStreamField;"), (0, .class_ 1104), (0, u "java/lang/String$CaseInsensitiveComparator"), (1, .class_ 1107), (0, u "java/io/Serializable"), (0, .class_ 1109), (0, u "java/lang/Comparable"), (0, .class_ 1111), (0, u "java/lang/constant/Constable"), (0, .class_ 1113), (0, u "java/lang/constant/ConstantDesc"), (2, u "serialVersionUID"), (0, u "J"), (3, u "REPL"), (0, u "C"), (2, u "LATIN1"), (1, u "UTF16")] 323

def k7m0 : Method := { name := "<init>", desc := "()V", sig := { parameters := [], returnType := none }, accessFlags := 1, code := none }
def k7c1 : Code := { maxStack := 5, maxLocals := 2, code := jdk_42_method_3_code, exceptionTable := #[], attributes := #[] }
def k7m1 : Method := { name := "<init>", desc := "([C)V", sig := { parameters := [(.array .char)], returnType := none }, accessFlags := 1, code := some k7c1 }
def k7c2 : Code := { maxStack := 2, maxLocals := 1, code := jdk_42_method_54_code, exceptionTable := #[], attributes := #[] }
def k7m2 : Method := { name := "length", desc := "()I", sig := { parameters := [], returnType := some .int }, accessFlags := 1, code := some k7c2 }
def k7c3 : Code := { maxStack := 2, maxLocals := 2, code := jdk_42_method_56_code, exceptionTable := #[], attributes := #[] }
def k7m3 : Method := { name := "charAt", desc := "(I)C", sig := { parameters := [.int], returnType := some .char }, accessFlags := 1, code := some k7c3 }
def k7c4 : Code := { maxStack := 3, maxLocals := 3, code := jdk_42_method_57_code, exceptionTable := #[], attributes := #[] }
def k7m4 : Method := { name := "codePointAt", desc := "(I)I", sig := { parameters := [.int], returnType := some .int }, accessFlags := 1, code := some k7c4 }
def k7c5 : Code := { maxStack := 4, maxLocals := 6, code := jdk_42_method_149_code, exceptionTable := #[], attributes := #[] }
def k7m5 : Method := { name := "<init>", desc := "([CIILjava/lang/Void;)V", sig := { parameters := [(.array .char), .int, .int, (.object "java/lang/Void")], returnType := none }, accessFlags := 2, code := some k7c5 }
def k7c6 : Code := { maxStack := 1, maxLocals := 1, code := jdk_42_method_152_code, exceptionTable := #[], attributes := #[] }
def k7m6 : Method := { name := "coder", desc := "()B", sig := { parameters := [], returnType := some .byte }, accessFlags := 0, code := some k7c6 }
def k7c7 : Code := { maxStack := 1, maxLocals := 1, code := jdk_42_method_154_code, exceptionTable := #[], attributes := #[] }
def k7m7 : Method := { name := "isLatin1", desc := "()Z", sig := { parameters := [], returnType := some .boolean }, accessFlags := 0, code := some k7c7 }
def k7c8 : Code := { maxStack := 3, maxLocals := 2, code := jdk_42_method_155_code, exceptionTable := #[], attributes := #[] }
def k7m8 : Method := { name := "checkIndex", desc := "(II)V", sig := { parameters := [.int, .int], returnType := none }, accessFlags := 8, code := some k7c8 }
/-- java/lang/String -/
def k7 : Class := { plain "java/lang/String" (some 0) with
  accessFlags := 49
  interfaces := #[2, 3, 4, 5, 6]
  cf := some (fileOf pool7 10 #[.nestMembers #[1103]] #[{ accessFlags := 1, nameIndex := 5, descriptorIndex := 6, attributes := #[] }, { accessFlags := 1, nameIndex := 5, descriptorIndex := 1010, attributes := #[] }, { accessFlags := 1, nameIndex := 507, descriptorIndex := 334, attributes := #[] }, { accessFlags := 1, nameIndex := 497, descriptorIndex := 427, attributes := #[] }, { accessFlags := 1, nameIndex := 504, descriptorIndex := 765, attributes := #[] }, { accessFlags := 2, nameIndex := 5, descriptorIndex := 29, attributes := #[] }, { accessFlags := 0, nameIndex := 17, descriptorIndex := 337, attributes := #[] }, { accessFlags := 0, nameIndex := 494, descriptorIndex := 142, attributes := #[] }, { accessFlags := 8, nameIndex := 501, descriptorIndex := 391, attributes := #[] }] 49 2 #[1106, 1108, 575, 1110, 1112] #[{ accessFlags := 18, nameIndex := 13, descriptorIndex := 14, attributes := #[] }, { accessFlags := 18, nameIndex := 17, descriptorIndex := 18, attributes := #[] }, { accessFlags := 2, nameIndex := 21, descriptorIndex := 22, attributes := #[] }, { accessFlags := 2, nameIndex := 25, descriptorIndex := 26, attributes := #[] }, { accessFlags := 26, nameIndex := 1116, descriptorIndex := 1117, attributes := #[] }, { accessFlags := 24, nameIndex := 40, descriptorIndex := 26, attributes := #[] }, { accessFlags := 26, nameIndex := 1101, descriptorIndex := 1102, attributes := #[] }, { accessFlags := 26, nameIndex := 1121, descriptorIndex := 1122, attributes := #[] }, { accessFlags := 25, nameIndex := 599, descriptorIndex := 600, attributes := #[] }, { accessFlags := 24, nameIndex := 1125, descriptorIndex := 18, attributes := #[] }, { accessFlags := 24, nameIndex := 1127, descriptorIndex := 18, attributes := #[] }])
  fields := #[{ name := "value", type := (.array .byte), accessFlags := 18, slot := 0, constantValue := 0 }, { name := "coder", type := .byte, accessFlags := 18, slot := 1, constantValue := 0 }, { name := "hash", type := .int, accessFlags := 2, slot := 2, constantValue := 0 }, { name := "hashIsZero", type := .boolean, accessFlags := 2, slot := 3, constantValue := 0 }, { name := "serialVersionUID", type := .long, accessFlags := 26, slot := 0, constantValue := 0 }, { name := "COMPACT_STRINGS", type := .boolean, accessFlags := 24, slot := 1, constantValue := 0 }, { name := "serialPersistentFields", type := (.array (.object "java/io/ObjectStreamField")), accessFlags := 26, slot := 2, constantValue := 0 }, { name := "REPL", type := .char, accessFlags := 26, slot := 3, constantValue := 0 }, { name := "CASE_INSENSITIVE_ORDER", type := (.object "java/util/Comparator"), accessFlags := 25, slot := 4, constantValue := 0 }, { name := "LATIN1", type := .byte, accessFlags := 24, slot := 5, constantValue := 0 }, { name := "UTF16", type := .byte, accessFlags := 24, slot := 6, constantValue := 0 }]
  methods := #[k7m0, k7m1, k7m2, k7m3, k7m4, k7m5, k7m6, k7m7, k7m8]
  instanceTypes := #[(.array .byte), .byte, .int, .boolean]
  staticTypes := #[.long, .boolean, (.array (.object "java/io/ObjectStreamField")), .char, (.object "java/util/Comparator"), .byte, .byte]
  resolved := Array.replicate 1451 none
  statics := some 0 }

def pool8 : Array CpInfo := pool [(2, .class_ 4), (1, u "java/lang/Object"), (0, u "<init>"), (0, u "()V"), (0, .methodref 8 9), (0, .class_ 10), (0, .nameAndType 11 12), (0, u "java/lang/String"), (0, u "length"), (0, u "()I"), (0, .methodref 14 15), (0, .class_ 16), (0, .nameAndType 17 18), (0, u "java/lang/Math"), (0, u "min"), (0, u "(II)I"), (0, .methodref 8 20), (0, .nameAndType 21 22), (0, u "charAt"), (0, u "(I)C"), (0, .methodref 24 25), (0, .class_ 26), (0, .nameAndType 27 18), (0, u "java/lang/Integer"), (0, u "compare"), (0, .methodref 29 30), (0, .class_ 31), (0, .nameAndType 32 33), (0, u "java/lang/Character"), (0, u "isSurrogate"), (0, u "(C)Z"), (0, .methodref 29 35), (0, .nameAndType 36 33), (0, u "isHighSurrogate"), (0, .methodref 29 38), (0, .nameAndType 39 33), (0, u "isLowSurrogate"), (0, .methodref 8 41), (0, .nameAndType 42 43), (0, u "codePointAt"), (0, u "(I)I"), (0, .methodref 29 45), (0, .nameAndType 27 46), (0, u "(CC)I"), (0, .class_ 48), (0, u "com/example/words_into_queries/wordsintoqueries/CodePointOrder"), (2, u "(Ljava/lang/String;Ljava/lang/String;)I")] 3

def k8m0 : Method := { name := "<init>", desc := "()V", sig := { parameters := [], returnType := none }, accessFlags := 2, code := none }
def k8c1 : Code := { maxStack := 3, maxLocals := 9, code := prog_1_method_2_code, exceptionTable := #[], attributes := #[] }
def k8m1 : Method := { name := "compare", desc := "(Ljava/lang/String;Ljava/lang/String;)I", sig := { parameters := [(.object "java/lang/String"), (.object "java/lang/String")], returnType := some .int }, accessFlags := 9, code := some k8c1 }
/-- com/example/words_into_queries/wordsintoqueries/CodePointOrder -/
def k8 : Class := { plain "com/example/words_into_queries/wordsintoqueries/CodePointOrder" (some 0) with
  accessFlags := 33
  interfaces := #[]
  cf := some (fileOf pool8 47 #[] #[{ accessFlags := 2, nameIndex := 5, descriptorIndex := 6, attributes := #[] }, { accessFlags := 9, nameIndex := 27, descriptorIndex := 51, attributes := #[] }] 33 2 #[] #[])
  fields := #[]
  methods := #[k8m0, k8m1]
  instanceTypes := #[]
  staticTypes := #[]
  resolved := Array.replicate 55 none
  statics := none }

def pool9 : Array CpInfo := pool [(1, .class_ 2), (0, u "java/lang/Math"), (1, .class_ 6), (1, u "java/lang/Object"), (0, u "<init>"), (0, u "()V"), (89, .class_ 100), (1, u "java/lang/Math$RandomNumberGeneratorHolder"), (71, u "negativeZeroFloatBits"), (0, u "J"), (2, u "negativeZeroDoubleBits"), (24, u "min"), (43, u "$assertionsDisabled"), (0, u "Z"), (88, u "(II)I"), (2, u "twoToTheDoubleScaleDown"), (0, u "D"), (4, u "twoToTheDoubleScaleUp"), (9, u "E"), (3, u "PI"), (2, u "TAU"), (2, u "DEGREES_TO_RADIANS"), (0, u "RADIANS_TO_DEGREES")] 94

def k9m0 : Method := { name := "<init>", desc := "()V", sig := { parameters := [], returnType := none }, accessFlags := 2, code := none }
def k9c1 : Code := { maxStack := 2, maxLocals := 2, code := jdk_29_method_69_code, exceptionTable := #[], attributes := #[] }
def k9m1 : Method := { name := "min", desc := "(II)I", sig := { parameters := [.int, .int], returnType := some .int }, accessFlags := 9, code := some k9c1 }
/-- java/lang/Math -/
def k9 : Class := { plain "java/lang/Math" (some 0) with
  accessFlags := 49
  interfaces := #[]
  cf := some (fileOf pool9 1 #[.nestMembers #[98]] #[{ accessFlags := 2, nameIndex := 7, descriptorIndex := 8, attributes := #[] }, { accessFlags := 9, nameIndex := 201, descriptorIndex := 335, attributes := #[] }] 49 4 #[] #[{ accessFlags := 25, nameIndex := 354, descriptorIndex := 339, attributes := #[] }, { accessFlags := 25, nameIndex := 358, descriptorIndex := 339, attributes := #[] }, { accessFlags := 25, nameIndex := 361, descriptorIndex := 339, attributes := #[] }, { accessFlags := 26, nameIndex := 364, descriptorIndex := 339, attributes := #[] }, { accessFlags := 26, nameIndex := 365, descriptorIndex := 339, attributes := #[] }, { accessFlags := 26, nameIndex := 172, descriptorIndex := 173, attributes := #[] }, { accessFlags := 26, nameIndex := 176, descriptorIndex := 173, attributes := #[] }, { accessFlags := 8, nameIndex := 344, descriptorIndex := 339, attributes := #[] }, { accessFlags := 8, nameIndex := 338, descriptorIndex := 339, attributes := #[] }, { accessFlags := 4120, nameIndex := 245, descriptorIndex := 246, attributes := #[] }])
  fields := #[{ name := "E", type := .double, accessFlags := 25, slot := 0, constantValue := 0 }, { name := "PI", type := .double, accessFlags := 25, slot := 1, constantValue := 0 }, { name := "TAU", type := .double, accessFlags := 25, slot := 2, constantValue := 0 }, { name := "DEGREES_TO_RADIANS", type := .double, accessFlags := 26, slot := 3, constantValue := 0 }, { name := "RADIANS_TO_DEGREES", type := .double, accessFlags := 26, slot := 4, constantValue := 0 }, { name := "negativeZeroFloatBits", type := .long, accessFlags := 26, slot := 5, constantValue := 0 }, { name := "negativeZeroDoubleBits", type := .long, accessFlags := 26, slot := 6, constantValue := 0 }, { name := "twoToTheDoubleScaleUp", type := .double, accessFlags := 8, slot := 7, constantValue := 0 }, { name := "twoToTheDoubleScaleDown", type := .double, accessFlags := 8, slot := 8, constantValue := 0 }, { name := "$assertionsDisabled", type := .boolean, accessFlags := 4120, slot := 9, constantValue := 0 }]
  methods := #[k9m0, k9m1]
  instanceTypes := #[]
  staticTypes := #[.double, .double, .double, .double, .double, .long, .long, .double, .double, .boolean]
  resolved := Array.replicate 460 none
  statics := none }

def pool10 : Array CpInfo := pool [(2, .class_ 4), (1, u "java/lang/Object"), (0, u "<init>"), (0, u "()V"), (1, .class_ 10), (1, u "java/lang/Number"), (2, .class_ 14), (0, u "java/io/Serializable"), (0, u "serialVersionUID"), (0, u "J")] 20

def k10m0 : Method := { name := "<init>", desc := "()V", sig := { parameters := [], returnType := none }, accessFlags := 1, code := none }
/-- java/lang/Number -/
def k10 : Class := { plain "java/lang/Number" (some 0) with
  accessFlags := 1057
  interfaces := #[2]
  cf := some (fileOf pool10 8 #[] #[{ accessFlags := 1, nameIndex := 5, descriptorIndex := 6, attributes := #[] }] 1057 2 #[13] #[{ accessFlags := 26, nameIndex := 15, descriptorIndex := 16, attributes := #[] }])
  fields := #[{ name := "serialVersionUID", type := .long, accessFlags := 26, slot := 0, constantValue := 0 }]
  methods := #[k10m0]
  instanceTypes := #[]
  staticTypes := #[.long]
  resolved := Array.replicate 37 none
  statics := none }

def pool11 : Array CpInfo := pool [(1, .class_ 2), (0, u "java/lang/Integer"), (16, u "digits"), (0, u "[C"), (39, u "(II)I"), (24, u "DigitOnes"), (0, u "[B"), (2, u "DigitTens"), (99, .class_ 190), (0, u "java/lang/Integer$IntegerCache"), (3, u "I"), (8, .class_ 204), (0, u "java/lang/Number"), (2, u "value"), (53, u "compare"), (40, u "TYPE"), (0, u "Ljava/lang/Class;"), (0, .class_ 305), (0, u "java/lang/Comparable"), (0, .class_ 307), (0, u "java/lang/constant/Constable"), (0, .class_ 309), (0, u "java/lang/constant/ConstantDesc"), (0, u "MIN_VALUE"), (1, u "MAX_VALUE"), (3, u "SIZE"), (1, u "BYTES"), (1, u "serialVersionUID"), (0, u "J")] 131

def k11c0 : Code := { maxStack := 2, maxLocals := 2, code := jdk_33_method_40_code, exceptionTable := #[], attributes := #[] }
def k11m0 : Method := { name := "compare", desc := "(II)I", sig := { parameters := [.int, .int], returnType := some .int }, accessFlags := 9, code := some k11c0 }
/-- java/lang/Integer -/
def k11 : Class := { plain "java/lang/Integer" (some 10) with
  accessFlags := 49
  interfaces := #[3, 5, 6]
  cf := some (fileOf pool11 1 #[.nestMembers #[189]] #[{ accessFlags := 9, nameIndex := 261, descriptorIndex := 60, attributes := #[] }] 49 203 #[304, 306, 308] #[{ accessFlags := 25, nameIndex := 310, descriptorIndex := 194, attributes := #[] }, { accessFlags := 25, nameIndex := 312, descriptorIndex := 194, attributes := #[] }, { accessFlags := 25, nameIndex := 302, descriptorIndex := 303, attributes := #[] }, { accessFlags := 24, nameIndex := 19, descriptorIndex := 20, attributes := #[] }, { accessFlags := 24, nameIndex := 89, descriptorIndex := 86, attributes := #[] }, { accessFlags := 24, nameIndex := 85, descriptorIndex := 86, attributes := #[] }, { accessFlags := 18, nameIndex := 207, descriptorIndex := 194, attributes := #[] }, { accessFlags := 25, nameIndex := 316, descriptorIndex := 194, attributes := #[] }, { accessFlags := 25, nameIndex := 318, descriptorIndex := 194, attributes := #[] }, { accessFlags := 26, nameIndex := 320, descriptorIndex := 321, attributes := #[] }])
  fields := #[{ name := "MIN_VALUE", type := .int, accessFlags := 25, slot := 0, constantValue := 0 }, { name := "MAX_VALUE", type := .int, accessFlags := 25, slot := 1, constantValue := 0 }, { name := "TYPE", type := (.object "java/lang/Class"), accessFlags := 25, slot := 2, constantValue := 0 }, { name := "digits", type := (.array .char), accessFlags := 24, slot := 3, constantValue := 0 }, { name := "DigitTens", type := (.array .byte), accessFlags := 24, slot := 4, constantValue := 0 }, { name := "DigitOnes", type := (.array .byte), accessFlags := 24, slot := 5, constantValue := 0 }, { name := "value", type := .int, accessFlags := 18, slot := 0, constantValue := 0 }, { name := "SIZE", type := .int, accessFlags := 25, slot := 6, constantValue := 0 }, { name := "BYTES", type := .int, accessFlags := 25, slot := 7, constantValue := 0 }, { name := "serialVersionUID", type := .long, accessFlags := 26, slot := 8, constantValue := 0 }]
  methods := #[k11m0]
  instanceTypes := #[.int]
  staticTypes := #[.int, .int, (.object "java/lang/Class"), (.array .char), (.array .byte), (.array .byte), .int, .int, .long]
  resolved := Array.replicate 453 none
  statics := none }

def pool12 : Array CpInfo := pool [(3, .class_ 4), (0, u "java/lang/String"), (1, .class_ 8), (1, u "java/lang/Object"), (0, u "<init>"), (0, u "()V"), (0, .methodref 12 13), (0, .class_ 14), (0, .nameAndType 15 16), (0, u "java/lang/StringUTF16"), (0, u "newBytesLength"), (0, u "(I)I"), (3, .integer 1073741823), (23, .fieldref 12 45), (0, .nameAndType 46 47), (0, u "$assertionsDisabled"), (0, u "Z"), (0, .methodref 12 49), (0, .nameAndType 50 51), (0, u "length"), (0, u "([B)I"), (7, .fieldref 12 60), (0, .nameAndType 61 62), (0, u "HI_BYTE_SHIFT"), (0, u "I"), (0, .fieldref 12 64), (0, .nameAndType 65 62), (0, u "LO_BYTE_SHIFT"), (1, .methodref 12 68), (0, .nameAndType 69 70), (0, u "checkIndex"), (0, u "(I[B)V"), (0, .methodref 12 72), (0, .nameAndType 73 74), (0, u "getChar"), (0, u "([BI)C"), (0, .methodref 76 77), (0, .class_ 78), (0, .nameAndType 79 80), (0, u "java/lang/Character"), (0, u "isHighSurrogate"), (0, u "(C)Z"), (0, .methodref 76 82), (0, .nameAndType 83 80), (0, u "isLowSurrogate"), (0, .methodref 76 85), (0, .nameAndType 86 87), (0, u "toCodePoint"), (0, u "(CC)I"), (0, .methodref 12 89), (0, .nameAndType 90 91), (0, u "codePointAt"), (0, u "([BIIZ)I"), (15, .methodref 12 108), (0, .nameAndType 109 110), (0, u "newBytesFor"), (0, u "(I)[B"), (0, .methodref 12 112), (0, .nameAndType 113 114), (0, u "putChar"), (0, u "([BII)V"), (0, .methodref 12 116), (0, .nameAndType 117 118), (0, u "compress"), (0, u "([CI[BII)I"), (0, .methodref 12 120), (0, .nameAndType 121 122), (0, u "toBytes"), (0, u "([CII)[B"), (127, u "([BII)I"), (10, u "coderFromArrayLen"), (0, u "([BI)B"), (106, .class_ 371), (1, u "java/lang/StringUTF16$LinesSpliterator"), (20, u "charAt"), (21, .methodref 3 415), (0, .nameAndType 69 416), (0, u "(II)V"), (13, u "MAX_LENGTH"), (196, .class_ 628), (0, u "java/lang/StringUTF16$CodePointsSpliterator"), (0, .class_ 630), (0, u "java/lang/StringUTF16$CharsSpliterator")] 4

def k12m0 : Method := { name := "<init>", desc := "()V", sig := { parameters := [], returnType := none }, accessFlags := 0, code := none }
def k12c1 : Code := { maxStack := 1, maxLocals := 1, code := jdk_52_method_2_code, exceptionTable := #[], attributes := #[] }
def k12m1 : Method := { name := "newBytesFor", desc := "(I)[B", sig := { parameters := [.int], returnType := some (.array .byte) }, accessFlags := 9, code := some k12c1 }
def k12c2 : Code := { maxStack := 4, maxLocals := 1, code := jdk_52_method_3_code, exceptionTable := #[], attributes := #[] }
def k12m2 : Method := { name := "newBytesLength", desc := "(I)I", sig := { parameters := [.int], returnType := some .int }, accessFlags := 9, code := some k12c2 }
def k12c3 : Code := { maxStack := 4, maxLocals := 3, code := jdk_52_method_4_code, exceptionTable := #[], attributes := #[] }
def k12m3 : Method := { name := "putChar", desc := "([BII)V", sig := { parameters := [(.array .byte), .int, .int], returnType := none }, accessFlags := 8, code := some k12c3 }
def k12c4 : Code := { maxStack := 3, maxLocals := 2, code := jdk_52_method_5_code, exceptionTable := #[], attributes := #[] }
def k12m4 : Method := { name := "getChar", desc := "([BI)C", sig := { parameters := [(.array .byte), .int], returnType := some .char }, accessFlags := 8, code := some k12c4 }
def k12c5 : Code := { maxStack := 2, maxLocals := 1, code := jdk_52_method_6_code, exceptionTable := #[], attributes := #[] }
def k12m5 : Method := { name := "length", desc := "([B)I", sig := { parameters := [(.array .byte)], returnType := some .int }, accessFlags := 9, code := some k12c5 }
def k12c6 : Code := { maxStack := 2, maxLocals := 6, code := jdk_52_method_7_code, exceptionTable := #[], attributes := #[] }
def k12m6 : Method := { name := "codePointAt", desc := "([BIIZ)I", sig := { parameters := [(.array .byte), .int, .int, .boolean], returnType := some .int }, accessFlags := 10, code := some k12c6 }
def k12c7 : Code := { maxStack := 4, maxLocals := 3, code := jdk_52_method_8_code, exceptionTable := #[], attributes := #[] }
def k12m7 : Method := { name := "codePointAt", desc := "([BII)I", sig := { parameters := [(.array .byte), .int, .int], returnType := some .int }, accessFlags := 9, code := some k12c7 }
def k12c8 : Code := { maxStack := 4, maxLocals := 5, code := jdk_52_method_14_code, exceptionTable := #[], attributes := #[] }
def k12m8 : Method := { name := "toBytes", desc := "([CII)[B", sig := { parameters := [(.array .char), .int, .int], returnType := some (.array .byte) }, accessFlags := 9, code := some k12c8 }
def k12c9 : Code := { maxStack := 2, maxLocals := 2, code := jdk_52_method_15_code, exceptionTable := #[], attributes := #[] }
def k12m9 : Method := { name := "coderFromArrayLen", desc := "([BI)B", sig := { parameters := [(.array .byte), .int], returnType := some .byte }, accessFlags := 8, code := some k12c9 }
def k12c10 : Code := { maxStack := 5, maxLocals := 6, code := jdk_52_method_16_code, exceptionTable := #[], attributes := #[] }
def k12m10 : Method := { name := "compress", desc := "([CII)[B", sig := { parameters := [(.array .char), .int, .int], returnType := some (.array .byte) }, accessFlags := 9, code := some k12c10 }
def k12c11 : Code := { maxStack := 3, maxLocals := 7, code := jdk_52_method_21_code, exceptionTable := #[], attributes := #[] }
def k12m11 : Method := { name := "compress", desc := "([CI[BII)I", sig := { parameters := [(.array .char), .int, (.array .byte), .int, .int], returnType := some .int }, accessFlags := 9, code := some k12c11 }
def k12c12 : Code := { maxStack := 2, maxLocals := 2, code := jdk_52_method_83_code, exceptionTable := #[], attributes := #[] }
def k12m12 : Method := { name := "charAt", desc := "([BI)C", sig := { parameters := [(.array .byte), .int], returnType := some .char }, accessFlags := 9, code := some k12c12 }
def k12c13 : Code := { maxStack := 2, maxLocals := 2, code := jdk_52_method_91_code, exceptionTable := #[], attributes := #[] }
def k12m13 : Method := { name := "checkIndex", desc := "(I[B)V", sig := { parameters := [.int, (.array .byte)], returnType := none }, accessFlags := 9, code := some k12c13 }
/-- java/lang/StringUTF16 -/
def k12 : Class := { plain "java/lang/StringUTF16" (some 0) with
  accessFlags := 48
  interfaces := #[]
  cf := some (fileOf pool12 12 #[.nestMembers #[627, 629, 369]] #[{ accessFlags := 0, nameIndex := 9, descriptorIndex := 10, attributes := #[] }, { accessFlags := 9, nameIndex := 109, descriptorIndex := 110, attributes := #[] }, { accessFlags := 9, nameIndex := 15, descriptorIndex := 16, attributes := #[] }, { accessFlags := 8, nameIndex := 113, descriptorIndex := 114, attributes := #[] }, { accessFlags := 8, nameIndex := 73, descriptorIndex := 74, attributes := #[] }, { accessFlags := 9, nameIndex := 50, descriptorIndex := 51, attributes := #[] }, { accessFlags := 10, nameIndex := 90, descriptorIndex := 91, attributes := #[] }, { accessFlags := 9, nameIndex := 90, descriptorIndex := 250, attributes := #[] }, { accessFlags := 9, nameIndex := 121, descriptorIndex := 122, attributes := #[] }, { accessFlags := 8, nameIndex := 261, descriptorIndex := 262, attributes := #[] }, { accessFlags := 9, nameIndex := 117, descriptorIndex := 122, attributes := #[] }, { accessFlags := 9, nameIndex := 117, descriptorIndex := 118, attributes := #[] }, { accessFlags := 9, nameIndex := 392, descriptorIndex := 74, attributes := #[] }, { accessFlags := 9, nameIndex := 69, descriptorIndex := 70, attributes := #[] }] 48 6 #[] #[{ accessFlags := 26, nameIndex := 61, descriptorIndex := 62, attributes := #[] }, { accessFlags := 26, nameIndex := 65, descriptorIndex := 62, attributes := #[] }, { accessFlags := 24, nameIndex := 430, descriptorIndex := 62, attributes := #[] }, { accessFlags := 4120, nameIndex := 46, descriptorIndex := 47, attributes := #[] }])
  fields := #[{ name := "HI_BYTE_SHIFT", type := .int, accessFlags := 26, slot := 0, constantValue := 0 }, { name := "LO_BYTE_SHIFT", type := .int, accessFlags := 26, slot := 1, constantValue := 0 }, { name := "MAX_LENGTH", type := .int, accessFlags := 24, slot := 2, constantValue := 0 }, { name := "$assertionsDisabled", type := .boolean, accessFlags := 4120, slot := 3, constantValue := 0 }]
  methods := #[k12m0, k12m1, k12m2, k12m3, k12m4, k12m5, k12m6, k12m7, k12m8, k12m9, k12m10, k12m11, k12m12, k12m13]
  instanceTypes := #[]
  staticTypes := #[.int, .int, .int, .boolean]
  resolved := Array.replicate 635 none
  statics := some 1 }

def pool13 : Array CpInfo := pool [(2, .class_ 4), (1, u "java/lang/Object"), (0, u "<init>"), (0, u "()V"), (17, .class_ 26), (1, u "jdk/internal/util/Preconditions"), (6, u "checkIndex"), (21, .class_ 56), (0, u "jdk/internal/util/Preconditions$4"), (57, .class_ 115), (0, u "jdk/internal/util/Preconditions$1"), (7, u "SIOOBE_FORMATTER"), (0, u "Ljava/util/function/BiFunction;"), (0, .class_ 126), (0, u "jdk/internal/util/Preconditions$2"), (3, u "AIOOBE_FORMATTER"), (0, .class_ 132), (0, u "jdk/internal/util/Preconditions$3"), (3, u "IOOBE_FORMATTER"), (41, u "(IILjava/util/function/BiFunction;)I")] 15

def k13m0 : Method := { name := "<init>", desc := "()V", sig := { parameters := [], returnType := none }, accessFlags := 1, code := none }
def k13c1 : Code := { maxStack := 3, maxLocals := 3, code := jdk_41_method_11_code, exceptionTable := #[], attributes := #[] }
def k13m1 : Method := { name := "checkIndex", desc := "(IILjava/util/function/BiFunction;)I", sig := { parameters := [.int, .int, (.object "java/util/function/BiFunction")], returnType := some .int }, accessFlags := 9, code := some k13c1 }
/-- jdk/internal/util/Preconditions -/
def k13 : Class := { plain "jdk/internal/util/Preconditions" (some 0) with
  accessFlags := 33
  interfaces := #[]
  cf := some (fileOf pool13 24 #[.nestMembers #[55, 131, 125, 114]] #[{ accessFlags := 1, nameIndex := 5, descriptorIndex := 6, attributes := #[] }, { accessFlags := 9, nameIndex := 33, descriptorIndex := 178, attributes := #[] }] 33 2 #[] #[{ accessFlags := 25, nameIndex := 123, descriptorIndex := 124, attributes := #[] }, { accessFlags := 25, nameIndex := 130, descriptorIndex := 124, attributes := #[] }, { accessFlags := 25, nameIndex := 136, descriptorIndex := 124, attributes := #[] }])
  fields := #[{ name := "SIOOBE_FORMATTER", type := (.object "java/util/function/BiFunction"), accessFlags := 25, slot := 0, constantValue := 0 }, { name := "AIOOBE_FORMATTER", type := (.object "java/util/function/BiFunction"), accessFlags := 25, slot := 1, constantValue := 0 }, { name := "IOOBE_FORMATTER", type := (.object "java/util/function/BiFunction"), accessFlags := 25, slot := 2, constantValue := 0 }]
  methods := #[k13m0, k13m1]
  instanceTypes := #[]
  staticTypes := #[(.object "java/util/function/BiFunction"), (.object "java/util/function/BiFunction"), (.object "java/util/function/BiFunction")]
  resolved := Array.replicate 194 none
  statics := some 2 }

def pool14 : Array CpInfo := pool [(1, .class_ 2), (0, u "java/lang/Character"), (18, u "value"), (0, u "C"), (19, .class_ 44), (1, u "java/lang/Object"), (3, .class_ 50), (1, u "java/lang/Character$CharacterCache"), (24, .integer 55296), (0, .integer 56320), (0, .integer 57344), (2, u "isHighSurrogate"), (0, u "(C)Z"), (2, u "isLowSurrogate"), (0, .integer 4238353408), (12, u "toCodePoint"), (0, u "(CC)I"), (181, u "compare"), (2, u "$assertionsDisabled"), (0, u "Z"), (21, .class_ 309), (1, u "java/lang/Character$UnicodeBlock"), (73, u "TYPE"), (0, u "Ljava/lang/Class;"), (0, .class_ 386), (0, u "java/io/Serializable"), (0, .class_ 388), (0, u "java/lang/Comparable"), (0, .class_ 390), (0, u "java/lang/constant/Constable"), (0, u "MIN_RADIX"), (0, u "I"), (2, u "MAX_RADIX"), (1, u "MIN_VALUE"), (1, u "MAX_VALUE"), (3, u "UNASSIGNED"), (0, u "B"), (0, u "UPPERCASE_LETTER"), (1, u "LOWERCASE_LETTER"), (0, u "TITLECASE_LETTER"), (1, u "MODIFIER_LETTER"), (1, u "OTHER_LETTER"), (1, u "NON_SPACING_MARK"), (1, u "ENCLOSING_MARK"), (1, u "COMBINING_SPACING_MARK"), (1, u "DECIMAL_DIGIT_NUMBER"), (1, u "LETTER_NUMBER"), (1, u "OTHER_NUMBER"), (1, u "SPACE_SEPARATOR"), (1, u "LINE_SEPARATOR"), (1, u "PARAGRAPH_SEPARATOR"), (1, u "CONTROL"), (1, u "FORMAT"), (1, u "PRIVATE_USE"), (1, u "SURROGATE"), (1, u "DASH_PUNCTUATION"), (1, u "START_PUNCTUATION"), (1, u "END_PUNCTUATION"), (1, u "CONNECTOR_PUNCTUATION"), (1, u "OTHER_PUNCTUATION"), (1, u "MATH_SYMBOL"), (1, u "CURRENCY_SYMBOL"), (1, u "MODIFIER_SYMBOL"), (1, u "OTHER_SYMBOL"), (1, u "INITIAL_QUOTE_PUNCTUATION"), (1, u "FINAL_QUOTE_PUNCTUATION"), (1, u "ERROR"), (1, u "DIRECTIONALITY_UNDEFINED"), (0, u "DIRECTIONALITY_LEFT_TO_RIGHT"), (0, u "DIRECTIONALITY_RIGHT_TO_LEFT"), (0, u "DIRECTIONALITY_RIGHT_TO_LEFT_ARABIC"), (0, u "DIRECTIONALITY_EUROPEAN_NUMBER"), (0, u "DIRECTIONALITY_EUROPEAN_NUMBER_SEPARATOR"), (0, u "DIRECTIONALITY_EUROPEAN_NUMBER_TERMINATOR"), (0, u "DIRECTIONALITY_ARABIC_NUMBER"), (0, u "DIRECTIONALITY_COMMON_NUMBER_SEPARATOR"), (0, u "DIRECTIONALITY_NONSPACING_MARK"), (0, u "DIRECTIONALITY_BOUNDARY_NEUTRAL"), (0, u "DIRECTIONALITY_PARAGRAPH_SEPARATOR"), (0, u "DIRECTIONALITY_SEGMENT_SEPARATOR"), (0, u "DIRECTIONALITY_WHITESPACE"), (0, u "DIRECTIONALITY_OTHER_NEUTRALS"), (0, u "DIRECTIONALITY_LEFT_TO_RIGHT_EMBEDDING"), (0, u "DIRECTIONALITY_LEFT_TO_RIGHT_OVERRIDE"), (0, u "DIRECTIONALITY_RIGHT_TO_LEFT_EMBEDDING"), (0, u "DIRECTIONALITY_RIGHT_TO_LEFT_OVERRIDE"), (1, u "DIRECTIONALITY_POP_DIRECTIONAL_FORMAT"), (0, u "DIRECTIONALITY_LEFT_TO_RIGHT_ISOLATE"), (0, u "DIRECTIONALITY_RIGHT_TO_LEFT_ISOLATE"), (0, u "DIRECTIONALITY_FIRST_STRONG_ISOLATE"), (0, u "DIRECTIONALITY_POP_DIRECTIONAL_ISOLATE"), (0, u "MIN_HIGH_SURROGATE"), (0, u "MAX_HIGH_SURROGATE"), (1, u "MIN_LOW_SURROGATE"), (0, u "MAX_LOW_SURROGATE"), (1, u "MIN_SURROGATE"), (0, u "MAX_SURROGATE"), (0, u "MIN_SUPPLEMENTARY_CODE_POINT"), (0, u "MIN_CODE_POINT"), (0, u "MAX_CODE_POINT"), (1, u "serialVersionUID"), (0, u "J"), (2, u "SIZE"), (0, u "BYTES"), (24, u "isSurrogate"), (63, .class_ 596), (0, u "java/lang/Character$UnicodeScript"), (0, .class_ 598), (0, u "java/lang/Character$Subset")] 5

def k14c0 : Code := { maxStack := 2, maxLocals := 1, code := jdk_89_method_14_code, exceptionTable := #[], attributes := #[] }
def k14m0 : Method := { name := "isHighSurrogate", desc := "(C)Z", sig := { parameters := [.char], returnType := some .boolean }, accessFlags := 9, code := some k14c0 }
def k14c1 : Code := { maxStack := 2, maxLocals := 1, code := jdk_89_method_15_code, exceptionTable := #[], attributes := #[] }
def k14m1 : Method := { name := "isLowSurrogate", desc := "(C)Z", sig := { parameters := [.char], returnType := some .boolean }, accessFlags := 9, code := some k14c1 }
def k14c2 : Code := { maxStack := 2, maxLocals := 1, code := jdk_89_method_16_code, exceptionTable := #[], attributes := #[] }
def k14m2 : Method := { name := "isSurrogate", desc := "(C)Z", sig := { parameters := [.char], returnType := some .boolean }, accessFlags := 9, code := some k14c2 }
def k14c3 : Code := { maxStack := 2, maxLocals := 2, code := jdk_89_method_19_code, exceptionTable := #[], attributes := #[] }
def k14m3 : Method := { name := "toCodePoint", desc := "(CC)I", sig := { parameters := [.char, .char], returnType := some .int }, accessFlags := 9, code := some k14c3 }
def k14c4 : Code := { maxStack := 2, maxLocals := 2, code := jdk_89_method_98_code, exceptionTable := #[], attributes := #[] }
def k14m4 : Method := { name := "compare", desc := "(CC)I", sig := { parameters := [.char, .char], returnType := some .int }, accessFlags := 9, code := some k14c4 }
/-- java/lang/Character -/
def k14 : Class := { plain "java/lang/Character" (some 0) with
  accessFlags := 49
  interfaces := #[2, 3, 5]
  cf := some (fileOf pool14 1 #[.nestMembers #[48, 595, 307, 597]] #[{ accessFlags := 9, nameIndex := 80, descriptorIndex := 81, attributes := #[] }, { accessFlags := 9, nameIndex := 84, descriptorIndex := 81, attributes := #[] }, { accessFlags := 9, nameIndex := 531, descriptorIndex := 81, attributes := #[] }, { accessFlags := 9, nameIndex := 98, descriptorIndex := 99, attributes := #[] }, { accessFlags := 9, nameIndex := 281, descriptorIndex := 99, attributes := #[] }] 49 42 #[385, 387, 389] #[{ accessFlags := 25, nameIndex := 391, descriptorIndex := 392, attributes := #[] }, { accessFlags := 25, nameIndex := 395, descriptorIndex := 392, attributes := #[] }, { accessFlags := 25, nameIndex := 397, descriptorIndex := 22, attributes := #[] }, { accessFlags := 25, nameIndex := 399, descriptorIndex := 22, attributes := #[] }, { accessFlags := 25, nameIndex := 383, descriptorIndex := 384, attributes := #[] }, { accessFlags := 25, nameIndex := 403, descriptorIndex := 404, attributes := #[] }, { accessFlags := 25, nameIndex := 405, descriptorIndex := 404, attributes := #[] }, { accessFlags := 25, nameIndex := 407, descriptorIndex := 404, attributes := #[] }, { accessFlags := 25, nameIndex := 408, descriptorIndex := 404, attributes := #[] }, { accessFlags := 25, nameIndex := 410, descriptorIndex := 404, attributes := #[] }, { accessFlags := 25, nameIndex := 412, descriptorIndex := 404, attributes := #[] }, { accessFlags := 25, nameIndex := 414, descriptorIndex := 404, attributes := #[] }, { accessFlags := 25, nameIndex := 416, descriptorIndex := 404, attributes := #[] }, { accessFlags := 25, nameIndex := 418, descriptorIndex := 404, attributes := #[] }, { accessFlags := 25, nameIndex := 420, descriptorIndex := 404, attributes := #[] }, { accessFlags := 25, nameIndex := 422, descriptorIndex := 404, attributes := #[] }, { accessFlags := 25, nameIndex := 424, descriptorIndex := 404, attributes := #[] }, { accessFlags := 25, nameIndex := 426, descriptorIndex := 404, attributes := #[] }, { accessFlags := 25, nameIndex := 428, descriptorIndex := 404, attributes := #[] }, { accessFlags := 25, nameIndex := 430, descriptorIndex := 404, attributes := #[] }, { accessFlags := 25, nameIndex := 432, descriptorIndex := 404, attributes := #[] }, { accessFlags := 25, nameIndex := 434, descriptorIndex := 404, attributes := #[] }, { accessFlags := 25, nameIndex := 436, descriptorIndex := 404, attributes := #[] }, { accessFlags := 25, nameIndex := 438, descriptorIndex := 404, attributes := #[] }, { accessFlags := 25, nameIndex := 440, descriptorIndex := 404, attributes := #[] }, { accessFlags := 25, nameIndex := 442, descriptorIndex := 404, attributes := #[] }, { accessFlags := 25, nameIndex := 444, descriptorIndex := 404, attributes := #[] }, { accessFlags := 25, nameIndex := 446, descriptorIndex := 404, attributes := #[] }, { accessFlags := 25, nameIndex := 448, descriptorIndex := 404, attributes := #[] }, { accessFlags := 25, nameIndex := 450, descriptorIndex := 404, attributes := #[] }, { accessFlags := 25, nameIndex := 452, descriptorIndex := 404, attributes := #[] }, { accessFlags := 25, nameIndex := 454, descriptorIndex := 404, attributes := #[] }, { accessFlags := 25, nameIndex := 456, descriptorIndex := 404, attributes := #[] }, { accessFlags := 25, nameIndex := 458, descriptorIndex := 404, attributes := #[] }, { accessFlags := 25, nameIndex := 460, descriptorIndex := 404, attributes := #[] }, { accessFlags := 24, nameIndex := 462, descriptorIndex := 392, attributes := #[] }, { accessFlags := 25, nameIndex := 464, descriptorIndex := 404, attributes := #[] }, { accessFlags := 25, nameIndex := 465, descriptorIndex := 404, attributes := #[] }, { accessFlags := 25, nameIndex := 466, descriptorIndex := 404, attributes := #[] }, { accessFlags := 25, nameIndex := 467, descriptorIndex := 404, attributes := #[] }, { accessFlags := 25, nameIndex := 468, descriptorIndex := 404, attributes := #[] }, { accessFlags := 25, nameIndex := 469, descriptorIndex := 404, attributes := #[] }, { accessFlags := 25, nameIndex := 470, descriptorIndex := 404, attributes := #[] }, { accessFlags := 25, nameIndex := 471, descriptorIndex := 404, attributes := #[] }, { accessFlags := 25, nameIndex := 472, descriptorIndex := 404, attributes := #[] }, { accessFlags := 25, nameIndex := 473, descriptorIndex := 404, attributes := #[] }, { accessFlags := 25, nameIndex := 474, descriptorIndex := 404, attributes := #[] }, { accessFlags := 25, nameIndex := 475, descriptorIndex := 404, attributes := #[] }, { accessFlags := 25, nameIndex := 476, descriptorIndex := 404, attributes := #[] }, { accessFlags := 25, nameIndex := 477, descriptorIndex := 404, attributes := #[] }, { accessFlags := 25, nameIndex := 478, descriptorIndex := 404, attributes := #[] }, { accessFlags := 25, nameIndex := 479, descriptorIndex := 404, attributes := #[] }, { accessFlags := 25, nameIndex := 480, descriptorIndex := 404, attributes := #[] }, { accessFlags := 25, nameIndex := 481, descriptorIndex := 404, attributes := #[] }, { accessFlags := 25, nameIndex := 482, descriptorIndex := 404, attributes := #[] }, { accessFlags := 25, nameIndex := 484, descriptorIndex := 404, attributes := #[] }, { accessFlags := 25, nameIndex := 485, descriptorIndex := 404, attributes := #[] }, { accessFlags := 25, nameIndex := 486, descriptorIndex := 404, attributes := #[] }, { accessFlags := 25, nameIndex := 487, descriptorIndex := 404, attributes := #[] }, { accessFlags := 25, nameIndex := 488, descriptorIndex := 404, attributes := #[] }, { accessFlags := 25, nameIndex := 489, descriptorIndex := 22, attributes := #[] }, { accessFlags := 25, nameIndex := 490, descriptorIndex := 22, attributes := #[] }, { accessFlags := 25, nameIndex := 492, descriptorIndex := 22, attributes := #[] }, { accessFlags := 25, nameIndex := 493, descriptorIndex := 22, attributes := #[] }, { accessFlags := 25, nameIndex := 495, descriptorIndex := 22, attributes := #[] }, { accessFlags := 25, nameIndex := 496, descriptorIndex := 22, attributes := #[] }, { accessFlags := 25, nameIndex := 497, descriptorIndex := 392, attributes := #[] }, { accessFlags := 25, nameIndex := 498, descriptorIndex := 392, attributes := #[] }, { accessFlags := 25, nameIndex := 499, descriptorIndex := 392, attributes := #[] }, { accessFlags := 18, nameIndex := 21, descriptorIndex := 22, attributes := #[] }, { accessFlags := 26, nameIndex := 501, descriptorIndex := 502, attributes := #[] }, { accessFlags := 25, nameIndex := 505, descriptorIndex := 392, attributes := #[] }, { accessFlags := 25, nameIndex := 506, descriptorIndex := 392, attributes := #[] }, { accessFlags := 4120, nameIndex := 284, descriptorIndex := 285, attributes := #[] }])
  fields := #[{ name := "MIN_RADIX", type := .int, accessFlags := 25, slot := 0, constantValue := 0 }, { name := "MAX_RADIX", type := .int, accessFlags := 25, slot := 1, constantValue := 0 }, { name := "MIN_VALUE", type := .char, accessFlags := 25, slot := 2, constantValue := 0 }, { name := "MAX_VALUE", type := .char, accessFlags := 25, slot := 3, constantValue := 0 }, { name := "TYPE", type := (.object "java/lang/Class"), accessFlags := 25, slot := 4, constantValue := 0 }, { name := "UNASSIGNED", type := .byte, accessFlags := 25, slot := 5, constantValue := 0 }, { name := "UPPERCASE_LETTER", type := .byte, accessFlags := 25, slot := 6, constantValue := 0 }, { name := "LOWERCASE_LETTER", type := .byte, accessFlags := 25, slot := 7, constantValue := 0 }, { name := "TITLECASE_LETTER", type := .byte, accessFlags := 25, slot := 8, constantValue := 0 }, { name := "MODIFIER_LETTER", type := .byte, accessFlags := 25, slot := 9, constantValue := 0 }, { name := "OTHER_LETTER", type := .byte, accessFlags := 25, slot := 10, constantValue := 0 }, { name := "NON_SPACING_MARK", type := .byte, accessFlags := 25, slot := 11, constantValue := 0 }, { name := "ENCLOSING_MARK", type := .byte, accessFlags := 25, slot := 12, constantValue := 0 }, { name := "COMBINING_SPACING_MARK", type := .byte, accessFlags := 25, slot := 13, constantValue := 0 }, { name := "DECIMAL_DIGIT_NUMBER", type := .byte, accessFlags := 25, slot := 14, constantValue := 0 }, { name := "LETTER_NUMBER", type := .byte, accessFlags := 25, slot := 15, constantValue := 0 }, { name := "OTHER_NUMBER", type := .byte, accessFlags := 25, slot := 16, constantValue := 0 }, { name := "SPACE_SEPARATOR", type := .byte, accessFlags := 25, slot := 17, constantValue := 0 }, { name := "LINE_SEPARATOR", type := .byte, accessFlags := 25, slot := 18, constantValue := 0 }, { name := "PARAGRAPH_SEPARATOR", type := .byte, accessFlags := 25, slot := 19, constantValue := 0 }, { name := "CONTROL", type := .byte, accessFlags := 25, slot := 20, constantValue := 0 }, { name := "FORMAT", type := .byte, accessFlags := 25, slot := 21, constantValue := 0 }, { name := "PRIVATE_USE", type := .byte, accessFlags := 25, slot := 22, constantValue := 0 }, { name := "SURROGATE", type := .byte, accessFlags := 25, slot := 23, constantValue := 0 }, { name := "DASH_PUNCTUATION", type := .byte, accessFlags := 25, slot := 24, constantValue := 0 }, { name := "START_PUNCTUATION", type := .byte, accessFlags := 25, slot := 25, constantValue := 0 }, { name := "END_PUNCTUATION", type := .byte, accessFlags := 25, slot := 26, constantValue := 0 }, { name := "CONNECTOR_PUNCTUATION", type := .byte, accessFlags := 25, slot := 27, constantValue := 0 }, { name := "OTHER_PUNCTUATION", type := .byte, accessFlags := 25, slot := 28, constantValue := 0 }, { name := "MATH_SYMBOL", type := .byte, accessFlags := 25, slot := 29, constantValue := 0 }, { name := "CURRENCY_SYMBOL", type := .byte, accessFlags := 25, slot := 30, constantValue := 0 }, { name := "MODIFIER_SYMBOL", type := .byte, accessFlags := 25, slot := 31, constantValue := 0 }, { name := "OTHER_SYMBOL", type := .byte, accessFlags := 25, slot := 32, constantValue := 0 }, { name := "INITIAL_QUOTE_PUNCTUATION", type := .byte, accessFlags := 25, slot := 33, constantValue := 0 }, { name := "FINAL_QUOTE_PUNCTUATION", type := .byte, accessFlags := 25, slot := 34, constantValue := 0 }, { name := "ERROR", type := .int, accessFlags := 24, slot := 35, constantValue := 0 }, { name := "DIRECTIONALITY_UNDEFINED", type := .byte, accessFlags := 25, slot := 36, constantValue := 0 }, { name := "DIRECTIONALITY_LEFT_TO_RIGHT", type := .byte, accessFlags := 25, slot := 37, constantValue := 0 }, { name := "DIRECTIONALITY_RIGHT_TO_LEFT", type := .byte, accessFlags := 25, slot := 38, constantValue := 0 }, { name := "DIRECTIONALITY_RIGHT_TO_LEFT_ARABIC", type := .byte, accessFlags := 25, slot := 39, constantValue := 0 }, { name := "DIRECTIONALITY_EUROPEAN_NUMBER", type := .byte, accessFlags := 25, slot := 40, constantValue := 0 }, { name := "DIRECTIONALITY_EUROPEAN_NUMBER_SEPARATOR", type := .byte, accessFlags := 25, slot := 41, constantValue := 0 }, { name := "DIRECTIONALITY_EUROPEAN_NUMBER_TERMINATOR", type := .byte, accessFlags := 25, slot := 42, constantValue := 0 }, { name := "DIRECTIONALITY_ARABIC_NUMBER", type := .byte, accessFlags := 25, slot := 43, constantValue := 0 }, { name := "DIRECTIONALITY_COMMON_NUMBER_SEPARATOR", type := .byte, accessFlags := 25, slot := 44, constantValue := 0 }, { name := "DIRECTIONALITY_NONSPACING_MARK", type := .byte, accessFlags := 25, slot := 45, constantValue := 0 }, { name := "DIRECTIONALITY_BOUNDARY_NEUTRAL", type := .byte, accessFlags := 25, slot := 46, constantValue := 0 }, { name := "DIRECTIONALITY_PARAGRAPH_SEPARATOR", type := .byte, accessFlags := 25, slot := 47, constantValue := 0 }, { name := "DIRECTIONALITY_SEGMENT_SEPARATOR", type := .byte, accessFlags := 25, slot := 48, constantValue := 0 }, { name := "DIRECTIONALITY_WHITESPACE", type := .byte, accessFlags := 25, slot := 49, constantValue := 0 }, { name := "DIRECTIONALITY_OTHER_NEUTRALS", type := .byte, accessFlags := 25, slot := 50, constantValue := 0 }, { name := "DIRECTIONALITY_LEFT_TO_RIGHT_EMBEDDING", type := .byte, accessFlags := 25, slot := 51, constantValue := 0 }, { name := "DIRECTIONALITY_LEFT_TO_RIGHT_OVERRIDE", type := .byte, accessFlags := 25, slot := 52, constantValue := 0 }, { name := "DIRECTIONALITY_RIGHT_TO_LEFT_EMBEDDING", type := .byte, accessFlags := 25, slot := 53, constantValue := 0 }, { name := "DIRECTIONALITY_RIGHT_TO_LEFT_OVERRIDE", type := .byte, accessFlags := 25, slot := 54, constantValue := 0 }, { name := "DIRECTIONALITY_POP_DIRECTIONAL_FORMAT", type := .byte, accessFlags := 25, slot := 55, constantValue := 0 }, { name := "DIRECTIONALITY_LEFT_TO_RIGHT_ISOLATE", type := .byte, accessFlags := 25, slot := 56, constantValue := 0 }, { name := "DIRECTIONALITY_RIGHT_TO_LEFT_ISOLATE", type := .byte, accessFlags := 25, slot := 57, constantValue := 0 }, { name := "DIRECTIONALITY_FIRST_STRONG_ISOLATE", type := .byte, accessFlags := 25, slot := 58, constantValue := 0 }, { name := "DIRECTIONALITY_POP_DIRECTIONAL_ISOLATE", type := .byte, accessFlags := 25, slot := 59, constantValue := 0 }, { name := "MIN_HIGH_SURROGATE", type := .char, accessFlags := 25, slot := 60, constantValue := 0 }, { name := "MAX_HIGH_SURROGATE", type := .char, accessFlags := 25, slot := 61, constantValue := 0 }, { name := "MIN_LOW_SURROGATE", type := .char, accessFlags := 25, slot := 62, constantValue := 0 }, { name := "MAX_LOW_SURROGATE", type := .char, accessFlags := 25, slot := 63, constantValue := 0 }, { name := "MIN_SURROGATE", type := .char, accessFlags := 25, slot := 64, constantValue := 0 }, { name := "MAX_SURROGATE", type := .char, accessFlags := 25, slot := 65, constantValue := 0 }, { name := "MIN_SUPPLEMENTARY_CODE_POINT", type := .int, accessFlags := 25, slot := 66, constantValue := 0 }, { name := "MIN_CODE_POINT", type := .int, accessFlags := 25, slot := 67, constantValue := 0 }, { name := "MAX_CODE_POINT", type := .int, accessFlags := 25, slot := 68, constantValue := 0 }, { name := "value", type := .char, accessFlags := 18, slot := 0, constantValue := 0 }, { name := "serialVersionUID", type := .long, accessFlags := 26, slot := 69, constantValue := 0 }, { name := "SIZE", type := .int, accessFlags := 25, slot := 70, constantValue := 0 }, { name := "BYTES", type := .int, accessFlags := 25, slot := 71, constantValue := 0 }, { name := "$assertionsDisabled", type := .boolean, accessFlags := 4120, slot := 72, constantValue := 0 }]
  methods := #[k14m0, k14m1, k14m2, k14m3, k14m4]
  instanceTypes := #[.char]
  staticTypes := #[.int, .int, .char, .char, (.object "java/lang/Class"), .byte, .byte, .byte, .byte, .byte, .byte, .byte, .byte, .byte, .byte, .byte, .byte, .byte, .byte, .byte, .byte, .byte, .byte, .byte, .byte, .byte, .byte, .byte, .byte, .byte, .byte, .byte, .byte, .byte, .byte, .int, .byte, .byte, .byte, .byte, .byte, .byte, .byte, .byte, .byte, .byte, .byte, .byte, .byte, .byte, .byte, .byte, .byte, .byte, .byte, .byte, .byte, .byte, .byte, .byte, .char, .char, .char, .char, .char, .char, .int, .int, .int, .long, .int, .int, .boolean]
  resolved := Array.replicate 604 none
  statics := none }

def pool15 : Array CpInfo := pool [(1, .class_ 2), (0, u "java/lang/String"), (1, .class_ 6), (1, u "java/lang/Object"), (0, u "<init>"), (0, u "()V"), (0, .methodref 1 10), (0, .nameAndType 11 12), (0, u "checkIndex"), (0, u "(II)V"), (1, .class_ 16), (1, u "java/lang/StringLatin1"), (36, u "([BI)C"), (67, u "$assertionsDisabled"), (0, u "Z"), (98, .class_ 223), (1, u "java/lang/StringLatin1$LinesSpliterator"), (28, u "charAt"), (137, .class_ 391), (0, u "java/lang/StringLatin1$CharsSpliterator")] 3

def k15m0 : Method := { name := "<init>", desc := "()V", sig := { parameters := [], returnType := none }, accessFlags := 0, code := none }
def k15c1 : Code := { maxStack := 2, maxLocals := 2, code := jdk_43_method_2_code, exceptionTable := #[], attributes := #[] }
def k15m1 : Method := { name := "charAt", desc := "([BI)C", sig := { parameters := [(.array .byte), .int], returnType := some .char }, accessFlags := 9, code := some k15c1 }
/-- java/lang/StringLatin1 -/
def k15 : Class := { plain "java/lang/StringLatin1" (some 0) with
  accessFlags := 48
  interfaces := #[]
  cf := some (fileOf pool15 14 #[.nestMembers #[390, 221]] #[{ accessFlags := 0, nameIndex := 7, descriptorIndex := 8, attributes := #[] }, { accessFlags := 9, nameIndex := 252, descriptorIndex := 53, attributes := #[] }] 48 4 #[] #[{ accessFlags := 4120, nameIndex := 121, descriptorIndex := 122, attributes := #[] }])
  fields := #[{ name := "$assertionsDisabled", type := .boolean, accessFlags := 4120, slot := 0, constantValue := 0 }]
  methods := #[k15m0, k15m1]
  instanceTypes := #[]
  staticTypes := #[.boolean]
  resolved := Array.replicate 395 none
  statics := none }

def pool16 : Array CpInfo := pool [(9, u "<init>"), (6, .class_ 18), (1, u "java/lang/Object"), (0, u "()V"), (1, .class_ 23), (1, u "jdk/internal/util/ArraysSupport"), (0, u "LOG2_ARRAY_LONG_INDEX_SCALE"), (0, u "I"), (2, u "U"), (0, u "Ljdk/internal/misc/Unsafe;"), (8, u "BIG_ENDIAN"), (0, u "Z"), (8, u "LOG2_BYTE_BIT_SIZE"), (4, u "LOG2_ARRAY_INT_INDEX_SCALE"), (54, u "JLA"), (0, u "Ljdk/internal/access/JavaLangAccess;"), (11, u "LOG2_ARRAY_BOOLEAN_INDEX_SCALE"), (9, u "LOG2_ARRAY_BYTE_INDEX_SCALE"), (5, u "LOG2_ARRAY_CHAR_INDEX_SCALE"), (5, u "LOG2_ARRAY_SHORT_INDEX_SCALE"), (18, u "LOG2_ARRAY_FLOAT_INDEX_SCALE"), (24, u "LOG2_ARRAY_DOUBLE_INDEX_SCALE"), (89, u "T_BOOLEAN"), (2, u "T_CHAR"), (1, u "T_FLOAT"), (1, u "T_DOUBLE"), (1, u "T_BYTE"), (1, u "T_SHORT"), (1, u "T_INT"), (1, u "T_LONG"), (1, u "SOFT_MAX_ARRAY_LENGTH")] 83

def k16m0 : Method := { name := "<init>", desc := "()V", sig := { parameters := [], returnType := none }, accessFlags := 2, code := none }
/-- jdk/internal/util/ArraysSupport -/
def k16 : Class := { plain "jdk/internal/util/ArraysSupport" (some 0) with
  accessFlags := 33
  interfaces := #[]
  cf := some (fileOf pool16 21 #[] #[{ accessFlags := 2, nameIndex := 9, descriptorIndex := 19, attributes := #[] }] 33 16 #[] #[{ accessFlags := 24, nameIndex := 28, descriptorIndex := 29, attributes := #[] }, { accessFlags := 26, nameIndex := 38, descriptorIndex := 39, attributes := #[] }, { accessFlags := 25, nameIndex := 121, descriptorIndex := 25, attributes := #[] }, { accessFlags := 25, nameIndex := 131, descriptorIndex := 25, attributes := #[] }, { accessFlags := 25, nameIndex := 137, descriptorIndex := 25, attributes := #[] }, { accessFlags := 25, nameIndex := 143, descriptorIndex := 25, attributes := #[] }, { accessFlags := 25, nameIndex := 53, descriptorIndex := 25, attributes := #[] }, { accessFlags := 25, nameIndex := 24, descriptorIndex := 25, attributes := #[] }, { accessFlags := 25, nameIndex := 162, descriptorIndex := 25, attributes := #[] }, { accessFlags := 25, nameIndex := 187, descriptorIndex := 25, attributes := #[] }, { accessFlags := 26, nameIndex := 48, descriptorIndex := 25, attributes := #[] }, { accessFlags := 25, nameIndex := 277, descriptorIndex := 25, attributes := #[] }, { accessFlags := 25, nameIndex := 280, descriptorIndex := 25, attributes := #[] }, { accessFlags := 25, nameIndex := 282, descriptorIndex := 25, attributes := #[] }, { accessFlags := 25, nameIndex := 284, descriptorIndex := 25, attributes := #[] }, { accessFlags := 25, nameIndex := 286, descriptorIndex := 25, attributes := #[] }, { accessFlags := 25, nameIndex := 288, descriptorIndex := 25, attributes := #[] }, { accessFlags := 25, nameIndex := 290, descriptorIndex := 25, attributes := #[] }, { accessFlags := 25, nameIndex := 292, descriptorIndex := 25, attributes := #[] }, { accessFlags := 26, nameIndex := 108, descriptorIndex := 109, attributes := #[] }, { accessFlags := 25, nameIndex := 294, descriptorIndex := 25, attributes := #[] }])
  fields := #[{ name := "U", type := (.object "jdk/internal/misc/Unsafe"), accessFlags := 24, slot := 0, constantValue := 0 }, { name := "BIG_ENDIAN", type := .boolean, accessFlags := 26, slot := 1, constantValue := 0 }, { name := "LOG2_ARRAY_BOOLEAN_INDEX_SCALE", type := .int, accessFlags := 25, slot := 2, constantValue := 0 }, { name := "LOG2_ARRAY_BYTE_INDEX_SCALE", type := .int, accessFlags := 25, slot := 3, constantValue := 0 }, { name := "LOG2_ARRAY_CHAR_INDEX_SCALE", type := .int, accessFlags := 25, slot := 4, constantValue := 0 }, { name := "LOG2_ARRAY_SHORT_INDEX_SCALE", type := .int, accessFlags := 25, slot := 5, constantValue := 0 }, { name := "LOG2_ARRAY_INT_INDEX_SCALE", type := .int, accessFlags := 25, slot := 6, constantValue := 0 }, { name := "LOG2_ARRAY_LONG_INDEX_SCALE", type := .int, accessFlags := 25, slot := 7, constantValue := 0 }, { name := "LOG2_ARRAY_FLOAT_INDEX_SCALE", type := .int, accessFlags := 25, slot := 8, constantValue := 0 }, { name := "LOG2_ARRAY_DOUBLE_INDEX_SCALE", type := .int, accessFlags := 25, slot := 9, constantValue := 0 }, { name := "LOG2_BYTE_BIT_SIZE", type := .int, accessFlags := 26, slot := 10, constantValue := 0 }, { name := "T_BOOLEAN", type := .int, accessFlags := 25, slot := 11, constantValue := 0 }, { name := "T_CHAR", type := .int, accessFlags := 25, slot := 12, constantValue := 0 }, { name := "T_FLOAT", type := .int, accessFlags := 25, slot := 13, constantValue := 0 }, { name := "T_DOUBLE", type := .int, accessFlags := 25, slot := 14, constantValue := 0 }, { name := "T_BYTE", type := .int, accessFlags := 25, slot := 15, constantValue := 0 }, { name := "T_SHORT", type := .int, accessFlags := 25, slot := 16, constantValue := 0 }, { name := "T_INT", type := .int, accessFlags := 25, slot := 17, constantValue := 0 }, { name := "T_LONG", type := .int, accessFlags := 25, slot := 18, constantValue := 0 }, { name := "JLA", type := (.object "jdk/internal/access/JavaLangAccess"), accessFlags := 26, slot := 19, constantValue := 0 }, { name := "SOFT_MAX_ARRAY_LENGTH", type := .int, accessFlags := 25, slot := 20, constantValue := 0 }]
  methods := #[k16m0]
  instanceTypes := #[]
  staticTypes := #[(.object "jdk/internal/misc/Unsafe"), .boolean, .int, .int, .int, .int, .int, .int, .int, .int, .int, .int, .int, .int, .int, .int, .int, .int, .int, (.object "jdk/internal/access/JavaLangAccess"), .int]
  resolved := Array.replicate 378 none
  statics := none }

def pool17 : Array CpInfo := pool [(1, u "java/lang/Cloneable"), (0, .class_ 1), (0, u "java/lang/Object"), (0, .class_ 3)] 3

/-- java/lang/Cloneable -/
def k17 : Class := { plain "java/lang/Cloneable" (some 0) with
  accessFlags := 1537
  interfaces := #[]
  cf := some (fileOf pool17 2 #[] #[] 1537 4 #[] #[])
  fields := #[]
  methods := #[]
  instanceTypes := #[]
  staticTypes := #[]
  resolved := Array.replicate 8 none
  statics := none }

/-- the primitive byte -/
def k18 : Class := { plain "byte" none with kind := .primitive 'B', accessFlags := 0x411 }
/-- [B -/
def k19 : Class := { plain "[B" (some 0) with kind := .array 18 .byte, interfaces := #[17, 2], accessFlags := 1041 }

/-- the primitive char -/
def k20 : Class := { plain "char" none with kind := .primitive 'C', accessFlags := 0x411 }
/-- [C -/
def k21 : Class := { plain "[C" (some 0) with kind := .array 20 .char, interfaces := #[17, 2], accessFlags := 1041 }

/-- the primitive int -/
def k22 : Class := { plain "int" none with kind := .primitive 'I', accessFlags := 0x411 }
/-- [I -/
def k23 : Class := { plain "[I" (some 0) with kind := .array 22 .int, interfaces := #[17, 2], accessFlags := 1041 }

def heap : Heap := #[{ cls := 7, slots := #[.long 0, .int 1, .null, .int 0, .null, .int 0, .int 0], vm := .statics 7 },
  { cls := 12, slots := #[.int 0, .int 8, .int 0, .int 1], vm := .statics 12 },
  { cls := 13, slots := #[.null, .null, .null], vm := .statics 13 }]
def classes : Array Class := #[k0, k1, k2, k3, k4, k5, k6, k7, k8, k9, k10, k11, k12, k13, k14, k15, k16, k17, k18, k19, k20, k21, k22, k23]
def interned : List (Array UInt16 × Addr) := []
def slotsUsed : Nat := 14
def theMethod : MethodId := ⟨1, 8⟩
def args0 : Array Value := #[.long 5, .long 3, .int 7]
def aboutOver (below : List Frame) : State where
  vm := { classes := classes, interned := interned.toArray }
  heap := heap
  slotsUsed := slotsUsed
  threads := #[{ frames := .invoking theMethod args0 :: below }]
def below0 : List Frame := [.native { method := ⟨0, 0⟩, args := #[] }]
def about1 : State := aboutOver below0
def p0 : Program := .bare "" "" ""
def e0 : Env := launch0.env 0 0 0
theorem w_frames : about1.frames = Frame.invoking theMethod args0 :: below0 := rfl
set_option maxRecDepth 65536 in
theorem w_args : argsFit about1.vm theMethod args0 = true := by decide +kernel
set_option maxRecDepth 65536 in
theorem w_heap : heapFits about1 = true := by decide +kernel
set_option maxRecDepth 65536 in
theorem w_runnable : about1.curStatus? = some .runnable := by decide +kernel
set_option maxRecDepth 65536 in
theorem w_alone : about1.alone = true := by decide +kernel
set_option maxRecDepth 65536 in
theorem w_named : about1.methodNamed? x = some theMethod := by decide +kernel
set_option maxRecDepth 65536 in
theorem w_hears : about1.hears theMethod below0 = true := by decide +kernel
set_option maxRecDepth 65536 in
theorem w_ripe : about1.ripe theMethod args0 below0 = true := by decide +kernel
theorem w_running : about1.status = .running := rfl
set_option maxRecDepth 65536 in
theorem w_room : about1.hasRoom e0.platform room_1 = true :=
  launch0.hasRoom_least _ room_1 (by decide +kernel) (by decide +kernel) (by decide +kernel) (by decide +kernel) (by decide +kernel) (by decide +kernel)
theorem allAtoms_all (ts : List Jvm.Cond) (a : Array Jvm.Value) (st : Jvm.State) : (allAtoms ts).before a st = ts.all (fun c => c.before a st) := by
  induction ts with
  | nil => rfl
  | cons c t ih =>
    show (Jvm.Cond.and c (allAtoms t)).before a st = _
    rw [Jvm.Cond.before_and, ih, List.all_cons]
def words1 : List Jvm.Cond := Jvm.Cond.code x code maxLocals ret :: tables_1
/-- a 'code' word, met by the world's own term for the bytes: nothing is compared byte by byte -/
theorem code_word {y : MethodName} {bytes : ByteArray} {mx : Nat} {rt : Option FieldType} {a : Array Value} {s : State} {m : MethodId} {meth : Method} {c : Code} (h1 : s.methodNamed? y = some m) (h2 : s.vm.method? m = some meth) (h3 : meth.code = some c) (h4 : c.code = bytes)
    (h5 : (c.maxLocals == mx && c.exceptionTable.isEmpty && decide (c.maxStack ≤ mostOperands) && decide (meth.sig.returnType = rt) && !meth.locks && decide (parseMethodDescriptor y.desc = some meth.sig)) = true) : (Jvm.Cond.code y bytes mx rt).before a s = true := by
  simp only [Bool.and_eq_true, beq_iff_eq, Bool.not_eq_true', decide_eq_true_eq] at h5
  obtain ⟨⟨⟨⟨⟨g1, g2⟩, g3⟩, g4⟩, g5⟩, g6⟩ := h5
  simp [Cond.before, Cond.holds, Cond.value, h1, h2, h3, h4, g1, g2, g3, g4, g5, g6]
def isCode : Jvm.Cond → Bool
  | .code _ _ _ _ => true
  | _ => false
theorem all_split {L : List Jvm.Cond} {P : Jvm.Cond → Bool} (h1 : L.all (fun c => isCode c || P c) = true) (h2 : ∀ c ∈ L.filter isCode, P c = true) : L.all P = true := by
  refine List.all_eq_true.mpr fun c hc => ?_
  have h := List.all_eq_true.mp h1 c hc
  rcases Bool.eq_false_or_eq_true (isCode c) with hi | hi
  · exact h2 c (List.mem_filter.mpr ⟨hc, hi⟩)
  · simpa [hi] using h
set_option maxRecDepth 65536 in
theorem w_c0 : (Jvm.Cond.code x code maxLocals ret).before args0 about1 = true := code_word (m := ⟨1, 8⟩) (meth := k1m8) (c := k1c8) (by decide +kernel) rfl rfl rfl (by decide +kernel)
set_option maxRecDepth 65536 in
theorem w_c1 : (Jvm.Cond.code ({ cls := "com/example/words_into_queries/wordsintoqueries/CodePointOrderComparePinLaw", name := "pick", desc := "(JIZ)C" } : Jvm.MethodName) method_2_code (6 : Nat) (Option.some Jvm.ClassFile.FieldType.char)).before args0 about1 = true := code_word (m := ⟨1, 1⟩) (meth := k1m1) (c := k1c1) (by decide +kernel) rfl rfl rfl (by decide +kernel)
set_option maxRecDepth 65536 in
theorem w_c2 : (Jvm.Cond.code ({ cls := "com/example/words_into_queries/wordsintoqueries/CodePointOrderComparePinLaw", name := "mk", desc := "(ICCC)[C" } : Jvm.MethodName) method_3_code (4 : Nat) (Option.some (Jvm.ClassFile.FieldType.array Jvm.ClassFile.FieldType.char))).before args0 about1 = true := code_word (m := ⟨1, 2⟩) (meth := k1m2) (c := k1c2) (by decide +kernel) rfl rfl rfl (by decide +kernel)
set_option maxRecDepth 65536 in
theorem w_c3 : (Jvm.Cond.code ({ cls := "java/lang/String", name := "<init>", desc := "([C)V" } : Jvm.MethodName) jdk_42_method_3_code (2 : Nat) (Option.none : Option Jvm.ClassFile.FieldType)).before args0 about1 = true := code_word (m := ⟨7, 1⟩) (meth := k7m1) (c := k7c1) (by decide +kernel) rfl rfl rfl (by decide +kernel)
set_option maxRecDepth 65536 in
theorem w_c4 : (Jvm.Cond.code ({ cls := "java/lang/String", name := "<init>", desc := "([CIILjava/lang/Void;)V" } : Jvm.MethodName) jdk_42_method_149_code (6 : Nat) (Option.none : Option Jvm.ClassFile.FieldType)).before args0 about1 = true := code_word (m := ⟨7, 5⟩) (meth := k7m5) (c := k7c5) (by decide +kernel) rfl rfl rfl (by decide +kernel)
set_option maxRecDepth 65536 in
theorem w_c5 : (Jvm.Cond.code ({ cls := "java/lang/Object", name := "<init>", desc := "()V" } : Jvm.MethodName) object_method_1_code (1 : Nat) (Option.none : Option Jvm.ClassFile.FieldType)).before args0 about1 = true := code_word (m := ⟨0, 0⟩) (meth := k0m0) (c := k0c0) (by decide +kernel) rfl rfl rfl (by decide +kernel)
set_option maxRecDepth 65536 in
theorem w_c6 : (Jvm.Cond.code ({ cls := "com/example/words_into_queries/wordsintoqueries/CodePointOrder", name := "compare", desc := "(Ljava/lang/String;Ljava/lang/String;)I" } : Jvm.MethodName) prog_1_method_2_code (9 : Nat) (Option.some Jvm.ClassFile.FieldType.int)).before args0 about1 = true := code_word (m := ⟨8, 1⟩) (meth := k8m1) (c := k8c1) (by decide +kernel) rfl rfl rfl (by decide +kernel)
set_option maxRecDepth 65536 in
theorem w_c7 : (Jvm.Cond.code ({ cls := "java/lang/String", name := "length", desc := "()I" } : Jvm.MethodName) jdk_42_method_54_code (1 : Nat) (Option.some Jvm.ClassFile.FieldType.int)).before args0 about1 = true := code_word (m := ⟨7, 2⟩) (meth := k7m2) (c := k7c2) (by decide +kernel) rfl rfl rfl (by decide +kernel)
set_option maxRecDepth 65536 in
theorem w_c8 : (Jvm.Cond.code ({ cls := "java/lang/String", name := "coder", desc := "()B" } : Jvm.MethodName) jdk_42_method_152_code (1 : Nat) (Option.some Jvm.ClassFile.FieldType.byte)).before args0 about1 = true := code_word (m := ⟨7, 6⟩) (meth := k7m6) (c := k7c6) (by decide +kernel) rfl rfl rfl (by decide +kernel)
set_option maxRecDepth 65536 in
theorem w_c9 : (Jvm.Cond.code ({ cls := "java/lang/Math", name := "min", desc := "(II)I" } : Jvm.MethodName) jdk_29_method_69_code (2 : Nat) (Option.some Jvm.ClassFile.FieldType.int)).before args0 about1 = true := code_word (m := ⟨9, 1⟩) (meth := k9m1) (c := k9c1) (by decide +kernel) rfl rfl rfl (by decide +kernel)
set_option maxRecDepth 65536 in
theorem w_c10 : (Jvm.Cond.code ({ cls := "java/lang/Integer", name := "compare", desc := "(II)I" } : Jvm.MethodName) jdk_33_method_40_code (2 : Nat) (Option.some Jvm.ClassFile.FieldType.int)).before args0 about1 = true := code_word (m := ⟨11, 0⟩) (meth := k11m0) (c := k11c0) (by decide +kernel) rfl rfl rfl (by decide +kernel)
set_option maxRecDepth 65536 in
theorem w_c11 : (Jvm.Cond.code ({ cls := "com/example/words_into_queries/wordsintoqueries/CodePointOrderComparePinLaw", name := "ref", desc := "([C[C)I" } : Jvm.MethodName) method_8_code (6 : Nat) (Option.some Jvm.ClassFile.FieldType.int)).before args0 about1 = true := code_word (m := ⟨1, 7⟩) (meth := k1m7) (c := k1c7) (by decide +kernel) rfl rfl rfl (by decide +kernel)
set_option maxRecDepth 65536 in
theorem w_c12 : (Jvm.Cond.code ({ cls := "com/example/words_into_queries/wordsintoqueries/CodePointOrderComparePinLaw", name := "at", desc := "([CI)I" } : Jvm.MethodName) method_6_code (3 : Nat) (Option.some Jvm.ClassFile.FieldType.int)).before args0 about1 = true := code_word (m := ⟨1, 5⟩) (meth := k1m5) (c := k1c5) (by decide +kernel) rfl rfl rfl (by decide +kernel)
set_option maxRecDepth 65536 in
theorem w_c13 : (Jvm.Cond.code ({ cls := "com/example/words_into_queries/wordsintoqueries/CodePointOrderComparePinLaw", name := "next", desc := "(II)I" } : Jvm.MethodName) method_7_code (2 : Nat) (Option.some Jvm.ClassFile.FieldType.int)).before args0 about1 = true := code_word (m := ⟨1, 6⟩) (meth := k1m6) (c := k1c6) (by decide +kernel) rfl rfl rfl (by decide +kernel)
set_option maxRecDepth 65536 in
theorem w_c14 : (Jvm.Cond.code ({ cls := "java/lang/StringUTF16", name := "compress", desc := "([CII)[B" } : Jvm.MethodName) jdk_52_method_16_code (6 : Nat) (Option.some (Jvm.ClassFile.FieldType.array Jvm.ClassFile.FieldType.byte))).before args0 about1 = true := code_word (m := ⟨12, 10⟩) (meth := k12m10) (c := k12c10) (by decide +kernel) rfl rfl rfl (by decide +kernel)
set_option maxRecDepth 65536 in
theorem w_c15 : (Jvm.Cond.code ({ cls := "java/lang/StringUTF16", name := "compress", desc := "([CI[BII)I" } : Jvm.MethodName) jdk_52_method_21_code (7 : Nat) (Option.some Jvm.ClassFile.FieldType.int)).before args0 about1 = true := code_word (m := ⟨12, 11⟩) (meth := k12m11) (c := k12c11) (by decide +kernel) rfl rfl rfl (by decide +kernel)
set_option maxRecDepth 65536 in
theorem w_c16 : (Jvm.Cond.code ({ cls := "java/lang/StringUTF16", name := "toBytes", desc := "([CII)[B" } : Jvm.MethodName) jdk_52_method_14_code (5 : Nat) (Option.some (Jvm.ClassFile.FieldType.array Jvm.ClassFile.FieldType.byte))).before args0 about1 = true := code_word (m := ⟨12, 8⟩) (meth := k12m8) (c := k12c8) (by decide +kernel) rfl rfl rfl (by decide +kernel)
set_option maxRecDepth 65536 in
theorem w_c17 : (Jvm.Cond.code ({ cls := "java/lang/StringUTF16", name := "newBytesFor", desc := "(I)[B" } : Jvm.MethodName) jdk_52_method_2_code (1 : Nat) (Option.some (Jvm.ClassFile.FieldType.array Jvm.ClassFile.FieldType.byte))).before args0 about1 = true := code_word (m := ⟨12, 1⟩) (meth := k12m1) (c := k12c1) (by decide +kernel) rfl rfl rfl (by decide +kernel)
set_option maxRecDepth 65536 in
theorem w_c18 : (Jvm.Cond.code ({ cls := "java/lang/StringUTF16", name := "newBytesLength", desc := "(I)I" } : Jvm.MethodName) jdk_52_method_3_code (1 : Nat) (Option.some Jvm.ClassFile.FieldType.int)).before args0 about1 = true := code_word (m := ⟨12, 2⟩) (meth := k12m2) (c := k12c2) (by decide +kernel) rfl rfl rfl (by decide +kernel)
set_option maxRecDepth 65536 in
theorem w_c19 : (Jvm.Cond.code ({ cls := "java/lang/StringUTF16", name := "putChar", desc := "([BII)V" } : Jvm.MethodName) jdk_52_method_4_code (3 : Nat) (Option.none : Option Jvm.ClassFile.FieldType)).before args0 about1 = true := code_word (m := ⟨12, 3⟩) (meth := k12m3) (c := k12c3) (by decide +kernel) rfl rfl rfl (by decide +kernel)
set_option maxRecDepth 65536 in
theorem w_c20 : (Jvm.Cond.code ({ cls := "java/lang/StringUTF16", name := "getChar", desc := "([BI)C" } : Jvm.MethodName) jdk_52_method_5_code (2 : Nat) (Option.some Jvm.ClassFile.FieldType.char)).before args0 about1 = true := code_word (m := ⟨12, 4⟩) (meth := k12m4) (c := k12c4) (by decide +kernel) rfl rfl rfl (by decide +kernel)
set_option maxRecDepth 65536 in
theorem w_c21 : (Jvm.Cond.code ({ cls := "java/lang/StringUTF16", name := "coderFromArrayLen", desc := "([BI)B" } : Jvm.MethodName) jdk_52_method_15_code (2 : Nat) (Option.some Jvm.ClassFile.FieldType.byte)).before args0 about1 = true := code_word (m := ⟨12, 9⟩) (meth := k12m9) (c := k12c9) (by decide +kernel) rfl rfl rfl (by decide +kernel)
set_option maxRecDepth 65536 in
theorem w_c22 : (Jvm.Cond.code ({ cls := "java/lang/String", name := "charAt", desc := "(I)C" } : Jvm.MethodName) jdk_42_method_56_code (2 : Nat) (Option.some Jvm.ClassFile.FieldType.char)).before args0 about1 = true := code_word (m := ⟨7, 3⟩) (meth := k7m3) (c := k7c3) (by decide +kernel) rfl rfl rfl (by decide +kernel)
set_option maxRecDepth 65536 in
theorem w_c23 : (Jvm.Cond.code ({ cls := "java/lang/String", name := "isLatin1", desc := "()Z" } : Jvm.MethodName) jdk_42_method_154_code (1 : Nat) (Option.some Jvm.ClassFile.FieldType.boolean)).before args0 about1 = true := code_word (m := ⟨7, 7⟩) (meth := k7m7) (c := k7c7) (by decide +kernel) rfl rfl rfl (by decide +kernel)
set_option maxRecDepth 65536 in
theorem w_c24 : (Jvm.Cond.code ({ cls := "java/lang/StringUTF16", name := "charAt", desc := "([BI)C" } : Jvm.MethodName) jdk_52_method_83_code (2 : Nat) (Option.some Jvm.ClassFile.FieldType.char)).before args0 about1 = true := code_word (m := ⟨12, 12⟩) (meth := k12m12) (c := k12c12) (by decide +kernel) rfl rfl rfl (by decide +kernel)
set_option maxRecDepth 65536 in
theorem w_c25 : (Jvm.Cond.code ({ cls := "java/lang/StringUTF16", name := "checkIndex", desc := "(I[B)V" } : Jvm.MethodName) jdk_52_method_91_code (2 : Nat) (Option.none : Option Jvm.ClassFile.FieldType)).before args0 about1 = true := code_word (m := ⟨12, 13⟩) (meth := k12m13) (c := k12c13) (by decide +kernel) rfl rfl rfl (by decide +kernel)
set_option maxRecDepth 65536 in
theorem w_c26 : (Jvm.Cond.code ({ cls := "java/lang/StringUTF16", name := "length", desc := "([B)I" } : Jvm.MethodName) jdk_52_method_6_code (1 : Nat) (Option.some Jvm.ClassFile.FieldType.int)).before args0 about1 = true := code_word (m := ⟨12, 5⟩) (meth := k12m5) (c := k12c5) (by decide +kernel) rfl rfl rfl (by decide +kernel)
set_option maxRecDepth 65536 in
theorem w_c27 : (Jvm.Cond.code ({ cls := "java/lang/String", name := "checkIndex", desc := "(II)V" } : Jvm.MethodName) jdk_42_method_155_code (2 : Nat) (Option.none : Option Jvm.ClassFile.FieldType)).before args0 about1 = true := code_word (m := ⟨7, 8⟩) (meth := k7m8) (c := k7c8) (by decide +kernel) rfl rfl rfl (by decide +kernel)
set_option maxRecDepth 65536 in
theorem w_c28 : (Jvm.Cond.code ({ cls := "jdk/internal/util/Preconditions", name := "checkIndex", desc := "(IILjava/util/function/BiFunction;)I" } : Jvm.MethodName) jdk_41_method_11_code (3 : Nat) (Option.some Jvm.ClassFile.FieldType.int)).before args0 about1 = true := code_word (m := ⟨13, 1⟩) (meth := k13m1) (c := k13c1) (by decide +kernel) rfl rfl rfl (by decide +kernel)
set_option maxRecDepth 65536 in
theorem w_c29 : (Jvm.Cond.code ({ cls := "java/lang/Character", name := "isSurrogate", desc := "(C)Z" } : Jvm.MethodName) jdk_89_method_16_code (1 : Nat) (Option.some Jvm.ClassFile.FieldType.boolean)).before args0 about1 = true := code_word (m := ⟨14, 2⟩) (meth := k14m2) (c := k14c2) (by decide +kernel) rfl rfl rfl (by decide +kernel)
set_option maxRecDepth 65536 in
theorem w_c30 : (Jvm.Cond.code ({ cls := "java/lang/String", name := "codePointAt", desc := "(I)I" } : Jvm.MethodName) jdk_42_method_57_code (3 : Nat) (Option.some Jvm.ClassFile.FieldType.int)).before args0 about1 = true := code_word (m := ⟨7, 4⟩) (meth := k7m4) (c := k7c4) (by decide +kernel) rfl rfl rfl (by decide +kernel)
set_option maxRecDepth 65536 in
theorem w_c31 : (Jvm.Cond.code ({ cls := "java/lang/StringUTF16", name := "codePointAt", desc := "([BII)I" } : Jvm.MethodName) jdk_52_method_8_code (3 : Nat) (Option.some Jvm.ClassFile.FieldType.int)).before args0 about1 = true := code_word (m := ⟨12, 7⟩) (meth := k12m7) (c := k12c7) (by decide +kernel) rfl rfl rfl (by decide +kernel)
set_option maxRecDepth 65536 in
theorem w_c32 : (Jvm.Cond.code ({ cls := "java/lang/StringUTF16", name := "codePointAt", desc := "([BIIZ)I" } : Jvm.MethodName) jdk_52_method_7_code (6 : Nat) (Option.some Jvm.ClassFile.FieldType.int)).before args0 about1 = true := code_word (m := ⟨12, 6⟩) (meth := k12m6) (c := k12c6) (by decide +kernel) rfl rfl rfl (by decide +kernel)
set_option maxRecDepth 65536 in
theorem w_c33 : (Jvm.Cond.code ({ cls := "java/lang/Character", name := "isHighSurrogate", desc := "(C)Z" } : Jvm.MethodName) jdk_89_method_14_code (1 : Nat) (Option.some Jvm.ClassFile.FieldType.boolean)).before args0 about1 = true := code_word (m := ⟨14, 0⟩) (meth := k14m0) (c := k14c0) (by decide +kernel) rfl rfl rfl (by decide +kernel)
set_option maxRecDepth 65536 in
theorem w_c34 : (Jvm.Cond.code ({ cls := "com/example/words_into_queries/wordsintoqueries/CodePointOrderComparePinLaw", name := "high", desc := "(C)Z" } : Jvm.MethodName) method_4_code (1 : Nat) (Option.some Jvm.ClassFile.FieldType.boolean)).before args0 about1 = true := code_word (m := ⟨1, 3⟩) (meth := k1m3) (c := k1c3) (by decide +kernel) rfl rfl rfl (by decide +kernel)
set_option maxRecDepth 65536 in
theorem w_c35 : (Jvm.Cond.code ({ cls := "java/lang/Character", name := "compare", desc := "(CC)I" } : Jvm.MethodName) jdk_89_method_98_code (2 : Nat) (Option.some Jvm.ClassFile.FieldType.int)).before args0 about1 = true := code_word (m := ⟨14, 4⟩) (meth := k14m4) (c := k14c4) (by decide +kernel) rfl rfl rfl (by decide +kernel)
set_option maxRecDepth 65536 in
theorem w_c36 : (Jvm.Cond.code ({ cls := "java/lang/Character", name := "isLowSurrogate", desc := "(C)Z" } : Jvm.MethodName) jdk_89_method_15_code (1 : Nat) (Option.some Jvm.ClassFile.FieldType.boolean)).before args0 about1 = true := code_word (m := ⟨14, 1⟩) (meth := k14m1) (c := k14c1) (by decide +kernel) rfl rfl rfl (by decide +kernel)
set_option maxRecDepth 65536 in
theorem w_c37 : (Jvm.Cond.code ({ cls := "java/lang/Character", name := "toCodePoint", desc := "(CC)I" } : Jvm.MethodName) jdk_89_method_19_code (2 : Nat) (Option.some Jvm.ClassFile.FieldType.int)).before args0 about1 = true := code_word (m := ⟨14, 3⟩) (meth := k14m3) (c := k14c3) (by decide +kernel) rfl rfl rfl (by decide +kernel)
set_option maxRecDepth 65536 in
theorem w_c38 : (Jvm.Cond.code ({ cls := "com/example/words_into_queries/wordsintoqueries/CodePointOrderComparePinLaw", name := "low", desc := "(C)Z" } : Jvm.MethodName) method_5_code (1 : Nat) (Option.some Jvm.ClassFile.FieldType.boolean)).before args0 about1 = true := code_word (m := ⟨1, 4⟩) (meth := k1m4) (c := k1c4) (by decide +kernel) rfl rfl rfl (by decide +kernel)
set_option maxRecDepth 65536 in
theorem w_c39 : (Jvm.Cond.code ({ cls := "java/lang/StringLatin1", name := "charAt", desc := "([BI)C" } : Jvm.MethodName) jdk_43_method_2_code (2 : Nat) (Option.some Jvm.ClassFile.FieldType.char)).before args0 about1 = true := code_word (m := ⟨15, 1⟩) (meth := k15m1) (c := k15c1) (by decide +kernel) rfl rfl rfl (by decide +kernel)
def codes1 : List Jvm.Cond := [Jvm.Cond.code x code maxLocals ret, Jvm.Cond.code ({ cls := "com/example/words_into_queries/wordsintoqueries/CodePointOrderComparePinLaw", name := "pick", desc := "(JIZ)C" } : Jvm.MethodName) method_2_code (6 : Nat) (Option.some Jvm.ClassFile.FieldType.char), Jvm.Cond.code ({ cls := "com/example/words_into_queries/wordsintoqueries/CodePointOrderComparePinLaw", name := "mk", desc := "(ICCC)[C" } : Jvm.MethodName) method_3_code (4 : Nat) (Option.some (Jvm.ClassFile.FieldType.array Jvm.ClassFile.FieldType.char)), Jvm.Cond.code ({ cls := "java/lang/String", name := "<init>", desc := "([C)V" } : Jvm.MethodName) jdk_42_method_3_code (2 : Nat) (Option.none : Option Jvm.ClassFile.FieldType), Jvm.Cond.code ({ cls := "java/lang/String", name := "<init>", desc := "([CIILjava/lang/Void;)V" } : Jvm.MethodName) jdk_42_method_149_code (6 : Nat) (Option.none : Option Jvm.ClassFile.FieldType), Jvm.Cond.code ({ cls := "java/lang/Object", name := "<init>", desc := "()V" } : Jvm.MethodName) object_method_1_code (1 : Nat) (Option.none : Option Jvm.ClassFile.FieldType), Jvm.Cond.code ({ cls := "com/example/words_into_queries/wordsintoqueries/CodePointOrder", name := "compare", desc := "(Ljava/lang/String;Ljava/lang/String;)I" } : Jvm.MethodName) prog_1_method_2_code (9 : Nat) (Option.some Jvm.ClassFile.FieldType.int), Jvm.Cond.code ({ cls := "java/lang/String", name := "length", desc := "()I" } : Jvm.MethodName) jdk_42_method_54_code (1 : Nat) (Option.some Jvm.ClassFile.FieldType.int), Jvm.Cond.code ({ cls := "java/lang/String", name := "coder", desc := "()B" } : Jvm.MethodName) jdk_42_method_152_code (1 : Nat) (Option.some Jvm.ClassFile.FieldType.byte), Jvm.Cond.code ({ cls := "java/lang/Math", name := "min", desc := "(II)I" } : Jvm.MethodName) jdk_29_method_69_code (2 : Nat) (Option.some Jvm.ClassFile.FieldType.int), Jvm.Cond.code ({ cls := "java/lang/Integer", name := "compare", desc := "(II)I" } : Jvm.MethodName) jdk_33_method_40_code (2 : Nat) (Option.some Jvm.ClassFile.FieldType.int), Jvm.Cond.code ({ cls := "com/example/words_into_queries/wordsintoqueries/CodePointOrderComparePinLaw", name := "ref", desc := "([C[C)I" } : Jvm.MethodName) method_8_code (6 : Nat) (Option.some Jvm.ClassFile.FieldType.int), Jvm.Cond.code ({ cls := "com/example/words_into_queries/wordsintoqueries/CodePointOrderComparePinLaw", name := "at", desc := "([CI)I" } : Jvm.MethodName) method_6_code (3 : Nat) (Option.some Jvm.ClassFile.FieldType.int), Jvm.Cond.code ({ cls := "com/example/words_into_queries/wordsintoqueries/CodePointOrderComparePinLaw", name := "next", desc := "(II)I" } : Jvm.MethodName) method_7_code (2 : Nat) (Option.some Jvm.ClassFile.FieldType.int), Jvm.Cond.code ({ cls := "java/lang/StringUTF16", name := "compress", desc := "([CII)[B" } : Jvm.MethodName) jdk_52_method_16_code (6 : Nat) (Option.some (Jvm.ClassFile.FieldType.array Jvm.ClassFile.FieldType.byte)), Jvm.Cond.code ({ cls := "java/lang/StringUTF16", name := "compress", desc := "([CI[BII)I" } : Jvm.MethodName) jdk_52_method_21_code (7 : Nat) (Option.some Jvm.ClassFile.FieldType.int), Jvm.Cond.code ({ cls := "java/lang/StringUTF16", name := "toBytes", desc := "([CII)[B" } : Jvm.MethodName) jdk_52_method_14_code (5 : Nat) (Option.some (Jvm.ClassFile.FieldType.array Jvm.ClassFile.FieldType.byte)), Jvm.Cond.code ({ cls := "java/lang/StringUTF16", name := "newBytesFor", desc := "(I)[B" } : Jvm.MethodName) jdk_52_method_2_code (1 : Nat) (Option.some (Jvm.ClassFile.FieldType.array Jvm.ClassFile.FieldType.byte)), Jvm.Cond.code ({ cls := "java/lang/StringUTF16", name := "newBytesLength", desc := "(I)I" } : Jvm.MethodName) jdk_52_method_3_code (1 : Nat) (Option.some Jvm.ClassFile.FieldType.int), Jvm.Cond.code ({ cls := "java/lang/StringUTF16", name := "putChar", desc := "([BII)V" } : Jvm.MethodName) jdk_52_method_4_code (3 : Nat) (Option.none : Option Jvm.ClassFile.FieldType), Jvm.Cond.code ({ cls := "java/lang/StringUTF16", name := "getChar", desc := "([BI)C" } : Jvm.MethodName) jdk_52_method_5_code (2 : Nat) (Option.some Jvm.ClassFile.FieldType.char), Jvm.Cond.code ({ cls := "java/lang/StringUTF16", name := "coderFromArrayLen", desc := "([BI)B" } : Jvm.MethodName) jdk_52_method_15_code (2 : Nat) (Option.some Jvm.ClassFile.FieldType.byte), Jvm.Cond.code ({ cls := "java/lang/String", name := "charAt", desc := "(I)C" } : Jvm.MethodName) jdk_42_method_56_code (2 : Nat) (Option.some Jvm.ClassFile.FieldType.char), Jvm.Cond.code ({ cls := "java/lang/String", name := "isLatin1", desc := "()Z" } : Jvm.MethodName) jdk_42_method_154_code (1 : Nat) (Option.some Jvm.ClassFile.FieldType.boolean), Jvm.Cond.code ({ cls := "java/lang/StringUTF16", name := "charAt", desc := "([BI)C" } : Jvm.MethodName) jdk_52_method_83_code (2 : Nat) (Option.some Jvm.ClassFile.FieldType.char), Jvm.Cond.code ({ cls := "java/lang/StringUTF16", name := "checkIndex", desc := "(I[B)V" } : Jvm.MethodName) jdk_52_method_91_code (2 : Nat) (Option.none : Option Jvm.ClassFile.FieldType), Jvm.Cond.code ({ cls := "java/lang/StringUTF16", name := "length", desc := "([B)I" } : Jvm.MethodName) jdk_52_method_6_code (1 : Nat) (Option.some Jvm.ClassFile.FieldType.int), Jvm.Cond.code ({ cls := "java/lang/String", name := "checkIndex", desc := "(II)V" } : Jvm.MethodName) jdk_42_method_155_code (2 : Nat) (Option.none : Option Jvm.ClassFile.FieldType), Jvm.Cond.code ({ cls := "jdk/internal/util/Preconditions", name := "checkIndex", desc := "(IILjava/util/function/BiFunction;)I" } : Jvm.MethodName) jdk_41_method_11_code (3 : Nat) (Option.some Jvm.ClassFile.FieldType.int), Jvm.Cond.code ({ cls := "java/lang/Character", name := "isSurrogate", desc := "(C)Z" } : Jvm.MethodName) jdk_89_method_16_code (1 : Nat) (Option.some Jvm.ClassFile.FieldType.boolean), Jvm.Cond.code ({ cls := "java/lang/String", name := "codePointAt", desc := "(I)I" } : Jvm.MethodName) jdk_42_method_57_code (3 : Nat) (Option.some Jvm.ClassFile.FieldType.int), Jvm.Cond.code ({ cls := "java/lang/StringUTF16", name := "codePointAt", desc := "([BII)I" } : Jvm.MethodName) jdk_52_method_8_code (3 : Nat) (Option.some Jvm.ClassFile.FieldType.int), Jvm.Cond.code ({ cls := "java/lang/StringUTF16", name := "codePointAt", desc := "([BIIZ)I" } : Jvm.MethodName) jdk_52_method_7_code (6 : Nat) (Option.some Jvm.ClassFile.FieldType.int), Jvm.Cond.code ({ cls := "java/lang/Character", name := "isHighSurrogate", desc := "(C)Z" } : Jvm.MethodName) jdk_89_method_14_code (1 : Nat) (Option.some Jvm.ClassFile.FieldType.boolean), Jvm.Cond.code ({ cls := "com/example/words_into_queries/wordsintoqueries/CodePointOrderComparePinLaw", name := "high", desc := "(C)Z" } : Jvm.MethodName) method_4_code (1 : Nat) (Option.some Jvm.ClassFile.FieldType.boolean), Jvm.Cond.code ({ cls := "java/lang/Character", name := "compare", desc := "(CC)I" } : Jvm.MethodName) jdk_89_method_98_code (2 : Nat) (Option.some Jvm.ClassFile.FieldType.int), Jvm.Cond.code ({ cls := "java/lang/Character", name := "isLowSurrogate", desc := "(C)Z" } : Jvm.MethodName) jdk_89_method_15_code (1 : Nat) (Option.some Jvm.ClassFile.FieldType.boolean), Jvm.Cond.code ({ cls := "java/lang/Character", name := "toCodePoint", desc := "(CC)I" } : Jvm.MethodName) jdk_89_method_19_code (2 : Nat) (Option.some Jvm.ClassFile.FieldType.int), Jvm.Cond.code ({ cls := "com/example/words_into_queries/wordsintoqueries/CodePointOrderComparePinLaw", name := "low", desc := "(C)Z" } : Jvm.MethodName) method_5_code (1 : Nat) (Option.some Jvm.ClassFile.FieldType.boolean), Jvm.Cond.code ({ cls := "java/lang/StringLatin1", name := "charAt", desc := "([BI)C" } : Jvm.MethodName) jdk_43_method_2_code (2 : Nat) (Option.some Jvm.ClassFile.FieldType.char)]
set_option maxRecDepth 65536 in
theorem codes_eq : words1.filter isCode = codes1 := rfl
theorem w_codes : ∀ c ∈ words1.filter isCode, c.before args0 about1 = true := by
  rw [codes_eq]
  intro c hc
  simp only [codes1, List.mem_cons, List.not_mem_nil, or_false] at hc
  rcases hc with rfl | rfl | rfl | rfl | rfl | rfl | rfl | rfl | rfl | rfl | rfl | rfl | rfl | rfl | rfl | rfl | rfl | rfl | rfl | rfl | rfl | rfl | rfl | rfl | rfl | rfl | rfl | rfl | rfl | rfl | rfl | rfl | rfl | rfl | rfl | rfl | rfl | rfl | rfl | rfl
  · exact w_c0
  · exact w_c1
  · exact w_c2
  · exact w_c3
  · exact w_c4
  · exact w_c5
  · exact w_c6
  · exact w_c7
  · exact w_c8
  · exact w_c9
  · exact w_c10
  · exact w_c11
  · exact w_c12
  · exact w_c13
  · exact w_c14
  · exact w_c15
  · exact w_c16
  · exact w_c17
  · exact w_c18
  · exact w_c19
  · exact w_c20
  · exact w_c21
  · exact w_c22
  · exact w_c23
  · exact w_c24
  · exact w_c25
  · exact w_c26
  · exact w_c27
  · exact w_c28
  · exact w_c29
  · exact w_c30
  · exact w_c31
  · exact w_c32
  · exact w_c33
  · exact w_c34
  · exact w_c35
  · exact w_c36
  · exact w_c37
  · exact w_c38
  · exact w_c39
set_option maxRecDepth 65536 in
theorem w_t1 : (words1.take 24).all (fun c => isCode c || c.before args0 about1) = true := by decide +kernel
set_option maxRecDepth 65536 in
theorem w_t2 : ((words1.drop 24).take 24).all (fun c => isCode c || c.before args0 about1) = true := by decide +kernel
set_option maxRecDepth 65536 in
theorem w_t3 : (((words1.drop 24).drop 24).take 24).all (fun c => isCode c || c.before args0 about1) = true := by decide +kernel
set_option maxRecDepth 65536 in
theorem w_t4 : ((((words1.drop 24).drop 24).drop 24).take 24).all (fun c => isCode c || c.before args0 about1) = true := by decide +kernel
set_option maxRecDepth 65536 in
theorem w_t5 : (((((words1.drop 24).drop 24).drop 24).drop 24).take 24).all (fun c => isCode c || c.before args0 about1) = true := by decide +kernel
set_option maxRecDepth 65536 in
theorem w_t6 : ((((((words1.drop 24).drop 24).drop 24).drop 24).drop 24).take 24).all (fun c => isCode c || c.before args0 about1) = true := by decide +kernel
set_option maxRecDepth 65536 in
theorem w_t7 : (((((((words1.drop 24).drop 24).drop 24).drop 24).drop 24).drop 24).take 24).all (fun c => isCode c || c.before args0 about1) = true := by decide +kernel
set_option maxRecDepth 65536 in
theorem w_t8 : (((((((words1.drop 24).drop 24).drop 24).drop 24).drop 24).drop 24).drop 24).all (fun c => isCode c || c.before args0 about1) = true := by decide +kernel
theorem w_tables : (allAtoms (Jvm.Cond.code x code maxLocals ret :: tables_1)).before args0 about1 = true := by
  rw [allAtoms_all]
  show words1.all (fun c => c.before args0 about1) = true
  refine all_split ?_ w_codes
  rw [← List.take_append_drop 24 words1, List.all_append, w_t1, ← List.take_append_drop 24 (words1.drop 24), List.all_append, w_t2, ← List.take_append_drop 24 ((words1.drop 24).drop 24), List.all_append, w_t3, ← List.take_append_drop 24 (((words1.drop 24).drop 24).drop 24), List.all_append, w_t4, ← List.take_append_drop 24 ((((words1.drop 24).drop 24).drop 24).drop 24), List.all_append, w_t5, ← List.take_append_drop 24 (((((words1.drop 24).drop 24).drop 24).drop 24).drop 24), List.all_append, w_t6, ← List.take_append_drop 24 ((((((words1.drop 24).drop 24).drop 24).drop 24).drop 24).drop 24), List.all_append, w_t7, w_t8]
  rfl
set_option maxRecDepth 65536 in
theorem w_rest : rest_1_c.before args0 about1 = true := by decide +kernel
set_option maxRecDepth 65536 in
theorem w_case : (Jvm.Cond.and given_1 narrow_1).before args0 about1 = true := by decide +kernel
set_option maxRecDepth 65536 in
theorem w_consts : constsHeld consts_1 about1 := Jvm.Lit.constsHeldB_iff.mp (by decide +kernel)
theorem w_applies : (headSpec (Jvm.Cond.code x code maxLocals ret :: tables_1) room_1).applies x e0.platform about1 = true :=
  (Spec.applies_iff w_frames).mpr ⟨w_running, w_runnable, w_alone, w_named, w_hears, w_ripe, w_room, w_tables⟩
theorem atStart : AtStart classFile x code maxLocals ret World_1 tables_1 room_1 Calls_1 rest_1 Pre_1 launch0 p0 e0 about1 theMethod args0 below0 :=
  ⟨lists_1, trivial, launch0.admits_env _ _ _, launch0.least_env, fairChoices_fair.cas, fairChoices_fair.clock, w_frames, w_args, w_heap, w_applies, ⟨w_consts, trivial⟩, w_rest, w_case⟩
end start1
theorem witness_1 : WitnessClaimed_1 := ⟨start1.p0, start1.e0, start1.about1, start1.theMethod, start1.args0, start1.below0, start1.atStart⟩
end Jvm.Pilot.@@N@@
