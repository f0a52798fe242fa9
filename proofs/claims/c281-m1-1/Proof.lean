import JvmDerived
import JvmDerived.Pilot.@@N@@Statement
import JvmDerived.Pilot.@@N@@Code
set_option linter.unusedVariables false
set_option linter.unusedSimpArgs false
namespace Jvm.RoadKit
open Sem ClassFile Op Lib Jvm.Stand Jvm.Free Jvm.LawKit
section New
variable {p : Program} {l : Launch} {e : Env} {R : Room} {s : State} {m : MethodId} {args : Array Value} {below : List Frame} {meth : Method} {c : Code} {T : State} {locs : List Loc} {cells slots : Nat}
theorem retI (X : Stand p l e R s m args below meth c T locs cells slots) (hx : p.tables.exec = Jvm.exec) {pc : Nat} {Ls : Array Slot} {z : Int32} {rest : List Value} (hret : meth.sig.returnType = some .int) (hd : decode c.code pc = .ok (.ireturn, 1)) {fs : List Frame}
    (hl : ∀ (f : JFrame) (acts : List Action), f.method = m → f.locked = none → f.entered = [] → (doReturn e (T.setTop f) acts (some (.int z))).1 = T.setFrames fs) : Steps p.tables e below (T.setTop (mkF m pc Ls (.int z :: rest))) (T.setFrames fs) := by
  have hm' : T.vm.method? m = some meth := X.method'
  have hn : narrow .int (.int z) = .int z := rfl
  show Steps p.tables e below (T.setTop { method := m, pc := pc, locals := Ls, stack := _ :: rest, locked := none }) _
  jvm_step X.here [X.here.top, hx, hd, hm', hret, hn]
  first | (intro acts; rw [hl _ acts rfl rfl rfl]) | rw [hl _ _ rfl rfl rfl]
  exact Steps.refl _
end New
end Jvm.RoadKit
/- laws to paste: pair_says (cut by pick.py; bodies as the Statement names them) -/
namespace Jvm.Pilot.@@N@@
namespace StrChars
open Jvm Sem ClassFile Op Lib Jvm.Stand Jvm.Free.XT Jvm.Free.ALB Jvm.Free.JM Jvm.Free
open Jvm.Lib.Cold (StaticIs)
/-- the byte that i2b leaves of a char -/
def lo8 (x : Int32) : Int32 := x.toInt8.toInt32
end StrChars
namespace StrChars
open Jvm Sem ClassFile Op Lib Jvm.Stand Jvm.Free.XT Jvm.Free.ALB Jvm.Free.JM Jvm.Free
open Jvm.Lib.Cold (StaticIs)
def hi8 (x : Int32) : Int32 := lo8 (x >>> ((8 : Int32) &&& 31))
/-- what StringUTF16.getChar makes of two bytes -/
def pairCh (u v : Int32) : Int32 := (((u &&& 255) <<< ((0 : Int32) &&& 31)) ||| ((v &&& 255) <<< ((8 : Int32) &&& 31))).toUInt32.toUInt16.toUInt32.toInt32
theorem lo8_and (x : Int32) : (lo8 x &&& 255).toBitVec.toNat = x.toBitVec.toNat % 256 := by
  have h : (lo8 x).toBitVec = (x.toBitVec.signExtend 8).signExtend 32 := by rw [lo8, Int8.toBitVec_toInt32, Int32.toBitVec_toInt8]
  rw [Int32.toBitVec_and, BitVec.toNat_and, h]
  have e : ((x.toBitVec.signExtend 8).signExtend 32).toNat % 256 = x.toBitVec.toNat % 256 := by
    rw [BitVec.toNat_signExtend]
    have hlt := x.toBitVec.isLt
    simp only [BitVec.toNat_setWidth, BitVec.toNat_signExtend]
    split <;> split <;> omega
  rw [← e]
  exact Nat.and_two_pow_sub_one_eq_mod _ 8
theorem pair_says {c : Int32} (h0 : ¬ c < 0) (h1 : ¬ 65535 < c) : pairCh (lo8 c) (hi8 c) = c := by
  rw [Int32.lt_iff_toInt_lt] at h0 h1
  have e0 : (0 : Int32).toInt = 0 := rfl
  have e1 : (65535 : Int32).toInt = 65535 := rfl
  have hc : c.toInt = c.toBitVec.toNat := by
    have := c.toBitVec.isLt
    have e : c.toInt = c.toBitVec.toInt := rfl
    rw [e] at h0 h1
    rw [e]
    rw [BitVec.toInt_eq_toNat_cond] at h0 h1 ⊢
    split at h0 <;> split <;> omega
  have hn : c.toBitVec.toNat < 65536 := by omega
  have a1 := lo8_and c
  have a2 : (hi8 c &&& 255).toBitVec.toNat = c.toBitVec.toNat / 256 := by
    rw [hi8, lo8_and]
    have e : ((8 : Int32) &&& 31) = 8 := by decide
    rw [e, Int32.toBitVec_shiftRight]
    have e2 : ((8 : Int32).toBitVec.smod 32) = 8#32 := by decide
    rw [e2, BitVec.sshiftRight_eq', BitVec.toNat_sshiftRight_of_msb_false (by rw [BitVec.msb_eq_false_iff_two_mul_lt]; omega)]
    show c.toBitVec.toNat >>> 8 % 256 = _
    rw [Nat.shiftRight_eq_div_pow]
    omega
  unfold pairCh
  apply Int32.toBitVec_inj.mp
  apply BitVec.eq_of_toNat_eq
  have f0 : ((0 : Int32) &&& 31) = 0 := by decide
  have f8 : ((8 : Int32) &&& 31) = 8 := by decide
  rw [f0, f8]
  have g : (((lo8 c &&& 255) <<< (0 : Int32)) ||| ((hi8 c &&& 255) <<< (8 : Int32))).toBitVec.toNat = c.toBitVec.toNat := by
    rw [Int32.toBitVec_or, Int32.toBitVec_shiftLeft, Int32.toBitVec_shiftLeft]
    have s0 : ((0 : Int32).toBitVec.smod 32) = 0#32 := by decide
    have s8 : ((8 : Int32).toBitVec.smod 32) = 8#32 := by decide
    rw [s0, s8, BitVec.toNat_or]
    simp only [BitVec.shiftLeft_eq', BitVec.toNat_shiftLeft, a1, a2]
    show (c.toBitVec.toNat % 256) <<< 0 % 2 ^ 32 ||| (c.toBitVec.toNat / 256) <<< 8 % 2 ^ 32 = _
    rw [Nat.shiftLeft_zero, Nat.mod_eq_of_lt (show c.toBitVec.toNat % 256 < 2 ^ 32 by omega), Nat.mod_eq_of_lt (show (c.toBitVec.toNat / 256) <<< 8 < 2 ^ 32 by rw [Nat.shiftLeft_eq]; omega), Nat.or_comm, ← Nat.shiftLeft_add_eq_or_of_lt (by omega), Nat.shiftLeft_eq]
    omega
  show BitVec.toNat (((((lo8 c &&& 255) <<< (0 : Int32)) ||| ((hi8 c &&& 255) <<< (8 : Int32))).toBitVec.setWidth 16).setWidth 32) = _
  rw [BitVec.toNat_setWidth, BitVec.toNat_setWidth, g]
  omega
end StrChars
end Jvm.Pilot.@@N@@

namespace Jvm.Pilot.@@N@@
open Jvm Jvm.ClassFile Sem Op Lib Jvm.Free Jvm.Stand Jvm.LawKit Jvm.RoadKit Bundle Jvm.Pilot.@@N@@.Jvm.D
theorem own_mi {α : Type} {l : List α} {a : α} (i : Nat) (h : l[i]? = some a) : a ∈ l := List.mem_of_getElem? h
def own_Rn (p : Program) (e : Env) (below : List Frame) (P : Outcome → State → Prop) (S : State) : Prop := ∃ U o, Steps p.tables e below S U ∧ U.status = .running ∧ Ended U below o ∧ P o U
theorem own_go {p : Program} {e : Env} {below : List Frame} {P : Outcome → State → Prop} {S S' : State} (k : ∀ t, Steps p.tables e below S' t → Steps p.tables e below S t) (h : own_Rn p e below P S') : own_Rn p e below P S := by
  obtain ⟨U, o, h1, h2⟩ := h
  exact ⟨U, o, k U h1, h2⟩
theorem own_ret {p : Program} {l : Launch} {e : Env} {R : Room} {s : State} {m : MethodId} {args : Array Value} {below : List Frame} {meth : Method} {c : Code} {T : State} {locs : List Loc} {cells slots : Nat} (X : Stand p l e R s m args below meth c T locs cells slots)
    {v : Option Value} (hv : meth.sig.returnType = none → v = none) {S : State} {Q : Option Value → Heap → List Loc → Prop} {C N : Nat}
    (k : ∀ fs, (∀ (f : JFrame) (acts : List Action), f.method = m → f.locked = none → f.entered = [] → (doReturn e (T.setTop f) acts v).1 = T.setFrames fs) → Steps p.tables e below S (T.setFrames fs)) (hq : Q v T.heap locs) (hc : cells ≤ C) (hs : slots ≤ N)
    (hlocks : meth.locks = false := by first | assumption | exact BodyLoose.notSynchronized (by assumption) | exact Body.notSynchronized (by assumption)) :
    own_Rn p e below (fun o U' => ∃ v L, o = .returned v ∧ Q v U'.heap L ∧ FrameEnd s o U' L C N) S := by
  obtain ⟨fs, hr, hrun, hended, hW, hsame⟩ := X.leave hv hlocks
  exact ⟨_, _, k fs hr, hrun, hended, _, _, rfl, hq, ⟨_, rfl⟩, hW, hsame.mono hc hs⟩
theorem own_nea {a b : Addr} (h : @LT.lt Nat _ a b ∨ @LT.lt Nat _ b a) : a ≠ b := by
  intro e
  have e' : @Eq Nat a b := e
  omega
theorem own_fits_byte (x : Int32) : fits .byte (.int (nar .byte x)) = true := by
  have h := c_i2b x
  have h1 : (-128 : Int32) ≤ x.toInt8.toInt32 := by rw [Int32.le_iff_toInt_le]; exact h.2.1
  have h2 : x.toInt8.toInt32 ≤ (127 : Int32) := by rw [Int32.le_iff_toInt_le]; exact Int.le_of_lt_add_one h.2.2
  simp only [fits, Bool.and_eq_true]
  exact ⟨decide_eq_true h1, decide_eq_true h2⟩
theorem own_fitsB (x : Int32) : fits .byte (.int x.toInt8.toInt32) = true := own_fits_byte x
theorem own_retS {p : Program} {l : Launch} {e : Env} {R : Room} {s : State} {m : MethodId} {args : Array Value} {below : List Frame} {meth : Method} {c : Code} {T : State} {locs : List Loc} {cells slots : Nat} {vm₁ : Vm} (X : Stand p l e R (s.setVm vm₁) m args below meth c T locs cells slots) {n : Nat} (hS : s.Since vm₁ n) (hn : n ≤ T.heap.size)
    {v : Option Value} (hv : meth.sig.returnType = none → v = none) {S : State} {Z : State} {EL : List (String × Nat)} {Q : Option Value → Heap → List Loc → Prop} {C N : Nat}
    (k : ∀ fs, (∀ (f : JFrame) (acts : List Action), f.method = m → f.locked = none → f.entered = [] → (doReturn e (T.setTop f) acts v).1 = T.setFrames fs) → Steps p.tables e below S (T.setFrames fs)) (hq : Q v T.heap locs) (hR : CHr Z EL s.vm s.heap T.vm T.heap) (hc : cells ≤ C) (hs : slots ≤ N)
    (hlocks : meth.locks = false := by first | assumption | exact BodyLoose.notSynchronized (by assumption) | exact Body.notSynchronized (by assumption)) :
    own_Rn p e below (fun o U' => ∃ v L, o = .returned v ∧ Q v U'.heap L ∧ CHr Z EL s.vm s.heap U'.vm U'.heap ∧ ReturnedEndW s o U' L C N) S := by
  obtain ⟨fs, hr, hrun, hended, h1, h2, h3, h4⟩ := X.leaveW hS hn hv hlocks
  exact ⟨_, _, k fs hr, hrun, hended, _, _, rfl, hq, hR, h1, h2, h3, h4.mono hc hs⟩
theorem own_safeAt {Z : State} {EL : List (String × Nat)} {vm vm1 : Vm} {h : Heap} {x : Addr} (A : CHr Z EL vm h vm1 h) (S : Safe Z EL vm h x) : Safe Z EL vm1 h x := by
  rcases Nat.lt_or_ge x h.size with hx | hx
  · exact A.safe hx S
  · exact Safe.new hx
theorem own_backSH {p : Program} {l : Launch} {e : Env} {R : Room} {s : State} {args : Array Value} {below : List Frame} {Z : State} {a0 : Array Value} {EL : List (String × Nat)} {h : Heap} {vm0 : Vm} {sf : List Addr}
    {y : MethodName} {bytes : ByteArray} {maxL : Nat} {ret : Option FieldType} {rm : Room} {len W : Nat} {as' : Array Value} {Q : Option Value → Heap → List Loc → Prop}
    (hM : MetFree l y (head1 [Cond.code y bytes maxL ret] rm) (fun a U => a = as' ∧ Z.Warmed39 U.vm ∧ U.heap = h ∧ CHv Z EL U.vm h ∧ ∀ x ∈ sf, Safe Z EL U.vm h x) (fun _ _ _ _ _ => True) (fun _ U o U' => ∃ v L, o = .returned v ∧ Q v U'.heap L ∧ CHr Z EL U.vm U.heap U'.vm U'.heap ∧ ReturnedEndW U o U' L rm.cells rm.slots))
    (hZ : Z.Warmed39 vm0) (wc : (Cond.code y bytes maxL ret).before a0 Z = true) (wz : (Cond.initialized y.cls).before a0 Z = true) (hf : rm.frames + 1 ≤ R.frames) (hl : W + (maxL + 11) + rm.locals ≤ R.locals) (hEL : EW Z a0 EL) (H : CHv Z EL vm0 h) (hsf : ∀ x ∈ sf, Safe Z EL vm0 h x) :
    BackS l R p e below (s.setVm vm0) args y len W (fun A a => a = as' ∧ A.U.heap = h ∧ A.cells + rm.cells ≤ R.cells ∧ A.slots + rm.slots ≤ R.slots)
      (fun A _ v B => ∃ L, Q v B.U.heap L ∧ B.locs = A.locs ++ L ∧ B.cells = A.cells + rm.cells ∧ B.slots = A.slots + rm.slots ∧ CHr Z EL vm0 h B.U.vm B.U.heap) :=
  BackS.of_freeW (bytes := bytes) (maxL := maxL) (ret := ret) (E := fun _ first o t L k n => k = rm.cells ∧ n = rm.slots ∧ (∃ v, o = .returned v ∧ Q v t.heap L) ∧ CHr Z EL first.vm first.heap t.vm t.heap) hM hf hl
    (fun m meth c A a Y hp => have hU : Z.Warmed39 A.U.vm := wtrans (s := s.setVm vm0) hZ Y.warmed
      ⟨by show (Cond.and _ .tt).before a A.U = true; rw [Cond.before_and, mv hU wc]; rfl, mv hU wc, mv hU wz, hp.2.2.1, hp.2.2.2⟩)
    (fun m meth c A a g mk Y hp => ⟨hp.1, wtrans (s := s.setVm vm0) hZ Y.warmed, hp.2.1, (CHv.at Y hZ hEL H).1, fun x hx => show Safe Z EL A.U.vm h x from own_safeAt (CHv.at Y hZ hEL H) (hsf x hx)⟩) (fun _ _ _ _ _ _ _ _ _ => trivial)
    (fun _ _ _ _ ⟨v, L, h1, h2, h3, h4⟩ => ⟨L, _, _, h4, rfl, rfl, ⟨v, h1, h2⟩, h3⟩)
    (fun m meth c A a g mk v t L k n Y hp _ _ ⟨e1, e2, ⟨v', e3, e4⟩, e5⟩ => by
      cases e3; subst e1 e2
      refine ⟨L, e4, rfl, rfl, rfl, (CHv.at Y hZ hEL H).trans ?_⟩
      rw [← hp.2.1]; exact e5)
theorem own_and255 (x : Int32) : ¬ (x &&& (255 : Int32)) < 0 ∧ ¬ (255 : Int32) < (x &&& (255 : Int32)) := by
  have h := c_and x 255 (by decide)
  have e2 : (255 : Int32).toInt = 255 := rfl
  rw [Int32.lt_iff_toInt_lt, Int32.lt_iff_toInt_lt]
  have e0 : (0 : Int32).toInt = 0 := rfl
  omega
theorem own_c16 (r : Int32) (h : ¬ r < 0 ∧ ¬ (65535 : Int32) < r) : r.toUInt32.toUInt16.toUInt32.toInt32 = r := by
  have h1 := c_i2c r
  rw [Int32.lt_iff_toInt_lt, Int32.lt_iff_toInt_lt] at h
  have e2 : (65535 : Int32).toInt = 65535 := rfl
  have e0 : (0 : Int32).toInt = 0 := rfl
  apply Int32.toInt_inj.mp
  omega
theorem own_up (r : Int32) (h : ¬ r < 0 ∧ ¬ (255 : Int32) < r) : ¬ r < 0 ∧ ¬ (65535 : Int32) < r := by
  rw [Int32.lt_iff_toInt_lt, Int32.lt_iff_toInt_lt] at *
  have e2 : (65535 : Int32).toInt = 65535 := rfl
  have e3 : (255 : Int32).toInt = 255 := rfl
  have e0 : (0 : Int32).toInt = 0 := rfl
  omega
theorem own_narC (r : Int32) (h : ¬ r < 0 ∧ ¬ (255 : Int32) < r) : nar .char r = r := own_c16 r (own_up r h)
theorem own_chr (x : Int32) : ((x &&& (255 : Int32)).toUInt32.toUInt16.toUInt32.toInt32) = x &&& 255 := own_c16 _ (own_up _ (own_and255 x))
theorem own_chr_rng (x : Int32) : ¬ ((x &&& (255 : Int32)).toUInt32.toUInt16.toUInt32.toInt32) < 0 ∧ ¬ (255 : Int32) < ((x &&& (255 : Int32)).toUInt32.toUInt16.toUInt32.toInt32) := by rw [own_chr]; exact own_and255 x
theorem own_narB (x : Int32) : nar .byte (x.toInt8.toInt32) = x.toInt8.toInt32 := by
  show (x.toInt8.toInt32).toInt8.toInt32 = x.toInt8.toInt32
  rw [Int8.toInt8_toInt32]
theorem own_shr0 (x : Int32) : x >>> ((0 : Int32) &&& 31) = x := by
  apply Int32.toInt_inj.mp
  rw [c_ishr x 0 0 rfl]; simp
theorem own_shl0 (x : Int32) : x <<< ((0 : Int32) &&& 31) = x := by
  show x <<< (0 : Int32) = x
  simp
abbrev own_bs (cs : List Int32) : List Value := (cs.map (fun c => c.toInt8.toInt32)).map Value.int
theorem own_bs_len (cs : List Int32) : (own_bs cs).length = cs.length := by simp [own_bs]
theorem own_bs_app (cs ds : List Int32) : own_bs (cs ++ ds) = own_bs cs ++ own_bs ds := by simp [own_bs]
theorem own_range_getD (vs : List Value) (d : Value) : (List.range vs.length).map (fun i => vs.getD (0 + i) d) = vs := by
  apply List.ext_getElem
  · simp
  · intro i h1 h2
    simp [List.getD_eq_getElem?_getD, h2]
theorem own_clampN {n : Nat} (h : n < 2147483648) : (Int32.ofNat n).toNatClampNeg = n := Int32.toNatClampNeg_ofNat_of_lt h
theorem own_nneg {n : Nat} (h : n < 2147483648) : ¬ Int32.ofNat n < 0 := by
  rw [Int32.lt_iff_toInt_lt, Int32.toInt_ofNat_small (by omega)]
  have e0 : (0 : Int32).toInt = 0 := rfl
  omega
theorem own_ofNat_add (a b : Nat) : Int32.ofNat (a + b) = Int32.ofNat a + Int32.ofNat b := Int32.ofNat_add a b
theorem own_le15 {n : Nat} (h : n ≤ 15) : ¬ (0 : Int32) < Int32.ofNat n - 16 := by
  have c := c_isub (Int32.ofNat n) 16
  rw [Int32.toInt_ofNat_small (by omega), show (16 : Int32).toInt = 16 from rfl] at c
  have r := rng32 (Int32.ofNat n - 16)
  rw [Int32.lt_iff_toInt_lt, show (0 : Int32).toInt = 0 from rfl]
  omega
theorem own_lt16 {n : Nat} (h : n ≤ 15) : Int32.ofNat n < (16 : Int32) := by
  rw [Int32.lt_iff_toInt_lt, Int32.toInt_ofNat_small (by omega), show (16 : Int32).toInt = 16 from rfl]; omega
theorem own_ne16 {n : Nat} (h : n ≤ 15) : ¬ Int32.ofNat n = (16 : Int32) := by
  intro e
  have := congrArg Int32.toInt e
  rw [Int32.toInt_ofNat_small (by omega), show (16 : Int32).toInt = 16 from rfl] at this
  omega
theorem own_us (ds : List Int32) (h : ds.length < 2147483648) : own_bs ds = (List.range (Int32.ofNat ds.length).toNatClampNeg).map fun i => (own_bs ds).getD ((0 : Int32).toNatClampNeg + i) (.int 0) := by
  rw [own_clampN h]
  have e : (0 : Int32).toNatClampNeg = 0 := rfl
  rw [e, ← own_bs_len ds, own_range_getD]
theorem own_cat {Z : State} {h : Heap} {b : Addr} {k : ClassId} {z : Int32} {cs ds es : List Int32} {dp nn : Int32} {m : Nat} (hes : es = cs ++ ds) (h16 : cs.length < 2147483648 ∧ ds.length < 2147483648) (hm : ds.length ≤ m) (hd : dp = Int32.ofNat cs.length) (hn : nn = Int32.ofNat ds.length)
    (F : Arv Z h b k .byte z ((own_bs cs ++ List.replicate m (Value.int 0)).take dp.toNatClampNeg ++ own_bs ds ++ (own_bs cs ++ List.replicate m (Value.int 0)).drop (dp.toNatClampNeg + nn.toNatClampNeg)) (.int 0)) : Arv Z h b k .byte z (own_bs es) (.int 0) := by
  subst hd hn
  rw [own_clampN h16.1, own_clampN h16.2] at F
  have e1 : (own_bs cs ++ List.replicate m (Value.int 0)).take cs.length = own_bs cs := by
    rw [← own_bs_len cs, List.take_left]
  have e2 : (own_bs cs ++ List.replicate m (Value.int 0)).drop (cs.length + ds.length) = List.replicate (m - ds.length) (.int 0) := by
    rw [← own_bs_len cs, List.drop_append, List.drop_replicate]
    simp
  rw [e1, e2, ← own_bs_app, ← hes] at F
  exact F.pad (fun i => (pad_rep (own_bs es) (.int 0) (m - ds.length) i).symm)
theorem own_notI {Z : State} {a0 : Array Value} {C : String} {x z : MethodName} (w : (Cond.selects C x z).before a0 Z = true) : ∃ c k, Z.vm.findClass z.cls = some c ∧ Z.vm.classes[c]? = some k ∧ k.isInterface = false := by
  obtain ⟨c, r, m, -, -, h3, -, k, h5, h6⟩ := Cond.selects_spec w
  exact ⟨m.cls, k, findClass_of_methodNamed h3, h5, h6⟩
theorem own_sameM {Z : State} {a0 : Array Value} {C : String} {x y z : MethodName} (w1 : (Cond.instanceMethod y).before a0 Z = true) (w : (Cond.selects C x z).before a0 Z = true) (e : z.cls = y.cls) (hy : y.cls ≠ "java/lang/invoke/MethodHandle" ∧ y.cls ≠ "java/lang/invoke/VarHandle") : (Cond.sameMethod y.cls y.cls y.name y.desc).before a0 Z = true := by
  obtain ⟨c, k, h1, h2, h3⟩ := own_notI w
  rw [e] at h1
  obtain ⟨mk, methM, hnamed, hmethM, -, -⟩ := Cond.instanceMethod_spec w1
  have hfound : Z.methodFound? y.cls y.name y.desc = some mk := State.methodFound?_of_named hnamed hy
  simp only [Cond.before, Cond.holds, Cond.value, h1, hfound, hnamed, h2]
  simp [h3]
theorem own_nf {s : State} {a0 : Array Value} {C : String} {x y z : MethodName} (w : (Cond.selects C x z).before a0 s = true) (e : z.cls = y.cls) : NotFace s y := by
  obtain ⟨c, k, h1, h2, h3⟩ := own_notI w
  intro r0 hr
  have := findClass_of_methodNamed hr
  rw [← e, h1] at this
  cases this
  exact ⟨k, h2, h3⟩
theorem own_selP {Z : State} {a0 : Array Value} {C : String} {y : MethodName} (w : (Cond.selects C y y).before a0 Z = true) (wp : (Cond.privateMethod y).before a0 Z = true) (wi : (Cond.instanceMethod y).before a0 Z = true) (hy : y.cls ≠ "java/lang/invoke/MethodHandle" ∧ y.cls ≠ "java/lang/invoke/VarHandle") : (Cond.selects y.cls y y).before a0 Z = true := by
  obtain ⟨c, k, h1, h2, h3⟩ := own_notI w
  exact Jvm.Stand.selects_self_of_private h1 h2 h3 (Cond.privateMethod_at wp) wi hy
theorem own_setcat (A : List Value) (v d : Value) (m : Nat) (hm : 0 < m) : (A ++ List.replicate m d).set A.length v = (A ++ [v]) ++ List.replicate (m - 1) d := by
  obtain ⟨m, rfl⟩ : ∃ k, m = k + 1 := ⟨m - 1, by omega⟩
  rw [List.set_append_right _ _ (Nat.le_refl _), Nat.sub_self, List.replicate_succ, List.set_cons_zero, List.append_assoc]; rfl
theorem own_store1 {Z : State} {h h' : Heap} {b : Addr} {k : ClassId} {ty : FieldType} {z j : Int32} {A : List Value} {v d : Value} (F : Arv Z h b k ty z A d) (hA : A.length < z.toNatClampNeg) (hv : fits ty v = true) (W : Wr h h' b j.toNatClampNeg v) (hj : j.toNatClampNeg = A.length) : Arv Z h' b k ty z (A ++ [v]) d := by
  obtain ⟨c, Ar, q, S, N, H, G⟩ := F.pad (pad_rep A d (z.toNatClampNeg - A.length))
  have r := Arv.set Ar q S N H G hv W A.length hj (by rw [List.length_append, List.length_replicate]; omega)
  rw [own_setcat A v d _ (by omega)] at r
  exact r.pad (fun i => (pad_rep (A ++ [v]) d _ i).symm)
abbrev own_lo (c : Int32) : Int32 := (c >>> ((0 : Int32) &&& 31)).toInt8.toInt32
abbrev own_hi (c : Int32) : Int32 := (c >>> ((8 : Int32) &&& 31)).toInt8.toInt32
theorem own_pairG {c : Int32} (h0 : ¬ c < 0) (h1 : ¬ 65535 < c) : ((((own_lo c) &&& (255 : Int32)) <<< ((0 : Int32) &&& 31)) ||| (((own_hi c) &&& (255 : Int32)) <<< ((8 : Int32) &&& 31))).toUInt32.toUInt16.toUInt32.toInt32 = c := by
  have h := StrChars.pair_says h0 h1
  unfold own_lo own_hi
  rw [own_shr0]
  exact h
def own_u16 : List Int32 → List Value
  | [] => []
  | c :: r => .int (own_lo c) :: .int (own_hi c) :: own_u16 r
theorem own_u16_len : ∀ cs : List Int32, (own_u16 cs).length = 2 * cs.length
  | [] => rfl
  | c :: r => by simp only [own_u16, List.length_cons, own_u16_len r]; omega
theorem own_u16_app : ∀ (cs : List Int32) (c : Int32), own_u16 (cs ++ [c]) = own_u16 cs ++ [.int (own_lo c), .int (own_hi c)]
  | [], c => rfl
  | a :: r, c => by simp only [List.cons_append, own_u16, own_u16_app r c]
theorem own_u16_at : ∀ (cs : List Int32) (q : Nat), q < cs.length → (own_u16 cs).getD (2 * q) (.int 0) = .int (own_lo (cs.getD q 0)) ∧ (own_u16 cs).getD (2 * q + 1) (.int 0) = .int (own_hi (cs.getD q 0))
  | [], q, h => absurd h (Nat.not_lt_zero _)
  | c :: r, 0, _ => ⟨rfl, rfl⟩
  | c :: r, q + 1, h => by
    have := own_u16_at r q (by simpa using h)
    simp only [own_u16]
    rw [show 2 * (q + 1) = 2 * q + 1 + 1 by omega]
    exact this
theorem own_take_succ (cs : List Int32) (q : Nat) (h : q < cs.length) : cs.take (q + 1) = cs.take q ++ [cs.getD q 0] := by
  rw [List.take_add_one, List.getElem?_eq_getElem h, List.getD_eq_getElem?_getD, List.getElem?_eq_getElem h]; rfl
theorem own_mapget (cs : List Int32) (q : Nat) (h : q < cs.length) (hb : cs.length < 2147483648) (d : Value) : (cs.map Value.int).getD (Int32.ofNat q).toNatClampNeg d = .int (cs.getD q 0) := by
  rw [own_clampN (by omega), List.getD_eq_getElem?_getD, List.getD_eq_getElem?_getD, List.getElem?_map, List.getElem?_eq_getElem h]; rfl
theorem own_inb (q n : Nat) (h : q < n) (hn : n < 2147483648) : ¬ Int32.ofNat q < 0 ∧ Int32.ofNat q < Int32.ofNat n := by
  constructor
  · exact own_nneg (by omega)
  · rw [Int32.lt_iff_toInt_lt, Int32.toInt_ofNat_small (by omega), Int32.toInt_ofNat_small (by omega)]; omega
theorem own_ofNat_lt {q K : Nat} (h : q < K) (hK : K < 2147483648) : Int32.ofNat q < Int32.ofNat K := by
  rw [Int32.lt_iff_toInt_lt, Int32.toInt_ofNat_small (by omega), Int32.toInt_ofNat_small (by omega)]; omega
theorem own_ofNat_nlt {q K : Nat} (h : ¬ q < K) (hK : q < 2147483648) : ¬ Int32.ofNat q < Int32.ofNat K := by
  rw [Int32.lt_iff_toInt_lt, Int32.toInt_ofNat_small (by omega), Int32.toInt_ofNat_small (by omega)]; omega
theorem own_ofNat_inj {q K : Nat} (h : Int32.ofNat q = Int32.ofNat K) (h1 : q < 2147483648) (h2 : K < 2147483648) : q = K := by
  have := congrArg Int32.toInt h
  rw [Int32.toInt_ofNat_small h1, Int32.toInt_ofNat_small h2] at this; omega
theorem own_shl1 (n : Nat) (h : n < 1000000) : Int32.ofNat n <<< ((1 : Int32) &&& 31) = Int32.ofNat (2 * n) := by
  have c := c_ishl (Int32.ofNat n) 1 1 rfl
  rw [Int32.toInt_ofNat_small (by omega)] at c
  have r := rng32 (Int32.ofNat n <<< ((1 : Int32) &&& 31))
  apply Int32.toInt_inj.mp
  rw [Int32.toInt_ofNat_small (by omega)]
  omega
theorem own_cl0 (n : Nat) : ((((Int32.ofNat n - Int32.ofNat n).toUInt32 >>> ((31 : Int32) &&& 31).toUInt32).toInt32)).toInt8.toInt32 = 0 := by
  rw [Int32.sub_self]; decide
theorem own_cl1 (n : Nat) (h0 : 0 < n) (h : n < 1000000) : ((((Int32.ofNat n - Int32.ofNat (2 * n)).toUInt32 >>> ((31 : Int32) &&& 31).toUInt32).toInt32)).toInt8.toInt32 = 1 := by
  have c := c_isub (Int32.ofNat n) (Int32.ofNat (2 * n))
  rw [Int32.toInt_ofNat_small (by omega), Int32.toInt_ofNat_small (by omega)] at c
  have r := rng32 (Int32.ofNat n - Int32.ofNat (2 * n))
  have u := c_iushr (Int32.ofNat n - Int32.ofNat (2 * n)) 31 31 rfl (by decide)
  have e : (((Int32.ofNat n - Int32.ofNat (2 * n)).toUInt32 >>> ((31 : Int32) &&& 31).toUInt32).toInt32) = 1 := by
    apply Int32.toInt_inj.mp
    rw [u, show (1 : Int32).toInt = 1 from rfl]
    omega
  rw [e]; decide
abbrev own_isHi (c : Int32) : Prop := ¬ c < (55296 : Int32) ∧ c < (56320 : Int32)
abbrev own_isLo (c : Int32) : Prop := ¬ c < (56320 : Int32) ∧ c < (57344 : Int32)
def own_pr (x y : Int32) : Nat := if own_isHi x ∧ own_isLo y then 1 else 0
def own_pairs : List Int32 → Nat
  | [] => 0
  | [_] => 0
  | x :: y :: r => if own_isHi x ∧ own_isLo y then 1 + own_pairs r else own_pairs (y :: r)
theorem own_pairs_le : ∀ cs : List Int32, 2 * own_pairs cs ≤ cs.length
  | [] => Nat.le_refl _
  | [_] => Nat.zero_le _
  | x :: y :: r => by
    have h1 := own_pairs_le r
    have h2 := own_pairs_le (y :: r)
    rw [own_pairs]
    split
    · simp only [List.length_cons]; omega
    · simp only [List.length_cons] at h2 ⊢; omega
def own_cp (cs : List Int32) : Nat := cs.length - own_pairs cs
theorem own_cp_eq (cs : List Int32) : cs.length = own_cp cs + own_pairs cs := by have := own_pairs_le cs; rw [own_cp]; omega
theorem own_lat (cs : List Int32) (h : ∀ c ∈ cs, ¬ (255 : Int32) < c) : own_pairs cs = 0 := by
  match cs with
  | [] => rfl
  | [_] => rfl
  | x :: y :: r =>
    have hx := h x (List.mem_cons_self ..)
    rw [own_pairs, if_neg, own_lat (y :: r) (fun c hc => h c (List.mem_cons_of_mem _ hc))]
    intro g
    have g1 := g.1.1
    rw [Int32.lt_iff_toInt_lt] at hx g1
    rw [show (255 : Int32).toInt = 255 from rfl] at hx
    rw [show (55296 : Int32).toInt = 55296 from rfl] at g1
    omega
theorem own_excl {x y z : Int32} (h : own_isHi x ∧ own_isLo y) : ¬ (own_isHi y ∧ own_isLo z) := fun g => h.2.1 g.1.2
theorem own_p2 (a b : Int32) : own_pairs [a, b] = own_pr a b := by simp only [own_pairs, own_pr]
theorem own_p3 (a b c : Int32) : own_pairs [a, b, c] = own_pr a b + own_pr b c := by
  simp only [own_pairs, own_pr]
  by_cases h : own_isHi a ∧ own_isLo b
  · rw [if_pos h, if_pos h, if_neg (own_excl h)]
  · rw [if_neg h, if_neg h, Nat.zero_add]
theorem own_p4 (a b c d : Int32) : own_pairs [a, b, c, d] = own_pr a b + own_pr b c + own_pr c d := by
  have e := own_p3 b c d
  rw [own_pairs, e, own_p2]
  simp only [own_pr]
  by_cases h : own_isHi a ∧ own_isLo b
  · rw [if_pos h, if_pos h, if_neg (own_excl h)]
  · rw [if_neg h, if_neg h, Nat.zero_add]
theorem own_hi2 (c : Int32) : ¬ (56319 : Int32) < c ↔ c < (56320 : Int32) := by
  rw [Int32.lt_iff_toInt_lt, Int32.lt_iff_toInt_lt, show (56319 : Int32).toInt = 56319 from rfl, show (56320 : Int32).toInt = 56320 from rfl]; omega
theorem own_lo2 (c : Int32) : ¬ (57343 : Int32) < c ↔ c < (57344 : Int32) := by
  rw [Int32.lt_iff_toInt_lt, Int32.lt_iff_toInt_lt, show (57343 : Int32).toInt = 57343 from rfl, show (57344 : Int32).toInt = 57344 from rfl]; omega
theorem own_ch16 (x : Int64) : ¬ (((x &&& (65535 : Int64)).toInt32).toUInt32.toUInt16.toUInt32.toInt32) < 0 ∧ ¬ (65535 : Int32) < (((x &&& (65535 : Int64)).toInt32).toUInt32.toUInt16.toUInt32.toInt32) := by
  have h := c_maskL x 65535 16 (by decide) rfl
  have h2 := c_l2i (x &&& 65535)
  have r := rng32 ((x &&& (65535 : Int64)).toInt32)
  have g : ¬ (x &&& (65535 : Int64)).toInt32 < 0 ∧ ¬ (65535 : Int32) < (x &&& (65535 : Int64)).toInt32 := by
    rw [Int32.lt_iff_toInt_lt, Int32.lt_iff_toInt_lt, show (0 : Int32).toInt = 0 from rfl, show (65535 : Int32).toInt = 65535 from rfl]
    omega
  rw [own_c16 _ g]
  exact g
theorem own_k5 (x : Int32) : ∃ K : Nat, K < 5 ∧ ((x &&& (2147483647 : Int32)) % (5 : Int32)) = Int32.ofNat K := by
  have h := c_and x 2147483647 (by decide)
  have h2 := (c_irem (x &&& 2147483647) 5 5 rfl).1 h.1
  refine ⟨((x &&& (2147483647 : Int32)) % (5 : Int32)).toInt.toNat, by omega, ?_⟩
  apply Int32.toInt_inj.mp
  rw [Int32.toInt_ofNat_small (by omega)]
  omega
theorem own_shr1 (n : Nat) (h : n < 1000000) : Int32.ofNat (2 * n) >>> ((1 : Int32) &&& 31) = Int32.ofNat n := by
  apply Int32.toInt_inj.mp
  rw [c_ishr (Int32.ofNat (2 * n)) 1 1 rfl, Int32.toInt_ofNat_small (by omega), Int32.toInt_ofNat_small (by omega)]
  omega
theorem own_dec (P : Nat) (h : 0 < P) : Int32.ofNat P + (-1 : Int32) = Int32.ofNat (P - 1) := by
  obtain ⟨k, rfl⟩ : ∃ k, P = k + 1 := ⟨P - 1, by omega⟩
  rw [inc_ofNat, Int32.add_assoc, show (1 : Int32) + -1 = 0 by decide, Int32.add_zero]; rfl
theorem own_drop2 (cs : List Int32) (q : Nat) (h : q + 1 < cs.length) : cs.drop q = cs.getD q 0 :: cs.getD (q + 1) 0 :: cs.drop (q + 2) := by
  rw [List.getD_eq_getElem?_getD, List.getD_eq_getElem?_getD, List.getElem?_eq_getElem h, List.getElem?_eq_getElem (by omega), List.drop_eq_getElem_cons (by omega), List.drop_eq_getElem_cons h]; rfl
theorem own_drop1 (cs : List Int32) (q : Nat) (h : q + 1 < cs.length) : cs.drop (q + 1) = cs.getD (q + 1) 0 :: cs.drop (q + 2) := by
  rw [List.getD_eq_getElem?_getD, List.getElem?_eq_getElem h, List.drop_eq_getElem_cons h]; rfl
theorem own_pairs_end (cs : List Int32) (q : Nat) (h : ¬ q + 1 < cs.length) : own_pairs (cs.drop q) = 0 := by
  have hl : (cs.drop q).length ≤ 1 := by rw [List.length_drop]; omega
  match hd : cs.drop q, hl with
  | [], _ => rfl
  | [_], _ => rfl

theorem own_ef_rmNBL (m : MethodId) (nn : Nat) : entryFrame m #[(.int (Int32.ofNat nn))] 1 = mkF m 0 #[.val (.int (Int32.ofNat nn))] [] := by first | (simp [entryFrame, mkF, argsToLocals, Value.category]; done) | rfl
theorem own_pn_java_lang_StringUTF16 : plainName "java/lang/StringUTF16" = true := by first | (simp [plainName, overriddenIn]; done) | decide +kernel
theorem own_d23_0 : decode jdk_52_method_3_code 0 = .ok (.iload_n 0, 1) := by decide +kernel
theorem own_d23_1 : decode jdk_52_method_3_code 1 = .ok (.ifCond .ge 11, 3) := by decide +kernel
theorem own_d23_12 : decode jdk_52_method_3_code 12 = .ok (.iload_n 0, 1) := by decide +kernel
theorem own_d23_13 : decode jdk_52_method_3_code 13 = .ok (.ldc 20, 2) := by decide +kernel
theorem own_d23_15 : decode jdk_52_method_3_code 15 = .ok (.if_icmp .lt 40, 3) := by decide +kernel
theorem own_d23_55 : decode jdk_52_method_3_code 55 = .ok (.iload_n 0, 1) := by decide +kernel
theorem own_d23_56 : decode jdk_52_method_3_code 56 = .ok (.iconst 1, 1) := by decide +kernel
theorem own_d23_57 : decode jdk_52_method_3_code 57 = .ok (.ishl, 1) := by decide +kernel
theorem own_d23_58 : decode jdk_52_method_3_code 58 = .ok (.ireturn, 1) := by decide +kernel
def Q_rmNBL (Z : State) (nn : Nat) (h0 : Heap) (n0 : Nat) (v : Option Value) (h : Heap) (L : List Loc) : Prop := v = some (.int (Int32.ofNat (2 * nn))) ∧ Fr n0 L ∧ h = h0
set_option maxRecDepth 65536 in
set_option maxHeartbeats 40000000 in
theorem rmNBL (l : Launch) (Z : State) (a0 : Array Value) (hw : ∀ d ∈ tables_1, d.before a0 Z = true) (ws : List Jvm.Cond) (nn : Nat) (h0 : Heap) (n0 : Nat) (Z0 : n0 ≤ h0.size) (hn : (nn ≤ 4)) :
    MetFree l (⟨"java/lang/StringUTF16", "newBytesLength", "(I)I"⟩ : MethodName) (head1 (Jvm.Cond.code (⟨"java/lang/StringUTF16", "newBytesLength", "(I)I"⟩ : MethodName) jdk_52_method_3_code 1 (some .int) :: ws) ({ frames := 0, cells := 0, slots := 0, locals := 0 } : Room)) (fun a U => a = #[(.int (Int32.ofNat nn))] ∧ Z.Warmed39 U.vm ∧ U.heap = h0) (fun _ _ _ _ _ => True) (fun _ U o U' => ∃ v L, o = .returned v ∧ Q_rmNBL Z nn h0 n0 v U'.heap L ∧ FrameEnd U o U' L ({ frames := 0, cells := 0, slots := 0, locals := 0 } : Room).cells ({ frames := 0, cells := 0, slots := 0, locals := 0 } : Room).slots) := by
  refine MetFree.of_bodySF (plainFor_of_name own_pn_java_lang_StringUTF16) hisR ?_
  intro p e s m args below meth c s₁ Bd hml0 hP hK
  obtain ⟨rfl, hZ, hh⟩ := hP
  have hx := Bd.exec
  have hby := Bd.bytes
  have hml : c.maxLocals = 1 := hml0
  have hown : s.vm.findClass "java/lang/StringUTF16" = some m.cls := findClass_of_methodNamed Bd.named
  have hnm := (name_of_methodNamed Bd.named Bd.method).1
  have X0 : Stand p l e ({ frames := 0, cells := 0, slots := 0, locals := 0 } : Room) s m #[(.int (Int32.ofNat nn))] below meth c s₁ [] 0 0 := Stand.of_body Bd
  have e0 : s₁.heap = h0 := by rw [← hh, Bd.state]; rfl
  have N0 := Fr.nil n0
  have K0 : Keep h0 h0 [] := Keep.refl _ _
  refine own_go (S' := s₁.setTop (mkF m 0 #[.val (.int (Int32.ofNat nn))] [])) (fun tq kq => castTop (own_ef_rmNBL m nn) kq) ?_
  refine own_go (fun tq kq => XS.iloadN X0.here hx rfl (hb hby own_d23_0) rfl kq) ?_
  show own_Rn p e below _ (s₁.setTop (mkF m 1 #[.val (.int (Int32.ofNat nn))] [(.int (Int32.ofNat nn))]))
  refine own_go (fun tq kq => XS.ifYes X0.here hx rfl (pc0 := 1) (pc' := 12) rfl (hb hby own_d23_1) rfl ((if0 _ _).trans (flt (own_nneg (by omega) : ¬ ((Int32.ofNat nn) < (0 : Int32)))).2.1) (by decide) (by decide) kq) ?_
  show own_Rn p e below _ (s₁.setTop (mkF m 12 #[.val (.int (Int32.ofNat nn))] []))
  refine own_go (fun tq kq => XS.iloadN X0.here hx rfl (hb hby own_d23_12) rfl kq) ?_
  show own_Rn p e below _ (s₁.setTop (mkF m 13 #[.val (.int (Int32.ofNat nn))] [(.int (Int32.ofNat nn))]))
  refine own_go (fun tq kq => X0.ldcInt hx hown (mvT hZ (hw _ (own_mi 108 rfl))) (g := (mkF m 13 #[.val (.int (Int32.ofNat nn))] [(.int (Int32.ofNat nn))])) rfl (hb hby own_d23_13) _ kq) ?_
  show own_Rn p e below _ (s₁.setTop (mkF m 15 #[.val (.int (Int32.ofNat nn))] [(.int (1073741823 : Int32)), (.int (Int32.ofNat nn))]))
  refine own_go (fun tq kq => XS.icmpYes X0.here hx rfl (pc0 := 15) (pc' := 55) rfl (hb hby own_d23_15) rfl (tlt (own_ofNat_lt (K := 1073741823) (by omega) (by decide) : (Int32.ofNat nn) < (1073741823 : Int32))).1 (by decide) (by decide) kq) ?_
  show own_Rn p e below _ (s₁.setTop (mkF m 55 #[.val (.int (Int32.ofNat nn))] []))
  refine own_go (fun tq kq => XS.iloadN X0.here hx rfl (hb hby own_d23_55) rfl kq) ?_
  show own_Rn p e below _ (s₁.setTop (mkF m 56 #[.val (.int (Int32.ofNat nn))] [(.int (Int32.ofNat nn))]))
  refine own_go (fun tq kq => XS.iconst X0.here hx rfl (hb hby own_d23_56) kq) ?_
  show own_Rn p e below _ (s₁.setTop (mkF m 57 #[.val (.int (Int32.ofNat nn))] [(.int (1 : Int32)), (.int (Int32.ofNat nn))]))
  refine own_go (fun tq kq => XS.ishl X0.here hx rfl (hb hby own_d23_57) rfl kq) ?_
  show own_Rn p e below _ (s₁.setTop (mkF m 58 #[.val (.int (Int32.ofNat nn))] [(.int ((Int32.ofNat nn) <<< ((1 : Int32) &&& 31)))]))
  rw [show ((Int32.ofNat nn) <<< ((1 : Int32) &&& 31)) = (Int32.ofNat (2 * nn)) from own_shl1 nn (by omega)]
  show own_Rn p e below _ (s₁.setTop (mkF m 58 #[.val (.int (Int32.ofNat nn))] [(.int (Int32.ofNat (2 * nn)))]))
  exact own_ret X0 (v := some (.int (Int32.ofNat (2 * nn)))) (fun h => by rw [Bd.returns] at h; cases h) (fun fs hr => retI X0 hx Bd.returns (hb hby own_d23_58) hr) (by rw [e0]; exact ⟨rfl, N0, rfl⟩) (by decide) (by decide)
theorem own_ef_rmNBF (m : MethodId) (nn : Nat) : entryFrame m #[(.int (Int32.ofNat nn))] 1 = mkF m 0 #[.val (.int (Int32.ofNat nn))] [] := by first | (simp [entryFrame, mkF, argsToLocals, Value.category]; done) | rfl
theorem own_d22_0 : decode jdk_52_method_2_code 0 = .ok (.iload_n 0, 1) := by decide +kernel
theorem own_d22_1 : decode jdk_52_method_2_code 1 = .ok (.invokestatic 11, 3) := by decide +kernel
theorem own_pd_28I29I : parseMethodDescriptor "(I)I" = some ⟨[.int], some .int⟩ := by decide +kernel
theorem own_d22_4 : decode jdk_52_method_2_code 4 = .ok (.newarray .byte, 2) := by decide +kernel
theorem own_d22_6 : decode jdk_52_method_2_code 6 = .ok (.areturn, 1) := by decide +kernel
def Q_rmNBF (Z : State) (nn : Nat) (h0 : Heap) (n0 : Nat) (v : Option Value) (h : Heap) (L : List Loc) : Prop := ∃ (t : Addr), ∃ (kb : ClassId), v = some (.ref t) ∧ Fr n0 L ∧ Keep h0 h [] ∧ h0.size ≤ t ∧ n0 ≤ t ∧ Arv Z h t kb .byte (Int32.ofNat (2 * nn)) [] (.int 0)
set_option maxRecDepth 65536 in
set_option maxHeartbeats 40000000 in
theorem rmNBF (l : Launch) (Z : State) (a0 : Array Value) (hw : ∀ d ∈ tables_1, d.before a0 Z = true) (ws : List Jvm.Cond) (nn : Nat) (h0 : Heap) (n0 : Nat) (Z0 : n0 ≤ h0.size) (hn : (nn ≤ 4)) :
    MetFree l (⟨"java/lang/StringUTF16", "newBytesFor", "(I)[B"⟩ : MethodName) (head1 (Jvm.Cond.code (⟨"java/lang/StringUTF16", "newBytesFor", "(I)[B"⟩ : MethodName) jdk_52_method_2_code 1 (some (.array .byte)) :: ws) ({ frames := 1, cells := 1, slots := 8, locals := 12 } : Room)) (fun a U => a = #[(.int (Int32.ofNat nn))] ∧ Z.Warmed39 U.vm ∧ U.heap = h0) (fun _ _ _ _ _ => True) (fun _ U o U' => ∃ v L, o = .returned v ∧ Q_rmNBF Z nn h0 n0 v U'.heap L ∧ FrameEnd U o U' L ({ frames := 1, cells := 1, slots := 8, locals := 12 } : Room).cells ({ frames := 1, cells := 1, slots := 8, locals := 12 } : Room).slots) := by
  refine MetFree.of_bodySF (plainFor_of_name own_pn_java_lang_StringUTF16) hisR ?_
  intro p e s m args below meth c s₁ Bd hml0 hP hK
  obtain ⟨rfl, hZ, hh⟩ := hP
  have hx := Bd.exec
  have hby := Bd.bytes
  have hml : c.maxLocals = 1 := hml0
  have hown : s.vm.findClass "java/lang/StringUTF16" = some m.cls := findClass_of_methodNamed Bd.named
  have hnm := (name_of_methodNamed Bd.named Bd.method).1
  have X0 : Stand p l e ({ frames := 1, cells := 1, slots := 8, locals := 12 } : Room) s m #[(.int (Int32.ofNat nn))] below meth c s₁ [] 0 0 := Stand.of_body Bd
  have e0 : s₁.heap = h0 := by rw [← hh, Bd.state]; rfl
  have N0 := Fr.nil n0
  have K0 : Keep h0 h0 [] := Keep.refl _ _
  refine own_go (S' := s₁.setTop (mkF m 0 #[.val (.int (Int32.ofNat nn))] [])) (fun tq kq => castTop (own_ef_rmNBF m nn) kq) ?_
  refine own_go (fun tq kq => XS.iloadN X0.here hx rfl (hb hby own_d22_0) rfl kq) ?_
  show own_Rn p e below _ (s₁.setTop (mkF m 1 #[.val (.int (Int32.ofNat nn))] [(.int (Int32.ofNat nn))]))
  have Zn1 : n0 ≤ h0.size := by omega
  obtain ⟨rv1, _, ⟨T1, L1, k1, n1⟩, -, X1, ⟨Lc1, hQ1, l1, y1, z1⟩, st1⟩ := Jvm.LawKit.callS X0 hx (y := (⟨"java/lang/StringUTF16", "newBytesLength", "(I)I"⟩ : MethodName)) hown (mvT hZ (hw _ (own_mi 105 rfl))) (mvT hZ (hw _ (own_mi 106 rfl))) (mvT hZ (hw _ (own_mi 19 rfl))) (mvT hZ (hw _ (own_mi 107 rfl))) (by decide) (backOf (W := 0) (rmNBL l Z a0 hw [] (nn) h0 n0 Zn1 (hn)) hZ (hw _ (own_mi 107 rfl)) (hw _ (own_mi 19 rfl)) (by decide) (by decide)) (g := (mkF m 1 #[.val (.int (Int32.ofNat nn))] [(.int (Int32.ofNat nn))])) rfl (by rw [hml]; rfl) (argsL := [(.int (Int32.ofNat nn))]) (rest := []) (lenOf own_pd_28I29I rfl) rfl (by show 2 * 0 + _ ≤ _; exact Nat.le_of_eq rfl) (hb hby own_d22_1) (fun _ _ => ⟨rfl, e0, (by decide : 0 + 0 ≤ _), (by decide : 0 + 0 ≤ _)⟩)
  dsimp only [Pt.U, Pt.locs, Pt.cells, Pt.slots] at X1 l1 y1 z1 st1 hQ1
  subst l1 y1 z1
  obtain ⟨rfl, Nq1, eh1⟩ := hQ1
  have N1 := Fr.app N0 Nq1
  refine own_go st1 ?_
  show own_Rn p e below _ (T1.setTop (mkF m 4 #[.val (.int (Int32.ofNat nn))] [(.int (Int32.ofNat (2 * nn)))]))
  obtain ⟨T2, h2, k2, X2, e2, E2, A2, st2⟩ := newP X1 hx hZ (hw _ (own_mi 21 rfl)) eh1 (g := (mkF m 4 #[.val (.int (Int32.ofNat nn))] [(.int (Int32.ofNat (2 * nn)))])) rfl (hb hby own_d22_4) rfl (own_nneg (by omega)) (cap := 8) (by rw [own_clampN (by omega)]; omega) (by decide) (by decide) (by decide)
  obtain ⟨b2, g2⟩ : ∃ z, z = h0.size := ⟨_, rfl⟩
  rw [← g2] at A2 st2
  refine own_go st2 ?_
  have sz3 : h0.size ≤ h2.size := E2.1
  have K3 := K0.ext E2
  have gn2 : n0 ≤ b2 := by omega
  have V2 : Arv Z h2 b2 k2 .byte (Int32.ofNat (2 * nn)) [] (.int (0 : Int32)) := Arv.new A2 (own_nneg (by omega))
  have lt4 : @LT.lt Nat _ b2 h2.size := V2.lt
  show own_Rn p e below _ (T2.setTop (mkF m 6 #[.val (.int (Int32.ofNat nn))] [(.ref b2)]))
  exact own_ret X2 (v := some (.ref b2)) (fun h => by rw [Bd.returns] at h; cases h) (fun fs hr => X2.areturnOut hx rfl Bd.returns rfl (hb hby own_d22_6) hr) (by rw [e2]; exact ⟨b2, k2, rfl, N1, K3, (by omega), gn2, V2⟩) (by decide) (by decide)
theorem own_ef_rmPut (m : MethodId) (bv : Addr) (kb : ClassId) (ds : List Int32) (nn : Nat) (ch : Int32) (qq : Nat) : entryFrame m #[(.ref bv), (.int (Int32.ofNat qq)), (.int ch)] 3 = mkF m 0 #[.val (.ref bv), .val (.int (Int32.ofNat qq)), .val (.int ch)] [] := by first | (simp [entryFrame, mkF, argsToLocals, Value.category]; done) | rfl
theorem own_d24_0 : decode jdk_52_method_4_code 0 = .ok (.getstatic 44, 3) := by decide +kernel
theorem own_d24_3 : decode jdk_52_method_4_code 3 = .ok (.ifCond .ne 25, 3) := by decide +kernel
theorem own_d24_28 : decode jdk_52_method_4_code 28 = .ok (.iload_n 1, 1) := by decide +kernel
theorem own_d24_29 : decode jdk_52_method_4_code 29 = .ok (.iconst 1, 1) := by decide +kernel
theorem own_d24_30 : decode jdk_52_method_4_code 30 = .ok (.ishl, 1) := by decide +kernel
theorem own_d24_31 : decode jdk_52_method_4_code 31 = .ok (.istore_n 1, 1) := by decide +kernel
theorem own_d24_32 : decode jdk_52_method_4_code 32 = .ok (.aload_n 0, 1) := by decide +kernel
theorem own_d24_33 : decode jdk_52_method_4_code 33 = .ok (.iload_n 1, 1) := by decide +kernel
theorem own_d24_34 : decode jdk_52_method_4_code 34 = .ok (.iinc 1 1, 3) := by decide +kernel
theorem own_d24_37 : decode jdk_52_method_4_code 37 = .ok (.iload_n 2, 1) := by decide +kernel
theorem own_d24_38 : decode jdk_52_method_4_code 38 = .ok (.getstatic 59, 3) := by decide +kernel
theorem own_d24_41 : decode jdk_52_method_4_code 41 = .ok (.ishr, 1) := by decide +kernel
theorem own_d24_42 : decode jdk_52_method_4_code 42 = .ok (.i2b, 1) := by decide +kernel
theorem own_d24_43 : decode jdk_52_method_4_code 43 = .ok (.bastore, 1) := by decide +kernel
theorem own_d24_44 : decode jdk_52_method_4_code 44 = .ok (.aload_n 0, 1) := by decide +kernel
theorem own_d24_45 : decode jdk_52_method_4_code 45 = .ok (.iload_n 1, 1) := by decide +kernel
theorem own_d24_46 : decode jdk_52_method_4_code 46 = .ok (.iload_n 2, 1) := by decide +kernel
theorem own_d24_47 : decode jdk_52_method_4_code 47 = .ok (.getstatic 63, 3) := by decide +kernel
theorem own_d24_50 : decode jdk_52_method_4_code 50 = .ok (.ishr, 1) := by decide +kernel
theorem own_d24_51 : decode jdk_52_method_4_code 51 = .ok (.i2b, 1) := by decide +kernel
theorem own_d24_52 : decode jdk_52_method_4_code 52 = .ok (.bastore, 1) := by decide +kernel
theorem own_d24_53 : decode jdk_52_method_4_code 53 = .ok (.return_, 1) := by decide +kernel
def Q_rmPut (Z : State) (bv : Addr) (kb : ClassId) (ds : List Int32) (nn : Nat) (ch : Int32) (qq : Nat) (h0 : Heap) (n0 : Nat) (v : Option Value) (h : Heap) (L : List Loc) : Prop := v = none ∧ Fr n0 L ∧ Keep h0 h [bv] ∧ Arv Z h bv kb .byte (Int32.ofNat (2 * nn)) (own_u16 (ds ++ [ch])) (.int 0)
set_option maxRecDepth 65536 in
set_option maxHeartbeats 40000000 in
theorem rmPut (l : Launch) (Z : State) (a0 : Array Value) (hw : ∀ d ∈ tables_1, d.before a0 Z = true) (ws : List Jvm.Cond) (bv : Addr) (kb : ClassId) (ds : List Int32) (nn : Nat) (ch : Int32) (qq : Nat) (h0 : Heap) (n0 : Nat) (Z0 : n0 ≤ h0.size) (Pm0 : Arv Z h0 bv kb .byte (Int32.ofNat (2 * nn)) (own_u16 ds) (.int 0)) (hq : (qq < nn)) (hdl : (ds.length = qq)) (hn : (nn ≤ 4)) (gbv : n0 ≤ bv) (OAD : Sta Z Z.heap "java/lang/StringUTF16" "$assertionsDisabled" "Z" (.int (1 : Int32))) (OHI : Sta Z Z.heap "java/lang/StringUTF16" "HI_BYTE_SHIFT" "I" (.int (0 : Int32))) (OLO : Sta Z Z.heap "java/lang/StringUTF16" "LO_BYTE_SHIFT" "I" (.int (8 : Int32))) (X00 : Old Z n0 h0) :
    MetFree l (⟨"java/lang/StringUTF16", "putChar", "([BII)V"⟩ : MethodName) (head1 (Jvm.Cond.code (⟨"java/lang/StringUTF16", "putChar", "([BII)V"⟩ : MethodName) jdk_52_method_4_code 3 none :: ws) ({ frames := 0, cells := 0, slots := 0, locals := 0 } : Room)) (fun a U => a = #[(.ref bv), (.int (Int32.ofNat qq)), (.int ch)] ∧ Z.Warmed39 U.vm ∧ U.heap = h0) (fun _ _ _ _ _ => True) (fun _ U o U' => ∃ v L, o = .returned v ∧ Q_rmPut Z bv kb ds nn ch qq h0 n0 v U'.heap L ∧ FrameEnd U o U' L ({ frames := 0, cells := 0, slots := 0, locals := 0 } : Room).cells ({ frames := 0, cells := 0, slots := 0, locals := 0 } : Room).slots) := by
  refine MetFree.of_bodySF (plainFor_of_name own_pn_java_lang_StringUTF16) hisR ?_
  intro p e s m args below meth c s₁ Bd hml0 hP hK
  obtain ⟨rfl, hZ, hh⟩ := hP
  have hx := Bd.exec
  have hby := Bd.bytes
  have hml : c.maxLocals = 3 := hml0
  have hown : s.vm.findClass "java/lang/StringUTF16" = some m.cls := findClass_of_methodNamed Bd.named
  have hnm := (name_of_methodNamed Bd.named Bd.method).1
  have X0 : Stand p l e ({ frames := 0, cells := 0, slots := 0, locals := 0 } : Room) s m #[(.ref bv), (.int (Int32.ofNat qq)), (.int ch)] below meth c s₁ [] 0 0 := Stand.of_body Bd
  have e0 : s₁.heap = h0 := by rw [← hh, Bd.state]; rfl
  have N0 := Fr.nil n0
  have K0 : Keep h0 h0 [bv] := Keep.refl _ _
  refine own_go (S' := s₁.setTop (mkF m 0 #[.val (.ref bv), .val (.int (Int32.ofNat qq)), .val (.int ch)] [])) (fun tq kq => castTop (own_ef_rmPut m bv kb ds nn ch qq) kq) ?_
  have lt1 : @LT.lt Nat _ bv h0.size := Pm0.lt
  obtain ⟨T2, X2, e2, st2⟩ := getS2 X0 hx hZ hown (host := "") (Or.inl (hw _ (own_mi 112 rfl))) Via.refl e0 (OAD.ext X00.2) (g := (mkF m 0 #[.val (.ref bv), .val (.int (Int32.ofNat qq)), .val (.int ch)] [])) rfl (hb hby own_d24_0)
  refine own_go st2 ?_
  show own_Rn p e below _ (T2.setTop (mkF m 3 #[.val (.ref bv), .val (.int (Int32.ofNat qq)), .val (.int ch)] [(.int (1 : Int32))]))
  refine own_go (fun tq kq => XS.ifYes X2.here hx rfl (pc0 := 3) (pc' := 28) rfl (hb hby own_d24_3) rfl ((if0 _ _).trans (feq ((by decide : ¬ ((1 : Int32) = (0 : Int32))) : ¬ ((1 : Int32) = (0 : Int32)))).2) (by decide) (by decide) kq) ?_
  show own_Rn p e below _ (T2.setTop (mkF m 28 #[.val (.ref bv), .val (.int (Int32.ofNat qq)), .val (.int ch)] []))
  refine own_go (fun tq kq => XS.iloadN X2.here hx rfl (hb hby own_d24_28) rfl kq) ?_
  show own_Rn p e below _ (T2.setTop (mkF m 29 #[.val (.ref bv), .val (.int (Int32.ofNat qq)), .val (.int ch)] [(.int (Int32.ofNat qq))]))
  refine own_go (fun tq kq => XS.iconst X2.here hx rfl (hb hby own_d24_29) kq) ?_
  show own_Rn p e below _ (T2.setTop (mkF m 30 #[.val (.ref bv), .val (.int (Int32.ofNat qq)), .val (.int ch)] [(.int (1 : Int32)), (.int (Int32.ofNat qq))]))
  refine own_go (fun tq kq => XS.ishl X2.here hx rfl (hb hby own_d24_30) rfl kq) ?_
  show own_Rn p e below _ (T2.setTop (mkF m 31 #[.val (.ref bv), .val (.int (Int32.ofNat qq)), .val (.int ch)] [(.int ((Int32.ofNat qq) <<< ((1 : Int32) &&& 31)))]))
  rw [show ((Int32.ofNat qq) <<< ((1 : Int32) &&& 31)) = (Int32.ofNat (2 * qq)) from own_shl1 _ (by omega)]
  show own_Rn p e below _ (T2.setTop (mkF m 31 #[.val (.ref bv), .val (.int (Int32.ofNat qq)), .val (.int ch)] [(.int (Int32.ofNat (2 * qq)))]))
  refine own_go (fun tq kq => XS.istoreN X2.here hx rfl (hb hby own_d24_31) rfl (l' := #[.val (.ref bv), .val (.int (Int32.ofNat (2 * qq))), .val (.int ch)]) rfl kq) ?_
  show own_Rn p e below _ (T2.setTop (mkF m 32 #[.val (.ref bv), .val (.int (Int32.ofNat (2 * qq))), .val (.int ch)] []))
  refine own_go (fun tq kq => XS.aloadN X2.here hx rfl (hb hby own_d24_32) rfl rfl kq) ?_
  show own_Rn p e below _ (T2.setTop (mkF m 33 #[.val (.ref bv), .val (.int (Int32.ofNat (2 * qq))), .val (.int ch)] [(.ref bv)]))
  refine own_go (fun tq kq => XS.iloadN X2.here hx rfl (hb hby own_d24_33) rfl kq) ?_
  show own_Rn p e below _ (T2.setTop (mkF m 34 #[.val (.ref bv), .val (.int (Int32.ofNat (2 * qq))), .val (.int ch)] [(.int (Int32.ofNat (2 * qq))), (.ref bv)]))
  refine own_go (fun tq kq => XS.iinc X2.here hx rfl (hb hby own_d24_34) rfl (l' := #[.val (.ref bv), .val (.int ((Int32.ofNat (2 * qq)) + (1 : Int32))), .val (.int ch)]) rfl kq) ?_
  show own_Rn p e below _ (T2.setTop (mkF m 37 #[.val (.ref bv), .val (.int ((Int32.ofNat (2 * qq)) + (1 : Int32))), .val (.int ch)] [(.int (Int32.ofNat (2 * qq))), (.ref bv)]))
  refine own_go (fun tq kq => XS.iloadN X2.here hx rfl (hb hby own_d24_37) rfl kq) ?_
  show own_Rn p e below _ (T2.setTop (mkF m 38 #[.val (.ref bv), .val (.int ((Int32.ofNat (2 * qq)) + (1 : Int32))), .val (.int ch)] [(.int ch), (.int (Int32.ofNat (2 * qq))), (.ref bv)]))
  obtain ⟨T3, X3, e3, st3⟩ := getS2 X2 hx hZ hown (host := "") (Or.inl (hw _ (own_mi 113 rfl))) Via.refl e2 (OHI.ext X00.2) (g := (mkF m 38 #[.val (.ref bv), .val (.int ((Int32.ofNat (2 * qq)) + (1 : Int32))), .val (.int ch)] [(.int ch), (.int (Int32.ofNat (2 * qq))), (.ref bv)])) rfl (hb hby own_d24_38)
  refine own_go st3 ?_
  show own_Rn p e below _ (T3.setTop (mkF m 41 #[.val (.ref bv), .val (.int ((Int32.ofNat (2 * qq)) + (1 : Int32))), .val (.int ch)] [(.int (0 : Int32)), (.int ch), (.int (Int32.ofNat (2 * qq))), (.ref bv)]))
  refine own_go (fun tq kq => XS.ishr X3.here hx rfl (hb hby own_d24_41) rfl kq) ?_
  show own_Rn p e below _ (T3.setTop (mkF m 42 #[.val (.ref bv), .val (.int ((Int32.ofNat (2 * qq)) + (1 : Int32))), .val (.int ch)] [(.int (ch >>> ((0 : Int32) &&& 31))), (.int (Int32.ofNat (2 * qq))), (.ref bv)]))
  refine own_go (fun tq kq => XS.i2b X3.here hx rfl (hb hby own_d24_42) rfl kq) ?_
  show own_Rn p e below _ (T3.setTop (mkF m 43 #[.val (.ref bv), .val (.int ((Int32.ofNat (2 * qq)) + (1 : Int32))), .val (.int ch)] [(.int ((ch >>> ((0 : Int32) &&& 31)).toInt8.toInt32)), (.int (Int32.ofNat (2 * qq))), (.ref bv)]))
  have hL : (own_u16 ds).length = 2 * qq := by rw [own_u16_len, hdl]
  obtain ⟨cl4, Ar4, q4, Sz4, Nn4, Hs4, G4⟩ := id Pm0
  obtain ⟨T4, h4, X4, e4, W4, st4⟩ := stB X3 hx hZ e3 Ar4 (j := (Int32.ofNat (2 * qq))) (inb_of Sz4 (own_inb _ _ (by omega) (by omega))) (g := (mkF m 43 #[.val (.ref bv), .val (.int ((Int32.ofNat (2 * qq)) + (1 : Int32))), .val (.int ch)] [(.int ((ch >>> ((0 : Int32) &&& 31)).toInt8.toInt32)), (.int (Int32.ofNat (2 * qq))), (.ref bv)])) rfl rfl (hb hby own_d24_43)
  rw [own_narB] at W4
  refine own_go st4 ?_
  have V4 : Arv Z h4 bv kb .byte (Int32.ofNat (2 * nn)) (own_u16 ds ++ [(.int (own_lo ch))]) (.int 0) := own_store1 Pm0 (by rw [hL, own_clampN (by omega)]; omega) (own_fitsB _) W4 (by rw [own_clampN (by omega), hL])
  have N4 := Fr.snoc X4 N0 gbv
  have sz5 : h0.size ≤ h4.size := Nat.le_of_eq (Wr.size W4).symm
  have K5 := K0.wr W4 (Or.inl (List.mem_of_getElem? (i := 0) rfl))
  show own_Rn p e below _ (T4.setTop (mkF m 44 #[.val (.ref bv), .val (.int ((Int32.ofNat (2 * qq)) + (1 : Int32))), .val (.int ch)] []))
  refine own_go (fun tq kq => XS.aloadN X4.here hx rfl (hb hby own_d24_44) rfl rfl kq) ?_
  show own_Rn p e below _ (T4.setTop (mkF m 45 #[.val (.ref bv), .val (.int ((Int32.ofNat (2 * qq)) + (1 : Int32))), .val (.int ch)] [(.ref bv)]))
  refine own_go (fun tq kq => XS.iloadN X4.here hx rfl (hb hby own_d24_45) rfl kq) ?_
  show own_Rn p e below _ (T4.setTop (mkF m 46 #[.val (.ref bv), .val (.int ((Int32.ofNat (2 * qq)) + (1 : Int32))), .val (.int ch)] [(.int ((Int32.ofNat (2 * qq)) + (1 : Int32))), (.ref bv)]))
  refine own_go (fun tq kq => XS.iloadN X4.here hx rfl (hb hby own_d24_46) rfl kq) ?_
  show own_Rn p e below _ (T4.setTop (mkF m 47 #[.val (.ref bv), .val (.int ((Int32.ofNat (2 * qq)) + (1 : Int32))), .val (.int ch)] [(.int ch), (.int ((Int32.ofNat (2 * qq)) + (1 : Int32))), (.ref bv)]))
  have F6 : Old Z n0 h4 := (X00.wr W4 gbv)
  obtain ⟨T7, X7, e7, st7⟩ := getS2 X4 hx hZ hown (host := "") (Or.inl (hw _ (own_mi 114 rfl))) Via.refl e4 (OLO.ext F6.2) (g := (mkF m 47 #[.val (.ref bv), .val (.int ((Int32.ofNat (2 * qq)) + (1 : Int32))), .val (.int ch)] [(.int ch), (.int ((Int32.ofNat (2 * qq)) + (1 : Int32))), (.ref bv)])) rfl (hb hby own_d24_47)
  refine own_go st7 ?_
  show own_Rn p e below _ (T7.setTop (mkF m 50 #[.val (.ref bv), .val (.int ((Int32.ofNat (2 * qq)) + (1 : Int32))), .val (.int ch)] [(.int (8 : Int32)), (.int ch), (.int ((Int32.ofNat (2 * qq)) + (1 : Int32))), (.ref bv)]))
  refine own_go (fun tq kq => XS.ishr X7.here hx rfl (hb hby own_d24_50) rfl kq) ?_
  show own_Rn p e below _ (T7.setTop (mkF m 51 #[.val (.ref bv), .val (.int ((Int32.ofNat (2 * qq)) + (1 : Int32))), .val (.int ch)] [(.int (ch >>> ((8 : Int32) &&& 31))), (.int ((Int32.ofNat (2 * qq)) + (1 : Int32))), (.ref bv)]))
  refine own_go (fun tq kq => XS.i2b X7.here hx rfl (hb hby own_d24_51) rfl kq) ?_
  show own_Rn p e below _ (T7.setTop (mkF m 52 #[.val (.ref bv), .val (.int ((Int32.ofNat (2 * qq)) + (1 : Int32))), .val (.int ch)] [(.int ((ch >>> ((8 : Int32) &&& 31)).toInt8.toInt32)), (.int ((Int32.ofNat (2 * qq)) + (1 : Int32))), (.ref bv)]))
  rw [show ((Int32.ofNat (2 * qq)) + (1 : Int32)) = Int32.ofNat (2 * qq + 1) from (inc_ofNat _).symm]
  show own_Rn p e below _ (T7.setTop (mkF m 52 #[.val (.ref bv), .val (.int (Int32.ofNat (2 * qq + 1))), .val (.int ch)] [(.int ((ch >>> ((8 : Int32) &&& 31)).toInt8.toInt32)), (.int (Int32.ofNat (2 * qq + 1))), (.ref bv)]))
  obtain ⟨cl8, Ar8, q8, Sz8, Nn8, Hs8, G8⟩ := id V4
  obtain ⟨T8, h8, X8, e8, W8, st8⟩ := stB X7 hx hZ e7 Ar8 (j := (Int32.ofNat (2 * qq + 1))) (inb_of Sz8 (own_inb _ _ (by omega) (by omega))) (g := (mkF m 52 #[.val (.ref bv), .val (.int (Int32.ofNat (2 * qq + 1))), .val (.int ch)] [(.int ((ch >>> ((8 : Int32) &&& 31)).toInt8.toInt32)), (.int (Int32.ofNat (2 * qq + 1))), (.ref bv)])) rfl rfl (hb hby own_d24_52)
  rw [own_narB] at W8
  refine own_go st8 ?_
  have V8 : Arv Z h8 bv kb .byte (Int32.ofNat (2 * nn)) ((own_u16 ds ++ [(.int (own_lo ch))]) ++ [(.int (own_hi ch))]) (.int 0) := own_store1 V4 (by rw [List.length_append, hL, own_clampN (by omega)]; show _ + 1 < _; omega) (own_fitsB _) W8 (by rw [own_clampN (by omega), List.length_append, hL]; rfl)
  have N8 := Fr.snoc X8 N4 gbv
  have sz9 : h4.size ≤ h8.size := Nat.le_of_eq (Wr.size W8).symm
  have K9 := K5.wr W8 (Or.inl (List.mem_of_getElem? (i := 0) rfl))
  show own_Rn p e below _ (T8.setTop (mkF m 53 #[.val (.ref bv), .val (.int (Int32.ofNat (2 * qq + 1))), .val (.int ch)] []))
  have Vz : Arv Z h8 bv kb .byte (Int32.ofNat (2 * nn)) (own_u16 (ds ++ [ch])) (.int 0) := by rw [own_u16_app]; have h := V8; rwa [List.append_assoc] at h
  exact own_ret X8 (v := none) (fun _ => rfl) (fun fs hr => X8.returnOut hx Bd.returns (hb hby own_d24_53) hr) (by rw [e8]; exact ⟨rfl, N8, K9, Vz⟩) (by decide) (by decide)
theorem own_ef_rmGet (m : MethodId) (bv : Addr) (kb : ClassId) (cs : List Int32) (qq : Nat) : entryFrame m #[(.ref bv), (.int (Int32.ofNat qq))] 2 = mkF m 0 #[.val (.ref bv), .val (.int (Int32.ofNat qq))] [] := by first | (simp [entryFrame, mkF, argsToLocals, Value.category]; done) | rfl
theorem own_d25_0 : decode jdk_52_method_5_code 0 = .ok (.getstatic 44, 3) := by decide +kernel
theorem own_d25_3 : decode jdk_52_method_5_code 3 = .ok (.ifCond .ne 25, 3) := by decide +kernel
theorem own_d25_28 : decode jdk_52_method_5_code 28 = .ok (.iload_n 1, 1) := by decide +kernel
theorem own_d25_29 : decode jdk_52_method_5_code 29 = .ok (.iconst 1, 1) := by decide +kernel
theorem own_d25_30 : decode jdk_52_method_5_code 30 = .ok (.ishl, 1) := by decide +kernel
theorem own_d25_31 : decode jdk_52_method_5_code 31 = .ok (.istore_n 1, 1) := by decide +kernel
theorem own_d25_32 : decode jdk_52_method_5_code 32 = .ok (.aload_n 0, 1) := by decide +kernel
theorem own_d25_33 : decode jdk_52_method_5_code 33 = .ok (.iload_n 1, 1) := by decide +kernel
theorem own_d25_34 : decode jdk_52_method_5_code 34 = .ok (.iinc 1 1, 3) := by decide +kernel
theorem own_d25_37 : decode jdk_52_method_5_code 37 = .ok (.baload, 1) := by decide +kernel
theorem own_d25_38 : decode jdk_52_method_5_code 38 = .ok (.sipush 255, 3) := by decide +kernel
theorem own_d25_41 : decode jdk_52_method_5_code 41 = .ok (.iand, 1) := by decide +kernel
theorem own_d25_42 : decode jdk_52_method_5_code 42 = .ok (.getstatic 59, 3) := by decide +kernel
theorem own_d25_45 : decode jdk_52_method_5_code 45 = .ok (.ishl, 1) := by decide +kernel
theorem own_d25_46 : decode jdk_52_method_5_code 46 = .ok (.aload_n 0, 1) := by decide +kernel
theorem own_d25_47 : decode jdk_52_method_5_code 47 = .ok (.iload_n 1, 1) := by decide +kernel
theorem own_d25_48 : decode jdk_52_method_5_code 48 = .ok (.baload, 1) := by decide +kernel
theorem own_d25_49 : decode jdk_52_method_5_code 49 = .ok (.sipush 255, 3) := by decide +kernel
theorem own_d25_52 : decode jdk_52_method_5_code 52 = .ok (.iand, 1) := by decide +kernel
theorem own_d25_53 : decode jdk_52_method_5_code 53 = .ok (.getstatic 63, 3) := by decide +kernel
theorem own_d25_56 : decode jdk_52_method_5_code 56 = .ok (.ishl, 1) := by decide +kernel
theorem own_d25_57 : decode jdk_52_method_5_code 57 = .ok (.ior, 1) := by decide +kernel
theorem own_d25_58 : decode jdk_52_method_5_code 58 = .ok (.i2c, 1) := by decide +kernel
theorem own_d25_59 : decode jdk_52_method_5_code 59 = .ok (.ireturn, 1) := by decide +kernel
def Q_rmGet (Z : State) (bv : Addr) (kb : ClassId) (cs : List Int32) (qq : Nat) (h0 : Heap) (n0 : Nat) (v : Option Value) (h : Heap) (L : List Loc) : Prop := v = some (.int (cs.getD qq 0)) ∧ Fr n0 L ∧ h = h0
set_option maxRecDepth 65536 in
set_option maxHeartbeats 40000000 in
theorem rmGet (l : Launch) (Z : State) (a0 : Array Value) (hw : ∀ d ∈ tables_1, d.before a0 Z = true) (ws : List Jvm.Cond) (bv : Addr) (kb : ClassId) (cs : List Int32) (qq : Nat) (h0 : Heap) (n0 : Nat) (Z0 : n0 ≤ h0.size) (Pm0 : Arv Z h0 bv kb .byte (Int32.ofNat (2 * cs.length)) (own_u16 cs) (.int 0)) (hq : (qq < cs.length)) (hn : (cs.length ≤ 4)) (hr : (∀ c ∈ cs, ¬ c < 0 ∧ ¬ (65535 : Int32) < c)) (OAD : Sta Z Z.heap "java/lang/StringUTF16" "$assertionsDisabled" "Z" (.int (1 : Int32))) (OHI : Sta Z Z.heap "java/lang/StringUTF16" "HI_BYTE_SHIFT" "I" (.int (0 : Int32))) (OLO : Sta Z Z.heap "java/lang/StringUTF16" "LO_BYTE_SHIFT" "I" (.int (8 : Int32))) (X00 : Old Z n0 h0) :
    MetFree l (⟨"java/lang/StringUTF16", "getChar", "([BI)C"⟩ : MethodName) (head1 (Jvm.Cond.code (⟨"java/lang/StringUTF16", "getChar", "([BI)C"⟩ : MethodName) jdk_52_method_5_code 2 (some .char) :: ws) ({ frames := 0, cells := 0, slots := 0, locals := 0 } : Room)) (fun a U => a = #[(.ref bv), (.int (Int32.ofNat qq))] ∧ Z.Warmed39 U.vm ∧ U.heap = h0) (fun _ _ _ _ _ => True) (fun _ U o U' => ∃ v L, o = .returned v ∧ Q_rmGet Z bv kb cs qq h0 n0 v U'.heap L ∧ FrameEnd U o U' L ({ frames := 0, cells := 0, slots := 0, locals := 0 } : Room).cells ({ frames := 0, cells := 0, slots := 0, locals := 0 } : Room).slots) := by
  refine MetFree.of_bodySF (plainFor_of_name own_pn_java_lang_StringUTF16) hisR ?_
  intro p e s m args below meth c s₁ Bd hml0 hP hK
  obtain ⟨rfl, hZ, hh⟩ := hP
  have hx := Bd.exec
  have hby := Bd.bytes
  have hml : c.maxLocals = 2 := hml0
  have hown : s.vm.findClass "java/lang/StringUTF16" = some m.cls := findClass_of_methodNamed Bd.named
  have hnm := (name_of_methodNamed Bd.named Bd.method).1
  have X0 : Stand p l e ({ frames := 0, cells := 0, slots := 0, locals := 0 } : Room) s m #[(.ref bv), (.int (Int32.ofNat qq))] below meth c s₁ [] 0 0 := Stand.of_body Bd
  have e0 : s₁.heap = h0 := by rw [← hh, Bd.state]; rfl
  have N0 := Fr.nil n0
  have K0 : Keep h0 h0 [] := Keep.refl _ _
  refine own_go (S' := s₁.setTop (mkF m 0 #[.val (.ref bv), .val (.int (Int32.ofNat qq))] [])) (fun tq kq => castTop (own_ef_rmGet m bv kb cs qq) kq) ?_
  have lt1 : @LT.lt Nat _ bv h0.size := Pm0.lt
  obtain ⟨T2, X2, e2, st2⟩ := getS2 X0 hx hZ hown (host := "") (Or.inl (hw _ (own_mi 112 rfl))) Via.refl e0 (OAD.ext X00.2) (g := (mkF m 0 #[.val (.ref bv), .val (.int (Int32.ofNat qq))] [])) rfl (hb hby own_d25_0)
  refine own_go st2 ?_
  show own_Rn p e below _ (T2.setTop (mkF m 3 #[.val (.ref bv), .val (.int (Int32.ofNat qq))] [(.int (1 : Int32))]))
  refine own_go (fun tq kq => XS.ifYes X2.here hx rfl (pc0 := 3) (pc' := 28) rfl (hb hby own_d25_3) rfl ((if0 _ _).trans (feq ((by decide : ¬ ((1 : Int32) = (0 : Int32))) : ¬ ((1 : Int32) = (0 : Int32)))).2) (by decide) (by decide) kq) ?_
  show own_Rn p e below _ (T2.setTop (mkF m 28 #[.val (.ref bv), .val (.int (Int32.ofNat qq))] []))
  refine own_go (fun tq kq => XS.iloadN X2.here hx rfl (hb hby own_d25_28) rfl kq) ?_
  show own_Rn p e below _ (T2.setTop (mkF m 29 #[.val (.ref bv), .val (.int (Int32.ofNat qq))] [(.int (Int32.ofNat qq))]))
  refine own_go (fun tq kq => XS.iconst X2.here hx rfl (hb hby own_d25_29) kq) ?_
  show own_Rn p e below _ (T2.setTop (mkF m 30 #[.val (.ref bv), .val (.int (Int32.ofNat qq))] [(.int (1 : Int32)), (.int (Int32.ofNat qq))]))
  refine own_go (fun tq kq => XS.ishl X2.here hx rfl (hb hby own_d25_30) rfl kq) ?_
  show own_Rn p e below _ (T2.setTop (mkF m 31 #[.val (.ref bv), .val (.int (Int32.ofNat qq))] [(.int ((Int32.ofNat qq) <<< ((1 : Int32) &&& 31)))]))
  rw [show ((Int32.ofNat qq) <<< ((1 : Int32) &&& 31)) = (Int32.ofNat (2 * qq)) from own_shl1 _ (by omega)]
  show own_Rn p e below _ (T2.setTop (mkF m 31 #[.val (.ref bv), .val (.int (Int32.ofNat qq))] [(.int (Int32.ofNat (2 * qq)))]))
  refine own_go (fun tq kq => XS.istoreN X2.here hx rfl (hb hby own_d25_31) rfl (l' := #[.val (.ref bv), .val (.int (Int32.ofNat (2 * qq)))]) rfl kq) ?_
  show own_Rn p e below _ (T2.setTop (mkF m 32 #[.val (.ref bv), .val (.int (Int32.ofNat (2 * qq)))] []))
  refine own_go (fun tq kq => XS.aloadN X2.here hx rfl (hb hby own_d25_32) rfl rfl kq) ?_
  show own_Rn p e below _ (T2.setTop (mkF m 33 #[.val (.ref bv), .val (.int (Int32.ofNat (2 * qq)))] [(.ref bv)]))
  refine own_go (fun tq kq => XS.iloadN X2.here hx rfl (hb hby own_d25_33) rfl kq) ?_
  show own_Rn p e below _ (T2.setTop (mkF m 34 #[.val (.ref bv), .val (.int (Int32.ofNat (2 * qq)))] [(.int (Int32.ofNat (2 * qq))), (.ref bv)]))
  refine own_go (fun tq kq => XS.iinc X2.here hx rfl (hb hby own_d25_34) rfl (l' := #[.val (.ref bv), .val (.int ((Int32.ofNat (2 * qq)) + (1 : Int32)))]) rfl kq) ?_
  show own_Rn p e below _ (T2.setTop (mkF m 37 #[.val (.ref bv), .val (.int ((Int32.ofNat (2 * qq)) + (1 : Int32)))] [(.int (Int32.ofNat (2 * qq))), (.ref bv)]))
  have hm : ¬ cs.getD qq 0 < 0 ∧ ¬ (65535 : Int32) < cs.getD qq 0 := hr _ (by rw [List.getD_eq_getElem?_getD, List.getElem?_eq_getElem hq]; exact List.getElem_mem hq)
  obtain ⟨cl3, Ar3, q3, Sz3, Nn3, Hs3, G3⟩ := id Pm0
  have in3 := inb_of (j := (Int32.ofNat (2 * qq))) Sz3 (own_inb _ _ (by omega) (by omega))
  refine own_go (fun tq kq => X2.baloadBytes hx (j := (Int32.ofNat (2 * qq))) (v := (.int (own_lo (cs.getD qq 0)))) (by rw [e2]; exact Ar3.1) (State.isArrayOf_alike hZ.alike Ar3.2.1) Ar3.2.2 in3 (Hs3.at in3 (by rw [own_clampN (by omega)]; exact (own_u16_at cs qq hq).1)) (g := (mkF m 37 #[.val (.ref bv), .val (.int ((Int32.ofNat (2 * qq)) + (1 : Int32)))] [(.int (Int32.ofNat (2 * qq))), (.ref bv)])) rfl rfl (hb hby own_d25_37) tq kq) ?_
  show own_Rn p e below _ (T2.setTop (mkF m 38 #[.val (.ref bv), .val (.int ((Int32.ofNat (2 * qq)) + (1 : Int32)))] [(.int (own_lo (cs.getD qq 0)))]))
  refine own_go (fun tq kq => XS.sipush X2.here hx rfl (hb hby own_d25_38) kq) ?_
  show own_Rn p e below _ (T2.setTop (mkF m 41 #[.val (.ref bv), .val (.int ((Int32.ofNat (2 * qq)) + (1 : Int32)))] [(.int (255 : Int32)), (.int (own_lo (cs.getD qq 0)))]))
  refine own_go (fun tq kq => XS.iand X2.here hx rfl (hb hby own_d25_41) rfl kq) ?_
  show own_Rn p e below _ (T2.setTop (mkF m 42 #[.val (.ref bv), .val (.int ((Int32.ofNat (2 * qq)) + (1 : Int32)))] [(.int ((own_lo (cs.getD qq 0)) &&& (255 : Int32)))]))
  obtain ⟨T4, X4, e4, st4⟩ := getS2 X2 hx hZ hown (host := "") (Or.inl (hw _ (own_mi 113 rfl))) Via.refl e2 (OHI.ext X00.2) (g := (mkF m 42 #[.val (.ref bv), .val (.int ((Int32.ofNat (2 * qq)) + (1 : Int32)))] [(.int ((own_lo (cs.getD qq 0)) &&& (255 : Int32)))])) rfl (hb hby own_d25_42)
  refine own_go st4 ?_
  show own_Rn p e below _ (T4.setTop (mkF m 45 #[.val (.ref bv), .val (.int ((Int32.ofNat (2 * qq)) + (1 : Int32)))] [(.int (0 : Int32)), (.int ((own_lo (cs.getD qq 0)) &&& (255 : Int32)))]))
  refine own_go (fun tq kq => XS.ishl X4.here hx rfl (hb hby own_d25_45) rfl kq) ?_
  show own_Rn p e below _ (T4.setTop (mkF m 46 #[.val (.ref bv), .val (.int ((Int32.ofNat (2 * qq)) + (1 : Int32)))] [(.int (((own_lo (cs.getD qq 0)) &&& (255 : Int32)) <<< ((0 : Int32) &&& 31)))]))
  refine own_go (fun tq kq => XS.aloadN X4.here hx rfl (hb hby own_d25_46) rfl rfl kq) ?_
  show own_Rn p e below _ (T4.setTop (mkF m 47 #[.val (.ref bv), .val (.int ((Int32.ofNat (2 * qq)) + (1 : Int32)))] [(.ref bv), (.int (((own_lo (cs.getD qq 0)) &&& (255 : Int32)) <<< ((0 : Int32) &&& 31)))]))
  refine own_go (fun tq kq => XS.iloadN X4.here hx rfl (hb hby own_d25_47) rfl kq) ?_
  show own_Rn p e below _ (T4.setTop (mkF m 48 #[.val (.ref bv), .val (.int ((Int32.ofNat (2 * qq)) + (1 : Int32)))] [(.int ((Int32.ofNat (2 * qq)) + (1 : Int32))), (.ref bv), (.int (((own_lo (cs.getD qq 0)) &&& (255 : Int32)) <<< ((0 : Int32) &&& 31)))]))
  rw [show ((Int32.ofNat (2 * qq)) + (1 : Int32)) = Int32.ofNat (2 * qq + 1) from (inc_ofNat _).symm]
  show own_Rn p e below _ (T4.setTop (mkF m 48 #[.val (.ref bv), .val (.int (Int32.ofNat (2 * qq + 1)))] [(.int (Int32.ofNat (2 * qq + 1))), (.ref bv), (.int (((own_lo (cs.getD qq 0)) &&& (255 : Int32)) <<< ((0 : Int32) &&& 31)))]))
  obtain ⟨cl5, Ar5, q5, Sz5, Nn5, Hs5, G5⟩ := id Pm0
  have in5 := inb_of (j := (Int32.ofNat (2 * qq + 1))) Sz5 (own_inb _ _ (by omega) (by omega))
  refine own_go (fun tq kq => X4.baloadBytes hx (j := (Int32.ofNat (2 * qq + 1))) (v := (.int (own_hi (cs.getD qq 0)))) (by rw [e4]; exact Ar5.1) (State.isArrayOf_alike hZ.alike Ar5.2.1) Ar5.2.2 in5 (Hs5.at in5 (by rw [own_clampN (by omega)]; exact (own_u16_at cs qq hq).2)) (g := (mkF m 48 #[.val (.ref bv), .val (.int (Int32.ofNat (2 * qq + 1)))] [(.int (Int32.ofNat (2 * qq + 1))), (.ref bv), (.int (((own_lo (cs.getD qq 0)) &&& (255 : Int32)) <<< ((0 : Int32) &&& 31)))])) rfl rfl (hb hby own_d25_48) tq kq) ?_
  show own_Rn p e below _ (T4.setTop (mkF m 49 #[.val (.ref bv), .val (.int (Int32.ofNat (2 * qq + 1)))] [(.int (own_hi (cs.getD qq 0))), (.int (((own_lo (cs.getD qq 0)) &&& (255 : Int32)) <<< ((0 : Int32) &&& 31)))]))
  refine own_go (fun tq kq => XS.sipush X4.here hx rfl (hb hby own_d25_49) kq) ?_
  show own_Rn p e below _ (T4.setTop (mkF m 52 #[.val (.ref bv), .val (.int (Int32.ofNat (2 * qq + 1)))] [(.int (255 : Int32)), (.int (own_hi (cs.getD qq 0))), (.int (((own_lo (cs.getD qq 0)) &&& (255 : Int32)) <<< ((0 : Int32) &&& 31)))]))
  refine own_go (fun tq kq => XS.iand X4.here hx rfl (hb hby own_d25_52) rfl kq) ?_
  show own_Rn p e below _ (T4.setTop (mkF m 53 #[.val (.ref bv), .val (.int (Int32.ofNat (2 * qq + 1)))] [(.int ((own_hi (cs.getD qq 0)) &&& (255 : Int32))), (.int (((own_lo (cs.getD qq 0)) &&& (255 : Int32)) <<< ((0 : Int32) &&& 31)))]))
  obtain ⟨T6, X6, e6, st6⟩ := getS2 X4 hx hZ hown (host := "") (Or.inl (hw _ (own_mi 114 rfl))) Via.refl e4 (OLO.ext X00.2) (g := (mkF m 53 #[.val (.ref bv), .val (.int (Int32.ofNat (2 * qq + 1)))] [(.int ((own_hi (cs.getD qq 0)) &&& (255 : Int32))), (.int (((own_lo (cs.getD qq 0)) &&& (255 : Int32)) <<< ((0 : Int32) &&& 31)))])) rfl (hb hby own_d25_53)
  refine own_go st6 ?_
  show own_Rn p e below _ (T6.setTop (mkF m 56 #[.val (.ref bv), .val (.int (Int32.ofNat (2 * qq + 1)))] [(.int (8 : Int32)), (.int ((own_hi (cs.getD qq 0)) &&& (255 : Int32))), (.int (((own_lo (cs.getD qq 0)) &&& (255 : Int32)) <<< ((0 : Int32) &&& 31)))]))
  refine own_go (fun tq kq => XS.ishl X6.here hx rfl (hb hby own_d25_56) rfl kq) ?_
  show own_Rn p e below _ (T6.setTop (mkF m 57 #[.val (.ref bv), .val (.int (Int32.ofNat (2 * qq + 1)))] [(.int (((own_hi (cs.getD qq 0)) &&& (255 : Int32)) <<< ((8 : Int32) &&& 31))), (.int (((own_lo (cs.getD qq 0)) &&& (255 : Int32)) <<< ((0 : Int32) &&& 31)))]))
  refine own_go (fun tq kq => XS.ior X6.here hx rfl (hb hby own_d25_57) rfl kq) ?_
  show own_Rn p e below _ (T6.setTop (mkF m 58 #[.val (.ref bv), .val (.int (Int32.ofNat (2 * qq + 1)))] [(.int ((((own_lo (cs.getD qq 0)) &&& (255 : Int32)) <<< ((0 : Int32) &&& 31)) ||| (((own_hi (cs.getD qq 0)) &&& (255 : Int32)) <<< ((8 : Int32) &&& 31))))]))
  refine own_go (fun tq kq => XS.i2c X6.here hx rfl (hb hby own_d25_58) rfl kq) ?_
  show own_Rn p e below _ (T6.setTop (mkF m 59 #[.val (.ref bv), .val (.int (Int32.ofNat (2 * qq + 1)))] [(.int (((((own_lo (cs.getD qq 0)) &&& (255 : Int32)) <<< ((0 : Int32) &&& 31)) ||| (((own_hi (cs.getD qq 0)) &&& (255 : Int32)) <<< ((8 : Int32) &&& 31))).toUInt32.toUInt16.toUInt32.toInt32))]))
  rw [show (((((own_lo (cs.getD qq 0)) &&& (255 : Int32)) <<< ((0 : Int32) &&& 31)) ||| (((own_hi (cs.getD qq 0)) &&& (255 : Int32)) <<< ((8 : Int32) &&& 31))).toUInt32.toUInt16.toUInt32.toInt32) = (cs.getD qq 0) from own_pairG hm.1 hm.2]
  show own_Rn p e below _ (T6.setTop (mkF m 59 #[.val (.ref bv), .val (.int (Int32.ofNat (2 * qq + 1)))] [(.int (cs.getD qq 0))]))
  exact own_ret X6 (v := some (.int (nar .char (cs.getD qq 0)))) (fun h => by rw [Bd.returns] at h; cases h) (fun fs hr => retN X6 hx (t := .char) Bd.returns (by simp) (hb hby own_d25_59) hr) (by rw [e6]; exact ⟨congrArg (fun z => some (Value.int z)) (own_c16 _ hm), N0, rfl⟩) (by decide) (by decide)
theorem own_ef_rmTB (m : MethodId) (sa : Addr) (ka : ClassId) (cs : List Int32) (dv : Value) : entryFrame m #[(.ref sa), (.int (0 : Int32)), (.int (Int32.ofNat cs.length))] 5 = mkF m 0 #[.val (.ref sa), .val (.int (0 : Int32)), .val (.int (Int32.ofNat cs.length)), .unset, .unset] [] := by first | (simp [entryFrame, mkF, argsToLocals, Value.category]; done) | rfl
theorem own_d21_0 : decode jdk_52_method_14_code 0 = .ok (.iload_n 2, 1) := by decide +kernel
theorem own_d21_1 : decode jdk_52_method_14_code 1 = .ok (.invokestatic 107, 3) := by decide +kernel
theorem own_pd_28I295bB : parseMethodDescriptor "(I)[B" = some ⟨[.int], some (.array .byte)⟩ := by decide +kernel
theorem own_d21_4 : decode jdk_52_method_14_code 4 = .ok (.astore_n 3, 1) := by decide +kernel
theorem own_d21_5 : decode jdk_52_method_14_code 5 = .ok (.iconst 0, 1) := by decide +kernel
theorem own_d21_6 : decode jdk_52_method_14_code 6 = .ok (.istore 4, 2) := by decide +kernel
theorem own_d21_8 : decode jdk_52_method_14_code 8 = .ok (.iload 4, 2) := by decide +kernel
theorem own_d21_10 : decode jdk_52_method_14_code 10 = .ok (.iload_n 2, 1) := by decide +kernel
theorem own_d21_11 : decode jdk_52_method_14_code 11 = .ok (.if_icmp .ge 21, 3) := by decide +kernel
theorem own_d21_32 : decode jdk_52_method_14_code 32 = .ok (.aload_n 3, 1) := by decide +kernel
theorem own_d21_33 : decode jdk_52_method_14_code 33 = .ok (.areturn, 1) := by decide +kernel
theorem own_d21_14 : decode jdk_52_method_14_code 14 = .ok (.aload_n 3, 1) := by decide +kernel
theorem own_d21_15 : decode jdk_52_method_14_code 15 = .ok (.iload 4, 2) := by decide +kernel
theorem own_d21_17 : decode jdk_52_method_14_code 17 = .ok (.aload_n 0, 1) := by decide +kernel
theorem own_d21_18 : decode jdk_52_method_14_code 18 = .ok (.iload_n 1, 1) := by decide +kernel
theorem own_d21_19 : decode jdk_52_method_14_code 19 = .ok (.caload, 1) := by decide +kernel
theorem own_d21_20 : decode jdk_52_method_14_code 20 = .ok (.invokestatic 111, 3) := by decide +kernel
theorem own_pd_285bBII29V : parseMethodDescriptor "([BII)V" = some ⟨[(.array .byte), .int, .int], none⟩ := by decide +kernel
theorem own_d21_23 : decode jdk_52_method_14_code 23 = .ok (.iinc 1 1, 3) := by decide +kernel
theorem own_d21_26 : decode jdk_52_method_14_code 26 = .ok (.iinc 4 1, 3) := by decide +kernel
theorem own_d21_29 : decode jdk_52_method_14_code 29 = .ok (.goto (-21), 3) := by decide +kernel
def Q_rmTB (Z : State) (sa : Addr) (ka : ClassId) (cs : List Int32) (dv : Value) (h0 : Heap) (n0 : Nat) (v : Option Value) (h : Heap) (L : List Loc) : Prop := ∃ (t : Addr), ∃ (kt : ClassId), v = some (.ref t) ∧ Fr n0 L ∧ Keep h0 h [] ∧ h0.size ≤ t ∧ n0 ≤ t ∧ Arv Z h t kt .byte (Int32.ofNat (2 * cs.length)) (own_u16 cs) (.int 0)
set_option maxRecDepth 65536 in
set_option maxHeartbeats 40000000 in
theorem rmTB (l : Launch) (Z : State) (a0 : Array Value) (hw : ∀ d ∈ tables_1, d.before a0 Z = true) (ws : List Jvm.Cond) (sa : Addr) (ka : ClassId) (cs : List Int32) (dv : Value) (h0 : Heap) (n0 : Nat) (Z0 : n0 ≤ h0.size) (Pm0 : Arv Z h0 sa ka .char (Int32.ofNat cs.length) (cs.map Value.int) dv) (hn : (cs.length ≤ 4)) (h0n : (0 < cs.length)) (hr : (∀ c ∈ cs, ¬ c < 0 ∧ ¬ (65535 : Int32) < c)) (OAD : Sta Z Z.heap "java/lang/StringUTF16" "$assertionsDisabled" "Z" (.int (1 : Int32))) (OHI : Sta Z Z.heap "java/lang/StringUTF16" "HI_BYTE_SHIFT" "I" (.int (0 : Int32))) (OLO : Sta Z Z.heap "java/lang/StringUTF16" "LO_BYTE_SHIFT" "I" (.int (8 : Int32))) (X00 : Old Z n0 h0) :
    MetFree l (⟨"java/lang/StringUTF16", "toBytes", "([CII)[B"⟩ : MethodName) (head1 (Jvm.Cond.code (⟨"java/lang/StringUTF16", "toBytes", "([CII)[B"⟩ : MethodName) jdk_52_method_14_code 5 (some (.array .byte)) :: ws) ({ frames := 2, cells := 1, slots := 8, locals := 24 } : Room)) (fun a U => a = #[(.ref sa), (.int (0 : Int32)), (.int (Int32.ofNat cs.length))] ∧ Z.Warmed39 U.vm ∧ U.heap = h0) (fun _ _ _ _ _ => True) (fun _ U o U' => ∃ v L, o = .returned v ∧ Q_rmTB Z sa ka cs dv h0 n0 v U'.heap L ∧ FrameEnd U o U' L ({ frames := 2, cells := 1, slots := 8, locals := 24 } : Room).cells ({ frames := 2, cells := 1, slots := 8, locals := 24 } : Room).slots) := by
  refine MetFree.of_bodySF (plainFor_of_name own_pn_java_lang_StringUTF16) hisR ?_
  intro p e s m args below meth c s₁ Bd hml0 hP hK
  obtain ⟨rfl, hZ, hh⟩ := hP
  have hx := Bd.exec
  have hby := Bd.bytes
  have hml : c.maxLocals = 5 := hml0
  have hown : s.vm.findClass "java/lang/StringUTF16" = some m.cls := findClass_of_methodNamed Bd.named
  have hnm := (name_of_methodNamed Bd.named Bd.method).1
  have X0 : Stand p l e ({ frames := 2, cells := 1, slots := 8, locals := 24 } : Room) s m #[(.ref sa), (.int (0 : Int32)), (.int (Int32.ofNat cs.length))] below meth c s₁ [] 0 0 := Stand.of_body Bd
  have e0 : s₁.heap = h0 := by rw [← hh, Bd.state]; rfl
  have N0 := Fr.nil n0
  have K0 : Keep h0 h0 [] := Keep.refl _ _
  refine own_go (S' := s₁.setTop (mkF m 0 #[.val (.ref sa), .val (.int (0 : Int32)), .val (.int (Int32.ofNat cs.length)), .unset, .unset] [])) (fun tq kq => castTop (own_ef_rmTB m sa ka cs dv) kq) ?_
  have lt1 : @LT.lt Nat _ sa h0.size := Pm0.lt
  refine own_go (fun tq kq => XS.iloadN X0.here hx rfl (hb hby own_d21_0) rfl kq) ?_
  show own_Rn p e below _ (s₁.setTop (mkF m 1 #[.val (.ref sa), .val (.int (0 : Int32)), .val (.int (Int32.ofNat cs.length)), .unset, .unset] [(.int (Int32.ofNat cs.length))]))
  have Zn2 : n0 ≤ h0.size := by omega
  obtain ⟨rv2, _, ⟨T2, L2, k2, n2⟩, -, X2, ⟨Lc2, hQ2, l2, y2, z2⟩, st2⟩ := Jvm.LawKit.callS X0 hx (y := (⟨"java/lang/StringUTF16", "newBytesFor", "(I)[B"⟩ : MethodName)) hown (mvT hZ (hw _ (own_mi 102 rfl))) (mvT hZ (hw _ (own_mi 103 rfl))) (mvT hZ (hw _ (own_mi 19 rfl))) (mvT hZ (hw _ (own_mi 104 rfl))) (by decide) (backOf (W := 0) (rmNBF l Z a0 hw [] (cs.length) h0 n0 Zn2 (hn)) hZ (hw _ (own_mi 104 rfl)) (hw _ (own_mi 19 rfl)) (by decide) (by decide)) (g := (mkF m 1 #[.val (.ref sa), .val (.int (0 : Int32)), .val (.int (Int32.ofNat cs.length)), .unset, .unset] [(.int (Int32.ofNat cs.length))])) rfl (by rw [hml]; rfl) (argsL := [(.int (Int32.ofNat cs.length))]) (rest := []) (lenOf own_pd_28I295bB rfl) rfl (by show 2 * 0 + _ ≤ _; exact Nat.le_of_eq rfl) (hb hby own_d21_1) (fun _ _ => ⟨rfl, e0, (by decide : 0 + 1 ≤ _), (by decide : 0 + 8 ≤ _)⟩)
  dsimp only [Pt.U, Pt.locs, Pt.cells, Pt.slots] at X2 l2 y2 z2 st2 hQ2
  subst l2 y2 z2
  obtain ⟨bt, kt, rfl, Nq2, Kq2, G0_2, G1_2, G2_2⟩ := hQ2
  have N2 := Fr.app N0 Nq2
  have sz3 : h0.size ≤ T2.heap.size := Kq2.1
  have K3 := K0.trans Kq2 all0
  have lt4 : @LT.lt Nat _ bt T2.heap.size := G2_2.lt
  refine own_go st2 ?_
  show own_Rn p e below _ (T2.setTop (mkF m 4 #[.val (.ref sa), .val (.int (0 : Int32)), .val (.int (Int32.ofNat cs.length)), .unset, .unset] [(.ref bt)]))
  refine own_go (fun tq kq => XS.astoreN X2.here hx rfl (hb hby own_d21_4) rfl rfl (l' := #[.val (.ref sa), .val (.int (0 : Int32)), .val (.int (Int32.ofNat cs.length)), .val (.ref bt), .unset]) rfl kq) ?_
  show own_Rn p e below _ (T2.setTop (mkF m 5 #[.val (.ref sa), .val (.int (0 : Int32)), .val (.int (Int32.ofNat cs.length)), .val (.ref bt), .unset] []))
  refine own_go (fun tq kq => XS.iconst X2.here hx rfl (hb hby own_d21_5) kq) ?_
  show own_Rn p e below _ (T2.setTop (mkF m 6 #[.val (.ref sa), .val (.int (0 : Int32)), .val (.int (Int32.ofNat cs.length)), .val (.ref bt), .unset] [(.int (0 : Int32))]))
  refine own_go (fun tq kq => XS.istore X2.here hx rfl (hb hby own_d21_6) rfl (l' := #[.val (.ref sa), .val (.int (0 : Int32)), .val (.int (Int32.ofNat cs.length)), .val (.ref bt), .val (.int (0 : Int32))]) rfl kq) ?_
  show own_Rn p e below _ (T2.setTop (mkF m 8 #[.val (.ref sa), .val (.int (0 : Int32)), .val (.int (Int32.ofNat cs.length)), .val (.ref bt), .val (.int (0 : Int32))] []))
  have hbf : h0.size ≤ bt := by omega
  have loop : ∀ (mm qq : Nat) (Tl : State) (hl : Heap) (ls : List Loc), qq + mm = cs.length → Stand p l e ({ frames := 2, cells := 1, slots := 8, locals := 24 } : Room) s m #[(.ref sa), (.int (0 : Int32)), (.int (Int32.ofNat cs.length))] below meth c Tl ls 1 8 → Tl.heap = hl → Fr n0 ls → Keep h0 hl [] → Old Z n0 hl → Arv Z hl sa ka .char (Int32.ofNat cs.length) (cs.map Value.int) dv → Arv Z hl bt kt .byte (Int32.ofNat (2 * cs.length)) (own_u16 (cs.take qq)) (.int 0) → own_Rn p e below (fun o U' => ∃ v L, o = .returned v ∧ Q_rmTB Z sa ka cs dv h0 n0 v U'.heap L ∧ FrameEnd s o U' L ({ frames := 2, cells := 1, slots := 8, locals := 24 } : Room).cells ({ frames := 2, cells := 1, slots := 8, locals := 24 } : Room).slots) (Tl.setTop (mkF m 8 #[.val (.ref sa), .val (.int (Int32.ofNat qq)), .val (.int (Int32.ofNat cs.length)), .val (.ref bt), .val (.int (Int32.ofNat qq))] [])) := by
    intro mm
    induction mm with
    | zero =>
      intro qq Tl hl ls hqm Xl el Nl Kl Ol As Ab
      have szl : h0.size ≤ hl.size := Kl.1
      have lt5 : @LT.lt Nat _ sa hl.size := As.lt
      have lt6 : @LT.lt Nat _ bt hl.size := Ab.lt
      refine own_go (fun tq kq => XS.iload Xl.here hx rfl (hb hby own_d21_8) rfl kq) ?_
      show own_Rn p e below _ (Tl.setTop (mkF m 10 #[.val (.ref sa), .val (.int (Int32.ofNat qq)), .val (.int (Int32.ofNat cs.length)), .val (.ref bt), .val (.int (Int32.ofNat qq))] [(.int (Int32.ofNat qq))]))
      refine own_go (fun tq kq => XS.iloadN Xl.here hx rfl (hb hby own_d21_10) rfl kq) ?_
      show own_Rn p e below _ (Tl.setTop (mkF m 11 #[.val (.ref sa), .val (.int (Int32.ofNat qq)), .val (.int (Int32.ofNat cs.length)), .val (.ref bt), .val (.int (Int32.ofNat qq))] [(.int (Int32.ofNat cs.length)), (.int (Int32.ofNat qq))]))
      refine own_go (fun tq kq => XS.icmpYes Xl.here hx rfl (pc0 := 11) (pc' := 32) rfl (hb hby own_d21_11) rfl (flt (own_ofNat_nlt (by omega) (by omega) : ¬ ((Int32.ofNat qq) < (Int32.ofNat cs.length)))).2.1 (by decide) (by decide) kq) ?_
      show own_Rn p e below _ (Tl.setTop (mkF m 32 #[.val (.ref sa), .val (.int (Int32.ofNat qq)), .val (.int (Int32.ofNat cs.length)), .val (.ref bt), .val (.int (Int32.ofNat qq))] []))
      refine own_go (fun tq kq => XS.aloadN Xl.here hx rfl (hb hby own_d21_32) rfl rfl kq) ?_
      show own_Rn p e below _ (Tl.setTop (mkF m 33 #[.val (.ref sa), .val (.int (Int32.ofNat qq)), .val (.int (Int32.ofNat cs.length)), .val (.ref bt), .val (.int (Int32.ofNat qq))] [(.ref bt)]))
      rw [List.take_of_length_le (by omega)] at Ab
      exact own_ret Xl (v := some (.ref bt)) (fun h => by rw [Bd.returns] at h; cases h) (fun fs hr => Xl.areturnOut hx rfl Bd.returns rfl (hb hby own_d21_33) hr) (by rw [el]; exact ⟨bt, kt, rfl, Nl, Kl, (by omega), G1_2, Ab⟩) (by decide) (by decide)
    | succ mm ih =>
      intro qq Tl hl ls hqm Xl el Nl Kl Ol As Ab
      have szl : h0.size ≤ hl.size := Kl.1
      have lt7 : @LT.lt Nat _ sa hl.size := As.lt
      have lt8 : @LT.lt Nat _ bt hl.size := Ab.lt
      refine own_go (fun tq kq => XS.iload Xl.here hx rfl (hb hby own_d21_8) rfl kq) ?_
      show own_Rn p e below _ (Tl.setTop (mkF m 10 #[.val (.ref sa), .val (.int (Int32.ofNat qq)), .val (.int (Int32.ofNat cs.length)), .val (.ref bt), .val (.int (Int32.ofNat qq))] [(.int (Int32.ofNat qq))]))
      refine own_go (fun tq kq => XS.iloadN Xl.here hx rfl (hb hby own_d21_10) rfl kq) ?_
      show own_Rn p e below _ (Tl.setTop (mkF m 11 #[.val (.ref sa), .val (.int (Int32.ofNat qq)), .val (.int (Int32.ofNat cs.length)), .val (.ref bt), .val (.int (Int32.ofNat qq))] [(.int (Int32.ofNat cs.length)), (.int (Int32.ofNat qq))]))
      refine own_go (fun tq kq => XS.icmpNo Xl.here hx rfl (hb hby own_d21_11) rfl (tlt (own_ofNat_lt (by omega) (by omega) : (Int32.ofNat qq) < (Int32.ofNat cs.length))).2.1 kq) ?_
      show own_Rn p e below _ (Tl.setTop (mkF m 14 #[.val (.ref sa), .val (.int (Int32.ofNat qq)), .val (.int (Int32.ofNat cs.length)), .val (.ref bt), .val (.int (Int32.ofNat qq))] []))
      refine own_go (fun tq kq => XS.aloadN Xl.here hx rfl (hb hby own_d21_14) rfl rfl kq) ?_
      show own_Rn p e below _ (Tl.setTop (mkF m 15 #[.val (.ref sa), .val (.int (Int32.ofNat qq)), .val (.int (Int32.ofNat cs.length)), .val (.ref bt), .val (.int (Int32.ofNat qq))] [(.ref bt)]))
      refine own_go (fun tq kq => XS.iload Xl.here hx rfl (hb hby own_d21_15) rfl kq) ?_
      show own_Rn p e below _ (Tl.setTop (mkF m 17 #[.val (.ref sa), .val (.int (Int32.ofNat qq)), .val (.int (Int32.ofNat cs.length)), .val (.ref bt), .val (.int (Int32.ofNat qq))] [(.int (Int32.ofNat qq)), (.ref bt)]))
      refine own_go (fun tq kq => XS.aloadN Xl.here hx rfl (hb hby own_d21_17) rfl rfl kq) ?_
      show own_Rn p e below _ (Tl.setTop (mkF m 18 #[.val (.ref sa), .val (.int (Int32.ofNat qq)), .val (.int (Int32.ofNat cs.length)), .val (.ref bt), .val (.int (Int32.ofNat qq))] [(.ref sa), (.int (Int32.ofNat qq)), (.ref bt)]))
      refine own_go (fun tq kq => XS.iloadN Xl.here hx rfl (hb hby own_d21_18) rfl kq) ?_
      show own_Rn p e below _ (Tl.setTop (mkF m 19 #[.val (.ref sa), .val (.int (Int32.ofNat qq)), .val (.int (Int32.ofNat cs.length)), .val (.ref bt), .val (.int (Int32.ofNat qq))] [(.int (Int32.ofNat qq)), (.ref sa), (.int (Int32.ofNat qq)), (.ref bt)]))
      have ltsa : @LT.lt Nat _ sa h0.size := Pm0.lt
      have nsb : sa ≠ bt := own_nea (by omega)
      obtain ⟨cl9, Ar9, q9, Sz9, Nn9, Hs9, G9⟩ := id As
      have in9 := inb_of (j := (Int32.ofNat qq)) Sz9 (own_inb _ _ (by omega) (by omega))
      refine own_go (fun tq kq => Xl.caload hx (j := (Int32.ofNat qq)) (v := (.int (cs.getD qq 0))) (by rw [el]; exact Ar9.1) (State.isArrayOf_alike hZ.alike Ar9.2.1) Ar9.2.2 in9 (Hs9.at in9 (own_mapget cs qq (by omega) (by omega) dv)) (g := (mkF m 19 #[.val (.ref sa), .val (.int (Int32.ofNat qq)), .val (.int (Int32.ofNat cs.length)), .val (.ref bt), .val (.int (Int32.ofNat qq))] [(.int (Int32.ofNat qq)), (.ref sa), (.int (Int32.ofNat qq)), (.ref bt)])) rfl rfl (hb hby own_d21_19) tq kq) ?_
      show own_Rn p e below _ (Tl.setTop (mkF m 20 #[.val (.ref sa), .val (.int (Int32.ofNat qq)), .val (.int (Int32.ofNat cs.length)), .val (.ref bt), .val (.int (Int32.ofNat qq))] [(.int (cs.getD qq 0)), (.int (Int32.ofNat qq)), (.ref bt)]))
      have htl : (cs.take qq).length = qq := by rw [List.length_take]; omega
      have Zn10 : n0 ≤ hl.size := by omega
      obtain ⟨rv10, _, ⟨T10, L10, k10, n10⟩, -, X10, ⟨Lc10, hQ10, l10, y10, z10⟩, st10⟩ := Jvm.LawKit.callS Xl hx (y := (⟨"java/lang/StringUTF16", "putChar", "([BII)V"⟩ : MethodName)) hown (mvT hZ (hw _ (own_mi 109 rfl))) (mvT hZ (hw _ (own_mi 110 rfl))) (mvT hZ (hw _ (own_mi 19 rfl))) (mvT hZ (hw _ (own_mi 111 rfl))) (by decide) (backOf (W := 0) (rmPut l Z a0 hw [] (bt) (kt) ((cs.take qq)) (cs.length) ((cs.getD qq 0)) (qq) hl n0 Zn10 Ab (by omega) (htl) (hn) G1_2 (OAD) (OHI) (OLO) Ol) hZ (hw _ (own_mi 111 rfl)) (hw _ (own_mi 19 rfl)) (by decide) (by decide)) (g := (mkF m 20 #[.val (.ref sa), .val (.int (Int32.ofNat qq)), .val (.int (Int32.ofNat cs.length)), .val (.ref bt), .val (.int (Int32.ofNat qq))] [(.int (cs.getD qq 0)), (.int (Int32.ofNat qq)), (.ref bt)])) rfl (by rw [hml]; rfl) (argsL := [(.ref bt), (.int (Int32.ofNat qq)), (.int (cs.getD qq 0))]) (rest := []) (lenOf own_pd_285bBII29V rfl) rfl (by show 2 * 0 + _ ≤ _; exact Nat.le_of_eq rfl) (hb hby own_d21_20) (fun _ _ => ⟨rfl, el, (by decide : 1 + 0 ≤ _), (by decide : 8 + 0 ≤ _)⟩)
      dsimp only [Pt.U, Pt.locs, Pt.cells, Pt.slots] at X10 l10 y10 z10 st10 hQ10
      subst l10 y10 z10
      obtain ⟨rfl, Nq10, Kq10, G0_10⟩ := hQ10
      have N10 := Fr.app Nl Nq10
      have sz11 : hl.size ≤ T10.heap.size := Kq10.1
      have K11 := Kl.trans Kq10 (allS (Or.inr (by omega)) all0)
      refine own_go st10 ?_
      show own_Rn p e below _ (T10.setTop (mkF m 23 #[.val (.ref sa), .val (.int (Int32.ofNat qq)), .val (.int (Int32.ofNat cs.length)), .val (.ref bt), .val (.int (Int32.ofNat qq))] []))
      refine own_go (fun tq kq => XS.iinc X10.here hx rfl (hb hby own_d21_23) rfl (l' := #[.val (.ref sa), .val (.int ((Int32.ofNat qq) + (1 : Int32))), .val (.int (Int32.ofNat cs.length)), .val (.ref bt), .val (.int (Int32.ofNat qq))]) rfl kq) ?_
      show own_Rn p e below _ (T10.setTop (mkF m 26 #[.val (.ref sa), .val (.int ((Int32.ofNat qq) + (1 : Int32))), .val (.int (Int32.ofNat cs.length)), .val (.ref bt), .val (.int (Int32.ofNat qq))] []))
      refine own_go (fun tq kq => XS.iinc X10.here hx rfl (hb hby own_d21_26) rfl (l' := #[.val (.ref sa), .val (.int ((Int32.ofNat qq) + (1 : Int32))), .val (.int (Int32.ofNat cs.length)), .val (.ref bt), .val (.int ((Int32.ofNat qq) + (1 : Int32)))]) rfl kq) ?_
      show own_Rn p e below _ (T10.setTop (mkF m 29 #[.val (.ref sa), .val (.int ((Int32.ofNat qq) + (1 : Int32))), .val (.int (Int32.ofNat cs.length)), .val (.ref bt), .val (.int ((Int32.ofNat qq) + (1 : Int32)))] []))
      refine own_go (fun tq kq => XS.goto X10.here hx rfl (pc0 := 29) (pc' := 8) rfl (hb hby own_d21_29) (by decide) (by decide) kq) ?_
      show own_Rn p e below _ (T10.setTop (mkF m 8 #[.val (.ref sa), .val (.int ((Int32.ofNat qq) + (1 : Int32))), .val (.int (Int32.ofNat cs.length)), .val (.ref bt), .val (.int ((Int32.ofNat qq) + (1 : Int32)))] []))
      have F12 : Arv Z T10.heap sa ka .char (Int32.ofNat cs.length) (cs.map Value.int) dv := (As.keep Kq10 (ninS nsb nin0))
      have F13 : Old Z n0 T10.heap := (Ol.keep Kq10 (allS G1_2 all0))
      rw [show (Int32.ofNat qq + (1 : Int32)) = Int32.ofNat (qq + 1) from (inc_ofNat qq).symm]
      exact ih (qq + 1) _ _ _ (by omega) X10 rfl N10 K11 F13 F12 (by rw [own_take_succ cs qq (by omega)]; exact G0_10)
  have F14 : Old Z n0 T2.heap := (X00.keep Kq2 all0)
  have F15 : Arv Z T2.heap sa ka .char (Int32.ofNat cs.length) (cs.map Value.int) dv := (Pm0.keep Kq2 nin0)
  exact loop cs.length 0 _ _ _ (by omega) X2 rfl N2 K3 F14 F15 G2_2
theorem own_ef_rmC5 (m : MethodId) (sa : Addr) (ka : ClassId) (cs : List Int32) (dv : Value) (bv : Addr) (kb : ClassId) : entryFrame m #[(.ref sa), (.int (0 : Int32)), (.ref bv), (.int (0 : Int32)), (.int (Int32.ofNat cs.length))] 7 = mkF m 0 #[.val (.ref sa), .val (.int (0 : Int32)), .val (.ref bv), .val (.int (0 : Int32)), .val (.int (Int32.ofNat cs.length)), .unset, .unset] [] := by first | (simp [entryFrame, mkF, argsToLocals, Value.category]; done) | rfl
theorem own_d4_0 : decode jdk_52_method_21_code 0 = .ok (.iconst 0, 1) := by decide +kernel
theorem own_d4_1 : decode jdk_52_method_21_code 1 = .ok (.istore 5, 2) := by decide +kernel
theorem own_d4_3 : decode jdk_52_method_21_code 3 = .ok (.iload 5, 2) := by decide +kernel
theorem own_d4_5 : decode jdk_52_method_21_code 5 = .ok (.iload 4, 2) := by decide +kernel
theorem own_d4_7 : decode jdk_52_method_21_code 7 = .ok (.if_icmp .ge 37, 3) := by decide +kernel
theorem own_d4_44 : decode jdk_52_method_21_code 44 = .ok (.iload 4, 2) := by decide +kernel
theorem own_d4_46 : decode jdk_52_method_21_code 46 = .ok (.ireturn, 1) := by decide +kernel
theorem own_d4_10 : decode jdk_52_method_21_code 10 = .ok (.aload_n 0, 1) := by decide +kernel
theorem own_d4_11 : decode jdk_52_method_21_code 11 = .ok (.iload_n 1, 1) := by decide +kernel
theorem own_d4_12 : decode jdk_52_method_21_code 12 = .ok (.caload, 1) := by decide +kernel
theorem own_d4_13 : decode jdk_52_method_21_code 13 = .ok (.istore 6, 2) := by decide +kernel
theorem own_d4_15 : decode jdk_52_method_21_code 15 = .ok (.iload 6, 2) := by decide +kernel
theorem own_d4_17 : decode jdk_52_method_21_code 17 = .ok (.sipush 255, 3) := by decide +kernel
theorem own_d4_20 : decode jdk_52_method_21_code 20 = .ok (.if_icmp .le 6, 3) := by decide +kernel
theorem own_d4_23 : decode jdk_52_method_21_code 23 = .ok (.iload 5, 2) := by decide +kernel
theorem own_d4_25 : decode jdk_52_method_21_code 25 = .ok (.ireturn, 1) := by decide +kernel
theorem own_d4_26 : decode jdk_52_method_21_code 26 = .ok (.aload_n 2, 1) := by decide +kernel
theorem own_d4_27 : decode jdk_52_method_21_code 27 = .ok (.iload_n 3, 1) := by decide +kernel
theorem own_d4_28 : decode jdk_52_method_21_code 28 = .ok (.iload 6, 2) := by decide +kernel
theorem own_d4_30 : decode jdk_52_method_21_code 30 = .ok (.i2b, 1) := by decide +kernel
theorem own_d4_31 : decode jdk_52_method_21_code 31 = .ok (.bastore, 1) := by decide +kernel
theorem own_d4_32 : decode jdk_52_method_21_code 32 = .ok (.iinc 1 1, 3) := by decide +kernel
theorem own_d4_35 : decode jdk_52_method_21_code 35 = .ok (.iinc 3 1, 3) := by decide +kernel
theorem own_d4_38 : decode jdk_52_method_21_code 38 = .ok (.iinc 5 1, 3) := by decide +kernel
theorem own_d4_41 : decode jdk_52_method_21_code 41 = .ok (.goto (-38), 3) := by decide +kernel
def Q_rmC5 (Z : State) (sa : Addr) (ka : ClassId) (cs : List Int32) (dv : Value) (bv : Addr) (kb : ClassId) (h0 : Heap) (n0 : Nat) (v : Option Value) (h : Heap) (L : List Loc) : Prop := ∃ (jj : Nat), v = some (.int (Int32.ofNat jj)) ∧ Fr n0 L ∧ Keep h0 h [bv] ∧ (jj ≤ cs.length) ∧ (jj < cs.length → (255 : Int32) < cs.getD jj 0) ∧ (jj = cs.length → (∀ c ∈ cs, ¬ (255 : Int32) < c) ∧ Arv Z h bv kb .byte (Int32.ofNat cs.length) (own_bs cs) (.int 0))
set_option maxRecDepth 65536 in
set_option maxHeartbeats 40000000 in
theorem rmC5 (l : Launch) (Z : State) (a0 : Array Value) (hw : ∀ d ∈ tables_1, d.before a0 Z = true) (ws : List Jvm.Cond) (sa : Addr) (ka : ClassId) (cs : List Int32) (dv : Value) (bv : Addr) (kb : ClassId) (h0 : Heap) (n0 : Nat) (Z0 : n0 ≤ h0.size) (Pm0 : Arv Z h0 sa ka .char (Int32.ofNat cs.length) (cs.map Value.int) dv) (hn : (cs.length ≤ 4)) (h0n : (0 < cs.length)) (hr : (∀ c ∈ cs, ¬ c < 0 ∧ ¬ (65535 : Int32) < c)) (Pm4 : Arv Z h0 bv kb .byte (Int32.ofNat cs.length) [] (.int 0)) (gbv : n0 ≤ bv) (nsb : (sa ≠ bv)) (X00 : Old Z n0 h0) :
    MetFree l (⟨"java/lang/StringUTF16", "compress", "([CI[BII)I"⟩ : MethodName) (head1 (Jvm.Cond.code (⟨"java/lang/StringUTF16", "compress", "([CI[BII)I"⟩ : MethodName) jdk_52_method_21_code 7 (some .int) :: ws) ({ frames := 0, cells := 0, slots := 0, locals := 0 } : Room)) (fun a U => a = #[(.ref sa), (.int (0 : Int32)), (.ref bv), (.int (0 : Int32)), (.int (Int32.ofNat cs.length))] ∧ Z.Warmed39 U.vm ∧ U.heap = h0) (fun _ _ _ _ _ => True) (fun _ U o U' => ∃ v L, o = .returned v ∧ Q_rmC5 Z sa ka cs dv bv kb h0 n0 v U'.heap L ∧ FrameEnd U o U' L ({ frames := 0, cells := 0, slots := 0, locals := 0 } : Room).cells ({ frames := 0, cells := 0, slots := 0, locals := 0 } : Room).slots) := by
  refine MetFree.of_bodySF (plainFor_of_name own_pn_java_lang_StringUTF16) hisR ?_
  intro p e s m args below meth c s₁ Bd hml0 hP hK
  obtain ⟨rfl, hZ, hh⟩ := hP
  have hx := Bd.exec
  have hby := Bd.bytes
  have hml : c.maxLocals = 7 := hml0
  have hown : s.vm.findClass "java/lang/StringUTF16" = some m.cls := findClass_of_methodNamed Bd.named
  have hnm := (name_of_methodNamed Bd.named Bd.method).1
  have X0 : Stand p l e ({ frames := 0, cells := 0, slots := 0, locals := 0 } : Room) s m #[(.ref sa), (.int (0 : Int32)), (.ref bv), (.int (0 : Int32)), (.int (Int32.ofNat cs.length))] below meth c s₁ [] 0 0 := Stand.of_body Bd
  have e0 : s₁.heap = h0 := by rw [← hh, Bd.state]; rfl
  have N0 := Fr.nil n0
  have K0 : Keep h0 h0 [bv] := Keep.refl _ _
  refine own_go (S' := s₁.setTop (mkF m 0 #[.val (.ref sa), .val (.int (0 : Int32)), .val (.ref bv), .val (.int (0 : Int32)), .val (.int (Int32.ofNat cs.length)), .unset, .unset] [])) (fun tq kq => castTop (own_ef_rmC5 m sa ka cs dv bv kb) kq) ?_
  have lt1 : @LT.lt Nat _ sa h0.size := Pm0.lt
  have lt2 : @LT.lt Nat _ bv h0.size := Pm4.lt
  refine own_go (fun tq kq => XS.iconst X0.here hx rfl (hb hby own_d4_0) kq) ?_
  show own_Rn p e below _ (s₁.setTop (mkF m 1 #[.val (.ref sa), .val (.int (0 : Int32)), .val (.ref bv), .val (.int (0 : Int32)), .val (.int (Int32.ofNat cs.length)), .unset, .unset] [(.int (0 : Int32))]))
  refine own_go (fun tq kq => XS.istore X0.here hx rfl (hb hby own_d4_1) rfl (l' := #[.val (.ref sa), .val (.int (0 : Int32)), .val (.ref bv), .val (.int (0 : Int32)), .val (.int (Int32.ofNat cs.length)), .val (.int (0 : Int32)), .unset]) rfl kq) ?_
  show own_Rn p e below _ (s₁.setTop (mkF m 3 #[.val (.ref sa), .val (.int (0 : Int32)), .val (.ref bv), .val (.int (0 : Int32)), .val (.int (Int32.ofNat cs.length)), .val (.int (0 : Int32)), .unset] []))
  have loop : ∀ (mm qq : Nat) (Tl : State) (hl : Heap) (ls : List Loc) (z6 : Slot), qq + mm = cs.length → Stand p l e ({ frames := 0, cells := 0, slots := 0, locals := 0 } : Room) s m #[(.ref sa), (.int (0 : Int32)), (.ref bv), (.int (0 : Int32)), (.int (Int32.ofNat cs.length))] below meth c Tl ls 0 0 → Tl.heap = hl → Fr n0 ls → Keep h0 hl [bv] → Old Z n0 hl → (∀ c ∈ cs.take qq, ¬ (255 : Int32) < c) → Arv Z hl sa ka .char (Int32.ofNat cs.length) (cs.map Value.int) dv → Arv Z hl bv kb .byte (Int32.ofNat cs.length) (own_bs (cs.take qq)) (.int 0) → One z6 → own_Rn p e below (fun o U' => ∃ v L, o = .returned v ∧ Q_rmC5 Z sa ka cs dv bv kb h0 n0 v U'.heap L ∧ FrameEnd s o U' L ({ frames := 0, cells := 0, slots := 0, locals := 0 } : Room).cells ({ frames := 0, cells := 0, slots := 0, locals := 0 } : Room).slots) (Tl.setTop (mkF m 3 #[.val (.ref sa), .val (.int (Int32.ofNat qq)), .val (.ref bv), .val (.int (Int32.ofNat qq)), .val (.int (Int32.ofNat cs.length)), .val (.int (Int32.ofNat qq)), z6] [])) := by
    intro mm
    induction mm with
    | zero =>
      intro qq Tl hl ls z6 hqm Xl el Nl Kl Ol hall As Ab o6
      have szl : h0.size ≤ hl.size := Kl.1
      have lt3 : @LT.lt Nat _ sa hl.size := As.lt
      have lt4 : @LT.lt Nat _ bv hl.size := Ab.lt
      refine own_go (fun tq kq => XS.iload Xl.here hx rfl (hb hby own_d4_3) rfl kq) ?_
      show own_Rn p e below _ (Tl.setTop (mkF m 5 #[.val (.ref sa), .val (.int (Int32.ofNat qq)), .val (.ref bv), .val (.int (Int32.ofNat qq)), .val (.int (Int32.ofNat cs.length)), .val (.int (Int32.ofNat qq)), z6] [(.int (Int32.ofNat qq))]))
      refine own_go (fun tq kq => XS.iload Xl.here hx rfl (hb hby own_d4_5) rfl kq) ?_
      show own_Rn p e below _ (Tl.setTop (mkF m 7 #[.val (.ref sa), .val (.int (Int32.ofNat qq)), .val (.ref bv), .val (.int (Int32.ofNat qq)), .val (.int (Int32.ofNat cs.length)), .val (.int (Int32.ofNat qq)), z6] [(.int (Int32.ofNat cs.length)), (.int (Int32.ofNat qq))]))
      refine own_go (fun tq kq => XS.icmpYes Xl.here hx rfl (pc0 := 7) (pc' := 44) rfl (hb hby own_d4_7) rfl (flt (own_ofNat_nlt (by omega) (by omega) : ¬ ((Int32.ofNat qq) < (Int32.ofNat cs.length)))).2.1 (by decide) (by decide) kq) ?_
      show own_Rn p e below _ (Tl.setTop (mkF m 44 #[.val (.ref sa), .val (.int (Int32.ofNat qq)), .val (.ref bv), .val (.int (Int32.ofNat qq)), .val (.int (Int32.ofNat cs.length)), .val (.int (Int32.ofNat qq)), z6] []))
      refine own_go (fun tq kq => XS.iload Xl.here hx rfl (hb hby own_d4_44) rfl kq) ?_
      show own_Rn p e below _ (Tl.setTop (mkF m 46 #[.val (.ref sa), .val (.int (Int32.ofNat qq)), .val (.ref bv), .val (.int (Int32.ofNat qq)), .val (.int (Int32.ofNat cs.length)), .val (.int (Int32.ofNat qq)), z6] [(.int (Int32.ofNat cs.length))]))
      rw [List.take_of_length_le (by omega)] at Ab hall
      exact own_ret Xl (v := some (.int (Int32.ofNat cs.length))) (fun h => by rw [Bd.returns] at h; cases h) (fun fs hr => retI Xl hx Bd.returns (hb hby own_d4_46) hr) (by rw [el]; exact ⟨cs.length, rfl, Nl, Kl, Nat.le_refl _, fun h => absurd h (Nat.lt_irrefl _), fun _ => ⟨hall, Ab⟩⟩) (by decide) (by decide)
    | succ mm ih =>
      intro qq Tl hl ls z6 hqm Xl el Nl Kl Ol hall As Ab o6
      have szl : h0.size ≤ hl.size := Kl.1
      have lt5 : @LT.lt Nat _ sa hl.size := As.lt
      have lt6 : @LT.lt Nat _ bv hl.size := Ab.lt
      refine own_go (fun tq kq => XS.iload Xl.here hx rfl (hb hby own_d4_3) rfl kq) ?_
      show own_Rn p e below _ (Tl.setTop (mkF m 5 #[.val (.ref sa), .val (.int (Int32.ofNat qq)), .val (.ref bv), .val (.int (Int32.ofNat qq)), .val (.int (Int32.ofNat cs.length)), .val (.int (Int32.ofNat qq)), z6] [(.int (Int32.ofNat qq))]))
      refine own_go (fun tq kq => XS.iload Xl.here hx rfl (hb hby own_d4_5) rfl kq) ?_
      show own_Rn p e below _ (Tl.setTop (mkF m 7 #[.val (.ref sa), .val (.int (Int32.ofNat qq)), .val (.ref bv), .val (.int (Int32.ofNat qq)), .val (.int (Int32.ofNat cs.length)), .val (.int (Int32.ofNat qq)), z6] [(.int (Int32.ofNat cs.length)), (.int (Int32.ofNat qq))]))
      refine own_go (fun tq kq => XS.icmpNo Xl.here hx rfl (hb hby own_d4_7) rfl (tlt (own_ofNat_lt (by omega) (by omega) : (Int32.ofNat qq) < (Int32.ofNat cs.length))).2.1 kq) ?_
      show own_Rn p e below _ (Tl.setTop (mkF m 10 #[.val (.ref sa), .val (.int (Int32.ofNat qq)), .val (.ref bv), .val (.int (Int32.ofNat qq)), .val (.int (Int32.ofNat cs.length)), .val (.int (Int32.ofNat qq)), z6] []))
      refine own_go (fun tq kq => XS.aloadN Xl.here hx rfl (hb hby own_d4_10) rfl rfl kq) ?_
      show own_Rn p e below _ (Tl.setTop (mkF m 11 #[.val (.ref sa), .val (.int (Int32.ofNat qq)), .val (.ref bv), .val (.int (Int32.ofNat qq)), .val (.int (Int32.ofNat cs.length)), .val (.int (Int32.ofNat qq)), z6] [(.ref sa)]))
      refine own_go (fun tq kq => XS.iloadN Xl.here hx rfl (hb hby own_d4_11) rfl kq) ?_
      show own_Rn p e below _ (Tl.setTop (mkF m 12 #[.val (.ref sa), .val (.int (Int32.ofNat qq)), .val (.ref bv), .val (.int (Int32.ofNat qq)), .val (.int (Int32.ofNat cs.length)), .val (.int (Int32.ofNat qq)), z6] [(.int (Int32.ofNat qq)), (.ref sa)]))
      obtain ⟨cl7, Ar7, q7, Sz7, Nn7, Hs7, G7⟩ := id As
      have in7 := inb_of (j := (Int32.ofNat qq)) Sz7 (own_inb _ _ (by omega) (by omega))
      refine own_go (fun tq kq => Xl.caload hx (j := (Int32.ofNat qq)) (v := (.int (cs.getD qq 0))) (by rw [el]; exact Ar7.1) (State.isArrayOf_alike hZ.alike Ar7.2.1) Ar7.2.2 in7 (Hs7.at in7 (own_mapget cs qq (by omega) (by omega) dv)) (g := (mkF m 12 #[.val (.ref sa), .val (.int (Int32.ofNat qq)), .val (.ref bv), .val (.int (Int32.ofNat qq)), .val (.int (Int32.ofNat cs.length)), .val (.int (Int32.ofNat qq)), z6] [(.int (Int32.ofNat qq)), (.ref sa)])) rfl rfl (hb hby own_d4_12) tq kq) ?_
      show own_Rn p e below _ (Tl.setTop (mkF m 13 #[.val (.ref sa), .val (.int (Int32.ofNat qq)), .val (.ref bv), .val (.int (Int32.ofNat qq)), .val (.int (Int32.ofNat cs.length)), .val (.int (Int32.ofNat qq)), z6] [(.int (cs.getD qq 0))]))
      have os8 : storeLocals #[.val (.ref sa), .val (.int (Int32.ofNat qq)), .val (.ref bv), .val (.int (Int32.ofNat qq)), .val (.int (Int32.ofNat cs.length)), .val (.int (Int32.ofNat qq)), z6] 6 (.int (cs.getD qq 0)) = some #[.val (.ref sa), .val (.int (Int32.ofNat qq)), .val (.ref bv), .val (.int (Int32.ofNat qq)), .val (.int (Int32.ofNat cs.length)), .val (.int (Int32.ofNat qq)), .val (.int (cs.getD qq 0))] := by
        rcases o6 with rfl | ⟨w, rfl, hw⟩
        · rfl
        · cases w <;> first | rfl | (simp [Value.category] at hw)
      refine own_go (fun tq kq => XS.istore Xl.here hx rfl (hb hby own_d4_13) rfl (l' := #[.val (.ref sa), .val (.int (Int32.ofNat qq)), .val (.ref bv), .val (.int (Int32.ofNat qq)), .val (.int (Int32.ofNat cs.length)), .val (.int (Int32.ofNat qq)), .val (.int (cs.getD qq 0))]) os8 kq) ?_
      show own_Rn p e below _ (Tl.setTop (mkF m 15 #[.val (.ref sa), .val (.int (Int32.ofNat qq)), .val (.ref bv), .val (.int (Int32.ofNat qq)), .val (.int (Int32.ofNat cs.length)), .val (.int (Int32.ofNat qq)), .val (.int (cs.getD qq 0))] []))
      refine own_go (fun tq kq => XS.iload Xl.here hx rfl (hb hby own_d4_15) rfl kq) ?_
      show own_Rn p e below _ (Tl.setTop (mkF m 17 #[.val (.ref sa), .val (.int (Int32.ofNat qq)), .val (.ref bv), .val (.int (Int32.ofNat qq)), .val (.int (Int32.ofNat cs.length)), .val (.int (Int32.ofNat qq)), .val (.int (cs.getD qq 0))] [(.int (cs.getD qq 0))]))
      refine own_go (fun tq kq => XS.sipush Xl.here hx rfl (hb hby own_d4_17) kq) ?_
      show own_Rn p e below _ (Tl.setTop (mkF m 20 #[.val (.ref sa), .val (.int (Int32.ofNat qq)), .val (.ref bv), .val (.int (Int32.ofNat qq)), .val (.int (Int32.ofNat cs.length)), .val (.int (Int32.ofNat qq)), .val (.int (cs.getD qq 0))] [(.int (255 : Int32)), (.int (cs.getD qq 0))]))
      by_cases h255 : (255 : Int32) < (cs.getD qq 0)
      · skip
        refine own_go (fun tq kq => XS.icmpNo Xl.here hx rfl (hb hby own_d4_20) rfl (tlt (h255 : (255 : Int32) < (cs.getD qq 0))).2.2.2 kq) ?_
        show own_Rn p e below _ (Tl.setTop (mkF m 23 #[.val (.ref sa), .val (.int (Int32.ofNat qq)), .val (.ref bv), .val (.int (Int32.ofNat qq)), .val (.int (Int32.ofNat cs.length)), .val (.int (Int32.ofNat qq)), .val (.int (cs.getD qq 0))] []))
        refine own_go (fun tq kq => XS.iload Xl.here hx rfl (hb hby own_d4_23) rfl kq) ?_
        show own_Rn p e below _ (Tl.setTop (mkF m 25 #[.val (.ref sa), .val (.int (Int32.ofNat qq)), .val (.ref bv), .val (.int (Int32.ofNat qq)), .val (.int (Int32.ofNat cs.length)), .val (.int (Int32.ofNat qq)), .val (.int (cs.getD qq 0))] [(.int (Int32.ofNat qq))]))
        exact own_ret Xl (v := some (.int (Int32.ofNat qq))) (fun h => by rw [Bd.returns] at h; cases h) (fun fs hr => retI Xl hx Bd.returns (hb hby own_d4_25) hr) (by rw [el]; exact ⟨qq, rfl, Nl, Kl, by omega, fun _ => h255, fun h => absurd h (by omega)⟩) (by decide) (by decide)
      · skip
        refine own_go (fun tq kq => XS.icmpYes Xl.here hx rfl (pc0 := 20) (pc' := 26) rfl (hb hby own_d4_20) rfl (flt (h255 : ¬ ((255 : Int32) < (cs.getD qq 0)))).2.2.2 (by decide) (by decide) kq) ?_
        show own_Rn p e below _ (Tl.setTop (mkF m 26 #[.val (.ref sa), .val (.int (Int32.ofNat qq)), .val (.ref bv), .val (.int (Int32.ofNat qq)), .val (.int (Int32.ofNat cs.length)), .val (.int (Int32.ofNat qq)), .val (.int (cs.getD qq 0))] []))
        refine own_go (fun tq kq => XS.aloadN Xl.here hx rfl (hb hby own_d4_26) rfl rfl kq) ?_
        show own_Rn p e below _ (Tl.setTop (mkF m 27 #[.val (.ref sa), .val (.int (Int32.ofNat qq)), .val (.ref bv), .val (.int (Int32.ofNat qq)), .val (.int (Int32.ofNat cs.length)), .val (.int (Int32.ofNat qq)), .val (.int (cs.getD qq 0))] [(.ref bv)]))
        refine own_go (fun tq kq => XS.iloadN Xl.here hx rfl (hb hby own_d4_27) rfl kq) ?_
        show own_Rn p e below _ (Tl.setTop (mkF m 28 #[.val (.ref sa), .val (.int (Int32.ofNat qq)), .val (.ref bv), .val (.int (Int32.ofNat qq)), .val (.int (Int32.ofNat cs.length)), .val (.int (Int32.ofNat qq)), .val (.int (cs.getD qq 0))] [(.int (Int32.ofNat qq)), (.ref bv)]))
        refine own_go (fun tq kq => XS.iload Xl.here hx rfl (hb hby own_d4_28) rfl kq) ?_
        show own_Rn p e below _ (Tl.setTop (mkF m 30 #[.val (.ref sa), .val (.int (Int32.ofNat qq)), .val (.ref bv), .val (.int (Int32.ofNat qq)), .val (.int (Int32.ofNat cs.length)), .val (.int (Int32.ofNat qq)), .val (.int (cs.getD qq 0))] [(.int (cs.getD qq 0)), (.int (Int32.ofNat qq)), (.ref bv)]))
        refine own_go (fun tq kq => XS.i2b Xl.here hx rfl (hb hby own_d4_30) rfl kq) ?_
        show own_Rn p e below _ (Tl.setTop (mkF m 31 #[.val (.ref sa), .val (.int (Int32.ofNat qq)), .val (.ref bv), .val (.int (Int32.ofNat qq)), .val (.int (Int32.ofNat cs.length)), .val (.int (Int32.ofNat qq)), .val (.int (cs.getD qq 0))] [(.int ((cs.getD qq 0).toInt8.toInt32)), (.int (Int32.ofNat qq)), (.ref bv)]))
        have htl : (own_bs (cs.take qq)).length = qq := by rw [own_bs_len, List.length_take]; omega
        obtain ⟨cl9, Ar9, q9, Sz9, Nn9, Hs9, G9⟩ := id Ab
        obtain ⟨T9, h9, X9, e9, W9, st9⟩ := stB Xl hx hZ el Ar9 (j := (Int32.ofNat qq)) (inb_of Sz9 (own_inb _ _ (by omega) (by omega))) (g := (mkF m 31 #[.val (.ref sa), .val (.int (Int32.ofNat qq)), .val (.ref bv), .val (.int (Int32.ofNat qq)), .val (.int (Int32.ofNat cs.length)), .val (.int (Int32.ofNat qq)), .val (.int (cs.getD qq 0))] [(.int ((cs.getD qq 0).toInt8.toInt32)), (.int (Int32.ofNat qq)), (.ref bv)])) rfl rfl (hb hby own_d4_31)
        rw [own_narB] at W9
        refine own_go st9 ?_
        have V9 : Arv Z h9 bv kb .byte (Int32.ofNat cs.length) (own_bs (cs.take qq) ++ [(.int ((cs.getD qq 0).toInt8.toInt32))]) (.int 0) := own_store1 Ab (by rw [htl, own_clampN (by omega)]; omega) (own_fitsB _) W9 (by rw [own_clampN (by omega), htl])
        have N9 := Fr.snoc X9 Nl gbv
        have sz10 : hl.size ≤ h9.size := Nat.le_of_eq (Wr.size W9).symm
        have K10 := Kl.wr W9 (Or.inl (List.mem_of_getElem? (i := 0) rfl))
        show own_Rn p e below _ (T9.setTop (mkF m 32 #[.val (.ref sa), .val (.int (Int32.ofNat qq)), .val (.ref bv), .val (.int (Int32.ofNat qq)), .val (.int (Int32.ofNat cs.length)), .val (.int (Int32.ofNat qq)), .val (.int (cs.getD qq 0))] []))
        refine own_go (fun tq kq => XS.iinc X9.here hx rfl (hb hby own_d4_32) rfl (l' := #[.val (.ref sa), .val (.int ((Int32.ofNat qq) + (1 : Int32))), .val (.ref bv), .val (.int (Int32.ofNat qq)), .val (.int (Int32.ofNat cs.length)), .val (.int (Int32.ofNat qq)), .val (.int (cs.getD qq 0))]) rfl kq) ?_
        show own_Rn p e below _ (T9.setTop (mkF m 35 #[.val (.ref sa), .val (.int ((Int32.ofNat qq) + (1 : Int32))), .val (.ref bv), .val (.int (Int32.ofNat qq)), .val (.int (Int32.ofNat cs.length)), .val (.int (Int32.ofNat qq)), .val (.int (cs.getD qq 0))] []))
        refine own_go (fun tq kq => XS.iinc X9.here hx rfl (hb hby own_d4_35) rfl (l' := #[.val (.ref sa), .val (.int ((Int32.ofNat qq) + (1 : Int32))), .val (.ref bv), .val (.int ((Int32.ofNat qq) + (1 : Int32))), .val (.int (Int32.ofNat cs.length)), .val (.int (Int32.ofNat qq)), .val (.int (cs.getD qq 0))]) rfl kq) ?_
        show own_Rn p e below _ (T9.setTop (mkF m 38 #[.val (.ref sa), .val (.int ((Int32.ofNat qq) + (1 : Int32))), .val (.ref bv), .val (.int ((Int32.ofNat qq) + (1 : Int32))), .val (.int (Int32.ofNat cs.length)), .val (.int (Int32.ofNat qq)), .val (.int (cs.getD qq 0))] []))
        refine own_go (fun tq kq => XS.iinc X9.here hx rfl (hb hby own_d4_38) rfl (l' := #[.val (.ref sa), .val (.int ((Int32.ofNat qq) + (1 : Int32))), .val (.ref bv), .val (.int ((Int32.ofNat qq) + (1 : Int32))), .val (.int (Int32.ofNat cs.length)), .val (.int ((Int32.ofNat qq) + (1 : Int32))), .val (.int (cs.getD qq 0))]) rfl kq) ?_
        show own_Rn p e below _ (T9.setTop (mkF m 41 #[.val (.ref sa), .val (.int ((Int32.ofNat qq) + (1 : Int32))), .val (.ref bv), .val (.int ((Int32.ofNat qq) + (1 : Int32))), .val (.int (Int32.ofNat cs.length)), .val (.int ((Int32.ofNat qq) + (1 : Int32))), .val (.int (cs.getD qq 0))] []))
        refine own_go (fun tq kq => XS.goto X9.here hx rfl (pc0 := 41) (pc' := 3) rfl (hb hby own_d4_41) (by decide) (by decide) kq) ?_
        show own_Rn p e below _ (T9.setTop (mkF m 3 #[.val (.ref sa), .val (.int ((Int32.ofNat qq) + (1 : Int32))), .val (.ref bv), .val (.int ((Int32.ofNat qq) + (1 : Int32))), .val (.int (Int32.ofNat cs.length)), .val (.int ((Int32.ofNat qq) + (1 : Int32))), .val (.int (cs.getD qq 0))] []))
        have F11 : Arv Z h9 sa ka .char (Int32.ofNat cs.length) (cs.map Value.int) dv := (As.other W9 nsb)
        have F12 : Old Z n0 h9 := (Ol.wr W9 gbv)
        rw [show (Int32.ofNat qq + (1 : Int32)) = Int32.ofNat (qq + 1) from (inc_ofNat qq).symm]
        have hall2 : ∀ c ∈ cs.take (qq + 1), ¬ (255 : Int32) < c := by
          intro c hc
          rw [own_take_succ cs qq (by omega), List.mem_append, List.mem_singleton] at hc
          rcases hc with hc | rfl
          · exact hall c hc
          · exact h255
        exact ih (qq + 1) _ _ _ _ (by omega) X9 e9 N9 K10 F12 hall2 F11 (by rw [own_take_succ cs qq (by omega), own_bs_app]; exact V9) (One.val rfl)
  exact loop cs.length 0 _ _ _ _ (by omega) X0 e0 N0 K0 X00 (fun c hc => nomatch hc) Pm0 Pm4 One.u
theorem own_ef_rmC3 (m : MethodId) (sa : Addr) (ka : ClassId) (cs : List Int32) (dv : Value) : entryFrame m #[(.ref sa), (.int (0 : Int32)), (.int (Int32.ofNat cs.length))] 6 = mkF m 0 #[.val (.ref sa), .val (.int (0 : Int32)), .val (.int (Int32.ofNat cs.length)), .unset, .unset, .unset] [] := by first | (simp [entryFrame, mkF, argsToLocals, Value.category]; done) | rfl
theorem own_d3_0 : decode jdk_52_method_16_code 0 = .ok (.iload_n 2, 1) := by decide +kernel
theorem own_d3_1 : decode jdk_52_method_16_code 1 = .ok (.newarray .byte, 2) := by decide +kernel
theorem own_d3_3 : decode jdk_52_method_16_code 3 = .ok (.astore_n 3, 1) := by decide +kernel
theorem own_d3_4 : decode jdk_52_method_16_code 4 = .ok (.aload_n 0, 1) := by decide +kernel
theorem own_d3_5 : decode jdk_52_method_16_code 5 = .ok (.iload_n 1, 1) := by decide +kernel
theorem own_d3_6 : decode jdk_52_method_16_code 6 = .ok (.aload_n 3, 1) := by decide +kernel
theorem own_d3_7 : decode jdk_52_method_16_code 7 = .ok (.iconst 0, 1) := by decide +kernel
theorem own_d3_8 : decode jdk_52_method_16_code 8 = .ok (.iload_n 2, 1) := by decide +kernel
theorem own_d3_9 : decode jdk_52_method_16_code 9 = .ok (.invokestatic 115, 3) := by decide +kernel
theorem own_pd_285bCI5bBII29I : parseMethodDescriptor "([CI[BII)I" = some ⟨[(.array .char), .int, (.array .byte), .int, .int], some .int⟩ := by decide +kernel
theorem own_d3_12 : decode jdk_52_method_16_code 12 = .ok (.istore 4, 2) := by decide +kernel
theorem own_d3_14 : decode jdk_52_method_16_code 14 = .ok (.iload 4, 2) := by decide +kernel
theorem own_d3_16 : decode jdk_52_method_16_code 16 = .ok (.iload_n 2, 1) := by decide +kernel
theorem own_d3_17 : decode jdk_52_method_16_code 17 = .ok (.if_icmp .eq 40, 3) := by decide +kernel
theorem own_d3_57 : decode jdk_52_method_16_code 57 = .ok (.aload_n 3, 1) := by decide +kernel
theorem own_d3_58 : decode jdk_52_method_16_code 58 = .ok (.areturn, 1) := by decide +kernel
theorem own_d3_20 : decode jdk_52_method_16_code 20 = .ok (.aload_n 0, 1) := by decide +kernel
theorem own_d3_21 : decode jdk_52_method_16_code 21 = .ok (.iload_n 1, 1) := by decide +kernel
theorem own_d3_22 : decode jdk_52_method_16_code 22 = .ok (.iload_n 2, 1) := by decide +kernel
theorem own_d3_23 : decode jdk_52_method_16_code 23 = .ok (.invokestatic 119, 3) := by decide +kernel
theorem own_pd_285bCII295bB : parseMethodDescriptor "([CII)[B" = some ⟨[(.array .char), .int, .int], some (.array .byte)⟩ := by decide +kernel
theorem own_d3_26 : decode jdk_52_method_16_code 26 = .ok (.astore 5, 2) := by decide +kernel
theorem own_d3_28 : decode jdk_52_method_16_code 28 = .ok (.aload 5, 2) := by decide +kernel
theorem own_d3_30 : decode jdk_52_method_16_code 30 = .ok (.iload 4, 2) := by decide +kernel
theorem own_d3_32 : decode jdk_52_method_16_code 32 = .ok (.invokestatic 71, 3) := by decide +kernel
theorem own_pd_285bBI29C : parseMethodDescriptor "([BI)C" = some ⟨[(.array .byte), .int], some .char⟩ := by decide +kernel
theorem own_d3_35 : decode jdk_52_method_16_code 35 = .ok (.sipush 255, 3) := by decide +kernel
theorem own_d3_38 : decode jdk_52_method_16_code 38 = .ok (.if_icmp .gt 16, 3) := by decide +kernel
theorem own_d3_54 : decode jdk_52_method_16_code 54 = .ok (.aload 5, 2) := by decide +kernel
theorem own_d3_56 : decode jdk_52_method_16_code 56 = .ok (.areturn, 1) := by decide +kernel
def Q_rmC3 (Z : State) (sa : Addr) (ka : ClassId) (cs : List Int32) (dv : Value) (h0 : Heap) (n0 : Nat) (v : Option Value) (h : Heap) (L : List Loc) : Prop := ∃ (t : Addr), ∃ (kt : ClassId), ∃ (N : Int32), ∃ (vs : List Value), v = some (.ref t) ∧ Fr n0 L ∧ Keep h0 h [] ∧ h0.size ≤ t ∧ n0 ≤ t ∧ Arv Z h t kt .byte N vs (.int 0) ∧ ((N = (Int32.ofNat cs.length) ∧ vs = own_bs cs ∧ ∀ c ∈ cs, ¬ (255 : Int32) < c) ∨ (N = (Int32.ofNat (2 * cs.length)) ∧ vs = own_u16 cs))
set_option maxRecDepth 65536 in
set_option maxHeartbeats 40000000 in
theorem rmC3 (l : Launch) (Z : State) (a0 : Array Value) (hw : ∀ d ∈ tables_1, d.before a0 Z = true) (ws : List Jvm.Cond) (sa : Addr) (ka : ClassId) (cs : List Int32) (dv : Value) (h0 : Heap) (n0 : Nat) (Z0 : n0 ≤ h0.size) (Pm0 : Arv Z h0 sa ka .char (Int32.ofNat cs.length) (cs.map Value.int) dv) (hn : (cs.length ≤ 4)) (h0n : (0 < cs.length)) (hr : (∀ c ∈ cs, ¬ c < 0 ∧ ¬ (65535 : Int32) < c)) (OAD : Sta Z Z.heap "java/lang/StringUTF16" "$assertionsDisabled" "Z" (.int (1 : Int32))) (OHI : Sta Z Z.heap "java/lang/StringUTF16" "HI_BYTE_SHIFT" "I" (.int (0 : Int32))) (OLO : Sta Z Z.heap "java/lang/StringUTF16" "LO_BYTE_SHIFT" "I" (.int (8 : Int32))) (X00 : Old Z n0 h0) :
    MetFree l (⟨"java/lang/StringUTF16", "compress", "([CII)[B"⟩ : MethodName) (head1 (Jvm.Cond.code (⟨"java/lang/StringUTF16", "compress", "([CII)[B"⟩ : MethodName) jdk_52_method_16_code 6 (some (.array .byte)) :: ws) ({ frames := 3, cells := 2, slots := 12, locals := 40 } : Room)) (fun a U => a = #[(.ref sa), (.int (0 : Int32)), (.int (Int32.ofNat cs.length))] ∧ Z.Warmed39 U.vm ∧ U.heap = h0) (fun _ _ _ _ _ => True) (fun _ U o U' => ∃ v L, o = .returned v ∧ Q_rmC3 Z sa ka cs dv h0 n0 v U'.heap L ∧ FrameEnd U o U' L ({ frames := 3, cells := 2, slots := 12, locals := 40 } : Room).cells ({ frames := 3, cells := 2, slots := 12, locals := 40 } : Room).slots) := by
  refine MetFree.of_bodySF (plainFor_of_name own_pn_java_lang_StringUTF16) hisR ?_
  intro p e s m args below meth c s₁ Bd hml0 hP hK
  obtain ⟨rfl, hZ, hh⟩ := hP
  have hx := Bd.exec
  have hby := Bd.bytes
  have hml : c.maxLocals = 6 := hml0
  have hown : s.vm.findClass "java/lang/StringUTF16" = some m.cls := findClass_of_methodNamed Bd.named
  have hnm := (name_of_methodNamed Bd.named Bd.method).1
  have X0 : Stand p l e ({ frames := 3, cells := 2, slots := 12, locals := 40 } : Room) s m #[(.ref sa), (.int (0 : Int32)), (.int (Int32.ofNat cs.length))] below meth c s₁ [] 0 0 := Stand.of_body Bd
  have e0 : s₁.heap = h0 := by rw [← hh, Bd.state]; rfl
  have N0 := Fr.nil n0
  have K0 : Keep h0 h0 [] := Keep.refl _ _
  refine own_go (S' := s₁.setTop (mkF m 0 #[.val (.ref sa), .val (.int (0 : Int32)), .val (.int (Int32.ofNat cs.length)), .unset, .unset, .unset] [])) (fun tq kq => castTop (own_ef_rmC3 m sa ka cs dv) kq) ?_
  have lt1 : @LT.lt Nat _ sa h0.size := Pm0.lt
  refine own_go (fun tq kq => XS.iloadN X0.here hx rfl (hb hby own_d3_0) rfl kq) ?_
  show own_Rn p e below _ (s₁.setTop (mkF m 1 #[.val (.ref sa), .val (.int (0 : Int32)), .val (.int (Int32.ofNat cs.length)), .unset, .unset, .unset] [(.int (Int32.ofNat cs.length))]))
  obtain ⟨T2, h2, k2, X2, e2, E2, A2, st2⟩ := newP X0 hx hZ (hw _ (own_mi 21 rfl)) e0 (g := (mkF m 1 #[.val (.ref sa), .val (.int (0 : Int32)), .val (.int (Int32.ofNat cs.length)), .unset, .unset, .unset] [(.int (Int32.ofNat cs.length))])) rfl (hb hby own_d3_1) rfl (own_nneg (by omega)) (cap := 4) (by rw [own_clampN (by omega)]; omega) (by decide) (by decide) (by decide)
  obtain ⟨b2, g2⟩ : ∃ z, z = h0.size := ⟨_, rfl⟩
  rw [← g2] at A2 st2
  refine own_go st2 ?_
  have sz3 : h0.size ≤ h2.size := E2.1
  have K3 := K0.ext E2
  have gn2 : n0 ≤ b2 := by omega
  have V2 : Arv Z h2 b2 k2 .byte (Int32.ofNat cs.length) [] (.int (0 : Int32)) := Arv.new A2 (own_nneg (by omega))
  have lt4 : @LT.lt Nat _ b2 h2.size := V2.lt
  show own_Rn p e below _ (T2.setTop (mkF m 3 #[.val (.ref sa), .val (.int (0 : Int32)), .val (.int (Int32.ofNat cs.length)), .unset, .unset, .unset] [(.ref b2)]))
  refine own_go (fun tq kq => XS.astoreN X2.here hx rfl (hb hby own_d3_3) rfl rfl (l' := #[.val (.ref sa), .val (.int (0 : Int32)), .val (.int (Int32.ofNat cs.length)), .val (.ref b2), .unset, .unset]) rfl kq) ?_
  show own_Rn p e below _ (T2.setTop (mkF m 4 #[.val (.ref sa), .val (.int (0 : Int32)), .val (.int (Int32.ofNat cs.length)), .val (.ref b2), .unset, .unset] []))
  refine own_go (fun tq kq => XS.aloadN X2.here hx rfl (hb hby own_d3_4) rfl rfl kq) ?_
  show own_Rn p e below _ (T2.setTop (mkF m 5 #[.val (.ref sa), .val (.int (0 : Int32)), .val (.int (Int32.ofNat cs.length)), .val (.ref b2), .unset, .unset] [(.ref sa)]))
  refine own_go (fun tq kq => XS.iloadN X2.here hx rfl (hb hby own_d3_5) rfl kq) ?_
  show own_Rn p e below _ (T2.setTop (mkF m 6 #[.val (.ref sa), .val (.int (0 : Int32)), .val (.int (Int32.ofNat cs.length)), .val (.ref b2), .unset, .unset] [(.int (0 : Int32)), (.ref sa)]))
  refine own_go (fun tq kq => XS.aloadN X2.here hx rfl (hb hby own_d3_6) rfl rfl kq) ?_
  show own_Rn p e below _ (T2.setTop (mkF m 7 #[.val (.ref sa), .val (.int (0 : Int32)), .val (.int (Int32.ofNat cs.length)), .val (.ref b2), .unset, .unset] [(.ref b2), (.int (0 : Int32)), (.ref sa)]))
  refine own_go (fun tq kq => XS.iconst X2.here hx rfl (hb hby own_d3_7) kq) ?_
  show own_Rn p e below _ (T2.setTop (mkF m 8 #[.val (.ref sa), .val (.int (0 : Int32)), .val (.int (Int32.ofNat cs.length)), .val (.ref b2), .unset, .unset] [(.int (0 : Int32)), (.ref b2), (.int (0 : Int32)), (.ref sa)]))
  refine own_go (fun tq kq => XS.iloadN X2.here hx rfl (hb hby own_d3_8) rfl kq) ?_
  show own_Rn p e below _ (T2.setTop (mkF m 9 #[.val (.ref sa), .val (.int (0 : Int32)), .val (.int (Int32.ofNat cs.length)), .val (.ref b2), .unset, .unset] [(.int (Int32.ofNat cs.length)), (.int (0 : Int32)), (.ref b2), (.int (0 : Int32)), (.ref sa)]))
  have ne5 : sa ≠ b2 := own_nea (by omega)
  have Zn6 : n0 ≤ h2.size := by omega
  have F7 : Arv Z h2 sa ka .char (Int32.ofNat cs.length) (cs.map Value.int) dv := (Pm0.ext E2)
  have F8 : Old Z n0 h2 := (X00.ext E2)
  obtain ⟨rv6, _, ⟨T6, L6, k6, n6⟩, -, X6, ⟨Lc6, hQ6, l6, y6, z6⟩, st6⟩ := Jvm.LawKit.callS X2 hx (y := (⟨"java/lang/StringUTF16", "compress", "([CI[BII)I"⟩ : MethodName)) hown (mvT hZ (hw _ (own_mi 22 rfl))) (mvT hZ (hw _ (own_mi 23 rfl))) (mvT hZ (hw _ (own_mi 19 rfl))) (mvT hZ (hw _ (own_mi 24 rfl))) (by decide) (backOf (W := 0) (rmC5 l Z a0 hw [] (sa) (ka) (cs) (dv) (b2) (k2) h2 n0 Zn6 F7 (hn) (h0n) (hr) V2 gn2 (ne5) F8) hZ (hw _ (own_mi 24 rfl)) (hw _ (own_mi 19 rfl)) (by decide) (by decide)) (g := (mkF m 9 #[.val (.ref sa), .val (.int (0 : Int32)), .val (.int (Int32.ofNat cs.length)), .val (.ref b2), .unset, .unset] [(.int (Int32.ofNat cs.length)), (.int (0 : Int32)), (.ref b2), (.int (0 : Int32)), (.ref sa)])) rfl (by rw [hml]; rfl) (argsL := [(.ref sa), (.int (0 : Int32)), (.ref b2), (.int (0 : Int32)), (.int (Int32.ofNat cs.length))]) (rest := []) (lenOf own_pd_285bCI5bBII29I rfl) rfl (by show 2 * 0 + _ ≤ _; exact Nat.le_of_eq rfl) (hb hby own_d3_9) (fun _ _ => ⟨rfl, e2, (by decide : 1 + 0 ≤ _), (by decide : 4 + 0 ≤ _)⟩)
  dsimp only [Pt.U, Pt.locs, Pt.cells, Pt.slots] at X6 l6 y6 z6 st6 hQ6
  subst l6 y6 z6
  obtain ⟨jj, rfl, Nq6, Kq6, J1_6, J2_6, J3_6⟩ := hQ6
  have N6 := Fr.app N0 Nq6
  have sz9 : h2.size ≤ T6.heap.size := Kq6.1
  have K9 := K3.trans Kq6 (allS (Or.inr (by omega)) all0)
  refine own_go st6 ?_
  show own_Rn p e below _ (T6.setTop (mkF m 12 #[.val (.ref sa), .val (.int (0 : Int32)), .val (.int (Int32.ofNat cs.length)), .val (.ref b2), .unset, .unset] [(.int (Int32.ofNat jj))]))
  refine own_go (fun tq kq => XS.istore X6.here hx rfl (hb hby own_d3_12) rfl (l' := #[.val (.ref sa), .val (.int (0 : Int32)), .val (.int (Int32.ofNat cs.length)), .val (.ref b2), .val (.int (Int32.ofNat jj)), .unset]) rfl kq) ?_
  show own_Rn p e below _ (T6.setTop (mkF m 14 #[.val (.ref sa), .val (.int (0 : Int32)), .val (.int (Int32.ofNat cs.length)), .val (.ref b2), .val (.int (Int32.ofNat jj)), .unset] []))
  refine own_go (fun tq kq => XS.iload X6.here hx rfl (hb hby own_d3_14) rfl kq) ?_
  show own_Rn p e below _ (T6.setTop (mkF m 16 #[.val (.ref sa), .val (.int (0 : Int32)), .val (.int (Int32.ofNat cs.length)), .val (.ref b2), .val (.int (Int32.ofNat jj)), .unset] [(.int (Int32.ofNat jj))]))
  refine own_go (fun tq kq => XS.iloadN X6.here hx rfl (hb hby own_d3_16) rfl kq) ?_
  show own_Rn p e below _ (T6.setTop (mkF m 17 #[.val (.ref sa), .val (.int (0 : Int32)), .val (.int (Int32.ofNat cs.length)), .val (.ref b2), .val (.int (Int32.ofNat jj)), .unset] [(.int (Int32.ofNat cs.length)), (.int (Int32.ofNat jj))]))
  by_cases hje : (Int32.ofNat jj) = (Int32.ofNat cs.length)
  · skip
    refine own_go (fun tq kq => XS.icmpYes X6.here hx rfl (pc0 := 17) (pc' := 57) rfl (hb hby own_d3_17) rfl (teq (hje : (Int32.ofNat jj) = (Int32.ofNat cs.length))).1 (by decide) (by decide) kq) ?_
    show own_Rn p e below _ (T6.setTop (mkF m 57 #[.val (.ref sa), .val (.int (0 : Int32)), .val (.int (Int32.ofNat cs.length)), .val (.ref b2), .val (.int (Int32.ofNat jj)), .unset] []))
    have hj := own_ofNat_inj hje (by omega) (by omega)
    obtain ⟨hal, Ab⟩ := J3_6 hj
    refine own_go (fun tq kq => XS.aloadN X6.here hx rfl (hb hby own_d3_57) rfl rfl kq) ?_
    show own_Rn p e below _ (T6.setTop (mkF m 58 #[.val (.ref sa), .val (.int (0 : Int32)), .val (.int (Int32.ofNat cs.length)), .val (.ref b2), .val (.int (Int32.ofNat jj)), .unset] [(.ref b2)]))
    exact own_ret X6 (v := some (.ref b2)) (fun h => by rw [Bd.returns] at h; cases h) (fun fs hr => X6.areturnOut hx rfl Bd.returns rfl (hb hby own_d3_58) hr) (⟨b2, k2, (Int32.ofNat cs.length), (own_bs cs), rfl, N6, K9, (by omega), gn2, Ab, Or.inl ⟨rfl, rfl, hal⟩⟩) (by decide) (by decide)
  · skip
    refine own_go (fun tq kq => XS.icmpNo X6.here hx rfl (hb hby own_d3_17) rfl (feq (hje : ¬ ((Int32.ofNat jj) = (Int32.ofNat cs.length)))).1 kq) ?_
    show own_Rn p e below _ (T6.setTop (mkF m 20 #[.val (.ref sa), .val (.int (0 : Int32)), .val (.int (Int32.ofNat cs.length)), .val (.ref b2), .val (.int (Int32.ofNat jj)), .unset] []))
    have hjl : jj < cs.length := by
      rcases Nat.lt_or_ge jj cs.length with h | h
      · exact h
      · exact absurd (congrArg Int32.ofNat (show jj = cs.length by omega)) hje
    refine own_go (fun tq kq => XS.aloadN X6.here hx rfl (hb hby own_d3_20) rfl rfl kq) ?_
    show own_Rn p e below _ (T6.setTop (mkF m 21 #[.val (.ref sa), .val (.int (0 : Int32)), .val (.int (Int32.ofNat cs.length)), .val (.ref b2), .val (.int (Int32.ofNat jj)), .unset] [(.ref sa)]))
    refine own_go (fun tq kq => XS.iloadN X6.here hx rfl (hb hby own_d3_21) rfl kq) ?_
    show own_Rn p e below _ (T6.setTop (mkF m 22 #[.val (.ref sa), .val (.int (0 : Int32)), .val (.int (Int32.ofNat cs.length)), .val (.ref b2), .val (.int (Int32.ofNat jj)), .unset] [(.int (0 : Int32)), (.ref sa)]))
    refine own_go (fun tq kq => XS.iloadN X6.here hx rfl (hb hby own_d3_22) rfl kq) ?_
    show own_Rn p e below _ (T6.setTop (mkF m 23 #[.val (.ref sa), .val (.int (0 : Int32)), .val (.int (Int32.ofNat cs.length)), .val (.ref b2), .val (.int (Int32.ofNat jj)), .unset] [(.int (Int32.ofNat cs.length)), (.int (0 : Int32)), (.ref sa)]))
    have Zn10 : n0 ≤ T6.heap.size := by omega
    have F11 : Arv Z T6.heap sa ka .char (Int32.ofNat cs.length) (cs.map Value.int) dv := (F7.keep Kq6 (ninS ne5 nin0))
    have F12 : Old Z n0 T6.heap := (F8.keep Kq6 (allS gn2 all0))
    obtain ⟨rv10, _, ⟨T10, L10, k10, n10⟩, -, X10, ⟨Lc10, hQ10, l10, y10, z10⟩, st10⟩ := Jvm.LawKit.callS X6 hx (y := (⟨"java/lang/StringUTF16", "toBytes", "([CII)[B"⟩ : MethodName)) hown (mvT hZ (hw _ (own_mi 99 rfl))) (mvT hZ (hw _ (own_mi 100 rfl))) (mvT hZ (hw _ (own_mi 19 rfl))) (mvT hZ (hw _ (own_mi 101 rfl))) (by decide) (backOf (W := 0) (rmTB l Z a0 hw [] (sa) (ka) (cs) (dv) T6.heap n0 Zn10 F11 (hn) (h0n) (hr) (OAD) (OHI) (OLO) F12) hZ (hw _ (own_mi 101 rfl)) (hw _ (own_mi 19 rfl)) (by decide) (by decide)) (g := (mkF m 23 #[.val (.ref sa), .val (.int (0 : Int32)), .val (.int (Int32.ofNat cs.length)), .val (.ref b2), .val (.int (Int32.ofNat jj)), .unset] [(.int (Int32.ofNat cs.length)), (.int (0 : Int32)), (.ref sa)])) rfl (by rw [hml]; rfl) (argsL := [(.ref sa), (.int (0 : Int32)), (.int (Int32.ofNat cs.length))]) (rest := []) (lenOf own_pd_285bCII295bB rfl) rfl (by show 2 * 0 + _ ≤ _; exact Nat.le_of_eq rfl) (hb hby own_d3_23) (fun _ _ => ⟨rfl, rfl, (by decide : 1 + 1 ≤ _), (by decide : 4 + 8 ≤ _)⟩)
    dsimp only [Pt.U, Pt.locs, Pt.cells, Pt.slots] at X10 l10 y10 z10 st10 hQ10
    subst l10 y10 z10
    obtain ⟨tu, ku, rfl, Nq10, Kq10, G0_10, G1_10, G2_10⟩ := hQ10
    have N10 := Fr.app N6 Nq10
    have sz13 : T6.heap.size ≤ T10.heap.size := Kq10.1
    have K13 := K9.trans Kq10 all0
    have lt14 : @LT.lt Nat _ tu T10.heap.size := G2_10.lt
    refine own_go st10 ?_
    show own_Rn p e below _ (T10.setTop (mkF m 26 #[.val (.ref sa), .val (.int (0 : Int32)), .val (.int (Int32.ofNat cs.length)), .val (.ref b2), .val (.int (Int32.ofNat jj)), .unset] [(.ref tu)]))
    refine own_go (fun tq kq => XS.astore X10.here hx rfl (hb hby own_d3_26) rfl rfl (l' := #[.val (.ref sa), .val (.int (0 : Int32)), .val (.int (Int32.ofNat cs.length)), .val (.ref b2), .val (.int (Int32.ofNat jj)), .val (.ref tu)]) rfl kq) ?_
    show own_Rn p e below _ (T10.setTop (mkF m 28 #[.val (.ref sa), .val (.int (0 : Int32)), .val (.int (Int32.ofNat cs.length)), .val (.ref b2), .val (.int (Int32.ofNat jj)), .val (.ref tu)] []))
    refine own_go (fun tq kq => XS.aload X10.here hx rfl (hb hby own_d3_28) rfl rfl kq) ?_
    show own_Rn p e below _ (T10.setTop (mkF m 30 #[.val (.ref sa), .val (.int (0 : Int32)), .val (.int (Int32.ofNat cs.length)), .val (.ref b2), .val (.int (Int32.ofNat jj)), .val (.ref tu)] [(.ref tu)]))
    refine own_go (fun tq kq => XS.iload X10.here hx rfl (hb hby own_d3_30) rfl kq) ?_
    show own_Rn p e below _ (T10.setTop (mkF m 32 #[.val (.ref sa), .val (.int (0 : Int32)), .val (.int (Int32.ofNat cs.length)), .val (.ref b2), .val (.int (Int32.ofNat jj)), .val (.ref tu)] [(.int (Int32.ofNat jj)), (.ref tu)]))
    have Zn15 : n0 ≤ T10.heap.size := by omega
    have F16 : Old Z n0 T10.heap := (F12.keep Kq10 all0)
    obtain ⟨rv15, _, ⟨T15, L15, k15, n15⟩, -, X15, ⟨Lc15, hQ15, l15, y15, z15⟩, st15⟩ := Jvm.LawKit.callS X10 hx (y := (⟨"java/lang/StringUTF16", "getChar", "([BI)C"⟩ : MethodName)) hown (mvT hZ (hw _ (own_mi 115 rfl))) (mvT hZ (hw _ (own_mi 116 rfl))) (mvT hZ (hw _ (own_mi 19 rfl))) (mvT hZ (hw _ (own_mi 117 rfl))) (by decide) (backOf (W := 0) (rmGet l Z a0 hw [] (tu) (ku) (cs) (jj) T10.heap n0 Zn15 G2_10 (hjl) (hn) (hr) (OAD) (OHI) (OLO) F16) hZ (hw _ (own_mi 117 rfl)) (hw _ (own_mi 19 rfl)) (by decide) (by decide)) (g := (mkF m 32 #[.val (.ref sa), .val (.int (0 : Int32)), .val (.int (Int32.ofNat cs.length)), .val (.ref b2), .val (.int (Int32.ofNat jj)), .val (.ref tu)] [(.int (Int32.ofNat jj)), (.ref tu)])) rfl (by rw [hml]; rfl) (argsL := [(.ref tu), (.int (Int32.ofNat jj))]) (rest := []) (lenOf own_pd_285bBI29C rfl) rfl (by show 2 * 0 + _ ≤ _; exact Nat.le_of_eq rfl) (hb hby own_d3_32) (fun _ _ => ⟨rfl, rfl, (by decide : 2 + 0 ≤ _), (by decide : 12 + 0 ≤ _)⟩)
    dsimp only [Pt.U, Pt.locs, Pt.cells, Pt.slots] at X15 l15 y15 z15 st15 hQ15
    subst l15 y15 z15
    obtain ⟨rfl, Nq15, eh15⟩ := hQ15
    have N15 := Fr.app N10 Nq15
    refine own_go st15 ?_
    show own_Rn p e below _ (T15.setTop (mkF m 35 #[.val (.ref sa), .val (.int (0 : Int32)), .val (.int (Int32.ofNat cs.length)), .val (.ref b2), .val (.int (Int32.ofNat jj)), .val (.ref tu)] [(.int (cs.getD jj 0))]))
    refine own_go (fun tq kq => XS.sipush X15.here hx rfl (hb hby own_d3_35) kq) ?_
    show own_Rn p e below _ (T15.setTop (mkF m 38 #[.val (.ref sa), .val (.int (0 : Int32)), .val (.int (Int32.ofNat cs.length)), .val (.ref b2), .val (.int (Int32.ofNat jj)), .val (.ref tu)] [(.int (255 : Int32)), (.int (cs.getD jj 0))]))
    refine own_go (fun tq kq => XS.icmpYes X15.here hx rfl (pc0 := 38) (pc' := 54) rfl (hb hby own_d3_38) rfl (tlt (J2_6 hjl : (255 : Int32) < (cs.getD jj 0))).2.2.1 (by decide) (by decide) kq) ?_
    show own_Rn p e below _ (T15.setTop (mkF m 54 #[.val (.ref sa), .val (.int (0 : Int32)), .val (.int (Int32.ofNat cs.length)), .val (.ref b2), .val (.int (Int32.ofNat jj)), .val (.ref tu)] []))
    refine own_go (fun tq kq => XS.aload X15.here hx rfl (hb hby own_d3_54) rfl rfl kq) ?_
    show own_Rn p e below _ (T15.setTop (mkF m 56 #[.val (.ref sa), .val (.int (0 : Int32)), .val (.int (Int32.ofNat cs.length)), .val (.ref b2), .val (.int (Int32.ofNat jj)), .val (.ref tu)] [(.ref tu)]))
    exact own_ret X15 (v := some (.ref tu)) (fun h => by rw [Bd.returns] at h; cases h) (fun fs hr => X15.areturnOut hx rfl Bd.returns rfl (hb hby own_d3_56) hr) (by rw [eh15]; exact ⟨tu, ku, (Int32.ofNat (2 * cs.length)), (own_u16 cs), rfl, N15, K13, (by omega), G1_10, G2_10, Or.inr ⟨rfl, rfl⟩⟩) (by decide) (by decide)
theorem own_ef_rmCF0 (m : MethodId) (bv : Addr) (kb : ClassId) (cs : List Int32) (vs : List Value) : entryFrame m #[(.ref bv), (.int (Int32.ofNat cs.length))] 2 = mkF m 0 #[.val (.ref bv), .val (.int (Int32.ofNat cs.length))] [] := by first | (simp [entryFrame, mkF, argsToLocals, Value.category]; done) | rfl
theorem own_d5_0 : decode jdk_52_method_15_code 0 = .ok (.iload_n 1, 1) := by decide +kernel
theorem own_d5_1 : decode jdk_52_method_15_code 1 = .ok (.aload_n 0, 1) := by decide +kernel
theorem own_d5_2 : decode jdk_52_method_15_code 2 = .ok (.arraylength, 1) := by decide +kernel
theorem own_d5_3 : decode jdk_52_method_15_code 3 = .ok (.isub, 1) := by decide +kernel
theorem own_d5_4 : decode jdk_52_method_15_code 4 = .ok (.bipush 31, 2) := by decide +kernel
theorem own_d5_6 : decode jdk_52_method_15_code 6 = .ok (.iushr, 1) := by decide +kernel
theorem own_d5_7 : decode jdk_52_method_15_code 7 = .ok (.i2b, 1) := by decide +kernel
theorem own_d5_8 : decode jdk_52_method_15_code 8 = .ok (.ireturn, 1) := by decide +kernel
def Q_rmCF0 (Z : State) (bv : Addr) (kb : ClassId) (cs : List Int32) (vs : List Value) (h0 : Heap) (n0 : Nat) (v : Option Value) (h : Heap) (L : List Loc) : Prop := v = some (.int (0 : Int32)) ∧ Fr n0 L ∧ h = h0
set_option maxRecDepth 65536 in
set_option maxHeartbeats 40000000 in
theorem rmCF0 (l : Launch) (Z : State) (a0 : Array Value) (hw : ∀ d ∈ tables_1, d.before a0 Z = true) (ws : List Jvm.Cond) (bv : Addr) (kb : ClassId) (cs : List Int32) (vs : List Value) (h0 : Heap) (n0 : Nat) (Z0 : n0 ≤ h0.size) (Pm0 : Arv Z h0 bv kb .byte (Int32.ofNat cs.length) vs (.int 0)) (hn : (cs.length ≤ 4)) (h0n : (0 < cs.length)) :
    MetFree l (⟨"java/lang/StringUTF16", "coderFromArrayLen", "([BI)B"⟩ : MethodName) (head1 (Jvm.Cond.code (⟨"java/lang/StringUTF16", "coderFromArrayLen", "([BI)B"⟩ : MethodName) jdk_52_method_15_code 2 (some .byte) :: ws) ({ frames := 0, cells := 0, slots := 0, locals := 0 } : Room)) (fun a U => a = #[(.ref bv), (.int (Int32.ofNat cs.length))] ∧ Z.Warmed39 U.vm ∧ U.heap = h0) (fun _ _ _ _ _ => True) (fun _ U o U' => ∃ v L, o = .returned v ∧ Q_rmCF0 Z bv kb cs vs h0 n0 v U'.heap L ∧ FrameEnd U o U' L ({ frames := 0, cells := 0, slots := 0, locals := 0 } : Room).cells ({ frames := 0, cells := 0, slots := 0, locals := 0 } : Room).slots) := by
  refine MetFree.of_bodySF (plainFor_of_name own_pn_java_lang_StringUTF16) hisR ?_
  intro p e s m args below meth c s₁ Bd hml0 hP hK
  obtain ⟨rfl, hZ, hh⟩ := hP
  have hx := Bd.exec
  have hby := Bd.bytes
  have hml : c.maxLocals = 2 := hml0
  have hown : s.vm.findClass "java/lang/StringUTF16" = some m.cls := findClass_of_methodNamed Bd.named
  have hnm := (name_of_methodNamed Bd.named Bd.method).1
  have X0 : Stand p l e ({ frames := 0, cells := 0, slots := 0, locals := 0 } : Room) s m #[(.ref bv), (.int (Int32.ofNat cs.length))] below meth c s₁ [] 0 0 := Stand.of_body Bd
  have e0 : s₁.heap = h0 := by rw [← hh, Bd.state]; rfl
  have N0 := Fr.nil n0
  have K0 : Keep h0 h0 [] := Keep.refl _ _
  refine own_go (S' := s₁.setTop (mkF m 0 #[.val (.ref bv), .val (.int (Int32.ofNat cs.length))] [])) (fun tq kq => castTop (own_ef_rmCF0 m bv kb cs vs) kq) ?_
  have lt1 : @LT.lt Nat _ bv h0.size := Pm0.lt
  refine own_go (fun tq kq => XS.iloadN X0.here hx rfl (hb hby own_d5_0) rfl kq) ?_
  show own_Rn p e below _ (s₁.setTop (mkF m 1 #[.val (.ref bv), .val (.int (Int32.ofNat cs.length))] [(.int (Int32.ofNat cs.length))]))
  refine own_go (fun tq kq => XS.aloadN X0.here hx rfl (hb hby own_d5_1) rfl rfl kq) ?_
  show own_Rn p e below _ (s₁.setTop (mkF m 2 #[.val (.ref bv), .val (.int (Int32.ofNat cs.length))] [(.ref bv), (.int (Int32.ofNat cs.length))]))
  obtain ⟨cl2, Ar2, -, Sz2, Nn2, -, -⟩ := id Pm0
  refine own_go (fun tq kq => X0.arraylength hx (cell := cl2) (by rw [e0]; exact Ar2.1) (State.isArrayOf_alike hZ.alike Ar2.2.1) (g := (mkF m 2 #[.val (.ref bv), .val (.int (Int32.ofNat cs.length))] [(.ref bv), (.int (Int32.ofNat cs.length))])) rfl rfl (hb hby own_d5_2) tq kq) ?_
  rw [len_of Sz2 Nn2]
  show own_Rn p e below _ (s₁.setTop (mkF m 3 #[.val (.ref bv), .val (.int (Int32.ofNat cs.length))] [(.int (Int32.ofNat cs.length)), (.int (Int32.ofNat cs.length))]))
  refine own_go (fun tq kq => XS.isub X0.here hx rfl (hb hby own_d5_3) rfl kq) ?_
  show own_Rn p e below _ (s₁.setTop (mkF m 4 #[.val (.ref bv), .val (.int (Int32.ofNat cs.length))] [(.int ((Int32.ofNat cs.length) - (Int32.ofNat cs.length)))]))
  refine own_go (fun tq kq => XS.bipush X0.here hx rfl (hb hby own_d5_4) kq) ?_
  show own_Rn p e below _ (s₁.setTop (mkF m 6 #[.val (.ref bv), .val (.int (Int32.ofNat cs.length))] [(.int (31 : Int32)), (.int ((Int32.ofNat cs.length) - (Int32.ofNat cs.length)))]))
  refine own_go (fun tq kq => XS.iushr X0.here hx rfl (hb hby own_d5_6) rfl kq) ?_
  show own_Rn p e below _ (s₁.setTop (mkF m 7 #[.val (.ref bv), .val (.int (Int32.ofNat cs.length))] [(.int ((((Int32.ofNat cs.length) - (Int32.ofNat cs.length)).toUInt32 >>> ((31 : Int32) &&& 31).toUInt32).toInt32))]))
  refine own_go (fun tq kq => XS.i2b X0.here hx rfl (hb hby own_d5_7) rfl kq) ?_
  show own_Rn p e below _ (s₁.setTop (mkF m 8 #[.val (.ref bv), .val (.int (Int32.ofNat cs.length))] [(.int (((((Int32.ofNat cs.length) - (Int32.ofNat cs.length)).toUInt32 >>> ((31 : Int32) &&& 31).toUInt32).toInt32).toInt8.toInt32))]))
  rw [show (((((Int32.ofNat cs.length) - (Int32.ofNat cs.length)).toUInt32 >>> ((31 : Int32) &&& 31).toUInt32).toInt32).toInt8.toInt32) = (0 : Int32) from own_cl0 _]
  show own_Rn p e below _ (s₁.setTop (mkF m 8 #[.val (.ref bv), .val (.int (Int32.ofNat cs.length))] [(.int (0 : Int32))]))
  exact own_ret X0 (v := some (.int (nar .byte (0 : Int32)))) (fun h => by rw [Bd.returns] at h; cases h) (fun fs hr => retN X0 hx (t := .byte) Bd.returns (by simp) (hb hby own_d5_8) hr) (by rw [e0]; exact ⟨rfl, N0, rfl⟩) (by decide) (by decide)
theorem own_ef_rmCF1 (m : MethodId) (bv : Addr) (kb : ClassId) (cs : List Int32) (vs : List Value) : entryFrame m #[(.ref bv), (.int (Int32.ofNat cs.length))] 2 = mkF m 0 #[.val (.ref bv), .val (.int (Int32.ofNat cs.length))] [] := by first | (simp [entryFrame, mkF, argsToLocals, Value.category]; done) | rfl
def Q_rmCF1 (Z : State) (bv : Addr) (kb : ClassId) (cs : List Int32) (vs : List Value) (h0 : Heap) (n0 : Nat) (v : Option Value) (h : Heap) (L : List Loc) : Prop := v = some (.int (1 : Int32)) ∧ Fr n0 L ∧ h = h0
set_option maxRecDepth 65536 in
set_option maxHeartbeats 40000000 in
theorem rmCF1 (l : Launch) (Z : State) (a0 : Array Value) (hw : ∀ d ∈ tables_1, d.before a0 Z = true) (ws : List Jvm.Cond) (bv : Addr) (kb : ClassId) (cs : List Int32) (vs : List Value) (h0 : Heap) (n0 : Nat) (Z0 : n0 ≤ h0.size) (Pm0 : Arv Z h0 bv kb .byte (Int32.ofNat (2 * cs.length)) vs (.int 0)) (hn : (cs.length ≤ 4)) (h0n : (0 < cs.length)) :
    MetFree l (⟨"java/lang/StringUTF16", "coderFromArrayLen", "([BI)B"⟩ : MethodName) (head1 (Jvm.Cond.code (⟨"java/lang/StringUTF16", "coderFromArrayLen", "([BI)B"⟩ : MethodName) jdk_52_method_15_code 2 (some .byte) :: ws) ({ frames := 0, cells := 0, slots := 0, locals := 0 } : Room)) (fun a U => a = #[(.ref bv), (.int (Int32.ofNat cs.length))] ∧ Z.Warmed39 U.vm ∧ U.heap = h0) (fun _ _ _ _ _ => True) (fun _ U o U' => ∃ v L, o = .returned v ∧ Q_rmCF1 Z bv kb cs vs h0 n0 v U'.heap L ∧ FrameEnd U o U' L ({ frames := 0, cells := 0, slots := 0, locals := 0 } : Room).cells ({ frames := 0, cells := 0, slots := 0, locals := 0 } : Room).slots) := by
  refine MetFree.of_bodySF (plainFor_of_name own_pn_java_lang_StringUTF16) hisR ?_
  intro p e s m args below meth c s₁ Bd hml0 hP hK
  obtain ⟨rfl, hZ, hh⟩ := hP
  have hx := Bd.exec
  have hby := Bd.bytes
  have hml : c.maxLocals = 2 := hml0
  have hown : s.vm.findClass "java/lang/StringUTF16" = some m.cls := findClass_of_methodNamed Bd.named
  have hnm := (name_of_methodNamed Bd.named Bd.method).1
  have X0 : Stand p l e ({ frames := 0, cells := 0, slots := 0, locals := 0 } : Room) s m #[(.ref bv), (.int (Int32.ofNat cs.length))] below meth c s₁ [] 0 0 := Stand.of_body Bd
  have e0 : s₁.heap = h0 := by rw [← hh, Bd.state]; rfl
  have N0 := Fr.nil n0
  have K0 : Keep h0 h0 [] := Keep.refl _ _
  refine own_go (S' := s₁.setTop (mkF m 0 #[.val (.ref bv), .val (.int (Int32.ofNat cs.length))] [])) (fun tq kq => castTop (own_ef_rmCF1 m bv kb cs vs) kq) ?_
  have lt1 : @LT.lt Nat _ bv h0.size := Pm0.lt
  refine own_go (fun tq kq => XS.iloadN X0.here hx rfl (hb hby own_d5_0) rfl kq) ?_
  show own_Rn p e below _ (s₁.setTop (mkF m 1 #[.val (.ref bv), .val (.int (Int32.ofNat cs.length))] [(.int (Int32.ofNat cs.length))]))
  refine own_go (fun tq kq => XS.aloadN X0.here hx rfl (hb hby own_d5_1) rfl rfl kq) ?_
  show own_Rn p e below _ (s₁.setTop (mkF m 2 #[.val (.ref bv), .val (.int (Int32.ofNat cs.length))] [(.ref bv), (.int (Int32.ofNat cs.length))]))
  obtain ⟨cl2, Ar2, -, Sz2, Nn2, -, -⟩ := id Pm0
  refine own_go (fun tq kq => X0.arraylength hx (cell := cl2) (by rw [e0]; exact Ar2.1) (State.isArrayOf_alike hZ.alike Ar2.2.1) (g := (mkF m 2 #[.val (.ref bv), .val (.int (Int32.ofNat cs.length))] [(.ref bv), (.int (Int32.ofNat cs.length))])) rfl rfl (hb hby own_d5_2) tq kq) ?_
  rw [len_of Sz2 Nn2]
  show own_Rn p e below _ (s₁.setTop (mkF m 3 #[.val (.ref bv), .val (.int (Int32.ofNat cs.length))] [(.int (Int32.ofNat (2 * cs.length))), (.int (Int32.ofNat cs.length))]))
  refine own_go (fun tq kq => XS.isub X0.here hx rfl (hb hby own_d5_3) rfl kq) ?_
  show own_Rn p e below _ (s₁.setTop (mkF m 4 #[.val (.ref bv), .val (.int (Int32.ofNat cs.length))] [(.int ((Int32.ofNat cs.length) - (Int32.ofNat (2 * cs.length))))]))
  refine own_go (fun tq kq => XS.bipush X0.here hx rfl (hb hby own_d5_4) kq) ?_
  show own_Rn p e below _ (s₁.setTop (mkF m 6 #[.val (.ref bv), .val (.int (Int32.ofNat cs.length))] [(.int (31 : Int32)), (.int ((Int32.ofNat cs.length) - (Int32.ofNat (2 * cs.length))))]))
  refine own_go (fun tq kq => XS.iushr X0.here hx rfl (hb hby own_d5_6) rfl kq) ?_
  show own_Rn p e below _ (s₁.setTop (mkF m 7 #[.val (.ref bv), .val (.int (Int32.ofNat cs.length))] [(.int ((((Int32.ofNat cs.length) - (Int32.ofNat (2 * cs.length))).toUInt32 >>> ((31 : Int32) &&& 31).toUInt32).toInt32))]))
  refine own_go (fun tq kq => XS.i2b X0.here hx rfl (hb hby own_d5_7) rfl kq) ?_
  show own_Rn p e below _ (s₁.setTop (mkF m 8 #[.val (.ref bv), .val (.int (Int32.ofNat cs.length))] [(.int (((((Int32.ofNat cs.length) - (Int32.ofNat (2 * cs.length))).toUInt32 >>> ((31 : Int32) &&& 31).toUInt32).toInt32).toInt8.toInt32))]))
  rw [show (((((Int32.ofNat cs.length) - (Int32.ofNat (2 * cs.length))).toUInt32 >>> ((31 : Int32) &&& 31).toUInt32).toInt32).toInt8.toInt32) = (1 : Int32) from own_cl1 _ h0n (by omega)]
  show own_Rn p e below _ (s₁.setTop (mkF m 8 #[.val (.ref bv), .val (.int (Int32.ofNat cs.length))] [(.int (1 : Int32))]))
  exact own_ret X0 (v := some (.int (nar .byte (1 : Int32)))) (fun h => by rw [Bd.returns] at h; cases h) (fun fs hr => retN X0 hx (t := .byte) Bd.returns (by simp) (hb hby own_d5_8) hr) (by rw [e0]; exact ⟨rfl, N0, rfl⟩) (by decide) (by decide)
theorem own_ef_rmI4 (m : MethodId) (x : Addr) (sa : Addr) (ka : ClassId) (cs : List Int32) (dv : Value) (G1 : Int32) : entryFrame m #[(.ref x), (.ref sa), (.int (0 : Int32)), (.int (Int32.ofNat cs.length)), .null] 6 = mkF m 0 #[.val (.ref x), .val (.ref sa), .val (.int (0 : Int32)), .val (.int (Int32.ofNat cs.length)), .val .null, .unset] [] := by first | (simp [entryFrame, mkF, argsToLocals, Value.category]; done) | rfl
theorem own_pn_java_lang_String : plainName "java/lang/String" = true := by first | (simp [plainName, overriddenIn]; done) | decide +kernel
theorem own_d1_0 : decode jdk_42_method_149_code 0 = .ok (.aload_n 0, 1) := by decide +kernel
theorem own_d1_1 : decode jdk_42_method_149_code 1 = .ok (.invokespecial 1, 3) := by decide +kernel
theorem own_d1_4 : decode jdk_42_method_149_code 4 = .ok (.iload_n 3, 1) := by decide +kernel
theorem own_d1_5 : decode jdk_42_method_149_code 5 = .ok (.ifCond .ne 22, 3) := by decide +kernel
theorem own_d1_27 : decode jdk_42_method_149_code 27 = .ok (.getstatic 38, 3) := by decide +kernel
theorem own_d1_30 : decode jdk_42_method_149_code 30 = .ok (.ifCond .eq 28, 3) := by decide +kernel
theorem own_d1_33 : decode jdk_42_method_149_code 33 = .ok (.aload_n 1, 1) := by decide +kernel
theorem own_d1_34 : decode jdk_42_method_149_code 34 = .ok (.iload_n 2, 1) := by decide +kernel
theorem own_d1_35 : decode jdk_42_method_149_code 35 = .ok (.iload_n 3, 1) := by decide +kernel
theorem own_d1_36 : decode jdk_42_method_149_code 36 = .ok (.invokestatic 177, 3) := by decide +kernel
theorem own_d1_39 : decode jdk_42_method_149_code 39 = .ok (.astore 5, 2) := by decide +kernel
theorem own_d1_41 : decode jdk_42_method_149_code 41 = .ok (.aload_n 0, 1) := by decide +kernel
theorem own_d1_42 : decode jdk_42_method_149_code 42 = .ok (.aload 5, 2) := by decide +kernel
theorem own_d1_44 : decode jdk_42_method_149_code 44 = .ok (.iload_n 3, 1) := by decide +kernel
theorem own_d1_45 : decode jdk_42_method_149_code 45 = .ok (.invokestatic 47, 3) := by decide +kernel
theorem own_pd_285bBI29B : parseMethodDescriptor "([BI)B" = some ⟨[(.array .byte), .int], some .byte⟩ := by decide +kernel
theorem own_d1_48 : decode jdk_42_method_149_code 48 = .ok (.putfield 15, 3) := by decide +kernel
theorem own_fd_B : parseFieldDescriptor "B" = some .byte := by decide +kernel
theorem own_d1_51 : decode jdk_42_method_149_code 51 = .ok (.aload_n 0, 1) := by decide +kernel
theorem own_d1_52 : decode jdk_42_method_149_code 52 = .ok (.aload 5, 2) := by decide +kernel
theorem own_d1_54 : decode jdk_42_method_149_code 54 = .ok (.putfield 9, 3) := by decide +kernel
theorem own_fd_5bB : parseFieldDescriptor "[B" = some (.array .byte) := by decide +kernel
theorem own_d1_57 : decode jdk_42_method_149_code 57 = .ok (.return_, 1) := by decide +kernel
def Q_rmI4 (Z : State) (x : Addr) (sa : Addr) (ka : ClassId) (cs : List Int32) (dv : Value) (G1 : Int32) (h0 : Heap) (n0 : Nat) (v : Option Value) (h : Heap) (L : List Loc) : Prop := ∃ (t : Addr), ∃ (kt : ClassId), ∃ (N : Int32), ∃ (vs : List Value), ∃ (cd : Int32), v = none ∧ Fr n0 L ∧ Keep h0 h [x] ∧ h0.size ≤ t ∧ n0 ≤ t ∧ Fld Z h x "java/lang/String" "value" "[B" (.ref t) ∧ Fld Z h x "java/lang/String" "coder" "B" (.int cd) ∧ Arv Z h t kt .byte N vs (.int 0) ∧ ((cd = 0 ∧ N = (Int32.ofNat cs.length) ∧ vs = own_bs cs ∧ ∀ c ∈ cs, ¬ (255 : Int32) < c) ∨ (cd = 1 ∧ N = (Int32.ofNat (2 * cs.length)) ∧ vs = own_u16 cs))
set_option maxRecDepth 65536 in
set_option maxHeartbeats 40000000 in
theorem rmI4 (l : Launch) (Z : State) (a0 : Array Value) (hw : ∀ d ∈ tables_1, d.before a0 Z = true) (ws : List Jvm.Cond) (x : Addr) (sa : Addr) (ka : ClassId) (cs : List Int32) (dv : Value) (G1 : Int32) (h0 : Heap) (n0 : Nat) (Z0 : n0 ≤ h0.size) (Pm0 : Exa Z h0 x "java/lang/String") (Pm1 : Fld Z h0 x "java/lang/String" "value" "[B" .null) (Pm2 : Fld Z h0 x "java/lang/String" "coder" "B" (.int (0 : Int32))) (Pm3 : n0 ≤ x) (Pm4 : Arv Z h0 sa ka .char (Int32.ofNat cs.length) (cs.map Value.int) dv) (hn : (cs.length ≤ 4)) (h0n : (0 < cs.length)) (hr : (∀ c ∈ cs, ¬ c < 0 ∧ ¬ (65535 : Int32) < c)) (OAD : Sta Z Z.heap "java/lang/StringUTF16" "$assertionsDisabled" "Z" (.int (1 : Int32))) (OHI : Sta Z Z.heap "java/lang/StringUTF16" "HI_BYTE_SHIFT" "I" (.int (0 : Int32))) (OLO : Sta Z Z.heap "java/lang/StringUTF16" "LO_BYTE_SHIFT" "I" (.int (8 : Int32))) (O2 : Sta Z Z.heap "java/lang/String" "COMPACT_STRINGS" "Z" (.int G1)) (P5 : (¬ (G1 = (0 : Int32)))) (X00 : Old Z n0 h0) :
    MetFree l (⟨"java/lang/String", "<init>", "([CIILjava/lang/Void;)V"⟩ : MethodName) (head1 (Jvm.Cond.code (⟨"java/lang/String", "<init>", "([CIILjava/lang/Void;)V"⟩ : MethodName) jdk_42_method_149_code 6 none :: ws) ({ frames := 4, cells := 2, slots := 12, locals := 57 } : Room)) (fun a U => a = #[(.ref x), (.ref sa), (.int (0 : Int32)), (.int (Int32.ofNat cs.length)), .null] ∧ Z.Warmed39 U.vm ∧ U.heap = h0) (fun _ _ _ _ _ => True) (fun _ U o U' => ∃ v L, o = .returned v ∧ Q_rmI4 Z x sa ka cs dv G1 h0 n0 v U'.heap L ∧ FrameEnd U o U' L ({ frames := 4, cells := 2, slots := 12, locals := 57 } : Room).cells ({ frames := 4, cells := 2, slots := 12, locals := 57 } : Room).slots) := by
  refine MetFree.of_bodySF (plainFor_of_name own_pn_java_lang_String) hisR ?_
  intro p e s m args below meth c s₁ Bd hml0 hP hK
  obtain ⟨rfl, hZ, hh⟩ := hP
  have hx := Bd.exec
  have hby := Bd.bytes
  have hml : c.maxLocals = 6 := hml0
  have hown : s.vm.findClass "java/lang/String" = some m.cls := findClass_of_methodNamed Bd.named
  have hnm := (name_of_methodNamed Bd.named Bd.method).1
  have X0 : Stand p l e ({ frames := 4, cells := 2, slots := 12, locals := 57 } : Room) s m #[(.ref x), (.ref sa), (.int (0 : Int32)), (.int (Int32.ofNat cs.length)), .null] below meth c s₁ [] 0 0 := Stand.of_body Bd
  have e0 : s₁.heap = h0 := by rw [← hh, Bd.state]; rfl
  have N0 := Fr.nil n0
  have K0 : Keep h0 h0 [x] := Keep.refl _ _
  refine own_go (S' := s₁.setTop (mkF m 0 #[.val (.ref x), .val (.ref sa), .val (.int (0 : Int32)), .val (.int (Int32.ofNat cs.length)), .val .null, .unset] [])) (fun tq kq => castTop (own_ef_rmI4 m x sa ka cs dv G1) kq) ?_
  have lt1 : @LT.lt Nat _ x h0.size := Pm0.lt
  have lt2 : @LT.lt Nat _ sa h0.size := Pm4.lt
  refine own_go (fun tq kq => XS.aloadN X0.here hx rfl (hb hby own_d1_0) rfl rfl kq) ?_
  show own_Rn p e below _ (s₁.setTop (mkF m 1 #[.val (.ref x), .val (.ref sa), .val (.int (0 : Int32)), .val (.int (Int32.ofNat cs.length)), .val .null, .unset] [(.ref x)]))
  obtain ⟨T3, X3, e3, st3⟩ := initO X0 hx hZ hown (hw _ (own_mi 13 rfl)) (hw _ (own_mi 14 rfl)) (hw _ (own_mi 15 rfl)) e0 (g := (mkF m 1 #[.val (.ref x), .val (.ref sa), .val (.int (0 : Int32)), .val (.int (Int32.ofNat cs.length)), .val .null, .unset] [(.ref x)])) rfl (by rw [hml]; rfl) rfl (hb hby own_d1_1) (by decide) (W := 0) (by show 2 * 0 + _ ≤ _; exact Nat.le_of_eq rfl) (by decide)
  refine own_go st3 ?_
  show own_Rn p e below _ (T3.setTop (mkF m 4 #[.val (.ref x), .val (.ref sa), .val (.int (0 : Int32)), .val (.int (Int32.ofNat cs.length)), .val .null, .unset] []))
  refine own_go (fun tq kq => XS.iloadN X3.here hx rfl (hb hby own_d1_4) rfl kq) ?_
  show own_Rn p e below _ (T3.setTop (mkF m 5 #[.val (.ref x), .val (.ref sa), .val (.int (0 : Int32)), .val (.int (Int32.ofNat cs.length)), .val .null, .unset] [(.int (Int32.ofNat cs.length))]))
  refine own_go (fun tq kq => XS.ifYes X3.here hx rfl (pc0 := 5) (pc' := 27) rfl (hb hby own_d1_5) rfl ((if0 _ _).trans (feq ((fun h => absurd (own_ofNat_inj (K := 0) h (by omega) (by decide)) (by omega)) : ¬ ((Int32.ofNat cs.length) = (0 : Int32)))).2) (by decide) (by decide) kq) ?_
  show own_Rn p e below _ (T3.setTop (mkF m 27 #[.val (.ref x), .val (.ref sa), .val (.int (0 : Int32)), .val (.int (Int32.ofNat cs.length)), .val .null, .unset] []))
  obtain ⟨T4, X4, e4, st4⟩ := getS2 X3 hx hZ hown (host := "") (Or.inl (hw _ (own_mi 16 rfl))) Via.refl e3 (O2.ext X00.2) (g := (mkF m 27 #[.val (.ref x), .val (.ref sa), .val (.int (0 : Int32)), .val (.int (Int32.ofNat cs.length)), .val .null, .unset] [])) rfl (hb hby own_d1_27)
  refine own_go st4 ?_
  show own_Rn p e below _ (T4.setTop (mkF m 30 #[.val (.ref x), .val (.ref sa), .val (.int (0 : Int32)), .val (.int (Int32.ofNat cs.length)), .val .null, .unset] [(.int G1)]))
  refine own_go (fun tq kq => XS.ifNo X4.here hx rfl (hb hby own_d1_30) rfl ((if0 _ _).trans (feq (P5 : ¬ (G1 = (0 : Int32)))).1) kq) ?_
  show own_Rn p e below _ (T4.setTop (mkF m 33 #[.val (.ref x), .val (.ref sa), .val (.int (0 : Int32)), .val (.int (Int32.ofNat cs.length)), .val .null, .unset] []))
  refine own_go (fun tq kq => XS.aloadN X4.here hx rfl (hb hby own_d1_33) rfl rfl kq) ?_
  show own_Rn p e below _ (T4.setTop (mkF m 34 #[.val (.ref x), .val (.ref sa), .val (.int (0 : Int32)), .val (.int (Int32.ofNat cs.length)), .val .null, .unset] [(.ref sa)]))
  refine own_go (fun tq kq => XS.iloadN X4.here hx rfl (hb hby own_d1_34) rfl kq) ?_
  show own_Rn p e below _ (T4.setTop (mkF m 35 #[.val (.ref x), .val (.ref sa), .val (.int (0 : Int32)), .val (.int (Int32.ofNat cs.length)), .val .null, .unset] [(.int (0 : Int32)), (.ref sa)]))
  refine own_go (fun tq kq => XS.iloadN X4.here hx rfl (hb hby own_d1_35) rfl kq) ?_
  show own_Rn p e below _ (T4.setTop (mkF m 36 #[.val (.ref x), .val (.ref sa), .val (.int (0 : Int32)), .val (.int (Int32.ofNat cs.length)), .val .null, .unset] [(.int (Int32.ofNat cs.length)), (.int (0 : Int32)), (.ref sa)]))
  have Zn5 : n0 ≤ h0.size := by omega
  obtain ⟨rv5, _, ⟨T5, L5, k5, n5⟩, -, X5, ⟨Lc5, hQ5, l5, y5, z5⟩, st5⟩ := Jvm.LawKit.callS X4 hx (y := (⟨"java/lang/StringUTF16", "compress", "([CII)[B"⟩ : MethodName)) hown (mvT hZ (hw _ (own_mi 17 rfl))) (mvT hZ (hw _ (own_mi 18 rfl))) (mvT hZ (hw _ (own_mi 19 rfl))) (mvT hZ (hw _ (own_mi 20 rfl))) (by decide) (backOf (W := 0) (rmC3 l Z a0 hw [] (sa) (ka) (cs) (dv) h0 n0 Zn5 Pm4 (hn) (h0n) (hr) (OAD) (OHI) (OLO) X00) hZ (hw _ (own_mi 20 rfl)) (hw _ (own_mi 19 rfl)) (by decide) (by decide)) (g := (mkF m 36 #[.val (.ref x), .val (.ref sa), .val (.int (0 : Int32)), .val (.int (Int32.ofNat cs.length)), .val .null, .unset] [(.int (Int32.ofNat cs.length)), (.int (0 : Int32)), (.ref sa)])) rfl (by rw [hml]; rfl) (argsL := [(.ref sa), (.int (0 : Int32)), (.int (Int32.ofNat cs.length))]) (rest := []) (lenOf own_pd_285bCII295bB rfl) rfl (by show 2 * 0 + _ ≤ _; exact Nat.le_of_eq rfl) (hb hby own_d1_36) (fun _ _ => ⟨rfl, e4, (by decide : 0 + 2 ≤ _), (by decide : 0 + 12 ≤ _)⟩)
  dsimp only [Pt.U, Pt.locs, Pt.cells, Pt.slots] at X5 l5 y5 z5 st5 hQ5
  subst l5 y5 z5
  obtain ⟨tt, ktt, NN, vv, rfl, Nq5, Kq5, G0_5, G1_5, G2_5, RL_5⟩ := hQ5
  have N5 := Fr.app N0 Nq5
  have sz6 : h0.size ≤ T5.heap.size := Kq5.1
  have K6 := K0.trans Kq5 all0
  have lt7 : @LT.lt Nat _ tt T5.heap.size := G2_5.lt
  refine own_go st5 ?_
  show own_Rn p e below _ (T5.setTop (mkF m 39 #[.val (.ref x), .val (.ref sa), .val (.int (0 : Int32)), .val (.int (Int32.ofNat cs.length)), .val .null, .unset] [(.ref tt)]))
  refine own_go (fun tq kq => XS.astore X5.here hx rfl (hb hby own_d1_39) rfl rfl (l' := #[.val (.ref x), .val (.ref sa), .val (.int (0 : Int32)), .val (.int (Int32.ofNat cs.length)), .val .null, .val (.ref tt)]) rfl kq) ?_
  show own_Rn p e below _ (T5.setTop (mkF m 41 #[.val (.ref x), .val (.ref sa), .val (.int (0 : Int32)), .val (.int (Int32.ofNat cs.length)), .val .null, .val (.ref tt)] []))
  refine own_go (fun tq kq => XS.aloadN X5.here hx rfl (hb hby own_d1_41) rfl rfl kq) ?_
  show own_Rn p e below _ (T5.setTop (mkF m 42 #[.val (.ref x), .val (.ref sa), .val (.int (0 : Int32)), .val (.int (Int32.ofNat cs.length)), .val .null, .val (.ref tt)] [(.ref x)]))
  refine own_go (fun tq kq => XS.aload X5.here hx rfl (hb hby own_d1_42) rfl rfl kq) ?_
  show own_Rn p e below _ (T5.setTop (mkF m 44 #[.val (.ref x), .val (.ref sa), .val (.int (0 : Int32)), .val (.int (Int32.ofNat cs.length)), .val .null, .val (.ref tt)] [(.ref tt), (.ref x)]))
  refine own_go (fun tq kq => XS.iloadN X5.here hx rfl (hb hby own_d1_44) rfl kq) ?_
  show own_Rn p e below _ (T5.setTop (mkF m 45 #[.val (.ref x), .val (.ref sa), .val (.int (0 : Int32)), .val (.int (Int32.ofNat cs.length)), .val .null, .val (.ref tt)] [(.int (Int32.ofNat cs.length)), (.ref tt), (.ref x)]))
  rcases RL_5 with ⟨rfl, rfl, hal⟩ | ⟨rfl, rfl⟩
  · skip
    have Zn8 : n0 ≤ T5.heap.size := by omega
    obtain ⟨rv8, _, ⟨T8, L8, k8, n8⟩, -, X8, ⟨Lc8, hQ8, l8, y8, z8⟩, st8⟩ := Jvm.LawKit.callS X5 hx (y := (⟨"java/lang/StringUTF16", "coderFromArrayLen", "([BI)B"⟩ : MethodName)) hown (mvT hZ (hw _ (own_mi 25 rfl))) (mvT hZ (hw _ (own_mi 26 rfl))) (mvT hZ (hw _ (own_mi 19 rfl))) (mvT hZ (hw _ (own_mi 27 rfl))) (by decide) (backOf (W := 1) (rmCF0 l Z a0 hw [] (tt) (ktt) (cs) ((own_bs cs)) T5.heap n0 Zn8 G2_5 (hn) (h0n)) hZ (hw _ (own_mi 27 rfl)) (hw _ (own_mi 19 rfl)) (by decide) (by decide)) (g := (mkF m 45 #[.val (.ref x), .val (.ref sa), .val (.int (0 : Int32)), .val (.int (Int32.ofNat cs.length)), .val .null, .val (.ref tt)] [(.int (Int32.ofNat cs.length)), (.ref tt), (.ref x)])) rfl (by rw [hml]; rfl) (argsL := [(.ref tt), (.int (Int32.ofNat cs.length))]) (rest := [(.ref x)]) (lenOf own_pd_285bBI29B rfl) rfl (by show 2 * 0 + _ ≤ _; exact Nat.le_of_eq rfl) (hb hby own_d1_45) (fun _ _ => ⟨rfl, rfl, (by decide : 2 + 0 ≤ _), (by decide : 12 + 0 ≤ _)⟩)
    dsimp only [Pt.U, Pt.locs, Pt.cells, Pt.slots] at X8 l8 y8 z8 st8 hQ8
    subst l8 y8 z8
    obtain ⟨rfl, Nq8, eh8⟩ := hQ8
    have N8 := Fr.app N5 Nq8
    refine own_go st8 ?_
    show own_Rn p e below _ (T8.setTop (mkF m 48 #[.val (.ref x), .val (.ref sa), .val (.int (0 : Int32)), .val (.int (Int32.ofNat cs.length)), .val .null, .val (.ref tt)] [(.int (0 : Int32)), (.ref x)]))
    have F9 : Fld Z T5.heap x "java/lang/String" "coder" "B" (.int (0 : Int32)) := (Pm2.keep Kq5 nin0)
    have F10 : Exa Z T5.heap x "java/lang/String" := (Pm0.keep Kq5)
    obtain ⟨T11, h11, X11, e11, W11, st11⟩ := putFN X8 hx hZ hown (hw _ (own_mi 28 rfl)) Via.refl eh8 F9 F10 (Or.inr ⟨(hw _ (own_mi 29 rfl)), rfl, hnm⟩) (hw _ (own_mi 3 rfl)) (ty := .byte) (v' := (.int ((0 : Int32)))) own_fd_B rfl (by decide) (g := (mkF m 48 #[.val (.ref x), .val (.ref sa), .val (.int (0 : Int32)), .val (.int (Int32.ofNat cs.length)), .val .null, .val (.ref tt)] [(.int (0 : Int32)), (.ref x)])) rfl rfl (hb hby own_d1_48)
    refine own_go st11 ?_
    have N11 := Fr.snoc X11 N8 Pm3
    have Fw11 := F9.same W11
    have sz12 : T5.heap.size ≤ h11.size := Nat.le_of_eq (Wr.size W11).symm
    have K12 := K6.wr W11 (Or.inl (List.mem_of_getElem? (i := 0) rfl))
    show own_Rn p e below _ (T11.setTop (mkF m 51 #[.val (.ref x), .val (.ref sa), .val (.int (0 : Int32)), .val (.int (Int32.ofNat cs.length)), .val .null, .val (.ref tt)] []))
    refine own_go (fun tq kq => XS.aloadN X11.here hx rfl (hb hby own_d1_51) rfl rfl kq) ?_
    show own_Rn p e below _ (T11.setTop (mkF m 52 #[.val (.ref x), .val (.ref sa), .val (.int (0 : Int32)), .val (.int (Int32.ofNat cs.length)), .val .null, .val (.ref tt)] [(.ref x)]))
    refine own_go (fun tq kq => XS.aload X11.here hx rfl (hb hby own_d1_52) rfl rfl kq) ?_
    show own_Rn p e below _ (T11.setTop (mkF m 54 #[.val (.ref x), .val (.ref sa), .val (.int (0 : Int32)), .val (.int (Int32.ofNat cs.length)), .val .null, .val (.ref tt)] [(.ref tt), (.ref x)]))
    have F13 : Fld Z h11 x "java/lang/String" "value" "[B" .null := ((Pm1.keep Kq5 nin0).other W11 (Or.inr (slot_ne (Or.inr (hw _ (own_mi 31 rfl))) (Or.inr (hw _ (own_mi 29 rfl))) (by decide) (t := (.array .byte)) (t' := .byte) own_fd_5bB own_fd_B)))
    have F14 : Exa Z h11 x "java/lang/String" := (F10.wr W11)
    obtain ⟨T15, h15, X15, e15, W15, st15⟩ := putF X11 hx hZ hown (host := "") (Or.inl (hw _ (own_mi 30 rfl))) Via.refl e11 F13 F14 (Or.inr ⟨(hw _ (own_mi 31 rfl)), rfl, hnm⟩) (hw _ (own_mi 3 rfl)) (ty := (.array .byte)) own_fd_5bB rfl rfl (g := (mkF m 54 #[.val (.ref x), .val (.ref sa), .val (.int (0 : Int32)), .val (.int (Int32.ofNat cs.length)), .val .null, .val (.ref tt)] [(.ref tt), (.ref x)])) rfl rfl (hb hby own_d1_54)
    refine own_go st15 ?_
    have N15 := Fr.snoc X15 N11 Pm3
    have Fw15 := F13.same W15
    have sz16 : h11.size ≤ h15.size := Nat.le_of_eq (Wr.size W15).symm
    have K16 := K12.wr W15 (Or.inl (List.mem_of_getElem? (i := 0) rfl))
    show own_Rn p e below _ (T15.setTop (mkF m 57 #[.val (.ref x), .val (.ref sa), .val (.int (0 : Int32)), .val (.int (Int32.ofNat cs.length)), .val .null, .val (.ref tt)] []))
    have F17 : Fld Z h15 x "java/lang/String" "coder" "B" (.int (0 : Int32)) := (Fw11.other W15 (Or.inr (slot_ne (Or.inr (hw _ (own_mi 29 rfl))) (Or.inr (hw _ (own_mi 31 rfl))) (by decide) (t := .byte) (t' := (.array .byte)) own_fd_B own_fd_5bB)))
    have ne18 : tt ≠ x := own_nea (by omega)
    have F19 : Arv Z h15 tt ktt .byte (Int32.ofNat cs.length) (own_bs cs) (.int 0) := ((G2_5.other W11 ne18).other W15 ne18)
    exact own_ret X15 (v := none) (fun _ => rfl) (fun fs hr => X15.returnOut hx Bd.returns (hb hby own_d1_57) hr) (by rw [e15]; exact ⟨tt, ktt, (Int32.ofNat cs.length), (own_bs cs), (0 : Int32), rfl, N15, K16, (by omega), G1_5, Fw15, F17, F19, Or.inl ⟨rfl, rfl, rfl, hal⟩⟩) (by decide) (by decide)
  · skip
    have Zn20 : n0 ≤ T5.heap.size := by omega
    obtain ⟨rv20, _, ⟨T20, L20, k20, n20⟩, -, X20, ⟨Lc20, hQ20, l20, y20, z20⟩, st20⟩ := Jvm.LawKit.callS X5 hx (y := (⟨"java/lang/StringUTF16", "coderFromArrayLen", "([BI)B"⟩ : MethodName)) hown (mvT hZ (hw _ (own_mi 25 rfl))) (mvT hZ (hw _ (own_mi 26 rfl))) (mvT hZ (hw _ (own_mi 19 rfl))) (mvT hZ (hw _ (own_mi 27 rfl))) (by decide) (backOf (W := 1) (rmCF1 l Z a0 hw [] (tt) (ktt) (cs) ((own_u16 cs)) T5.heap n0 Zn20 G2_5 (hn) (h0n)) hZ (hw _ (own_mi 27 rfl)) (hw _ (own_mi 19 rfl)) (by decide) (by decide)) (g := (mkF m 45 #[.val (.ref x), .val (.ref sa), .val (.int (0 : Int32)), .val (.int (Int32.ofNat cs.length)), .val .null, .val (.ref tt)] [(.int (Int32.ofNat cs.length)), (.ref tt), (.ref x)])) rfl (by rw [hml]; rfl) (argsL := [(.ref tt), (.int (Int32.ofNat cs.length))]) (rest := [(.ref x)]) (lenOf own_pd_285bBI29B rfl) rfl (by show 2 * 0 + _ ≤ _; exact Nat.le_of_eq rfl) (hb hby own_d1_45) (fun _ _ => ⟨rfl, rfl, (by decide : 2 + 0 ≤ _), (by decide : 12 + 0 ≤ _)⟩)
    dsimp only [Pt.U, Pt.locs, Pt.cells, Pt.slots] at X20 l20 y20 z20 st20 hQ20
    subst l20 y20 z20
    obtain ⟨rfl, Nq20, eh20⟩ := hQ20
    have N20 := Fr.app N5 Nq20
    refine own_go st20 ?_
    show own_Rn p e below _ (T20.setTop (mkF m 48 #[.val (.ref x), .val (.ref sa), .val (.int (0 : Int32)), .val (.int (Int32.ofNat cs.length)), .val .null, .val (.ref tt)] [(.int (1 : Int32)), (.ref x)]))
    have F21 : Fld Z T5.heap x "java/lang/String" "coder" "B" (.int (0 : Int32)) := (Pm2.keep Kq5 nin0)
    have F22 : Exa Z T5.heap x "java/lang/String" := (Pm0.keep Kq5)
    obtain ⟨T23, h23, X23, e23, W23, st23⟩ := putFN X20 hx hZ hown (hw _ (own_mi 28 rfl)) Via.refl eh20 F21 F22 (Or.inr ⟨(hw _ (own_mi 29 rfl)), rfl, hnm⟩) (hw _ (own_mi 3 rfl)) (ty := .byte) (v' := (.int ((1 : Int32)))) own_fd_B rfl (by decide) (g := (mkF m 48 #[.val (.ref x), .val (.ref sa), .val (.int (0 : Int32)), .val (.int (Int32.ofNat cs.length)), .val .null, .val (.ref tt)] [(.int (1 : Int32)), (.ref x)])) rfl rfl (hb hby own_d1_48)
    refine own_go st23 ?_
    have N23 := Fr.snoc X23 N20 Pm3
    have Fw23 := F21.same W23
    have sz24 : T5.heap.size ≤ h23.size := Nat.le_of_eq (Wr.size W23).symm
    have K24 := K6.wr W23 (Or.inl (List.mem_of_getElem? (i := 0) rfl))
    show own_Rn p e below _ (T23.setTop (mkF m 51 #[.val (.ref x), .val (.ref sa), .val (.int (0 : Int32)), .val (.int (Int32.ofNat cs.length)), .val .null, .val (.ref tt)] []))
    refine own_go (fun tq kq => XS.aloadN X23.here hx rfl (hb hby own_d1_51) rfl rfl kq) ?_
    show own_Rn p e below _ (T23.setTop (mkF m 52 #[.val (.ref x), .val (.ref sa), .val (.int (0 : Int32)), .val (.int (Int32.ofNat cs.length)), .val .null, .val (.ref tt)] [(.ref x)]))
    refine own_go (fun tq kq => XS.aload X23.here hx rfl (hb hby own_d1_52) rfl rfl kq) ?_
    show own_Rn p e below _ (T23.setTop (mkF m 54 #[.val (.ref x), .val (.ref sa), .val (.int (0 : Int32)), .val (.int (Int32.ofNat cs.length)), .val .null, .val (.ref tt)] [(.ref tt), (.ref x)]))
    have F25 : Fld Z h23 x "java/lang/String" "value" "[B" .null := ((Pm1.keep Kq5 nin0).other W23 (Or.inr (slot_ne (Or.inr (hw _ (own_mi 31 rfl))) (Or.inr (hw _ (own_mi 29 rfl))) (by decide) (t := (.array .byte)) (t' := .byte) own_fd_5bB own_fd_B)))
    have F26 : Exa Z h23 x "java/lang/String" := (F22.wr W23)
    obtain ⟨T27, h27, X27, e27, W27, st27⟩ := putF X23 hx hZ hown (host := "") (Or.inl (hw _ (own_mi 30 rfl))) Via.refl e23 F25 F26 (Or.inr ⟨(hw _ (own_mi 31 rfl)), rfl, hnm⟩) (hw _ (own_mi 3 rfl)) (ty := (.array .byte)) own_fd_5bB rfl rfl (g := (mkF m 54 #[.val (.ref x), .val (.ref sa), .val (.int (0 : Int32)), .val (.int (Int32.ofNat cs.length)), .val .null, .val (.ref tt)] [(.ref tt), (.ref x)])) rfl rfl (hb hby own_d1_54)
    refine own_go st27 ?_
    have N27 := Fr.snoc X27 N23 Pm3
    have Fw27 := F25.same W27
    have sz28 : h23.size ≤ h27.size := Nat.le_of_eq (Wr.size W27).symm
    have K28 := K24.wr W27 (Or.inl (List.mem_of_getElem? (i := 0) rfl))
    show own_Rn p e below _ (T27.setTop (mkF m 57 #[.val (.ref x), .val (.ref sa), .val (.int (0 : Int32)), .val (.int (Int32.ofNat cs.length)), .val .null, .val (.ref tt)] []))
    have F29 : Fld Z h27 x "java/lang/String" "coder" "B" (.int (1 : Int32)) := (Fw23.other W27 (Or.inr (slot_ne (Or.inr (hw _ (own_mi 29 rfl))) (Or.inr (hw _ (own_mi 31 rfl))) (by decide) (t := .byte) (t' := (.array .byte)) own_fd_B own_fd_5bB)))
    have ne30 : tt ≠ x := own_nea (by omega)
    have F31 : Arv Z h27 tt ktt .byte (Int32.ofNat (2 * cs.length)) (own_u16 cs) (.int 0) := ((G2_5.other W23 ne30).other W27 ne30)
    exact own_ret X27 (v := none) (fun _ => rfl) (fun fs hr => X27.returnOut hx Bd.returns (hb hby own_d1_57) hr) (by rw [e27]; exact ⟨tt, ktt, (Int32.ofNat (2 * cs.length)), (own_u16 cs), (1 : Int32), rfl, N27, K28, (by omega), G1_5, Fw27, F29, F31, Or.inr ⟨rfl, rfl, rfl⟩⟩) (by decide) (by decide)
theorem own_ef_rmI1 (m : MethodId) (x : Addr) (sa : Addr) (ka : ClassId) (cs : List Int32) (dv : Value) (G1 : Int32) : entryFrame m #[(.ref x), (.ref sa)] 2 = mkF m 0 #[.val (.ref x), .val (.ref sa)] [] := by first | (simp [entryFrame, mkF, argsToLocals, Value.category]; done) | rfl
theorem own_d0_0 : decode jdk_42_method_3_code 0 = .ok (.aload_n 0, 1) := by decide +kernel
theorem own_d0_1 : decode jdk_42_method_3_code 1 = .ok (.aload_n 1, 1) := by decide +kernel
theorem own_d0_2 : decode jdk_42_method_3_code 2 = .ok (.iconst 0, 1) := by decide +kernel
theorem own_d0_3 : decode jdk_42_method_3_code 3 = .ok (.aload_n 1, 1) := by decide +kernel
theorem own_d0_4 : decode jdk_42_method_3_code 4 = .ok (.arraylength, 1) := by decide +kernel
theorem own_d0_5 : decode jdk_42_method_3_code 5 = .ok (.aconst_null, 1) := by decide +kernel
theorem own_d0_6 : decode jdk_42_method_3_code 6 = .ok (.invokespecial 27, 3) := by decide +kernel
theorem own_pd_285bCIILjava2flang2fVoid3b29V : parseMethodDescriptor "([CIILjava/lang/Void;)V" = some ⟨[(.array .char), .int, .int, (.object "java/lang/Void")], none⟩ := by decide +kernel
theorem own_d0_9 : decode jdk_42_method_3_code 9 = .ok (.return_, 1) := by decide +kernel
def Q_rmI1 (Z : State) (x : Addr) (sa : Addr) (ka : ClassId) (cs : List Int32) (dv : Value) (G1 : Int32) (h0 : Heap) (n0 : Nat) (v : Option Value) (h : Heap) (L : List Loc) : Prop := ∃ (t : Addr), ∃ (kt : ClassId), ∃ (N : Int32), ∃ (vs : List Value), ∃ (cd : Int32), v = none ∧ Fr n0 L ∧ Keep h0 h [x] ∧ h0.size ≤ t ∧ n0 ≤ t ∧ Fld Z h x "java/lang/String" "value" "[B" (.ref t) ∧ Fld Z h x "java/lang/String" "coder" "B" (.int cd) ∧ Arv Z h t kt .byte N vs (.int 0) ∧ ((cd = 0 ∧ N = (Int32.ofNat cs.length) ∧ vs = own_bs cs ∧ ∀ c ∈ cs, ¬ (255 : Int32) < c) ∨ (cd = 1 ∧ N = (Int32.ofNat (2 * cs.length)) ∧ vs = own_u16 cs))
set_option maxRecDepth 65536 in
set_option maxHeartbeats 40000000 in
theorem rmI1 (l : Launch) (Z : State) (a0 : Array Value) (hw : ∀ d ∈ tables_1, d.before a0 Z = true) (ws : List Jvm.Cond) (x : Addr) (sa : Addr) (ka : ClassId) (cs : List Int32) (dv : Value) (G1 : Int32) (h0 : Heap) (n0 : Nat) (Z0 : n0 ≤ h0.size) (Pm0 : Exa Z h0 x "java/lang/String") (Pm1 : Fld Z h0 x "java/lang/String" "value" "[B" .null) (Pm2 : Fld Z h0 x "java/lang/String" "coder" "B" (.int (0 : Int32))) (Pm3 : n0 ≤ x) (Pm4 : Arv Z h0 sa ka .char (Int32.ofNat cs.length) (cs.map Value.int) dv) (hn : (cs.length ≤ 4)) (h0n : (0 < cs.length)) (hr : (∀ c ∈ cs, ¬ c < 0 ∧ ¬ (65535 : Int32) < c)) (OAD : Sta Z Z.heap "java/lang/StringUTF16" "$assertionsDisabled" "Z" (.int (1 : Int32))) (OHI : Sta Z Z.heap "java/lang/StringUTF16" "HI_BYTE_SHIFT" "I" (.int (0 : Int32))) (OLO : Sta Z Z.heap "java/lang/StringUTF16" "LO_BYTE_SHIFT" "I" (.int (8 : Int32))) (O2 : Sta Z Z.heap "java/lang/String" "COMPACT_STRINGS" "Z" (.int G1)) (P5 : (¬ (G1 = (0 : Int32)))) (X00 : Old Z n0 h0) :
    MetFree l (⟨"java/lang/String", "<init>", "([C)V"⟩ : MethodName) (head1 (Jvm.Cond.code (⟨"java/lang/String", "<init>", "([C)V"⟩ : MethodName) jdk_42_method_3_code 2 none :: ws) ({ frames := 5, cells := 2, slots := 12, locals := 74 } : Room)) (fun a U => a = #[(.ref x), (.ref sa)] ∧ Z.Warmed39 U.vm ∧ U.heap = h0) (fun _ _ _ _ _ => True) (fun _ U o U' => ∃ v L, o = .returned v ∧ Q_rmI1 Z x sa ka cs dv G1 h0 n0 v U'.heap L ∧ FrameEnd U o U' L ({ frames := 5, cells := 2, slots := 12, locals := 74 } : Room).cells ({ frames := 5, cells := 2, slots := 12, locals := 74 } : Room).slots) := by
  refine MetFree.of_bodySF (plainFor_of_name own_pn_java_lang_String) hisR ?_
  intro p e s m args below meth c s₁ Bd hml0 hP hK
  obtain ⟨rfl, hZ, hh⟩ := hP
  have hx := Bd.exec
  have hby := Bd.bytes
  have hml : c.maxLocals = 2 := hml0
  have hown : s.vm.findClass "java/lang/String" = some m.cls := findClass_of_methodNamed Bd.named
  have hnm := (name_of_methodNamed Bd.named Bd.method).1
  have X0 : Stand p l e ({ frames := 5, cells := 2, slots := 12, locals := 74 } : Room) s m #[(.ref x), (.ref sa)] below meth c s₁ [] 0 0 := Stand.of_body Bd
  have e0 : s₁.heap = h0 := by rw [← hh, Bd.state]; rfl
  have N0 := Fr.nil n0
  have K0 : Keep h0 h0 [x] := Keep.refl _ _
  refine own_go (S' := s₁.setTop (mkF m 0 #[.val (.ref x), .val (.ref sa)] [])) (fun tq kq => castTop (own_ef_rmI1 m x sa ka cs dv G1) kq) ?_
  have lt1 : @LT.lt Nat _ x h0.size := Pm0.lt
  have lt2 : @LT.lt Nat _ sa h0.size := Pm4.lt
  refine own_go (fun tq kq => XS.aloadN X0.here hx rfl (hb hby own_d0_0) rfl rfl kq) ?_
  show own_Rn p e below _ (s₁.setTop (mkF m 1 #[.val (.ref x), .val (.ref sa)] [(.ref x)]))
  refine own_go (fun tq kq => XS.aloadN X0.here hx rfl (hb hby own_d0_1) rfl rfl kq) ?_
  show own_Rn p e below _ (s₁.setTop (mkF m 2 #[.val (.ref x), .val (.ref sa)] [(.ref sa), (.ref x)]))
  refine own_go (fun tq kq => XS.iconst X0.here hx rfl (hb hby own_d0_2) kq) ?_
  show own_Rn p e below _ (s₁.setTop (mkF m 3 #[.val (.ref x), .val (.ref sa)] [(.int (0 : Int32)), (.ref sa), (.ref x)]))
  refine own_go (fun tq kq => XS.aloadN X0.here hx rfl (hb hby own_d0_3) rfl rfl kq) ?_
  show own_Rn p e below _ (s₁.setTop (mkF m 4 #[.val (.ref x), .val (.ref sa)] [(.ref sa), (.int (0 : Int32)), (.ref sa), (.ref x)]))
  obtain ⟨cl3, Ar3, -, Sz3, Nn3, -, -⟩ := id Pm4
  refine own_go (fun tq kq => X0.arraylength hx (cell := cl3) (by rw [e0]; exact Ar3.1) (State.isArrayOf_alike hZ.alike Ar3.2.1) (g := (mkF m 4 #[.val (.ref x), .val (.ref sa)] [(.ref sa), (.int (0 : Int32)), (.ref sa), (.ref x)])) rfl rfl (hb hby own_d0_4) tq kq) ?_
  rw [len_of Sz3 Nn3]
  show own_Rn p e below _ (s₁.setTop (mkF m 5 #[.val (.ref x), .val (.ref sa)] [(.int (Int32.ofNat cs.length)), (.int (0 : Int32)), (.ref sa), (.ref x)]))
  refine own_go (fun tq kq => XS.aconstNull X0.here hx rfl (hb hby own_d0_5) kq) ?_
  show own_Rn p e below _ (s₁.setTop (mkF m 6 #[.val (.ref x), .val (.ref sa)] [.null, (.int (Int32.ofNat cs.length)), (.int (0 : Int32)), (.ref sa), (.ref x)]))
  have Zn4 : n0 ≤ h0.size := by omega
  obtain ⟨rv4, _, ⟨T4, L4, k4, n4⟩, -, X4, ⟨Lc4, hQ4, l4, y4, z4⟩, st4⟩ := X0.specialBack hx (y := (⟨"java/lang/String", "<init>", "([CIILjava/lang/Void;)V"⟩ : MethodName)) rfl hown (mvT hZ (hw _ (own_mi 9 rfl))) (mvT hZ (hw _ (own_mi 10 rfl))) (mvT hZ (hw _ (own_mi 12 rfl))) (by decide) (backOf (W := 0) (rmI4 l Z a0 hw [] (x) (sa) (ka) (cs) (dv) (G1) h0 n0 Zn4 Pm0 Pm1 Pm2 Pm3 Pm4 (hn) (h0n) (hr) (OAD) (OHI) (OLO) (O2) (P5) X00) hZ (hw _ (own_mi 12 rfl)) (hw _ (own_mi 4 rfl)) (by decide) (by decide)) (g := (mkF m 6 #[.val (.ref x), .val (.ref sa)] [.null, (.int (Int32.ofNat cs.length)), (.int (0 : Int32)), (.ref sa), (.ref x)])) rfl (by rw [hml]; rfl) (Steps.refl _) (a := x) (argsL := [(.ref sa), (.int (0 : Int32)), (.int (Int32.ofNat cs.length)), .null]) (rest := []) (lenOf own_pd_285bCIILjava2flang2fVoid3b29V rfl) rfl (by show 2 * 0 + _ ≤ _; exact Nat.le_of_eq rfl) (hb hby own_d0_6) (fun _ _ => ⟨rfl, e0, (by decide : 0 + 2 ≤ _), (by decide : 0 + 12 ≤ _)⟩)
  dsimp only [Pt.U, Pt.locs, Pt.cells, Pt.slots] at X4 l4 y4 z4 st4 hQ4
  subst l4 y4 z4
  obtain ⟨tt, ktt, NN, vv, cc, rfl, Nq4, Kq4, G0_4, G1_4, G2_4, G3_4, G4_4, RL_4⟩ := hQ4
  have N4 := Fr.app N0 Nq4
  have sz5 : h0.size ≤ T4.heap.size := Kq4.1
  have K5 := K0.trans Kq4 (allS (Or.inl (List.mem_of_getElem? (i := 0) rfl)) all0)
  have lt6 : @LT.lt Nat _ tt T4.heap.size := G4_4.lt
  refine own_go (fun tq kq => st4.trans kq) ?_
  show own_Rn p e below _ (T4.setTop (mkF m 9 #[.val (.ref x), .val (.ref sa)] []))
  exact own_ret X4 (v := none) (fun _ => rfl) (fun fs hr => X4.returnOut hx Bd.returns (hb hby own_d0_9) hr) (⟨tt, ktt, NN, vv, cc, rfl, N4, K5, (by omega), G1_4, G2_4, G3_4, G4_4, RL_4⟩) (by decide) (by decide)
theorem own_ef_rmCan (m : MethodId) (ch : Int32) : entryFrame m #[(.int ch)] 1 = mkF m 0 #[.val (.int ch)] [] := by first | (simp [entryFrame, mkF, argsToLocals, Value.category]; done) | rfl
theorem own_pn_java_lang_StringLatin1 : plainName "java/lang/StringLatin1" = true := by first | (simp [plainName, overriddenIn]; done) | decide +kernel
theorem own_d10_0 : decode jdk_43_method_3_code 0 = .ok (.iload_n 0, 1) := by decide +kernel
theorem own_d10_1 : decode jdk_43_method_3_code 1 = .ok (.sipush 255, 3) := by decide +kernel
theorem own_d10_4 : decode jdk_43_method_3_code 4 = .ok (.if_icmp .gt 7, 3) := by decide +kernel
theorem own_d10_7 : decode jdk_43_method_3_code 7 = .ok (.iconst 1, 1) := by decide +kernel
theorem own_d10_8 : decode jdk_43_method_3_code 8 = .ok (.goto 4, 3) := by decide +kernel
theorem own_d10_12 : decode jdk_43_method_3_code 12 = .ok (.ireturn, 1) := by decide +kernel
def Q_rmCan (Z : State) (ch : Int32) (h0 : Heap) (n0 : Nat) (v : Option Value) (h : Heap) (L : List Loc) : Prop := v = some (.int (1 : Int32)) ∧ Fr n0 L ∧ h = h0
set_option maxRecDepth 65536 in
set_option maxHeartbeats 40000000 in
theorem rmCan (l : Launch) (Z : State) (a0 : Array Value) (hw : ∀ d ∈ tables_1, d.before a0 Z = true) (ws : List Jvm.Cond) (ch : Int32) (h0 : Heap) (n0 : Nat) (Z0 : n0 ≤ h0.size) (hR : (¬ ch < 0 ∧ ¬ (255 : Int32) < ch)) :
    MetFree l (⟨"java/lang/StringLatin1", "canEncode", "(C)Z"⟩ : MethodName) (head1 (Jvm.Cond.code (⟨"java/lang/StringLatin1", "canEncode", "(C)Z"⟩ : MethodName) jdk_43_method_3_code 1 (some .boolean) :: ws) ({ frames := 0, cells := 0, slots := 0, locals := 0 } : Room)) (fun a U => a = #[(.int ch)] ∧ Z.Warmed39 U.vm ∧ U.heap = h0) (fun _ _ _ _ _ => True) (fun _ U o U' => ∃ v L, o = .returned v ∧ Q_rmCan Z ch h0 n0 v U'.heap L ∧ FrameEnd U o U' L ({ frames := 0, cells := 0, slots := 0, locals := 0 } : Room).cells ({ frames := 0, cells := 0, slots := 0, locals := 0 } : Room).slots) := by
  refine MetFree.of_bodySF (plainFor_of_name own_pn_java_lang_StringLatin1) hisR ?_
  intro p e s m args below meth c s₁ Bd hml0 hP hK
  obtain ⟨rfl, hZ, hh⟩ := hP
  have hx := Bd.exec
  have hby := Bd.bytes
  have hml : c.maxLocals = 1 := hml0
  have hown : s.vm.findClass "java/lang/StringLatin1" = some m.cls := findClass_of_methodNamed Bd.named
  have hnm := (name_of_methodNamed Bd.named Bd.method).1
  have X0 : Stand p l e ({ frames := 0, cells := 0, slots := 0, locals := 0 } : Room) s m #[(.int ch)] below meth c s₁ [] 0 0 := Stand.of_body Bd
  have e0 : s₁.heap = h0 := by rw [← hh, Bd.state]; rfl
  have N0 := Fr.nil n0
  have K0 : Keep h0 h0 [] := Keep.refl _ _
  refine own_go (S' := s₁.setTop (mkF m 0 #[.val (.int ch)] [])) (fun tq kq => castTop (own_ef_rmCan m ch) kq) ?_
  refine own_go (fun tq kq => XS.iloadN X0.here hx rfl (hb hby own_d10_0) rfl kq) ?_
  show own_Rn p e below _ (s₁.setTop (mkF m 1 #[.val (.int ch)] [(.int ch)]))
  refine own_go (fun tq kq => XS.sipush X0.here hx rfl (hb hby own_d10_1) kq) ?_
  show own_Rn p e below _ (s₁.setTop (mkF m 4 #[.val (.int ch)] [(.int (255 : Int32)), (.int ch)]))
  refine own_go (fun tq kq => XS.icmpNo X0.here hx rfl (hb hby own_d10_4) rfl (flt (hR.2 : ¬ ((255 : Int32) < ch))).2.2.1 kq) ?_
  show own_Rn p e below _ (s₁.setTop (mkF m 7 #[.val (.int ch)] []))
  refine own_go (fun tq kq => XS.iconst X0.here hx rfl (hb hby own_d10_7) kq) ?_
  show own_Rn p e below _ (s₁.setTop (mkF m 8 #[.val (.int ch)] [(.int (1 : Int32))]))
  refine own_go (fun tq kq => XS.goto X0.here hx rfl (pc0 := 8) (pc' := 12) rfl (hb hby own_d10_8) (by decide) (by decide) kq) ?_
  show own_Rn p e below _ (s₁.setTop (mkF m 12 #[.val (.int ch)] [(.int (1 : Int32))]))
  exact own_ret X0 (v := some (.int (nar .boolean (1 : Int32)))) (fun h => by rw [Bd.returns] at h; cases h) (fun fs hr => retN X0 hx (t := .boolean) Bd.returns (by simp) (hb hby own_d10_12) hr) (by rw [e0]; exact ⟨rfl, N0, rfl⟩) (by decide) (by decide)
theorem own_ef_rmToB (m : MethodId) (ch : Int32) : entryFrame m #[(.int ch)] 1 = mkF m 0 #[.val (.int ch)] [] := by first | (simp [entryFrame, mkF, argsToLocals, Value.category]; done) | rfl
theorem own_d11_0 : decode jdk_43_method_46_code 0 = .ok (.iconst 1, 1) := by decide +kernel
theorem own_d11_1 : decode jdk_43_method_46_code 1 = .ok (.newarray .byte, 2) := by decide +kernel
theorem own_d11_3 : decode jdk_43_method_46_code 3 = .ok (.dup, 1) := by decide +kernel
theorem own_d11_4 : decode jdk_43_method_46_code 4 = .ok (.iconst 0, 1) := by decide +kernel
theorem own_d11_5 : decode jdk_43_method_46_code 5 = .ok (.iload_n 0, 1) := by decide +kernel
theorem own_d11_6 : decode jdk_43_method_46_code 6 = .ok (.i2b, 1) := by decide +kernel
theorem own_d11_7 : decode jdk_43_method_46_code 7 = .ok (.bastore, 1) := by decide +kernel
theorem own_d11_8 : decode jdk_43_method_46_code 8 = .ok (.areturn, 1) := by decide +kernel
def Q_rmToB (Z : State) (ch : Int32) (h0 : Heap) (n0 : Nat) (v : Option Value) (h : Heap) (L : List Loc) : Prop := ∃ (t : Addr), ∃ (kb : ClassId), v = some (.ref t) ∧ Fr n0 L ∧ Keep h0 h [] ∧ h0.size ≤ t ∧ n0 ≤ t ∧ Arv Z h t kb .byte (1 : Int32) [(.int (ch.toInt8.toInt32))] (.int (0 : Int32))
set_option maxRecDepth 65536 in
set_option maxHeartbeats 40000000 in
theorem rmToB (l : Launch) (Z : State) (a0 : Array Value) (hw : ∀ d ∈ tables_1, d.before a0 Z = true) (ws : List Jvm.Cond) (ch : Int32) (h0 : Heap) (n0 : Nat) (Z0 : n0 ≤ h0.size)  :
    MetFree l (⟨"java/lang/StringLatin1", "toBytes", "(C)[B"⟩ : MethodName) (head1 (Jvm.Cond.code (⟨"java/lang/StringLatin1", "toBytes", "(C)[B"⟩ : MethodName) jdk_43_method_46_code 1 (some (.array .byte)) :: ws) ({ frames := 0, cells := 1, slots := 1, locals := 0 } : Room)) (fun a U => a = #[(.int ch)] ∧ Z.Warmed39 U.vm ∧ U.heap = h0) (fun _ _ _ _ _ => True) (fun _ U o U' => ∃ v L, o = .returned v ∧ Q_rmToB Z ch h0 n0 v U'.heap L ∧ FrameEnd U o U' L ({ frames := 0, cells := 1, slots := 1, locals := 0 } : Room).cells ({ frames := 0, cells := 1, slots := 1, locals := 0 } : Room).slots) := by
  refine MetFree.of_bodySF (plainFor_of_name own_pn_java_lang_StringLatin1) hisR ?_
  intro p e s m args below meth c s₁ Bd hml0 hP hK
  obtain ⟨rfl, hZ, hh⟩ := hP
  have hx := Bd.exec
  have hby := Bd.bytes
  have hml : c.maxLocals = 1 := hml0
  have hown : s.vm.findClass "java/lang/StringLatin1" = some m.cls := findClass_of_methodNamed Bd.named
  have hnm := (name_of_methodNamed Bd.named Bd.method).1
  have X0 : Stand p l e ({ frames := 0, cells := 1, slots := 1, locals := 0 } : Room) s m #[(.int ch)] below meth c s₁ [] 0 0 := Stand.of_body Bd
  have e0 : s₁.heap = h0 := by rw [← hh, Bd.state]; rfl
  have N0 := Fr.nil n0
  have K0 : Keep h0 h0 [] := Keep.refl _ _
  refine own_go (S' := s₁.setTop (mkF m 0 #[.val (.int ch)] [])) (fun tq kq => castTop (own_ef_rmToB m ch) kq) ?_
  refine own_go (fun tq kq => XS.iconst X0.here hx rfl (hb hby own_d11_0) kq) ?_
  show own_Rn p e below _ (s₁.setTop (mkF m 1 #[.val (.int ch)] [(.int (1 : Int32))]))
  obtain ⟨T2, h2, k2, X2, e2, E2, A2, st2⟩ := newP X0 hx hZ (hw _ (own_mi 21 rfl)) e0 (g := (mkF m 1 #[.val (.int ch)] [(.int (1 : Int32))])) rfl (hb hby own_d11_1) rfl (by decide) (cap := 1) (by decide) (by decide) (by decide) (by decide)
  obtain ⟨b2, g2⟩ : ∃ z, z = h0.size := ⟨_, rfl⟩
  rw [← g2] at A2 st2
  refine own_go st2 ?_
  have sz3 : h0.size ≤ h2.size := E2.1
  have K3 := K0.ext E2
  have gn2 : n0 ≤ b2 := by omega
  have V2 : Arv Z h2 b2 k2 .byte (1 : Int32) [(.int (0 : Int32))] (.int (0 : Int32)) := (Arv.new A2 (by decide)).pad (pad_rep [] _ 1)
  have lt4 : @LT.lt Nat _ b2 h2.size := V2.lt
  show own_Rn p e below _ (T2.setTop (mkF m 3 #[.val (.int ch)] [(.ref b2)]))
  refine own_go (fun tq kq => XS.dup X2.here hx rfl (hb hby own_d11_3) rfl rfl kq) ?_
  show own_Rn p e below _ (T2.setTop (mkF m 4 #[.val (.int ch)] [(.ref b2), (.ref b2)]))
  refine own_go (fun tq kq => XS.iconst X2.here hx rfl (hb hby own_d11_4) kq) ?_
  show own_Rn p e below _ (T2.setTop (mkF m 5 #[.val (.int ch)] [(.int (0 : Int32)), (.ref b2), (.ref b2)]))
  refine own_go (fun tq kq => XS.iloadN X2.here hx rfl (hb hby own_d11_5) rfl kq) ?_
  show own_Rn p e below _ (T2.setTop (mkF m 6 #[.val (.int ch)] [(.int ch), (.int (0 : Int32)), (.ref b2), (.ref b2)]))
  refine own_go (fun tq kq => XS.i2b X2.here hx rfl (hb hby own_d11_6) rfl kq) ?_
  show own_Rn p e below _ (T2.setTop (mkF m 7 #[.val (.int ch)] [(.int (ch.toInt8.toInt32)), (.int (0 : Int32)), (.ref b2), (.ref b2)]))
  obtain ⟨cl5, Ar5, q5, Sz5, Nn5, Hs5, G5⟩ := id V2
  obtain ⟨T5, h5, X5, e5, W5, st5⟩ := stB X2 hx hZ e2 Ar5 (j := (0 : Int32)) (inb_of Sz5 ⟨by decide, by decide⟩) (g := (mkF m 7 #[.val (.int ch)] [(.int (ch.toInt8.toInt32)), (.int (0 : Int32)), (.ref b2), (.ref b2)])) rfl rfl (hb hby own_d11_7)
  refine own_go st5 ?_
  have V5 : Arv Z h5 b2 k2 .byte (1 : Int32) [(.int (nar .byte (ch.toInt8.toInt32)))] (.int (0 : Int32)) := Arv.set Ar5 q5 Sz5 Nn5 Hs5 G5 (own_fits_byte _) W5 0 rfl (Nat.le_of_ble_eq_true rfl)
  have N5 := Fr.snoc X5 N0 gn2
  have sz6 : h2.size ≤ h5.size := Nat.le_of_eq (Wr.size W5).symm
  have K6 := K3.wr W5 (Or.inr (by omega))
  show own_Rn p e below _ (T5.setTop (mkF m 8 #[.val (.int ch)] [(.ref b2)]))
  rw [own_narB] at V5
  exact own_ret X5 (v := some (.ref b2)) (fun h => by rw [Bd.returns] at h; cases h) (fun fs hr => X5.areturnOut hx rfl Bd.returns rfl (hb hby own_d11_8) hr) (by rw [e5]; exact ⟨b2, k2, rfl, N5, K6, (by omega), gn2, V5⟩) (by decide) (by decide)
theorem own_ef_rmSBB (m : MethodId) (x : Addr) (t : Addr) : entryFrame m #[(.ref x), (.ref t), (.int (0 : Int32))] 3 = mkF m 0 #[.val (.ref x), .val (.ref t), .val (.int (0 : Int32))] [] := by first | (simp [entryFrame, mkF, argsToLocals, Value.category]; done) | rfl
theorem own_d12_0 : decode jdk_42_method_151_code 0 = .ok (.aload_n 0, 1) := by decide +kernel
theorem own_d12_1 : decode jdk_42_method_151_code 1 = .ok (.invokespecial 1, 3) := by decide +kernel
theorem own_d12_4 : decode jdk_42_method_151_code 4 = .ok (.aload_n 0, 1) := by decide +kernel
theorem own_d12_5 : decode jdk_42_method_151_code 5 = .ok (.aload_n 1, 1) := by decide +kernel
theorem own_d12_6 : decode jdk_42_method_151_code 6 = .ok (.putfield 9, 3) := by decide +kernel
theorem own_d12_9 : decode jdk_42_method_151_code 9 = .ok (.aload_n 0, 1) := by decide +kernel
theorem own_d12_10 : decode jdk_42_method_151_code 10 = .ok (.iload_n 2, 1) := by decide +kernel
theorem own_d12_11 : decode jdk_42_method_151_code 11 = .ok (.putfield 15, 3) := by decide +kernel
theorem own_d12_14 : decode jdk_42_method_151_code 14 = .ok (.return_, 1) := by decide +kernel
def Q_rmSBB (Z : State) (x : Addr) (t : Addr) (h0 : Heap) (n0 : Nat) (v : Option Value) (h : Heap) (L : List Loc) : Prop := v = none ∧ Fr n0 L ∧ Keep h0 h [x] ∧ Fld Z h x "java/lang/String" "value" "[B" (.ref t) ∧ Fld Z h x "java/lang/String" "coder" "B" (.int (0 : Int32))
set_option maxRecDepth 65536 in
set_option maxHeartbeats 40000000 in
theorem rmSBB (l : Launch) (Z : State) (a0 : Array Value) (hw : ∀ d ∈ tables_1, d.before a0 Z = true) (ws : List Jvm.Cond) (x : Addr) (t : Addr) (h0 : Heap) (n0 : Nat) (Z0 : n0 ≤ h0.size) (Pm0 : Exa Z h0 x "java/lang/String") (Pm1 : Fld Z h0 x "java/lang/String" "value" "[B" .null) (Pm2 : Fld Z h0 x "java/lang/String" "coder" "B" (.int (0 : Int32))) (Pm3 : n0 ≤ x) :
    MetFree l (⟨"java/lang/String", "<init>", "([BB)V"⟩ : MethodName) (head1 (Jvm.Cond.code (⟨"java/lang/String", "<init>", "([BB)V"⟩ : MethodName) jdk_42_method_151_code 3 none :: ws) ({ frames := 1, cells := 0, slots := 0, locals := 12 } : Room)) (fun a U => a = #[(.ref x), (.ref t), (.int (0 : Int32))] ∧ Z.Warmed39 U.vm ∧ U.heap = h0) (fun _ _ _ _ _ => True) (fun _ U o U' => ∃ v L, o = .returned v ∧ Q_rmSBB Z x t h0 n0 v U'.heap L ∧ FrameEnd U o U' L ({ frames := 1, cells := 0, slots := 0, locals := 12 } : Room).cells ({ frames := 1, cells := 0, slots := 0, locals := 12 } : Room).slots) := by
  refine MetFree.of_bodySF (plainFor_of_name own_pn_java_lang_String) hisR ?_
  intro p e s m args below meth c s₁ Bd hml0 hP hK
  obtain ⟨rfl, hZ, hh⟩ := hP
  have hx := Bd.exec
  have hby := Bd.bytes
  have hml : c.maxLocals = 3 := hml0
  have hown : s.vm.findClass "java/lang/String" = some m.cls := findClass_of_methodNamed Bd.named
  have hnm := (name_of_methodNamed Bd.named Bd.method).1
  have X0 : Stand p l e ({ frames := 1, cells := 0, slots := 0, locals := 12 } : Room) s m #[(.ref x), (.ref t), (.int (0 : Int32))] below meth c s₁ [] 0 0 := Stand.of_body Bd
  have e0 : s₁.heap = h0 := by rw [← hh, Bd.state]; rfl
  have N0 := Fr.nil n0
  have K0 : Keep h0 h0 [x] := Keep.refl _ _
  refine own_go (S' := s₁.setTop (mkF m 0 #[.val (.ref x), .val (.ref t), .val (.int (0 : Int32))] [])) (fun tq kq => castTop (own_ef_rmSBB m x t) kq) ?_
  have lt1 : @LT.lt Nat _ x h0.size := Pm0.lt
  refine own_go (fun tq kq => XS.aloadN X0.here hx rfl (hb hby own_d12_0) rfl rfl kq) ?_
  show own_Rn p e below _ (s₁.setTop (mkF m 1 #[.val (.ref x), .val (.ref t), .val (.int (0 : Int32))] [(.ref x)]))
  obtain ⟨T2, X2, e2, st2⟩ := initO X0 hx hZ hown (hw _ (own_mi 13 rfl)) (hw _ (own_mi 14 rfl)) (hw _ (own_mi 15 rfl)) e0 (g := (mkF m 1 #[.val (.ref x), .val (.ref t), .val (.int (0 : Int32))] [(.ref x)])) rfl (by rw [hml]; rfl) rfl (hb hby own_d12_1) (by decide) (W := 0) (by show 2 * 0 + _ ≤ _; exact Nat.le_of_eq rfl) (by decide)
  refine own_go st2 ?_
  show own_Rn p e below _ (T2.setTop (mkF m 4 #[.val (.ref x), .val (.ref t), .val (.int (0 : Int32))] []))
  refine own_go (fun tq kq => XS.aloadN X2.here hx rfl (hb hby own_d12_4) rfl rfl kq) ?_
  show own_Rn p e below _ (T2.setTop (mkF m 5 #[.val (.ref x), .val (.ref t), .val (.int (0 : Int32))] [(.ref x)]))
  refine own_go (fun tq kq => XS.aloadN X2.here hx rfl (hb hby own_d12_5) rfl rfl kq) ?_
  show own_Rn p e below _ (T2.setTop (mkF m 6 #[.val (.ref x), .val (.ref t), .val (.int (0 : Int32))] [(.ref t), (.ref x)]))
  obtain ⟨T3, h3, X3, e3, W3, st3⟩ := putF X2 hx hZ hown (host := "") (Or.inl (hw _ (own_mi 30 rfl))) Via.refl e2 Pm1 Pm0 (Or.inr ⟨(hw _ (own_mi 31 rfl)), rfl, hnm⟩) (hw _ (own_mi 3 rfl)) (ty := (.array .byte)) own_fd_5bB rfl rfl (g := (mkF m 6 #[.val (.ref x), .val (.ref t), .val (.int (0 : Int32))] [(.ref t), (.ref x)])) rfl rfl (hb hby own_d12_6)
  refine own_go st3 ?_
  have N3 := Fr.snoc X3 N0 Pm3
  have Fw3 := Pm1.same W3
  have sz4 : h0.size ≤ h3.size := Nat.le_of_eq (Wr.size W3).symm
  have K4 := K0.wr W3 (Or.inl (List.mem_of_getElem? (i := 0) rfl))
  show own_Rn p e below _ (T3.setTop (mkF m 9 #[.val (.ref x), .val (.ref t), .val (.int (0 : Int32))] []))
  refine own_go (fun tq kq => XS.aloadN X3.here hx rfl (hb hby own_d12_9) rfl rfl kq) ?_
  show own_Rn p e below _ (T3.setTop (mkF m 10 #[.val (.ref x), .val (.ref t), .val (.int (0 : Int32))] [(.ref x)]))
  refine own_go (fun tq kq => XS.iloadN X3.here hx rfl (hb hby own_d12_10) rfl kq) ?_
  show own_Rn p e below _ (T3.setTop (mkF m 11 #[.val (.ref x), .val (.ref t), .val (.int (0 : Int32))] [(.int (0 : Int32)), (.ref x)]))
  have F5 : Fld Z h3 x "java/lang/String" "coder" "B" (.int (0 : Int32)) := (Pm2.other W3 (Or.inr (slot_ne (Or.inr (hw _ (own_mi 29 rfl))) (Or.inr (hw _ (own_mi 31 rfl))) (by decide) (t := .byte) (t' := (.array .byte)) own_fd_B own_fd_5bB)))
  have F6 : Exa Z h3 x "java/lang/String" := (Pm0.wr W3)
  obtain ⟨T7, h7, X7, e7, W7, st7⟩ := putFN X3 hx hZ hown (hw _ (own_mi 28 rfl)) Via.refl e3 F5 F6 (Or.inr ⟨(hw _ (own_mi 29 rfl)), rfl, hnm⟩) (hw _ (own_mi 3 rfl)) (ty := .byte) (v' := (.int ((0 : Int32)))) own_fd_B rfl (by decide) (g := (mkF m 11 #[.val (.ref x), .val (.ref t), .val (.int (0 : Int32))] [(.int (0 : Int32)), (.ref x)])) rfl rfl (hb hby own_d12_11)
  refine own_go st7 ?_
  have N7 := Fr.snoc X7 N3 Pm3
  have Fw7 := F5.same W7
  have sz8 : h3.size ≤ h7.size := Nat.le_of_eq (Wr.size W7).symm
  have K8 := K4.wr W7 (Or.inl (List.mem_of_getElem? (i := 0) rfl))
  show own_Rn p e below _ (T7.setTop (mkF m 14 #[.val (.ref x), .val (.ref t), .val (.int (0 : Int32))] []))
  have F9 : Fld Z h7 x "java/lang/String" "value" "[B" (.ref t) := (Fw3.other W7 (Or.inr (slot_ne (Or.inr (hw _ (own_mi 31 rfl))) (Or.inr (hw _ (own_mi 29 rfl))) (by decide) (t := (.array .byte)) (t' := .byte) own_fd_5bB own_fd_B)))
  exact own_ret X7 (v := none) (fun _ => rfl) (fun fs hr => X7.returnOut hx Bd.returns (hb hby own_d12_14) hr) (by rw [e7]; exact ⟨rfl, N7, K8, F9, Fw7⟩) (by decide) (by decide)
theorem own_ef_rmVal (m : MethodId) (ch : Int32) (G1 : Int32) : entryFrame m #[(.int ch)] 1 = mkF m 0 #[.val (.int ch)] [] := by first | (simp [entryFrame, mkF, argsToLocals, Value.category]; done) | rfl
theorem own_d9_0 : decode jdk_42_method_139_code 0 = .ok (.getstatic 38, 3) := by decide +kernel
theorem own_d9_3 : decode jdk_42_method_139_code 3 = .ok (.ifCond .eq 23, 3) := by decide +kernel
theorem own_d9_6 : decode jdk_42_method_139_code 6 = .ok (.iload_n 0, 1) := by decide +kernel
theorem own_d9_7 : decode jdk_42_method_139_code 7 = .ok (.invokestatic 1015, 3) := by decide +kernel
theorem own_pd_28C29Z : parseMethodDescriptor "(C)Z" = some ⟨[.char], some .boolean⟩ := by decide +kernel
theorem own_d9_10 : decode jdk_42_method_139_code 10 = .ok (.ifCond .eq 16, 3) := by decide +kernel
theorem own_d9_13 : decode jdk_42_method_139_code 13 = .ok (.new 10, 3) := by decide +kernel
theorem own_d9_16 : decode jdk_42_method_139_code 16 = .ok (.dup, 1) := by decide +kernel
theorem own_d9_17 : decode jdk_42_method_139_code 17 = .ok (.iload_n 0, 1) := by decide +kernel
theorem own_d9_18 : decode jdk_42_method_139_code 18 = .ok (.invokestatic 1018, 3) := by decide +kernel
theorem own_pd_28C295bB : parseMethodDescriptor "(C)[B" = some ⟨[.char], some (.array .byte)⟩ := by decide +kernel
theorem own_d9_21 : decode jdk_42_method_139_code 21 = .ok (.iconst 0, 1) := by decide +kernel
theorem own_d9_22 : decode jdk_42_method_139_code 22 = .ok (.invokespecial 209, 3) := by decide +kernel
theorem own_pd_285bBB29V : parseMethodDescriptor "([BB)V" = some ⟨[(.array .byte), .byte], none⟩ := by decide +kernel
theorem own_d9_25 : decode jdk_42_method_139_code 25 = .ok (.areturn, 1) := by decide +kernel
def Q_rmVal (Z : State) (ch : Int32) (G1 : Int32) (h0 : Heap) (n0 : Nat) (v : Option Value) (h : Heap) (L : List Loc) : Prop := ∃ (x : Addr), ∃ (t : Addr), ∃ (kb : ClassId), v = some (.ref x) ∧ Fr n0 L ∧ Keep h0 h [] ∧ h0.size ≤ x ∧ h0.size ≤ t ∧ n0 ≤ x ∧ n0 ≤ t ∧ Exa Z h x "java/lang/String" ∧ Fld Z h x "java/lang/String" "value" "[B" (.ref t) ∧ Fld Z h x "java/lang/String" "coder" "B" (.int (0 : Int32)) ∧ Arv Z h t kb .byte (1 : Int32) ((([ch] : List Int32).map (fun c => c.toInt8.toInt32)).map Value.int) (.int 0)
set_option maxRecDepth 65536 in
set_option maxHeartbeats 40000000 in
theorem rmVal (l : Launch) (Z : State) (a0 : Array Value) (hw : ∀ d ∈ tables_1, d.before a0 Z = true) (ws : List Jvm.Cond) (ch : Int32) (G1 : Int32) (h0 : Heap) (n0 : Nat) (Z0 : n0 ≤ h0.size) (hR : (¬ ch < 0 ∧ ¬ (255 : Int32) < ch)) (O2 : Sta Z Z.heap "java/lang/String" "COMPACT_STRINGS" "Z" (.int G1)) (P5 : (¬ (G1 = (0 : Int32)))) (X00 : Old Z n0 h0) :
    MetFree l (⟨"java/lang/String", "valueOf", "(C)Ljava/lang/String;"⟩ : MethodName) (head1 (Jvm.Cond.code (⟨"java/lang/String", "valueOf", "(C)Ljava/lang/String;"⟩ : MethodName) jdk_42_method_139_code 1 (some (.object "java/lang/String")) :: ws) ({ frames := 2, cells := 2, slots := 5, locals := 27 } : Room)) (fun a U => a = #[(.int ch)] ∧ Z.Warmed39 U.vm ∧ U.heap = h0) (fun _ _ _ _ _ => True) (fun _ U o U' => ∃ v L, o = .returned v ∧ Q_rmVal Z ch G1 h0 n0 v U'.heap L ∧ FrameEnd U o U' L ({ frames := 2, cells := 2, slots := 5, locals := 27 } : Room).cells ({ frames := 2, cells := 2, slots := 5, locals := 27 } : Room).slots) := by
  refine MetFree.of_bodySF (plainFor_of_name own_pn_java_lang_String) hisR ?_
  intro p e s m args below meth c s₁ Bd hml0 hP hK
  obtain ⟨rfl, hZ, hh⟩ := hP
  have hx := Bd.exec
  have hby := Bd.bytes
  have hml : c.maxLocals = 1 := hml0
  have hown : s.vm.findClass "java/lang/String" = some m.cls := findClass_of_methodNamed Bd.named
  have hnm := (name_of_methodNamed Bd.named Bd.method).1
  have X0 : Stand p l e ({ frames := 2, cells := 2, slots := 5, locals := 27 } : Room) s m #[(.int ch)] below meth c s₁ [] 0 0 := Stand.of_body Bd
  have e0 : s₁.heap = h0 := by rw [← hh, Bd.state]; rfl
  have N0 := Fr.nil n0
  have K0 : Keep h0 h0 [] := Keep.refl _ _
  refine own_go (S' := s₁.setTop (mkF m 0 #[.val (.int ch)] [])) (fun tq kq => castTop (own_ef_rmVal m ch G1) kq) ?_
  obtain ⟨T1, X1, e1, st1⟩ := getS2 X0 hx hZ hown (host := "") (Or.inl (hw _ (own_mi 16 rfl))) Via.refl e0 (O2.ext X00.2) (g := (mkF m 0 #[.val (.int ch)] [])) rfl (hb hby own_d9_0)
  refine own_go st1 ?_
  show own_Rn p e below _ (T1.setTop (mkF m 3 #[.val (.int ch)] [(.int G1)]))
  refine own_go (fun tq kq => XS.ifNo X1.here hx rfl (hb hby own_d9_3) rfl ((if0 _ _).trans (feq (P5 : ¬ (G1 = (0 : Int32)))).1) kq) ?_
  show own_Rn p e below _ (T1.setTop (mkF m 6 #[.val (.int ch)] []))
  refine own_go (fun tq kq => XS.iloadN X1.here hx rfl (hb hby own_d9_6) rfl kq) ?_
  show own_Rn p e below _ (T1.setTop (mkF m 7 #[.val (.int ch)] [(.int ch)]))
  have Zn2 : n0 ≤ h0.size := by omega
  obtain ⟨rv2, _, ⟨T2, L2, k2, n2⟩, -, X2, ⟨Lc2, hQ2, l2, y2, z2⟩, st2⟩ := Jvm.LawKit.callS X1 hx (y := (⟨"java/lang/StringLatin1", "canEncode", "(C)Z"⟩ : MethodName)) hown (mvT hZ (hw _ (own_mi 47 rfl))) (mvT hZ (hw _ (own_mi 48 rfl))) (mvT hZ (hw _ (own_mi 49 rfl))) (mvT hZ (hw _ (own_mi 50 rfl))) (by decide) (backOf (W := 0) (rmCan l Z a0 hw [] (ch) h0 n0 Zn2 (hR)) hZ (hw _ (own_mi 50 rfl)) (hw _ (own_mi 49 rfl)) (by decide) (by decide)) (g := (mkF m 7 #[.val (.int ch)] [(.int ch)])) rfl (by rw [hml]; rfl) (argsL := [(.int ch)]) (rest := []) (lenOf own_pd_28C29Z rfl) rfl (by show 2 * 0 + _ ≤ _; exact Nat.le_of_eq rfl) (hb hby own_d9_7) (fun _ _ => ⟨rfl, e1, (by decide : 0 + 0 ≤ _), (by decide : 0 + 0 ≤ _)⟩)
  dsimp only [Pt.U, Pt.locs, Pt.cells, Pt.slots] at X2 l2 y2 z2 st2 hQ2
  subst l2 y2 z2
  obtain ⟨rfl, Nq2, eh2⟩ := hQ2
  have N2 := Fr.app N0 Nq2
  refine own_go st2 ?_
  show own_Rn p e below _ (T2.setTop (mkF m 10 #[.val (.int ch)] [(.int (1 : Int32))]))
  refine own_go (fun tq kq => XS.ifNo X2.here hx rfl (hb hby own_d9_10) rfl ((if0 _ _).trans (feq ((by decide : ¬ ((1 : Int32) = (0 : Int32))) : ¬ ((1 : Int32) = (0 : Int32)))).1) kq) ?_
  show own_Rn p e below _ (T2.setTop (mkF m 13 #[.val (.int ch)] []))
  obtain ⟨T3, h3, X3, e3, E3, A3, D3, -, st3⟩ := newO X2 hx hZ hown (hw _ (own_mi 51 rfl)) (hw _ (own_mi 3 rfl)) (hw _ (own_mi 4 rfl)) eh2 (g := (mkF m 13 #[.val (.int ch)] [])) rfl (hb hby own_d9_13) (by decide) (by decide)
  obtain ⟨b3, g3⟩ : ∃ z, z = h0.size := ⟨_, rfl⟩
  rw [← g3] at A3 D3 st3
  refine own_go st3 ?_
  have sz4 : h0.size ≤ h3.size := E3.1
  have K4 := K0.ext E3
  have lt5 : @LT.lt Nat _ b3 h3.size := A3.lt
  have gn3 : n0 ≤ b3 := by omega
  have D3_coder : Fld Z h3 b3 "java/lang/String" "coder" "B" (.int (0 : Int32)) := D3 (Or.inr (hw _ (own_mi 29 rfl))) (ty := .byte) own_fd_B
  have D3_value : Fld Z h3 b3 "java/lang/String" "value" "[B" .null := D3 (Or.inr (hw _ (own_mi 31 rfl))) (ty := (.array .byte)) own_fd_5bB
  show own_Rn p e below _ (T3.setTop (mkF m 16 #[.val (.int ch)] [(.ref b3)]))
  refine own_go (fun tq kq => XS.dup X3.here hx rfl (hb hby own_d9_16) rfl rfl kq) ?_
  show own_Rn p e below _ (T3.setTop (mkF m 17 #[.val (.int ch)] [(.ref b3), (.ref b3)]))
  refine own_go (fun tq kq => XS.iloadN X3.here hx rfl (hb hby own_d9_17) rfl kq) ?_
  show own_Rn p e below _ (T3.setTop (mkF m 18 #[.val (.int ch)] [(.int ch), (.ref b3), (.ref b3)]))
  have Zn6 : n0 ≤ h3.size := by omega
  obtain ⟨rv6, _, ⟨T6, L6, k6, n6⟩, -, X6, ⟨Lc6, hQ6, l6, y6, z6⟩, st6⟩ := Jvm.LawKit.callS X3 hx (y := (⟨"java/lang/StringLatin1", "toBytes", "(C)[B"⟩ : MethodName)) hown (mvT hZ (hw _ (own_mi 52 rfl))) (mvT hZ (hw _ (own_mi 53 rfl))) (mvT hZ (hw _ (own_mi 49 rfl))) (mvT hZ (hw _ (own_mi 54 rfl))) (by decide) (backOf (W := 2) (rmToB l Z a0 hw [] (ch) h3 n0 Zn6 ) hZ (hw _ (own_mi 54 rfl)) (hw _ (own_mi 49 rfl)) (by decide) (by decide)) (g := (mkF m 18 #[.val (.int ch)] [(.int ch), (.ref b3), (.ref b3)])) rfl (by rw [hml]; rfl) (argsL := [(.int ch)]) (rest := [(.ref b3), (.ref b3)]) (lenOf own_pd_28C295bB rfl) rfl (by show 2 * 0 + _ ≤ _; exact Nat.le_of_eq rfl) (hb hby own_d9_18) (fun _ _ => ⟨rfl, e3, (by decide : 1 + 1 ≤ _), (by decide : 4 + 1 ≤ _)⟩)
  dsimp only [Pt.U, Pt.locs, Pt.cells, Pt.slots] at X6 l6 y6 z6 st6 hQ6
  subst l6 y6 z6
  obtain ⟨tt, kk, rfl, Nq6, Kq6, G0_6, G1_6, G2_6⟩ := hQ6
  have N6 := Fr.app N2 Nq6
  have sz7 : h3.size ≤ T6.heap.size := Kq6.1
  have K7 := K4.trans Kq6 all0
  have lt8 : @LT.lt Nat _ tt T6.heap.size := G2_6.lt
  refine own_go st6 ?_
  show own_Rn p e below _ (T6.setTop (mkF m 21 #[.val (.int ch)] [(.ref tt), (.ref b3), (.ref b3)]))
  refine own_go (fun tq kq => XS.iconst X6.here hx rfl (hb hby own_d9_21) kq) ?_
  show own_Rn p e below _ (T6.setTop (mkF m 22 #[.val (.int ch)] [(.int (0 : Int32)), (.ref tt), (.ref b3), (.ref b3)]))
  have Zn9 : n0 ≤ T6.heap.size := by omega
  have F10 : Exa Z T6.heap b3 "java/lang/String" := (A3.keep Kq6)
  have F11 : Fld Z T6.heap b3 "java/lang/String" "value" "[B" .null := (D3_value.keep Kq6 nin0)
  have F12 : Fld Z T6.heap b3 "java/lang/String" "coder" "B" (.int (0 : Int32)) := (D3_coder.keep Kq6 nin0)
  obtain ⟨rv9, _, ⟨T9, L9, k9, n9⟩, -, X9, ⟨Lc9, hQ9, l9, y9, z9⟩, st9⟩ := X6.specialBack hx (y := (⟨"java/lang/String", "<init>", "([BB)V"⟩ : MethodName)) rfl hown (mvT hZ (hw _ (own_mi 55 rfl))) (mvT hZ (hw _ (own_mi 56 rfl))) (mvT hZ (hw _ (own_mi 57 rfl))) (by decide) (backOf (W := 1) (rmSBB l Z a0 hw [] (b3) (tt) T6.heap n0 Zn9 F10 F11 F12 gn3) hZ (hw _ (own_mi 57 rfl)) (hw _ (own_mi 4 rfl)) (by decide) (by decide)) (g := (mkF m 22 #[.val (.int ch)] [(.int (0 : Int32)), (.ref tt), (.ref b3), (.ref b3)])) rfl (by rw [hml]; rfl) (Steps.refl _) (a := b3) (argsL := [(.ref tt), (.int (0 : Int32))]) (rest := [(.ref b3)]) (lenOf own_pd_285bBB29V rfl) rfl (by show 2 * 0 + _ ≤ _; exact Nat.le_of_eq rfl) (hb hby own_d9_22) (fun _ _ => ⟨rfl, rfl, (by decide : 2 + 0 ≤ _), (by decide : 5 + 0 ≤ _)⟩)
  dsimp only [Pt.U, Pt.locs, Pt.cells, Pt.slots] at X9 l9 y9 z9 st9 hQ9
  subst l9 y9 z9
  obtain ⟨rfl, Nq9, Kq9, G0_9, G1_9⟩ := hQ9
  have N9 := Fr.app N6 Nq9
  have sz13 : T6.heap.size ≤ T9.heap.size := Kq9.1
  have K13 := K7.trans Kq9 (allS (Or.inr (by omega)) all0)
  refine own_go (fun tq kq => st9.trans kq) ?_
  show own_Rn p e below _ (T9.setTop (mkF m 25 #[.val (.int ch)] [(.ref b3)]))
  have F14 : Exa Z T9.heap b3 "java/lang/String" := (F10.keep Kq9)
  have ne15 : tt ≠ b3 := own_nea (by omega)
  have F16 : Arv Z T9.heap tt kk .byte (1 : Int32) [(.int (ch.toInt8.toInt32))] (.int (0 : Int32)) := (G2_6.keep Kq9 (ninS ne15 nin0))
  exact own_ret X9 (v := some (.ref b3)) (fun h => by rw [Bd.returns] at h; cases h) (fun fs hr => X9.areturnOut hx rfl Bd.returns rfl (hb hby own_d9_25) hr) (⟨b3, tt, kk, rfl, N9, K13, (by omega), (by omega), gn3, G1_6, F14, G0_9, G1_9, F16⟩) (by decide) (by decide)
theorem own_ef_rmSI4 (m : MethodId) (x : Addr) (b : Addr) : entryFrame m #[(.ref x), (.ref b), (.int (0 : Int32)), (.int (0 : Int32)), .null] 6 = mkF m 0 #[.val (.ref x), .val (.ref b), .val (.int (0 : Int32)), .val (.int (0 : Int32)), .val .null, .unset] [] := by first | (simp [entryFrame, mkF, argsToLocals, Value.category]; done) | rfl
theorem own_d1_8 : decode jdk_42_method_149_code 8 = .ok (.aload_n 0, 1) := by decide +kernel
theorem own_d1_9 : decode jdk_42_method_149_code 9 = .ok (.ldc 7, 2) := by decide +kernel
theorem own_d1_11 : decode jdk_42_method_149_code 11 = .ok (.getfield 9, 3) := by decide +kernel
theorem own_d1_14 : decode jdk_42_method_149_code 14 = .ok (.putfield 9, 3) := by decide +kernel
theorem own_d1_17 : decode jdk_42_method_149_code 17 = .ok (.aload_n 0, 1) := by decide +kernel
theorem own_d1_18 : decode jdk_42_method_149_code 18 = .ok (.ldc 7, 2) := by decide +kernel
theorem own_d1_20 : decode jdk_42_method_149_code 20 = .ok (.getfield 15, 3) := by decide +kernel
theorem own_d1_23 : decode jdk_42_method_149_code 23 = .ok (.putfield 15, 3) := by decide +kernel
theorem own_d1_26 : decode jdk_42_method_149_code 26 = .ok (.return_, 1) := by decide +kernel
def Q_rmSI4 (Z : State) (x : Addr) (b : Addr) (h0 : Heap) (n0 : Nat) (v : Option Value) (h : Heap) (L : List Loc) : Prop := ∃ (t : Addr), ∃ (kb : ClassId), v = none ∧ Fr n0 L ∧ Keep h0 h [x] ∧ Fld Z h x "java/lang/String" "value" "[B" (.ref t) ∧ Fld Z h x "java/lang/String" "coder" "B" (.int (0 : Int32)) ∧ Arv Z h t kb .byte (0 : Int32) ((([] : List Int32).map (fun c => c.toInt8.toInt32)).map Value.int) (.int 0)
set_option maxRecDepth 65536 in
set_option maxHeartbeats 40000000 in
theorem rmSI4 (l : Launch) (Z : State) (a0 : Array Value) (hw : ∀ d ∈ tables_1, d.before a0 Z = true) (ws : List Jvm.Cond) (x : Addr) (b : Addr) (h0 : Heap) (n0 : Nat) (Z0 : n0 ≤ h0.size) (hEL : EW Z a0 consts_1) (Pm0 : Exa Z h0 x "java/lang/String") (Pm1 : Fld Z h0 x "java/lang/String" "value" "[B" .null) (Pm2 : Fld Z h0 x "java/lang/String" "coder" "B" (.int (0 : Int32))) (Pm3 : n0 ≤ x) :
    MetFree l (⟨"java/lang/String", "<init>", "([CIILjava/lang/Void;)V"⟩ : MethodName) (head1 (Jvm.Cond.code (⟨"java/lang/String", "<init>", "([CIILjava/lang/Void;)V"⟩ : MethodName) jdk_42_method_149_code 6 none :: ws) ({ frames := 1, cells := 4, slots := 8, locals := 12 } : Room)) (fun a U => a = #[(.ref x), (.ref b), (.int (0 : Int32)), (.int (0 : Int32)), .null] ∧ Z.Warmed39 U.vm ∧ U.heap = h0 ∧ CHv Z consts_1 U.vm h0 ∧ ∀ ax ∈ ([x] : List Addr), Safe Z consts_1 U.vm h0 ax) (fun _ _ _ _ _ => True) (fun _ U o U' => ∃ v L, o = .returned v ∧ Q_rmSI4 Z x b h0 n0 v U'.heap L ∧ CHr Z consts_1 U.vm U.heap U'.vm U'.heap ∧ ReturnedEndW U o U' L ({ frames := 1, cells := 4, slots := 8, locals := 12 } : Room).cells ({ frames := 1, cells := 4, slots := 8, locals := 12 } : Room).slots) := by
  refine MetFree.of_bodySF (plainFor_of_name own_pn_java_lang_String) hisR ?_
  intro p e s m args below meth c s₁ Bd hml0 hP hK
  obtain ⟨rfl, hZ, hh, hH, hSf⟩ := hP
  have hx := Bd.exec
  have hby := Bd.bytes
  have hml : c.maxLocals = 6 := hml0
  have hown : s.vm.findClass "java/lang/String" = some m.cls := findClass_of_methodNamed Bd.named
  have hnm := (name_of_methodNamed Bd.named Bd.method).1
  have X0 : Stand p l e ({ frames := 1, cells := 4, slots := 8, locals := 12 } : Room) (s.setVm s.vm) m #[(.ref x), (.ref b), (.int (0 : Int32)), (.int (0 : Int32)), .null] below meth c s₁ [] 0 0 := Stand.of_body Bd
  have e0 : s₁.heap = h0 := by rw [← hh, Bd.state]; rfl
  have N0 := Fr.nil n0
  have K0 : Keep h0 h0 [x] := Keep.refl _ _
  refine own_go (S' := s₁.setTop (mkF m 0 #[.val (.ref x), .val (.ref b), .val (.int (0 : Int32)), .val (.int (0 : Int32)), .val .null, .unset] [])) (fun tq kq => castTop (own_ef_rmSI4 m x b) kq) ?_
  have lt1 : @LT.lt Nat _ x h0.size := Pm0.lt
  have hS0 : s.Since s.vm h0.size := (State.WarmedH.refl s).since _
  have CR0 : CHr Z consts_1 s.vm h0 s.vm h0 := CHr.refl hH
  have hwS : ∀ d ∈ Bundle.stringAtoms, d.before a0 Z = true := fun d hd => hw d ((by decide +kernel : ∀ d ∈ Bundle.stringAtoms, d ∈ tables_1) d hd)
  have sf_x : Safe Z consts_1 s.vm h0 x := hSf _ (List.mem_of_getElem? (i := 0) rfl)
  refine own_go (fun tq kq => XS.aloadN X0.here hx rfl (hb hby own_d1_0) rfl rfl kq) ?_
  show own_Rn p e below _ (s₁.setTop (mkF m 1 #[.val (.ref x), .val (.ref b), .val (.int (0 : Int32)), .val (.int (0 : Int32)), .val .null, .unset] [(.ref x)]))
  obtain ⟨T2, X2, e2, st2⟩ := initO X0 hx hZ hown (hw _ (own_mi 13 rfl)) (hw _ (own_mi 14 rfl)) (hw _ (own_mi 15 rfl)) e0 (g := (mkF m 1 #[.val (.ref x), .val (.ref b), .val (.int (0 : Int32)), .val (.int (0 : Int32)), .val .null, .unset] [(.ref x)])) rfl (by rw [hml]; rfl) rfl (hb hby own_d1_1) (by decide) (W := 0) (by show 2 * 0 + _ ≤ _; exact Nat.le_of_eq rfl) (by decide)
  refine own_go st2 ?_
  show own_Rn p e below _ (T2.setTop (mkF m 4 #[.val (.ref x), .val (.ref b), .val (.int (0 : Int32)), .val (.int (0 : Int32)), .val .null, .unset] []))
  refine own_go (fun tq kq => XS.iloadN X2.here hx rfl (hb hby own_d1_4) rfl kq) ?_
  show own_Rn p e below _ (T2.setTop (mkF m 5 #[.val (.ref x), .val (.ref b), .val (.int (0 : Int32)), .val (.int (0 : Int32)), .val .null, .unset] [(.int (0 : Int32))]))
  refine own_go (fun tq kq => XS.ifNo X2.here hx rfl (hb hby own_d1_5) rfl ((if0 _ _).trans (teq ((by decide : (0 : Int32) = (0 : Int32)) : (0 : Int32) = (0 : Int32))).2) kq) ?_
  show own_Rn p e below _ (T2.setTop (mkF m 8 #[.val (.ref x), .val (.ref b), .val (.int (0 : Int32)), .val (.int (0 : Int32)), .val .null, .unset] []))
  refine own_go (fun tq kq => XS.aloadN X2.here hx rfl (hb hby own_d1_8) rfl rfl kq) ?_
  show own_Rn p e below _ (T2.setTop (mkF m 9 #[.val (.ref x), .val (.ref b), .val (.int (0 : Int32)), .val (.int (0 : Int32)), .val .null, .unset] [(.ref x)]))
  obtain ⟨a3, T3, h3, kk3, bb3, kc3, X3, e3, E3, hS3, hk3, hZ3, hown3, Ex3, Co3, Va3, Ab3, la3, lb3, crq3, Li3, sn3, st3⟩ := ldcCH X2 hx hZ hown (hw _ (own_mi 96 rfl)) hwS e2 hS0 (by omega) hEL (List.mem_of_getElem? (i := 0) rfl) CR0.1 (vs := ((([] : List Int32).map (fun c => c.toInt8.toInt32)).map Value.int)) (z := (0 : Int32)) ⟨by decide, by decide⟩ (by decide) (by decide) (g := (mkF m 9 #[.val (.ref x), .val (.ref b), .val (.int (0 : Int32)), .val (.int (0 : Int32)), .val .null, .unset] [(.ref x)])) rfl (hb hby own_d1_9) (n := 0) (by decide) (by decide) (by decide) (by decide)
  refine own_go st3 ?_
  have sz4 : h0.size ≤ h3.size := E3.1
  have K4 := K0.ext E3
  have cr4 : CHr Z consts_1 s.vm h0 T3.vm h3 := crq3
  have CR4 := CR0.trans cr4
  have sf6 : Safe Z consts_1 T3.vm h3 x := (CHr.safe cr4 (show @LT.lt Nat _ _ _ by omega) sf_x)
  obtain ⟨na3_x, nb3_x⟩ := sn3 x sf6
  have lt7 : @LT.lt Nat _ a3 h3.size := Ex3.lt
  have lt8 : @LT.lt Nat _ bb3 h3.size := Ab3.lt
  show own_Rn p e below _ (T3.setTop (mkF m 11 #[.val (.ref x), .val (.ref b), .val (.int (0 : Int32)), .val (.int (0 : Int32)), .val .null, .unset] [(.ref a3), (.ref x)]))
  obtain ⟨T9, X9, e9, st9⟩ := getF X3 hx hZ3 hown3 (host := "") (Or.inl (hw _ (own_mi 30 rfl))) Via.refl e3 Va3 (g := (mkF m 11 #[.val (.ref x), .val (.ref b), .val (.int (0 : Int32)), .val (.int (0 : Int32)), .val .null, .unset] [(.ref a3), (.ref x)])) rfl rfl (hb hby own_d1_11)
  refine own_go st9 ?_
  show own_Rn p e below _ (T9.setTop (mkF m 14 #[.val (.ref x), .val (.ref b), .val (.int (0 : Int32)), .val (.int (0 : Int32)), .val .null, .unset] [(.ref bb3), (.ref x)]))
  have F10 : Fld Z h3 x "java/lang/String" "value" "[B" .null := (Pm1.ext E3)
  have F11 : Exa Z h3 x "java/lang/String" := (Pm0.ext E3)
  obtain ⟨T12, h12, X12, e12, W12, st12⟩ := putF X9 hx hZ3 hown3 (host := "") (Or.inl (hw _ (own_mi 30 rfl))) Via.refl e9 F10 F11 (Or.inr ⟨(hw _ (own_mi 31 rfl)), rfl, hnm⟩) (hw _ (own_mi 3 rfl)) (ty := (.array .byte)) own_fd_5bB rfl rfl (g := (mkF m 14 #[.val (.ref x), .val (.ref b), .val (.int (0 : Int32)), .val (.int (0 : Int32)), .val .null, .unset] [(.ref bb3), (.ref x)])) rfl rfl (hb hby own_d1_14)
  refine own_go st12 ?_
  have N12 := Fr.snoc X12 N0 Pm3
  have Fw12 := F10.same W12
  have sz14 : h3.size ≤ h12.size := Nat.le_of_eq (Wr.size W12).symm
  have K14 := K4.wr W12 (Or.inl (List.mem_of_getElem? (i := 0) rfl))
  have cr14 : CHr Z consts_1 T3.vm h3 T3.vm h12 := CHr.wr W12 sf6 CR4.1
  have CR14 := CR4.trans cr14
  show own_Rn p e below _ (T12.setTop (mkF m 17 #[.val (.ref x), .val (.ref b), .val (.int (0 : Int32)), .val (.int (0 : Int32)), .val .null, .unset] []))
  refine own_go (fun tq kq => XS.aloadN X12.here hx rfl (hb hby own_d1_17) rfl rfl kq) ?_
  show own_Rn p e below _ (T12.setTop (mkF m 18 #[.val (.ref x), .val (.ref b), .val (.int (0 : Int32)), .val (.int (0 : Int32)), .val .null, .unset] [(.ref x)]))
  obtain ⟨a15, T15, h15, kk15, bb15, kc15, X15, e15, E15, hS15, hk15, hZ15, hown15, Ex15, Co15, Va15, Ab15, la15, lb15, crq15, Li15, sn15, st15⟩ := ldcCH X12 hx hZ3 hown3 (hw _ (own_mi 96 rfl)) hwS e12 hS3 (by omega) hEL (List.mem_of_getElem? (i := 0) rfl) CR14.1 (vs := ((([] : List Int32).map (fun c => c.toInt8.toInt32)).map Value.int)) (z := (0 : Int32)) ⟨by decide, by decide⟩ (by decide) (by decide) (g := (mkF m 18 #[.val (.ref x), .val (.ref b), .val (.int (0 : Int32)), .val (.int (0 : Int32)), .val .null, .unset] [(.ref x)])) rfl (hb hby own_d1_18) (n := 0) (by decide) (by decide) (by decide) (by decide)
  refine own_go st15 ?_
  have sz16 : h12.size ≤ h15.size := E15.1
  have K16 := K14.ext E15
  have cr16 : CHr Z consts_1 T3.vm h12 T15.vm h15 := crq15
  have CR16 := CR14.trans cr16
  have sf18 : Safe Z consts_1 T15.vm h15 x := (CHr.safe cr16 (show @LT.lt Nat _ _ _ by omega) (CHr.safe cr14 (show @LT.lt Nat _ _ _ by omega) sf6))
  obtain ⟨na15_x, nb15_x⟩ := sn15 x sf18
  have lt19 : @LT.lt Nat _ a15 h15.size := Ex15.lt
  have lt20 : @LT.lt Nat _ bb15 h15.size := Ab15.lt
  show own_Rn p e below _ (T15.setTop (mkF m 20 #[.val (.ref x), .val (.ref b), .val (.int (0 : Int32)), .val (.int (0 : Int32)), .val .null, .unset] [(.ref a15), (.ref x)]))
  obtain ⟨T21, X21, e21, st21⟩ := getF X15 hx hZ15 hown15 (host := "") (Or.inl (hw _ (own_mi 28 rfl))) Via.refl e15 Co15 (g := (mkF m 20 #[.val (.ref x), .val (.ref b), .val (.int (0 : Int32)), .val (.int (0 : Int32)), .val .null, .unset] [(.ref a15), (.ref x)])) rfl rfl (hb hby own_d1_20)
  refine own_go st21 ?_
  show own_Rn p e below _ (T21.setTop (mkF m 23 #[.val (.ref x), .val (.ref b), .val (.int (0 : Int32)), .val (.int (0 : Int32)), .val .null, .unset] [(.int (0 : Int32)), (.ref x)]))
  have F22 : Fld Z h15 x "java/lang/String" "coder" "B" (.int (0 : Int32)) := (((Pm2.ext E3).other W12 (Or.inr (slot_ne (Or.inr (hw _ (own_mi 29 rfl))) (Or.inr (hw _ (own_mi 31 rfl))) (by decide) (t := .byte) (t' := (.array .byte)) own_fd_B own_fd_5bB))).ext E15)
  have F23 : Exa Z h15 x "java/lang/String" := ((F11.wr W12).ext E15)
  obtain ⟨T24, h24, X24, e24, W24, st24⟩ := putFN X21 hx hZ15 hown15 (hw _ (own_mi 28 rfl)) Via.refl e21 F22 F23 (Or.inr ⟨(hw _ (own_mi 29 rfl)), rfl, hnm⟩) (hw _ (own_mi 3 rfl)) (ty := .byte) (v' := (.int ((0 : Int32)))) own_fd_B rfl (by decide) (g := (mkF m 23 #[.val (.ref x), .val (.ref b), .val (.int (0 : Int32)), .val (.int (0 : Int32)), .val .null, .unset] [(.int (0 : Int32)), (.ref x)])) rfl rfl (hb hby own_d1_23)
  refine own_go st24 ?_
  have N24 := Fr.snoc X24 N12 Pm3
  have Fw24 := F22.same W24
  have sz26 : h15.size ≤ h24.size := Nat.le_of_eq (Wr.size W24).symm
  have K26 := K16.wr W24 (Or.inl (List.mem_of_getElem? (i := 0) rfl))
  have cr26 : CHr Z consts_1 T15.vm h15 T15.vm h24 := CHr.wr W24 sf18 CR16.1
  have CR26 := CR16.trans cr26
  show own_Rn p e below _ (T24.setTop (mkF m 26 #[.val (.ref x), .val (.ref b), .val (.int (0 : Int32)), .val (.int (0 : Int32)), .val .null, .unset] []))
  have F27 : Fld Z h24 x "java/lang/String" "value" "[B" (.ref bb3) := ((Fw12.ext E15).other W24 (Or.inr (slot_ne (Or.inr (hw _ (own_mi 31 rfl))) (Or.inr (hw _ (own_mi 29 rfl))) (by decide) (t := (.array .byte)) (t' := .byte) own_fd_5bB own_fd_B)))
  have F28 : Arv Z h24 bb3 kc3 .byte (0 : Int32) ((([] : List Int32).map (fun c => c.toInt8.toInt32)).map Value.int) (.int 0) := (((Ab3.other W12 (Ne.symm nb3_x)).ext E15).other W24 (Ne.symm nb3_x))
  exact own_retS X24 hS15 (by rw [e24]; omega) (v := none) (fun _ => rfl) (fun fs hr => X24.returnOut hx Bd.returns (hb hby own_d1_26) hr) (by rw [e24]; exact ⟨bb3, kc3, rfl, N24, K26, F27, Fw24, F28⟩) (by rw [hh, e24]; exact CR26.trans (CHv.at X24 hZ15 hEL CR26.1)) (by decide) (by decide)
theorem own_ef_rmSI1 (m : MethodId) (x : Addr) (b : Addr) (kz : ClassId) : entryFrame m #[(.ref x), (.ref b)] 2 = mkF m 0 #[.val (.ref x), .val (.ref b)] [] := by first | (simp [entryFrame, mkF, argsToLocals, Value.category]; done) | rfl
def Q_rmSI1 (Z : State) (x : Addr) (b : Addr) (kz : ClassId) (h0 : Heap) (n0 : Nat) (v : Option Value) (h : Heap) (L : List Loc) : Prop := ∃ (t : Addr), ∃ (kb : ClassId), v = none ∧ Fr n0 L ∧ Keep h0 h [x] ∧ Fld Z h x "java/lang/String" "value" "[B" (.ref t) ∧ Fld Z h x "java/lang/String" "coder" "B" (.int (0 : Int32)) ∧ Arv Z h t kb .byte (0 : Int32) ((([] : List Int32).map (fun c => c.toInt8.toInt32)).map Value.int) (.int 0)
set_option maxRecDepth 65536 in
set_option maxHeartbeats 40000000 in
theorem rmSI1 (l : Launch) (Z : State) (a0 : Array Value) (hw : ∀ d ∈ tables_1, d.before a0 Z = true) (ws : List Jvm.Cond) (x : Addr) (b : Addr) (kz : ClassId) (h0 : Heap) (n0 : Nat) (Z0 : n0 ≤ h0.size) (hEL : EW Z a0 consts_1) (Pm0 : Exa Z h0 x "java/lang/String") (Pm1 : Fld Z h0 x "java/lang/String" "value" "[B" .null) (Pm2 : Fld Z h0 x "java/lang/String" "coder" "B" (.int (0 : Int32))) (Pm3 : n0 ≤ x) (Pm4 : Arv Z h0 b kz .char (0 : Int32) [] (.int (0 : Int32))) :
    MetFree l (⟨"java/lang/String", "<init>", "([C)V"⟩ : MethodName) (head1 (Jvm.Cond.code (⟨"java/lang/String", "<init>", "([C)V"⟩ : MethodName) jdk_42_method_3_code 2 none :: ws) ({ frames := 2, cells := 4, slots := 8, locals := 29 } : Room)) (fun a U => a = #[(.ref x), (.ref b)] ∧ Z.Warmed39 U.vm ∧ U.heap = h0 ∧ CHv Z consts_1 U.vm h0 ∧ ∀ ax ∈ ([x] : List Addr), Safe Z consts_1 U.vm h0 ax) (fun _ _ _ _ _ => True) (fun _ U o U' => ∃ v L, o = .returned v ∧ Q_rmSI1 Z x b kz h0 n0 v U'.heap L ∧ CHr Z consts_1 U.vm U.heap U'.vm U'.heap ∧ ReturnedEndW U o U' L ({ frames := 2, cells := 4, slots := 8, locals := 29 } : Room).cells ({ frames := 2, cells := 4, slots := 8, locals := 29 } : Room).slots) := by
  refine MetFree.of_bodySF (plainFor_of_name own_pn_java_lang_String) hisR ?_
  intro p e s m args below meth c s₁ Bd hml0 hP hK
  obtain ⟨rfl, hZ, hh, hH, hSf⟩ := hP
  have hx := Bd.exec
  have hby := Bd.bytes
  have hml : c.maxLocals = 2 := hml0
  have hown : s.vm.findClass "java/lang/String" = some m.cls := findClass_of_methodNamed Bd.named
  have hnm := (name_of_methodNamed Bd.named Bd.method).1
  have X0 : Stand p l e ({ frames := 2, cells := 4, slots := 8, locals := 29 } : Room) (s.setVm s.vm) m #[(.ref x), (.ref b)] below meth c s₁ [] 0 0 := Stand.of_body Bd
  have e0 : s₁.heap = h0 := by rw [← hh, Bd.state]; rfl
  have N0 := Fr.nil n0
  have K0 : Keep h0 h0 [x] := Keep.refl _ _
  refine own_go (S' := s₁.setTop (mkF m 0 #[.val (.ref x), .val (.ref b)] [])) (fun tq kq => castTop (own_ef_rmSI1 m x b kz) kq) ?_
  have lt1 : @LT.lt Nat _ x h0.size := Pm0.lt
  have lt2 : @LT.lt Nat _ b h0.size := Pm4.lt
  have hS0 : s.Since s.vm h0.size := (State.WarmedH.refl s).since _
  have CR0 : CHr Z consts_1 s.vm h0 s.vm h0 := CHr.refl hH
  have hwS : ∀ d ∈ Bundle.stringAtoms, d.before a0 Z = true := fun d hd => hw d ((by decide +kernel : ∀ d ∈ Bundle.stringAtoms, d ∈ tables_1) d hd)
  have sf_x : Safe Z consts_1 s.vm h0 x := hSf _ (List.mem_of_getElem? (i := 0) rfl)
  refine own_go (fun tq kq => XS.aloadN X0.here hx rfl (hb hby own_d0_0) rfl rfl kq) ?_
  show own_Rn p e below _ (s₁.setTop (mkF m 1 #[.val (.ref x), .val (.ref b)] [(.ref x)]))
  refine own_go (fun tq kq => XS.aloadN X0.here hx rfl (hb hby own_d0_1) rfl rfl kq) ?_
  show own_Rn p e below _ (s₁.setTop (mkF m 2 #[.val (.ref x), .val (.ref b)] [(.ref b), (.ref x)]))
  refine own_go (fun tq kq => XS.iconst X0.here hx rfl (hb hby own_d0_2) kq) ?_
  show own_Rn p e below _ (s₁.setTop (mkF m 3 #[.val (.ref x), .val (.ref b)] [(.int (0 : Int32)), (.ref b), (.ref x)]))
  refine own_go (fun tq kq => XS.aloadN X0.here hx rfl (hb hby own_d0_3) rfl rfl kq) ?_
  show own_Rn p e below _ (s₁.setTop (mkF m 4 #[.val (.ref x), .val (.ref b)] [(.ref b), (.int (0 : Int32)), (.ref b), (.ref x)]))
  obtain ⟨cl3, Ar3, -, Sz3, Nn3, -, -⟩ := id Pm4
  refine own_go (fun tq kq => X0.arraylength hx (cell := cl3) (by rw [e0]; exact Ar3.1) (State.isArrayOf_alike hZ.alike Ar3.2.1) (g := (mkF m 4 #[.val (.ref x), .val (.ref b)] [(.ref b), (.int (0 : Int32)), (.ref b), (.ref x)])) rfl rfl (hb hby own_d0_4) tq kq) ?_
  rw [len_of Sz3 Nn3]
  show own_Rn p e below _ (s₁.setTop (mkF m 5 #[.val (.ref x), .val (.ref b)] [(.int (0 : Int32)), (.int (0 : Int32)), (.ref b), (.ref x)]))
  refine own_go (fun tq kq => XS.aconstNull X0.here hx rfl (hb hby own_d0_5) kq) ?_
  show own_Rn p e below _ (s₁.setTop (mkF m 6 #[.val (.ref x), .val (.ref b)] [.null, (.int (0 : Int32)), (.int (0 : Int32)), (.ref b), (.ref x)]))
  have Zn4 : n0 ≤ h0.size := by omega
  obtain ⟨rv4, _, ⟨T4, L4, k4, n4⟩, -, X4, hS4, hG4, ⟨Lc4, hQ4, l4, y4, z4, CR4q⟩, st4⟩ := X0.specialBackS hx (y := (⟨"java/lang/String", "<init>", "([CIILjava/lang/Void;)V"⟩ : MethodName)) rfl hown (mvT hZ (hw _ (own_mi 9 rfl))) (mvT hZ (hw _ (own_mi 10 rfl))) (mvT hZ (hw _ (own_mi 12 rfl))) (by decide) (own_backSH (W := 0) (rm := ({ frames := 1, cells := 4, slots := 8, locals := 12 } : Room)) (sf := [x]) (h := h0) (rmSI4 l Z a0 hw [] (x) (b) h0 n0 Zn4 hEL Pm0 Pm1 Pm2 Pm3) hZ (hw _ (own_mi 12 rfl)) (hw _ (own_mi 4 rfl)) (by decide) (by decide) hEL CR0.1 (sfS sf_x sf0)) (g := (mkF m 6 #[.val (.ref x), .val (.ref b)] [.null, (.int (0 : Int32)), (.int (0 : Int32)), (.ref b), (.ref x)])) rfl (by rw [hml]; rfl) (Steps.refl _) (a := x) (argsL := [(.ref b), (.int (0 : Int32)), (.int (0 : Int32)), .null]) (rest := []) (lenOf own_pd_285bCIILjava2flang2fVoid3b29V rfl) rfl (by show 2 * 0 + _ ≤ _; exact Nat.le_of_eq rfl) (hb hby own_d0_6) (fun _ _ => ⟨rfl, e0, (by decide : 0 + 4 ≤ _), (by decide : 0 + 8 ≤ _)⟩)
  dsimp only [Pt.U, Pt.locs, Pt.cells, Pt.slots] at X4 l4 y4 z4 st4 hQ4 hS4 hG4 CR4q
  subst l4 y4 z4
  obtain ⟨tt, kk, rfl, Nq4, Kq4, G0_4, G1_4, G2_4⟩ := hQ4
  have N4 := Fr.app N0 Nq4
  obtain ⟨Xr4, hSr4, hZ4, hown4⟩ := rebS hS0 (n1 := s₁.heap.size) (by rw [e0]; omega) X4 hS4 hG4 hZ hown
  have sz6 : h0.size ≤ T4.heap.size := Kq4.1
  have K6 := K0.trans Kq4 (allS (Or.inl (List.mem_of_getElem? (i := 0) rfl)) all0)
  have cr6 : CHr Z consts_1 s.vm h0 T4.vm T4.heap := CR4q
  have CR6 := CR0.trans cr6
  have lt7 : @LT.lt Nat _ tt T4.heap.size := G2_4.lt
  refine own_go (fun tq kq => st4.trans kq) ?_
  show own_Rn p e below _ (T4.setTop (mkF m 9 #[.val (.ref x), .val (.ref b)] []))
  exact own_retS Xr4 hSr4 (by omega) (v := none) (fun _ => rfl) (fun fs hr => Xr4.returnOut hx Bd.returns (hb hby own_d0_9) hr) (⟨tt, kk, rfl, N4, K6, G0_4, G1_4, G2_4⟩) (by rw [hh]; exact CR6.trans (CHv.at Xr4 hZ4 hEL CR6.1)) (by decide) (by decide)
theorem own_ef_rmEqS (m : MethodId) (x : Addr) : entryFrame m #[(.ref x), (.ref x)] 3 = mkF m 0 #[.val (.ref x), .val (.ref x), .unset] [] := by first | (simp [entryFrame, mkF, argsToLocals, Value.category]; done) | rfl
theorem own_d20_0 : decode jdk_42_method_66_code 0 = .ok (.aload_n 0, 1) := by decide +kernel
theorem own_d20_1 : decode jdk_42_method_66_code 1 = .ok (.aload_n 1, 1) := by decide +kernel
theorem own_d20_2 : decode jdk_42_method_66_code 2 = .ok (.if_acmp .ne 5, 3) := by decide +kernel
theorem own_d20_5 : decode jdk_42_method_66_code 5 = .ok (.iconst 1, 1) := by decide +kernel
theorem own_d20_6 : decode jdk_42_method_66_code 6 = .ok (.ireturn, 1) := by decide +kernel
def Q_rmEqS (Z : State) (x : Addr) (h0 : Heap) (n0 : Nat) (v : Option Value) (h : Heap) (L : List Loc) : Prop := v = some (.int (1 : Int32)) ∧ Fr n0 L ∧ h = h0
set_option maxRecDepth 65536 in
set_option maxHeartbeats 40000000 in
theorem rmEqS (l : Launch) (Z : State) (a0 : Array Value) (hw : ∀ d ∈ tables_1, d.before a0 Z = true) (ws : List Jvm.Cond) (x : Addr) (h0 : Heap) (n0 : Nat) (Z0 : n0 ≤ h0.size)  :
    MetFree l (⟨"java/lang/String", "equals", "(Ljava/lang/Object;)Z"⟩ : MethodName) (head1 (Jvm.Cond.code (⟨"java/lang/String", "equals", "(Ljava/lang/Object;)Z"⟩ : MethodName) jdk_42_method_66_code 3 (some .boolean) :: ws) ({ frames := 0, cells := 0, slots := 0, locals := 0 } : Room)) (fun a U => a = #[(.ref x), (.ref x)] ∧ Z.Warmed39 U.vm ∧ U.heap = h0) (fun _ _ _ _ _ => True) (fun _ U o U' => ∃ v L, o = .returned v ∧ Q_rmEqS Z x h0 n0 v U'.heap L ∧ FrameEnd U o U' L ({ frames := 0, cells := 0, slots := 0, locals := 0 } : Room).cells ({ frames := 0, cells := 0, slots := 0, locals := 0 } : Room).slots) := by
  refine MetFree.of_bodySF (plainFor_of_name own_pn_java_lang_String) hisR ?_
  intro p e s m args below meth c s₁ Bd hml0 hP hK
  obtain ⟨rfl, hZ, hh⟩ := hP
  have hx := Bd.exec
  have hby := Bd.bytes
  have hml : c.maxLocals = 3 := hml0
  have hown : s.vm.findClass "java/lang/String" = some m.cls := findClass_of_methodNamed Bd.named
  have hnm := (name_of_methodNamed Bd.named Bd.method).1
  have X0 : Stand p l e ({ frames := 0, cells := 0, slots := 0, locals := 0 } : Room) s m #[(.ref x), (.ref x)] below meth c s₁ [] 0 0 := Stand.of_body Bd
  have e0 : s₁.heap = h0 := by rw [← hh, Bd.state]; rfl
  have N0 := Fr.nil n0
  have K0 : Keep h0 h0 [] := Keep.refl _ _
  refine own_go (S' := s₁.setTop (mkF m 0 #[.val (.ref x), .val (.ref x), .unset] [])) (fun tq kq => castTop (own_ef_rmEqS m x) kq) ?_
  refine own_go (fun tq kq => XS.aloadN X0.here hx rfl (hb hby own_d20_0) rfl rfl kq) ?_
  show own_Rn p e below _ (s₁.setTop (mkF m 1 #[.val (.ref x), .val (.ref x), .unset] [(.ref x)]))
  refine own_go (fun tq kq => XS.aloadN X0.here hx rfl (hb hby own_d20_1) rfl rfl kq) ?_
  show own_Rn p e below _ (s₁.setTop (mkF m 2 #[.val (.ref x), .val (.ref x), .unset] [(.ref x), (.ref x)]))
  refine own_go (fun tq kq => Jvm.RoadKit.acmp (g := (mkF m 2 #[.val (.ref x), .val (.ref x), .unset] [(.ref x), (.ref x)])) X0 hx rfl rfl rfl (pc0 := 2) (pc' := 5) (same := true) rfl (hb hby own_d20_2) rfl (decide_eq_true rfl) (by decide) (by decide) kq) ?_
  show own_Rn p e below _ (s₁.setTop (mkF m 5 #[.val (.ref x), .val (.ref x), .unset] []))
  refine own_go (fun tq kq => XS.iconst X0.here hx rfl (hb hby own_d20_5) kq) ?_
  show own_Rn p e below _ (s₁.setTop (mkF m 6 #[.val (.ref x), .val (.ref x), .unset] [(.int (1 : Int32))]))
  exact own_ret X0 (v := some (.int (nar .boolean (1 : Int32)))) (fun h => by rw [Bd.returns] at h; cases h) (fun fs hr => retN X0 hx (t := .boolean) Bd.returns (by simp) (hb hby own_d20_6) hr) (by rw [e0]; exact ⟨rfl, N0, rfl⟩) (by decide) (by decide)
theorem own_ef_rmHiJ (m : MethodId) (ch : Int32) : entryFrame m #[(.int ch)] 1 = mkF m 0 #[.val (.int ch)] [] := by first | (simp [entryFrame, mkF, argsToLocals, Value.category]; done) | rfl
theorem own_pn_java_lang_Character : plainName "java/lang/Character" = true := by first | (simp [plainName, overriddenIn]; done) | decide +kernel
theorem own_d28_0 : decode jdk_89_method_14_code 0 = .ok (.iload_n 0, 1) := by decide +kernel
theorem own_d28_1 : decode jdk_89_method_14_code 1 = .ok (.ldc 75, 2) := by decide +kernel
theorem own_d28_3 : decode jdk_89_method_14_code 3 = .ok (.if_icmp .lt 13, 3) := by decide +kernel
theorem own_d28_16 : decode jdk_89_method_14_code 16 = .ok (.iconst 0, 1) := by decide +kernel
theorem own_d28_17 : decode jdk_89_method_14_code 17 = .ok (.ireturn, 1) := by decide +kernel
theorem own_d28_6 : decode jdk_89_method_14_code 6 = .ok (.iload_n 0, 1) := by decide +kernel
theorem own_d28_7 : decode jdk_89_method_14_code 7 = .ok (.ldc 76, 2) := by decide +kernel
theorem own_d28_9 : decode jdk_89_method_14_code 9 = .ok (.if_icmp .ge 7, 3) := by decide +kernel
theorem own_d28_12 : decode jdk_89_method_14_code 12 = .ok (.iconst 1, 1) := by decide +kernel
theorem own_d28_13 : decode jdk_89_method_14_code 13 = .ok (.goto 4, 3) := by decide +kernel
def Q_rmHiJ (Z : State) (ch : Int32) (h0 : Heap) (n0 : Nat) (v : Option Value) (h : Heap) (L : List Loc) : Prop := v = some (.int (if own_isHi ch then (1 : Int32) else 0)) ∧ Fr n0 L ∧ h = h0
set_option maxRecDepth 65536 in
set_option maxHeartbeats 40000000 in
theorem rmHiJ (l : Launch) (Z : State) (a0 : Array Value) (hw : ∀ d ∈ tables_1, d.before a0 Z = true) (ws : List Jvm.Cond) (ch : Int32) (h0 : Heap) (n0 : Nat) (Z0 : n0 ≤ h0.size)  :
    MetFree l (⟨"java/lang/Character", "isHighSurrogate", "(C)Z"⟩ : MethodName) (head1 (Jvm.Cond.code (⟨"java/lang/Character", "isHighSurrogate", "(C)Z"⟩ : MethodName) jdk_89_method_14_code 1 (some .boolean) :: ws) ({ frames := 0, cells := 0, slots := 0, locals := 0 } : Room)) (fun a U => a = #[(.int ch)] ∧ Z.Warmed39 U.vm ∧ U.heap = h0) (fun _ _ _ _ _ => True) (fun _ U o U' => ∃ v L, o = .returned v ∧ Q_rmHiJ Z ch h0 n0 v U'.heap L ∧ FrameEnd U o U' L ({ frames := 0, cells := 0, slots := 0, locals := 0 } : Room).cells ({ frames := 0, cells := 0, slots := 0, locals := 0 } : Room).slots) := by
  refine MetFree.of_bodySF (plainFor_of_name own_pn_java_lang_Character) hisR ?_
  intro p e s m args below meth c s₁ Bd hml0 hP hK
  obtain ⟨rfl, hZ, hh⟩ := hP
  have hx := Bd.exec
  have hby := Bd.bytes
  have hml : c.maxLocals = 1 := hml0
  have hown : s.vm.findClass "java/lang/Character" = some m.cls := findClass_of_methodNamed Bd.named
  have hnm := (name_of_methodNamed Bd.named Bd.method).1
  have X0 : Stand p l e ({ frames := 0, cells := 0, slots := 0, locals := 0 } : Room) s m #[(.int ch)] below meth c s₁ [] 0 0 := Stand.of_body Bd
  have e0 : s₁.heap = h0 := by rw [← hh, Bd.state]; rfl
  have N0 := Fr.nil n0
  have K0 : Keep h0 h0 [] := Keep.refl _ _
  refine own_go (S' := s₁.setTop (mkF m 0 #[.val (.int ch)] [])) (fun tq kq => castTop (own_ef_rmHiJ m ch) kq) ?_
  refine own_go (fun tq kq => XS.iloadN X0.here hx rfl (hb hby own_d28_0) rfl kq) ?_
  show own_Rn p e below _ (s₁.setTop (mkF m 1 #[.val (.int ch)] [(.int ch)]))
  refine own_go (fun tq kq => X0.ldcInt hx hown (mvT hZ (hw _ (own_mi 129 rfl))) (g := (mkF m 1 #[.val (.int ch)] [(.int ch)])) rfl (hb hby own_d28_1) _ kq) ?_
  show own_Rn p e below _ (s₁.setTop (mkF m 3 #[.val (.int ch)] [(.int (55296 : Int32)), (.int ch)]))
  by_cases h1 : ch < (55296 : Int32)
  · skip
    refine own_go (fun tq kq => XS.icmpYes X0.here hx rfl (pc0 := 3) (pc' := 16) rfl (hb hby own_d28_3) rfl (tlt (h1 : ch < (55296 : Int32))).1 (by decide) (by decide) kq) ?_
    show own_Rn p e below _ (s₁.setTop (mkF m 16 #[.val (.int ch)] []))
    refine own_go (fun tq kq => XS.iconst X0.here hx rfl (hb hby own_d28_16) kq) ?_
    show own_Rn p e below _ (s₁.setTop (mkF m 17 #[.val (.int ch)] [(.int (0 : Int32))]))
    exact own_ret X0 (v := some (.int (nar .boolean (0 : Int32)))) (fun h => by rw [Bd.returns] at h; cases h) (fun fs hr => retN X0 hx (t := .boolean) Bd.returns (by simp) (hb hby own_d28_17) hr) (by rw [e0]; exact ⟨by rw [if_neg (fun g => g.1 h1)]; rfl, N0, rfl⟩) (by decide) (by decide)
  · skip
    refine own_go (fun tq kq => XS.icmpNo X0.here hx rfl (hb hby own_d28_3) rfl (flt (h1 : ¬ (ch < (55296 : Int32)))).1 kq) ?_
    show own_Rn p e below _ (s₁.setTop (mkF m 6 #[.val (.int ch)] []))
    refine own_go (fun tq kq => XS.iloadN X0.here hx rfl (hb hby own_d28_6) rfl kq) ?_
    show own_Rn p e below _ (s₁.setTop (mkF m 7 #[.val (.int ch)] [(.int ch)]))
    refine own_go (fun tq kq => X0.ldcInt hx hown (mvT hZ (hw _ (own_mi 130 rfl))) (g := (mkF m 7 #[.val (.int ch)] [(.int ch)])) rfl (hb hby own_d28_7) _ kq) ?_
    show own_Rn p e below _ (s₁.setTop (mkF m 9 #[.val (.int ch)] [(.int (56320 : Int32)), (.int ch)]))
    by_cases h2 : ch < (56320 : Int32)
    · skip
      refine own_go (fun tq kq => XS.icmpNo X0.here hx rfl (hb hby own_d28_9) rfl (tlt (h2 : ch < (56320 : Int32))).2.1 kq) ?_
      show own_Rn p e below _ (s₁.setTop (mkF m 12 #[.val (.int ch)] []))
      refine own_go (fun tq kq => XS.iconst X0.here hx rfl (hb hby own_d28_12) kq) ?_
      show own_Rn p e below _ (s₁.setTop (mkF m 13 #[.val (.int ch)] [(.int (1 : Int32))]))
      refine own_go (fun tq kq => XS.goto X0.here hx rfl (pc0 := 13) (pc' := 17) rfl (hb hby own_d28_13) (by decide) (by decide) kq) ?_
      show own_Rn p e below _ (s₁.setTop (mkF m 17 #[.val (.int ch)] [(.int (1 : Int32))]))
      exact own_ret X0 (v := some (.int (nar .boolean (1 : Int32)))) (fun h => by rw [Bd.returns] at h; cases h) (fun fs hr => retN X0 hx (t := .boolean) Bd.returns (by simp) (hb hby own_d28_17) hr) (by rw [e0]; exact ⟨by rw [if_pos (⟨h1, h2⟩)]; rfl, N0, rfl⟩) (by decide) (by decide)
    · skip
      refine own_go (fun tq kq => XS.icmpYes X0.here hx rfl (pc0 := 9) (pc' := 16) rfl (hb hby own_d28_9) rfl (flt (h2 : ¬ (ch < (56320 : Int32)))).2.1 (by decide) (by decide) kq) ?_
      show own_Rn p e below _ (s₁.setTop (mkF m 16 #[.val (.int ch)] []))
      refine own_go (fun tq kq => XS.iconst X0.here hx rfl (hb hby own_d28_16) kq) ?_
      show own_Rn p e below _ (s₁.setTop (mkF m 17 #[.val (.int ch)] [(.int (0 : Int32))]))
      exact own_ret X0 (v := some (.int (nar .boolean (0 : Int32)))) (fun h => by rw [Bd.returns] at h; cases h) (fun fs hr => retN X0 hx (t := .boolean) Bd.returns (by simp) (hb hby own_d28_17) hr) (by rw [e0]; exact ⟨by rw [if_neg (fun g => h2 g.2)]; rfl, N0, rfl⟩) (by decide) (by decide)
theorem own_ef_rmLoJ (m : MethodId) (ch : Int32) : entryFrame m #[(.int ch)] 1 = mkF m 0 #[.val (.int ch)] [] := by first | (simp [entryFrame, mkF, argsToLocals, Value.category]; done) | rfl
theorem own_d30_0 : decode jdk_89_method_15_code 0 = .ok (.iload_n 0, 1) := by decide +kernel
theorem own_d30_1 : decode jdk_89_method_15_code 1 = .ok (.ldc 76, 2) := by decide +kernel
theorem own_d30_3 : decode jdk_89_method_15_code 3 = .ok (.if_icmp .lt 13, 3) := by decide +kernel
theorem own_d30_16 : decode jdk_89_method_15_code 16 = .ok (.iconst 0, 1) := by decide +kernel
theorem own_d30_17 : decode jdk_89_method_15_code 17 = .ok (.ireturn, 1) := by decide +kernel
theorem own_d30_6 : decode jdk_89_method_15_code 6 = .ok (.iload_n 0, 1) := by decide +kernel
theorem own_d30_7 : decode jdk_89_method_15_code 7 = .ok (.ldc 77, 2) := by decide +kernel
theorem own_d30_9 : decode jdk_89_method_15_code 9 = .ok (.if_icmp .ge 7, 3) := by decide +kernel
theorem own_d30_12 : decode jdk_89_method_15_code 12 = .ok (.iconst 1, 1) := by decide +kernel
theorem own_d30_13 : decode jdk_89_method_15_code 13 = .ok (.goto 4, 3) := by decide +kernel
def Q_rmLoJ (Z : State) (ch : Int32) (h0 : Heap) (n0 : Nat) (v : Option Value) (h : Heap) (L : List Loc) : Prop := v = some (.int (if own_isLo ch then (1 : Int32) else 0)) ∧ Fr n0 L ∧ h = h0
set_option maxRecDepth 65536 in
set_option maxHeartbeats 40000000 in
theorem rmLoJ (l : Launch) (Z : State) (a0 : Array Value) (hw : ∀ d ∈ tables_1, d.before a0 Z = true) (ws : List Jvm.Cond) (ch : Int32) (h0 : Heap) (n0 : Nat) (Z0 : n0 ≤ h0.size)  :
    MetFree l (⟨"java/lang/Character", "isLowSurrogate", "(C)Z"⟩ : MethodName) (head1 (Jvm.Cond.code (⟨"java/lang/Character", "isLowSurrogate", "(C)Z"⟩ : MethodName) jdk_89_method_15_code 1 (some .boolean) :: ws) ({ frames := 0, cells := 0, slots := 0, locals := 0 } : Room)) (fun a U => a = #[(.int ch)] ∧ Z.Warmed39 U.vm ∧ U.heap = h0) (fun _ _ _ _ _ => True) (fun _ U o U' => ∃ v L, o = .returned v ∧ Q_rmLoJ Z ch h0 n0 v U'.heap L ∧ FrameEnd U o U' L ({ frames := 0, cells := 0, slots := 0, locals := 0 } : Room).cells ({ frames := 0, cells := 0, slots := 0, locals := 0 } : Room).slots) := by
  refine MetFree.of_bodySF (plainFor_of_name own_pn_java_lang_Character) hisR ?_
  intro p e s m args below meth c s₁ Bd hml0 hP hK
  obtain ⟨rfl, hZ, hh⟩ := hP
  have hx := Bd.exec
  have hby := Bd.bytes
  have hml : c.maxLocals = 1 := hml0
  have hown : s.vm.findClass "java/lang/Character" = some m.cls := findClass_of_methodNamed Bd.named
  have hnm := (name_of_methodNamed Bd.named Bd.method).1
  have X0 : Stand p l e ({ frames := 0, cells := 0, slots := 0, locals := 0 } : Room) s m #[(.int ch)] below meth c s₁ [] 0 0 := Stand.of_body Bd
  have e0 : s₁.heap = h0 := by rw [← hh, Bd.state]; rfl
  have N0 := Fr.nil n0
  have K0 : Keep h0 h0 [] := Keep.refl _ _
  refine own_go (S' := s₁.setTop (mkF m 0 #[.val (.int ch)] [])) (fun tq kq => castTop (own_ef_rmLoJ m ch) kq) ?_
  refine own_go (fun tq kq => XS.iloadN X0.here hx rfl (hb hby own_d30_0) rfl kq) ?_
  show own_Rn p e below _ (s₁.setTop (mkF m 1 #[.val (.int ch)] [(.int ch)]))
  refine own_go (fun tq kq => X0.ldcInt hx hown (mvT hZ (hw _ (own_mi 130 rfl))) (g := (mkF m 1 #[.val (.int ch)] [(.int ch)])) rfl (hb hby own_d30_1) _ kq) ?_
  show own_Rn p e below _ (s₁.setTop (mkF m 3 #[.val (.int ch)] [(.int (56320 : Int32)), (.int ch)]))
  by_cases h1 : ch < (56320 : Int32)
  · skip
    refine own_go (fun tq kq => XS.icmpYes X0.here hx rfl (pc0 := 3) (pc' := 16) rfl (hb hby own_d30_3) rfl (tlt (h1 : ch < (56320 : Int32))).1 (by decide) (by decide) kq) ?_
    show own_Rn p e below _ (s₁.setTop (mkF m 16 #[.val (.int ch)] []))
    refine own_go (fun tq kq => XS.iconst X0.here hx rfl (hb hby own_d30_16) kq) ?_
    show own_Rn p e below _ (s₁.setTop (mkF m 17 #[.val (.int ch)] [(.int (0 : Int32))]))
    exact own_ret X0 (v := some (.int (nar .boolean (0 : Int32)))) (fun h => by rw [Bd.returns] at h; cases h) (fun fs hr => retN X0 hx (t := .boolean) Bd.returns (by simp) (hb hby own_d30_17) hr) (by rw [e0]; exact ⟨by rw [if_neg (fun g => g.1 h1)]; rfl, N0, rfl⟩) (by decide) (by decide)
  · skip
    refine own_go (fun tq kq => XS.icmpNo X0.here hx rfl (hb hby own_d30_3) rfl (flt (h1 : ¬ (ch < (56320 : Int32)))).1 kq) ?_
    show own_Rn p e below _ (s₁.setTop (mkF m 6 #[.val (.int ch)] []))
    refine own_go (fun tq kq => XS.iloadN X0.here hx rfl (hb hby own_d30_6) rfl kq) ?_
    show own_Rn p e below _ (s₁.setTop (mkF m 7 #[.val (.int ch)] [(.int ch)]))
    refine own_go (fun tq kq => X0.ldcInt hx hown (mvT hZ (hw _ (own_mi 139 rfl))) (g := (mkF m 7 #[.val (.int ch)] [(.int ch)])) rfl (hb hby own_d30_7) _ kq) ?_
    show own_Rn p e below _ (s₁.setTop (mkF m 9 #[.val (.int ch)] [(.int (57344 : Int32)), (.int ch)]))
    by_cases h2 : ch < (57344 : Int32)
    · skip
      refine own_go (fun tq kq => XS.icmpNo X0.here hx rfl (hb hby own_d30_9) rfl (tlt (h2 : ch < (57344 : Int32))).2.1 kq) ?_
      show own_Rn p e below _ (s₁.setTop (mkF m 12 #[.val (.int ch)] []))
      refine own_go (fun tq kq => XS.iconst X0.here hx rfl (hb hby own_d30_12) kq) ?_
      show own_Rn p e below _ (s₁.setTop (mkF m 13 #[.val (.int ch)] [(.int (1 : Int32))]))
      refine own_go (fun tq kq => XS.goto X0.here hx rfl (pc0 := 13) (pc' := 17) rfl (hb hby own_d30_13) (by decide) (by decide) kq) ?_
      show own_Rn p e below _ (s₁.setTop (mkF m 17 #[.val (.int ch)] [(.int (1 : Int32))]))
      exact own_ret X0 (v := some (.int (nar .boolean (1 : Int32)))) (fun h => by rw [Bd.returns] at h; cases h) (fun fs hr => retN X0 hx (t := .boolean) Bd.returns (by simp) (hb hby own_d30_17) hr) (by rw [e0]; exact ⟨by rw [if_pos (⟨h1, h2⟩)]; rfl, N0, rfl⟩) (by decide) (by decide)
    · skip
      refine own_go (fun tq kq => XS.icmpYes X0.here hx rfl (pc0 := 9) (pc' := 16) rfl (hb hby own_d30_9) rfl (flt (h2 : ¬ (ch < (57344 : Int32)))).2.1 (by decide) (by decide) kq) ?_
      show own_Rn p e below _ (s₁.setTop (mkF m 16 #[.val (.int ch)] []))
      refine own_go (fun tq kq => XS.iconst X0.here hx rfl (hb hby own_d30_16) kq) ?_
      show own_Rn p e below _ (s₁.setTop (mkF m 17 #[.val (.int ch)] [(.int (0 : Int32))]))
      exact own_ret X0 (v := some (.int (nar .boolean (0 : Int32)))) (fun h => by rw [Bd.returns] at h; cases h) (fun fs hr => retN X0 hx (t := .boolean) Bd.returns (by simp) (hb hby own_d30_17) hr) (by rw [e0]; exact ⟨by rw [if_neg (fun g => h2 g.2)]; rfl, N0, rfl⟩) (by decide) (by decide)
theorem own_ef_rmHiL (m : MethodId) (ch : Int32) : entryFrame m #[(.int ch)] 1 = mkF m 0 #[.val (.int ch)] [] := by first | (simp [entryFrame, mkF, argsToLocals, Value.category]; done) | rfl
theorem own_pn_com_example_cellwise_cellwise_ChecksAtMostPinLaw : plainName "com/example/cellwise/cellwise/ChecksAtMostPinLaw" = true := by first | (simp [plainName, overriddenIn]; done) | decide +kernel
theorem own_d7_0 : decode method_2_code 0 = .ok (.iload_n 0, 1) := by decide +kernel
theorem own_d7_1 : decode method_2_code 1 = .ok (.ldc 7, 2) := by decide +kernel
theorem own_d7_3 : decode method_2_code 3 = .ok (.if_icmp .lt 13, 3) := by decide +kernel
theorem own_d7_16 : decode method_2_code 16 = .ok (.iconst 0, 1) := by decide +kernel
theorem own_d7_17 : decode method_2_code 17 = .ok (.ireturn, 1) := by decide +kernel
theorem own_d7_6 : decode method_2_code 6 = .ok (.iload_n 0, 1) := by decide +kernel
theorem own_d7_7 : decode method_2_code 7 = .ok (.ldc 8, 2) := by decide +kernel
theorem own_d7_9 : decode method_2_code 9 = .ok (.if_icmp .gt 7, 3) := by decide +kernel
theorem own_d7_12 : decode method_2_code 12 = .ok (.iconst 1, 1) := by decide +kernel
theorem own_d7_13 : decode method_2_code 13 = .ok (.goto 4, 3) := by decide +kernel
def Q_rmHiL (Z : State) (ch : Int32) (h0 : Heap) (n0 : Nat) (v : Option Value) (h : Heap) (L : List Loc) : Prop := v = some (.int (if own_isHi ch then (1 : Int32) else 0)) ∧ Fr n0 L ∧ h = h0
set_option maxRecDepth 65536 in
set_option maxHeartbeats 40000000 in
theorem rmHiL (l : Launch) (Z : State) (a0 : Array Value) (hw : ∀ d ∈ tables_1, d.before a0 Z = true) (ws : List Jvm.Cond) (ch : Int32) (h0 : Heap) (n0 : Nat) (Z0 : n0 ≤ h0.size)  :
    MetFree l (⟨"com/example/cellwise/cellwise/ChecksAtMostPinLaw", "hi", "(C)Z"⟩ : MethodName) (head1 (Jvm.Cond.code (⟨"com/example/cellwise/cellwise/ChecksAtMostPinLaw", "hi", "(C)Z"⟩ : MethodName) method_2_code 1 (some .boolean) :: ws) ({ frames := 0, cells := 0, slots := 0, locals := 0 } : Room)) (fun a U => a = #[(.int ch)] ∧ Z.Warmed39 U.vm ∧ U.heap = h0) (fun _ _ _ _ _ => True) (fun _ U o U' => ∃ v L, o = .returned v ∧ Q_rmHiL Z ch h0 n0 v U'.heap L ∧ FrameEnd U o U' L ({ frames := 0, cells := 0, slots := 0, locals := 0 } : Room).cells ({ frames := 0, cells := 0, slots := 0, locals := 0 } : Room).slots) := by
  refine MetFree.of_bodySF (plainFor_of_name own_pn_com_example_cellwise_cellwise_ChecksAtMostPinLaw) hisR ?_
  intro p e s m args below meth c s₁ Bd hml0 hP hK
  obtain ⟨rfl, hZ, hh⟩ := hP
  have hx := Bd.exec
  have hby := Bd.bytes
  have hml : c.maxLocals = 1 := hml0
  have hown : s.vm.findClass "com/example/cellwise/cellwise/ChecksAtMostPinLaw" = some m.cls := findClass_of_methodNamed Bd.named
  have hnm := (name_of_methodNamed Bd.named Bd.method).1
  have X0 : Stand p l e ({ frames := 0, cells := 0, slots := 0, locals := 0 } : Room) s m #[(.int ch)] below meth c s₁ [] 0 0 := Stand.of_body Bd
  have e0 : s₁.heap = h0 := by rw [← hh, Bd.state]; rfl
  have N0 := Fr.nil n0
  have K0 : Keep h0 h0 [] := Keep.refl _ _
  refine own_go (S' := s₁.setTop (mkF m 0 #[.val (.int ch)] [])) (fun tq kq => castTop (own_ef_rmHiL m ch) kq) ?_
  refine own_go (fun tq kq => XS.iloadN X0.here hx rfl (hb hby own_d7_0) rfl kq) ?_
  show own_Rn p e below _ (s₁.setTop (mkF m 1 #[.val (.int ch)] [(.int ch)]))
  refine own_go (fun tq kq => X0.ldcInt hx hown (mvT hZ (hw _ (own_mi 39 rfl))) (g := (mkF m 1 #[.val (.int ch)] [(.int ch)])) rfl (hb hby own_d7_1) _ kq) ?_
  show own_Rn p e below _ (s₁.setTop (mkF m 3 #[.val (.int ch)] [(.int (55296 : Int32)), (.int ch)]))
  by_cases h1 : ch < (55296 : Int32)
  · skip
    refine own_go (fun tq kq => XS.icmpYes X0.here hx rfl (pc0 := 3) (pc' := 16) rfl (hb hby own_d7_3) rfl (tlt (h1 : ch < (55296 : Int32))).1 (by decide) (by decide) kq) ?_
    show own_Rn p e below _ (s₁.setTop (mkF m 16 #[.val (.int ch)] []))
    refine own_go (fun tq kq => XS.iconst X0.here hx rfl (hb hby own_d7_16) kq) ?_
    show own_Rn p e below _ (s₁.setTop (mkF m 17 #[.val (.int ch)] [(.int (0 : Int32))]))
    exact own_ret X0 (v := some (.int (nar .boolean (0 : Int32)))) (fun h => by rw [Bd.returns] at h; cases h) (fun fs hr => retN X0 hx (t := .boolean) Bd.returns (by simp) (hb hby own_d7_17) hr) (by rw [e0]; exact ⟨by rw [if_neg (fun g => g.1 h1)]; rfl, N0, rfl⟩) (by decide) (by decide)
  · skip
    refine own_go (fun tq kq => XS.icmpNo X0.here hx rfl (hb hby own_d7_3) rfl (flt (h1 : ¬ (ch < (55296 : Int32)))).1 kq) ?_
    show own_Rn p e below _ (s₁.setTop (mkF m 6 #[.val (.int ch)] []))
    refine own_go (fun tq kq => XS.iloadN X0.here hx rfl (hb hby own_d7_6) rfl kq) ?_
    show own_Rn p e below _ (s₁.setTop (mkF m 7 #[.val (.int ch)] [(.int ch)]))
    refine own_go (fun tq kq => X0.ldcInt hx hown (mvT hZ (hw _ (own_mi 118 rfl))) (g := (mkF m 7 #[.val (.int ch)] [(.int ch)])) rfl (hb hby own_d7_7) _ kq) ?_
    show own_Rn p e below _ (s₁.setTop (mkF m 9 #[.val (.int ch)] [(.int (56319 : Int32)), (.int ch)]))
    by_cases h2 : (56319 : Int32) < ch
    · skip
      refine own_go (fun tq kq => XS.icmpYes X0.here hx rfl (pc0 := 9) (pc' := 16) rfl (hb hby own_d7_9) rfl (tlt (h2 : (56319 : Int32) < ch)).2.2.1 (by decide) (by decide) kq) ?_
      show own_Rn p e below _ (s₁.setTop (mkF m 16 #[.val (.int ch)] []))
      refine own_go (fun tq kq => XS.iconst X0.here hx rfl (hb hby own_d7_16) kq) ?_
      show own_Rn p e below _ (s₁.setTop (mkF m 17 #[.val (.int ch)] [(.int (0 : Int32))]))
      exact own_ret X0 (v := some (.int (nar .boolean (0 : Int32)))) (fun h => by rw [Bd.returns] at h; cases h) (fun fs hr => retN X0 hx (t := .boolean) Bd.returns (by simp) (hb hby own_d7_17) hr) (by rw [e0]; exact ⟨by rw [if_neg (fun g => (own_hi2 ch).mpr g.2 h2)]; rfl, N0, rfl⟩) (by decide) (by decide)
    · skip
      refine own_go (fun tq kq => XS.icmpNo X0.here hx rfl (hb hby own_d7_9) rfl (flt (h2 : ¬ ((56319 : Int32) < ch))).2.2.1 kq) ?_
      show own_Rn p e below _ (s₁.setTop (mkF m 12 #[.val (.int ch)] []))
      refine own_go (fun tq kq => XS.iconst X0.here hx rfl (hb hby own_d7_12) kq) ?_
      show own_Rn p e below _ (s₁.setTop (mkF m 13 #[.val (.int ch)] [(.int (1 : Int32))]))
      refine own_go (fun tq kq => XS.goto X0.here hx rfl (pc0 := 13) (pc' := 17) rfl (hb hby own_d7_13) (by decide) (by decide) kq) ?_
      show own_Rn p e below _ (s₁.setTop (mkF m 17 #[.val (.int ch)] [(.int (1 : Int32))]))
      exact own_ret X0 (v := some (.int (nar .boolean (1 : Int32)))) (fun h => by rw [Bd.returns] at h; cases h) (fun fs hr => retN X0 hx (t := .boolean) Bd.returns (by simp) (hb hby own_d7_17) hr) (by rw [e0]; exact ⟨by rw [if_pos (⟨h1, (own_hi2 ch).mp h2⟩)]; rfl, N0, rfl⟩) (by decide) (by decide)
theorem own_ef_rmLoL (m : MethodId) (ch : Int32) : entryFrame m #[(.int ch)] 1 = mkF m 0 #[.val (.int ch)] [] := by first | (simp [entryFrame, mkF, argsToLocals, Value.category]; done) | rfl
theorem own_d29_0 : decode method_3_code 0 = .ok (.iload_n 0, 1) := by decide +kernel
theorem own_d29_1 : decode method_3_code 1 = .ok (.ldc 9, 2) := by decide +kernel
theorem own_d29_3 : decode method_3_code 3 = .ok (.if_icmp .lt 13, 3) := by decide +kernel
theorem own_d29_16 : decode method_3_code 16 = .ok (.iconst 0, 1) := by decide +kernel
theorem own_d29_17 : decode method_3_code 17 = .ok (.ireturn, 1) := by decide +kernel
theorem own_d29_6 : decode method_3_code 6 = .ok (.iload_n 0, 1) := by decide +kernel
theorem own_d29_7 : decode method_3_code 7 = .ok (.ldc 10, 2) := by decide +kernel
theorem own_d29_9 : decode method_3_code 9 = .ok (.if_icmp .gt 7, 3) := by decide +kernel
theorem own_d29_12 : decode method_3_code 12 = .ok (.iconst 1, 1) := by decide +kernel
theorem own_d29_13 : decode method_3_code 13 = .ok (.goto 4, 3) := by decide +kernel
def Q_rmLoL (Z : State) (ch : Int32) (h0 : Heap) (n0 : Nat) (v : Option Value) (h : Heap) (L : List Loc) : Prop := v = some (.int (if own_isLo ch then (1 : Int32) else 0)) ∧ Fr n0 L ∧ h = h0
set_option maxRecDepth 65536 in
set_option maxHeartbeats 40000000 in
theorem rmLoL (l : Launch) (Z : State) (a0 : Array Value) (hw : ∀ d ∈ tables_1, d.before a0 Z = true) (ws : List Jvm.Cond) (ch : Int32) (h0 : Heap) (n0 : Nat) (Z0 : n0 ≤ h0.size)  :
    MetFree l (⟨"com/example/cellwise/cellwise/ChecksAtMostPinLaw", "lo", "(C)Z"⟩ : MethodName) (head1 (Jvm.Cond.code (⟨"com/example/cellwise/cellwise/ChecksAtMostPinLaw", "lo", "(C)Z"⟩ : MethodName) method_3_code 1 (some .boolean) :: ws) ({ frames := 0, cells := 0, slots := 0, locals := 0 } : Room)) (fun a U => a = #[(.int ch)] ∧ Z.Warmed39 U.vm ∧ U.heap = h0) (fun _ _ _ _ _ => True) (fun _ U o U' => ∃ v L, o = .returned v ∧ Q_rmLoL Z ch h0 n0 v U'.heap L ∧ FrameEnd U o U' L ({ frames := 0, cells := 0, slots := 0, locals := 0 } : Room).cells ({ frames := 0, cells := 0, slots := 0, locals := 0 } : Room).slots) := by
  refine MetFree.of_bodySF (plainFor_of_name own_pn_com_example_cellwise_cellwise_ChecksAtMostPinLaw) hisR ?_
  intro p e s m args below meth c s₁ Bd hml0 hP hK
  obtain ⟨rfl, hZ, hh⟩ := hP
  have hx := Bd.exec
  have hby := Bd.bytes
  have hml : c.maxLocals = 1 := hml0
  have hown : s.vm.findClass "com/example/cellwise/cellwise/ChecksAtMostPinLaw" = some m.cls := findClass_of_methodNamed Bd.named
  have hnm := (name_of_methodNamed Bd.named Bd.method).1
  have X0 : Stand p l e ({ frames := 0, cells := 0, slots := 0, locals := 0 } : Room) s m #[(.int ch)] below meth c s₁ [] 0 0 := Stand.of_body Bd
  have e0 : s₁.heap = h0 := by rw [← hh, Bd.state]; rfl
  have N0 := Fr.nil n0
  have K0 : Keep h0 h0 [] := Keep.refl _ _
  refine own_go (S' := s₁.setTop (mkF m 0 #[.val (.int ch)] [])) (fun tq kq => castTop (own_ef_rmLoL m ch) kq) ?_
  refine own_go (fun tq kq => XS.iloadN X0.here hx rfl (hb hby own_d29_0) rfl kq) ?_
  show own_Rn p e below _ (s₁.setTop (mkF m 1 #[.val (.int ch)] [(.int ch)]))
  refine own_go (fun tq kq => X0.ldcInt hx hown (mvT hZ (hw _ (own_mi 134 rfl))) (g := (mkF m 1 #[.val (.int ch)] [(.int ch)])) rfl (hb hby own_d29_1) _ kq) ?_
  show own_Rn p e below _ (s₁.setTop (mkF m 3 #[.val (.int ch)] [(.int (56320 : Int32)), (.int ch)]))
  by_cases h1 : ch < (56320 : Int32)
  · skip
    refine own_go (fun tq kq => XS.icmpYes X0.here hx rfl (pc0 := 3) (pc' := 16) rfl (hb hby own_d29_3) rfl (tlt (h1 : ch < (56320 : Int32))).1 (by decide) (by decide) kq) ?_
    show own_Rn p e below _ (s₁.setTop (mkF m 16 #[.val (.int ch)] []))
    refine own_go (fun tq kq => XS.iconst X0.here hx rfl (hb hby own_d29_16) kq) ?_
    show own_Rn p e below _ (s₁.setTop (mkF m 17 #[.val (.int ch)] [(.int (0 : Int32))]))
    exact own_ret X0 (v := some (.int (nar .boolean (0 : Int32)))) (fun h => by rw [Bd.returns] at h; cases h) (fun fs hr => retN X0 hx (t := .boolean) Bd.returns (by simp) (hb hby own_d29_17) hr) (by rw [e0]; exact ⟨by rw [if_neg (fun g => g.1 h1)]; rfl, N0, rfl⟩) (by decide) (by decide)
  · skip
    refine own_go (fun tq kq => XS.icmpNo X0.here hx rfl (hb hby own_d29_3) rfl (flt (h1 : ¬ (ch < (56320 : Int32)))).1 kq) ?_
    show own_Rn p e below _ (s₁.setTop (mkF m 6 #[.val (.int ch)] []))
    refine own_go (fun tq kq => XS.iloadN X0.here hx rfl (hb hby own_d29_6) rfl kq) ?_
    show own_Rn p e below _ (s₁.setTop (mkF m 7 #[.val (.int ch)] [(.int ch)]))
    refine own_go (fun tq kq => X0.ldcInt hx hown (mvT hZ (hw _ (own_mi 138 rfl))) (g := (mkF m 7 #[.val (.int ch)] [(.int ch)])) rfl (hb hby own_d29_7) _ kq) ?_
    show own_Rn p e below _ (s₁.setTop (mkF m 9 #[.val (.int ch)] [(.int (57343 : Int32)), (.int ch)]))
    by_cases h2 : (57343 : Int32) < ch
    · skip
      refine own_go (fun tq kq => XS.icmpYes X0.here hx rfl (pc0 := 9) (pc' := 16) rfl (hb hby own_d29_9) rfl (tlt (h2 : (57343 : Int32) < ch)).2.2.1 (by decide) (by decide) kq) ?_
      show own_Rn p e below _ (s₁.setTop (mkF m 16 #[.val (.int ch)] []))
      refine own_go (fun tq kq => XS.iconst X0.here hx rfl (hb hby own_d29_16) kq) ?_
      show own_Rn p e below _ (s₁.setTop (mkF m 17 #[.val (.int ch)] [(.int (0 : Int32))]))
      exact own_ret X0 (v := some (.int (nar .boolean (0 : Int32)))) (fun h => by rw [Bd.returns] at h; cases h) (fun fs hr => retN X0 hx (t := .boolean) Bd.returns (by simp) (hb hby own_d29_17) hr) (by rw [e0]; exact ⟨by rw [if_neg (fun g => (own_lo2 ch).mpr g.2 h2)]; rfl, N0, rfl⟩) (by decide) (by decide)
    · skip
      refine own_go (fun tq kq => XS.icmpNo X0.here hx rfl (hb hby own_d29_9) rfl (flt (h2 : ¬ ((57343 : Int32) < ch))).2.2.1 kq) ?_
      show own_Rn p e below _ (s₁.setTop (mkF m 12 #[.val (.int ch)] []))
      refine own_go (fun tq kq => XS.iconst X0.here hx rfl (hb hby own_d29_12) kq) ?_
      show own_Rn p e below _ (s₁.setTop (mkF m 13 #[.val (.int ch)] [(.int (1 : Int32))]))
      refine own_go (fun tq kq => XS.goto X0.here hx rfl (pc0 := 13) (pc' := 17) rfl (hb hby own_d29_13) (by decide) (by decide) kq) ?_
      show own_Rn p e below _ (s₁.setTop (mkF m 17 #[.val (.int ch)] [(.int (1 : Int32))]))
      exact own_ret X0 (v := some (.int (nar .boolean (1 : Int32)))) (fun h => by rw [Bd.returns] at h; cases h) (fun fs hr => retN X0 hx (t := .boolean) Bd.returns (by simp) (hb hby own_d29_17) hr) (by rw [e0]; exact ⟨by rw [if_pos (⟨h1, (own_lo2 ch).mp h2⟩)]; rfl, N0, rfl⟩) (by decide) (by decide)
theorem own_ef_rmPair (m : MethodId) (cx : Int32) (cy : Int32) : entryFrame m #[(.int cx), (.int cy)] 2 = mkF m 0 #[.val (.int cx), .val (.int cy)] [] := by first | (simp [entryFrame, mkF, argsToLocals, Value.category]; done) | rfl
theorem own_d6_0 : decode method_4_code 0 = .ok (.iload_n 0, 1) := by decide +kernel
theorem own_d6_1 : decode method_4_code 1 = .ok (.invokestatic 11, 3) := by decide +kernel
theorem own_d6_4 : decode method_4_code 4 = .ok (.ifCond .eq 14, 3) := by decide +kernel
theorem own_d6_7 : decode method_4_code 7 = .ok (.iload_n 1, 1) := by decide +kernel
theorem own_d6_8 : decode method_4_code 8 = .ok (.invokestatic 17, 3) := by decide +kernel
theorem own_d6_11 : decode method_4_code 11 = .ok (.ifCond .eq 7, 3) := by decide +kernel
theorem own_d6_14 : decode method_4_code 14 = .ok (.iconst 1, 1) := by decide +kernel
theorem own_d6_15 : decode method_4_code 15 = .ok (.goto 4, 3) := by decide +kernel
theorem own_d6_19 : decode method_4_code 19 = .ok (.ireturn, 1) := by decide +kernel
theorem own_d6_18 : decode method_4_code 18 = .ok (.iconst 0, 1) := by decide +kernel
def Q_rmPair (Z : State) (cx : Int32) (cy : Int32) (h0 : Heap) (n0 : Nat) (v : Option Value) (h : Heap) (L : List Loc) : Prop := v = some (.int (if own_isHi cx ∧ own_isLo cy then (1 : Int32) else 0)) ∧ Fr n0 L ∧ h = h0
set_option maxRecDepth 65536 in
set_option maxHeartbeats 40000000 in
theorem rmPair (l : Launch) (Z : State) (a0 : Array Value) (hw : ∀ d ∈ tables_1, d.before a0 Z = true) (ws : List Jvm.Cond) (cx : Int32) (cy : Int32) (h0 : Heap) (n0 : Nat) (Z0 : n0 ≤ h0.size)  :
    MetFree l (⟨"com/example/cellwise/cellwise/ChecksAtMostPinLaw", "pair", "(CC)Z"⟩ : MethodName) (head1 (Jvm.Cond.code (⟨"com/example/cellwise/cellwise/ChecksAtMostPinLaw", "pair", "(CC)Z"⟩ : MethodName) method_4_code 2 (some .boolean) :: ws) ({ frames := 1, cells := 0, slots := 0, locals := 12 } : Room)) (fun a U => a = #[(.int cx), (.int cy)] ∧ Z.Warmed39 U.vm ∧ U.heap = h0) (fun _ _ _ _ _ => True) (fun _ U o U' => ∃ v L, o = .returned v ∧ Q_rmPair Z cx cy h0 n0 v U'.heap L ∧ FrameEnd U o U' L ({ frames := 1, cells := 0, slots := 0, locals := 12 } : Room).cells ({ frames := 1, cells := 0, slots := 0, locals := 12 } : Room).slots) := by
  refine MetFree.of_bodySF (plainFor_of_name own_pn_com_example_cellwise_cellwise_ChecksAtMostPinLaw) hisR ?_
  intro p e s m args below meth c s₁ Bd hml0 hP hK
  obtain ⟨rfl, hZ, hh⟩ := hP
  have hx := Bd.exec
  have hby := Bd.bytes
  have hml : c.maxLocals = 2 := hml0
  have hown : s.vm.findClass "com/example/cellwise/cellwise/ChecksAtMostPinLaw" = some m.cls := findClass_of_methodNamed Bd.named
  have hnm := (name_of_methodNamed Bd.named Bd.method).1
  have X0 : Stand p l e ({ frames := 1, cells := 0, slots := 0, locals := 12 } : Room) s m #[(.int cx), (.int cy)] below meth c s₁ [] 0 0 := Stand.of_body Bd
  have e0 : s₁.heap = h0 := by rw [← hh, Bd.state]; rfl
  have N0 := Fr.nil n0
  have K0 : Keep h0 h0 [] := Keep.refl _ _
  refine own_go (S' := s₁.setTop (mkF m 0 #[.val (.int cx), .val (.int cy)] [])) (fun tq kq => castTop (own_ef_rmPair m cx cy) kq) ?_
  refine own_go (fun tq kq => XS.iloadN X0.here hx rfl (hb hby own_d6_0) rfl kq) ?_
  show own_Rn p e below _ (s₁.setTop (mkF m 1 #[.val (.int cx), .val (.int cy)] [(.int cx)]))
  have Zn1 : n0 ≤ h0.size := by omega
  obtain ⟨rv1, _, ⟨T1, L1, k1, n1⟩, -, X1, ⟨Lc1, hQ1, l1, y1, z1⟩, st1⟩ := Jvm.LawKit.callS X0 hx (y := (⟨"com/example/cellwise/cellwise/ChecksAtMostPinLaw", "hi", "(C)Z"⟩ : MethodName)) hown (mvT hZ (hw _ (own_mi 36 rfl))) (mvT hZ (hw _ (own_mi 37 rfl))) (mvT hZ (hw _ (own_mi 34 rfl))) (mvT hZ (hw _ (own_mi 38 rfl))) (by decide) (backOf (W := 0) (rmHiL l Z a0 hw [] (cx) h0 n0 Zn1 ) hZ (hw _ (own_mi 38 rfl)) (hw _ (own_mi 34 rfl)) (by decide) (by decide)) (g := (mkF m 1 #[.val (.int cx), .val (.int cy)] [(.int cx)])) rfl (by rw [hml]; rfl) (argsL := [(.int cx)]) (rest := []) (lenOf own_pd_28C29Z rfl) rfl (by show 2 * 0 + _ ≤ _; exact Nat.le_of_eq rfl) (hb hby own_d6_1) (fun _ _ => ⟨rfl, e0, (by decide : 0 + 0 ≤ _), (by decide : 0 + 0 ≤ _)⟩)
  dsimp only [Pt.U, Pt.locs, Pt.cells, Pt.slots] at X1 l1 y1 z1 st1 hQ1
  subst l1 y1 z1
  obtain ⟨rfl, Nq1, eh1⟩ := hQ1
  have N1 := Fr.app N0 Nq1
  refine own_go st1 ?_
  show own_Rn p e below _ (T1.setTop (mkF m 4 #[.val (.int cx), .val (.int cy)] [(.int (if own_isHi cx then (1 : Int32) else 0))]))
  by_cases hA : own_isHi cx
  · skip
    rw [if_pos hA]
    show own_Rn p e below _ (T1.setTop (mkF m 4 #[.val (.int cx), .val (.int cy)] [(.int (1 : Int32))]))
    refine own_go (fun tq kq => XS.ifNo X1.here hx rfl (hb hby own_d6_4) rfl ((if0 _ _).trans (feq ((by decide : ¬ ((1 : Int32) = (0 : Int32))) : ¬ ((1 : Int32) = (0 : Int32)))).1) kq) ?_
    show own_Rn p e below _ (T1.setTop (mkF m 7 #[.val (.int cx), .val (.int cy)] []))
    refine own_go (fun tq kq => XS.iloadN X1.here hx rfl (hb hby own_d6_7) rfl kq) ?_
    show own_Rn p e below _ (T1.setTop (mkF m 8 #[.val (.int cx), .val (.int cy)] [(.int cy)]))
    have Zn2 : n0 ≤ h0.size := by omega
    obtain ⟨rv2, _, ⟨T2, L2, k2, n2⟩, -, X2, ⟨Lc2, hQ2, l2, y2, z2⟩, st2⟩ := Jvm.LawKit.callS X1 hx (y := (⟨"com/example/cellwise/cellwise/ChecksAtMostPinLaw", "lo", "(C)Z"⟩ : MethodName)) hown (mvT hZ (hw _ (own_mi 131 rfl))) (mvT hZ (hw _ (own_mi 132 rfl))) (mvT hZ (hw _ (own_mi 34 rfl))) (mvT hZ (hw _ (own_mi 133 rfl))) (by decide) (backOf (W := 0) (rmLoL l Z a0 hw [] (cy) h0 n0 Zn2 ) hZ (hw _ (own_mi 133 rfl)) (hw _ (own_mi 34 rfl)) (by decide) (by decide)) (g := (mkF m 8 #[.val (.int cx), .val (.int cy)] [(.int cy)])) rfl (by rw [hml]; rfl) (argsL := [(.int cy)]) (rest := []) (lenOf own_pd_28C29Z rfl) rfl (by show 2 * 0 + _ ≤ _; exact Nat.le_of_eq rfl) (hb hby own_d6_8) (fun _ _ => ⟨rfl, eh1, (by decide : 0 + 0 ≤ _), (by decide : 0 + 0 ≤ _)⟩)
    dsimp only [Pt.U, Pt.locs, Pt.cells, Pt.slots] at X2 l2 y2 z2 st2 hQ2
    subst l2 y2 z2
    obtain ⟨rfl, Nq2, eh2⟩ := hQ2
    have N2 := Fr.app N1 Nq2
    refine own_go st2 ?_
    show own_Rn p e below _ (T2.setTop (mkF m 11 #[.val (.int cx), .val (.int cy)] [(.int (if own_isLo cy then (1 : Int32) else 0))]))
    by_cases hB : own_isLo cy
    · skip
      rw [if_pos hB]
      show own_Rn p e below _ (T2.setTop (mkF m 11 #[.val (.int cx), .val (.int cy)] [(.int (1 : Int32))]))
      refine own_go (fun tq kq => XS.ifNo X2.here hx rfl (hb hby own_d6_11) rfl ((if0 _ _).trans (feq ((by decide : ¬ ((1 : Int32) = (0 : Int32))) : ¬ ((1 : Int32) = (0 : Int32)))).1) kq) ?_
      show own_Rn p e below _ (T2.setTop (mkF m 14 #[.val (.int cx), .val (.int cy)] []))
      refine own_go (fun tq kq => XS.iconst X2.here hx rfl (hb hby own_d6_14) kq) ?_
      show own_Rn p e below _ (T2.setTop (mkF m 15 #[.val (.int cx), .val (.int cy)] [(.int (1 : Int32))]))
      refine own_go (fun tq kq => XS.goto X2.here hx rfl (pc0 := 15) (pc' := 19) rfl (hb hby own_d6_15) (by decide) (by decide) kq) ?_
      show own_Rn p e below _ (T2.setTop (mkF m 19 #[.val (.int cx), .val (.int cy)] [(.int (1 : Int32))]))
      exact own_ret X2 (v := some (.int (nar .boolean (1 : Int32)))) (fun h => by rw [Bd.returns] at h; cases h) (fun fs hr => retN X2 hx (t := .boolean) Bd.returns (by simp) (hb hby own_d6_19) hr) (by rw [eh2]; exact ⟨by rw [if_pos ⟨hA, hB⟩]; rfl, N2, rfl⟩) (by decide) (by decide)
    · skip
      rw [if_neg hB]
      show own_Rn p e below _ (T2.setTop (mkF m 11 #[.val (.int cx), .val (.int cy)] [(.int (0 : Int32))]))
      refine own_go (fun tq kq => XS.ifYes X2.here hx rfl (pc0 := 11) (pc' := 18) rfl (hb hby own_d6_11) rfl ((if0 _ _).trans (teq ((by decide : (0 : Int32) = (0 : Int32)) : (0 : Int32) = (0 : Int32))).1) (by decide) (by decide) kq) ?_
      show own_Rn p e below _ (T2.setTop (mkF m 18 #[.val (.int cx), .val (.int cy)] []))
      refine own_go (fun tq kq => XS.iconst X2.here hx rfl (hb hby own_d6_18) kq) ?_
      show own_Rn p e below _ (T2.setTop (mkF m 19 #[.val (.int cx), .val (.int cy)] [(.int (0 : Int32))]))
      exact own_ret X2 (v := some (.int (nar .boolean (0 : Int32)))) (fun h => by rw [Bd.returns] at h; cases h) (fun fs hr => retN X2 hx (t := .boolean) Bd.returns (by simp) (hb hby own_d6_19) hr) (by rw [eh2]; exact ⟨by rw [if_neg (fun g => hB g.2)]; rfl, N2, rfl⟩) (by decide) (by decide)
  · skip
    rw [if_neg hA]
    show own_Rn p e below _ (T1.setTop (mkF m 4 #[.val (.int cx), .val (.int cy)] [(.int (0 : Int32))]))
    refine own_go (fun tq kq => XS.ifYes X1.here hx rfl (pc0 := 4) (pc' := 18) rfl (hb hby own_d6_4) rfl ((if0 _ _).trans (teq ((by decide : (0 : Int32) = (0 : Int32)) : (0 : Int32) = (0 : Int32))).1) (by decide) (by decide) kq) ?_
    show own_Rn p e below _ (T1.setTop (mkF m 18 #[.val (.int cx), .val (.int cy)] []))
    refine own_go (fun tq kq => XS.iconst X1.here hx rfl (hb hby own_d6_18) kq) ?_
    show own_Rn p e below _ (T1.setTop (mkF m 19 #[.val (.int cx), .val (.int cy)] [(.int (0 : Int32))]))
    exact own_ret X1 (v := some (.int (nar .boolean (0 : Int32)))) (fun h => by rw [Bd.returns] at h; cases h) (fun fs hr => retN X1 hx (t := .boolean) Bd.returns (by simp) (hb hby own_d6_19) hr) (by rw [eh1]; exact ⟨by rw [if_neg (fun g => hA g.1)]; rfl, N1, rfl⟩) (by decide) (by decide)
theorem own_ef_rmMax (m : MethodId) (xa : Int32) (xb : Int32) : entryFrame m #[(.int xa), (.int xb)] 2 = mkF m 0 #[.val (.int xa), .val (.int xb)] [] := by first | (simp [entryFrame, mkF, argsToLocals, Value.category]; done) | rfl
theorem own_d8_0 : decode jdk_29_method_65_code 0 = .ok (.iload_n 0, 1) := by decide +kernel
theorem own_d8_1 : decode jdk_29_method_65_code 1 = .ok (.iload_n 1, 1) := by decide +kernel
theorem own_d8_2 : decode jdk_29_method_65_code 2 = .ok (.if_icmp .lt 7, 3) := by decide +kernel
theorem own_d8_9 : decode jdk_29_method_65_code 9 = .ok (.iload_n 1, 1) := by decide +kernel
theorem own_d8_10 : decode jdk_29_method_65_code 10 = .ok (.ireturn, 1) := by decide +kernel
theorem own_d8_5 : decode jdk_29_method_65_code 5 = .ok (.iload_n 0, 1) := by decide +kernel
theorem own_d8_6 : decode jdk_29_method_65_code 6 = .ok (.goto 4, 3) := by decide +kernel
def Q_rmMax (Z : State) (xa : Int32) (xb : Int32) (h0 : Heap) (n0 : Nat) (v : Option Value) (h : Heap) (L : List Loc) : Prop := ∃ (r : Int32), v = some (.int r) ∧ Fr n0 L ∧ h = h0 ∧ (¬ r < xb)
set_option maxRecDepth 65536 in
set_option maxHeartbeats 40000000 in
theorem rmMax (l : Launch) (Z : State) (a0 : Array Value) (hw : ∀ d ∈ tables_1, d.before a0 Z = true) (ws : List Jvm.Cond) (xa : Int32) (xb : Int32) (h0 : Heap) (n0 : Nat) (Z0 : n0 ≤ h0.size)  :
    MetFree l (⟨"java/lang/Math", "max", "(II)I"⟩ : MethodName) (head1 (Jvm.Cond.code (⟨"java/lang/Math", "max", "(II)I"⟩ : MethodName) jdk_29_method_65_code 2 (some .int) :: ws) ({ frames := 0, cells := 0, slots := 0, locals := 0 } : Room)) (fun a U => a = #[(.int xa), (.int xb)] ∧ Z.Warmed39 U.vm ∧ U.heap = h0) (fun _ _ _ _ _ => True) (fun _ U o U' => ∃ v L, o = .returned v ∧ Q_rmMax Z xa xb h0 n0 v U'.heap L ∧ FrameEnd U o U' L ({ frames := 0, cells := 0, slots := 0, locals := 0 } : Room).cells ({ frames := 0, cells := 0, slots := 0, locals := 0 } : Room).slots) := by
  refine MetFree.of_bodySF (Jvm.Free.JP.mathPlain rfl (by decide +kernel)) hisR ?_
  intro p e s m args below meth c s₁ Bd hml0 hP hK
  obtain ⟨rfl, hZ, hh⟩ := hP
  have hx := Bd.exec
  have hby := Bd.bytes
  have hml : c.maxLocals = 2 := hml0
  have hown : s.vm.findClass "java/lang/Math" = some m.cls := findClass_of_methodNamed Bd.named
  have hnm := (name_of_methodNamed Bd.named Bd.method).1
  have X0 : Stand p l e ({ frames := 0, cells := 0, slots := 0, locals := 0 } : Room) s m #[(.int xa), (.int xb)] below meth c s₁ [] 0 0 := Stand.of_body Bd
  have e0 : s₁.heap = h0 := by rw [← hh, Bd.state]; rfl
  have N0 := Fr.nil n0
  have K0 : Keep h0 h0 [] := Keep.refl _ _
  refine own_go (S' := s₁.setTop (mkF m 0 #[.val (.int xa), .val (.int xb)] [])) (fun tq kq => castTop (own_ef_rmMax m xa xb) kq) ?_
  refine own_go (fun tq kq => XS.iloadN X0.here hx rfl (hb hby own_d8_0) rfl kq) ?_
  show own_Rn p e below _ (s₁.setTop (mkF m 1 #[.val (.int xa), .val (.int xb)] [(.int xa)]))
  refine own_go (fun tq kq => XS.iloadN X0.here hx rfl (hb hby own_d8_1) rfl kq) ?_
  show own_Rn p e below _ (s₁.setTop (mkF m 2 #[.val (.int xa), .val (.int xb)] [(.int xb), (.int xa)]))
  by_cases hm : xa < xb
  · skip
    refine own_go (fun tq kq => XS.icmpYes X0.here hx rfl (pc0 := 2) (pc' := 9) rfl (hb hby own_d8_2) rfl (tlt (hm : xa < xb)).1 (by decide) (by decide) kq) ?_
    show own_Rn p e below _ (s₁.setTop (mkF m 9 #[.val (.int xa), .val (.int xb)] []))
    refine own_go (fun tq kq => XS.iloadN X0.here hx rfl (hb hby own_d8_9) rfl kq) ?_
    show own_Rn p e below _ (s₁.setTop (mkF m 10 #[.val (.int xa), .val (.int xb)] [(.int xb)]))
    exact own_ret X0 (v := some (.int xb)) (fun h => by rw [Bd.returns] at h; cases h) (fun fs hr => retI X0 hx Bd.returns (hb hby own_d8_10) hr) (by rw [e0]; exact ⟨xb, rfl, N0, rfl, fun h => Int32.lt_irrefl h⟩) (by decide) (by decide)
  · skip
    refine own_go (fun tq kq => XS.icmpNo X0.here hx rfl (hb hby own_d8_2) rfl (flt (hm : ¬ (xa < xb))).1 kq) ?_
    show own_Rn p e below _ (s₁.setTop (mkF m 5 #[.val (.int xa), .val (.int xb)] []))
    refine own_go (fun tq kq => XS.iloadN X0.here hx rfl (hb hby own_d8_5) rfl kq) ?_
    show own_Rn p e below _ (s₁.setTop (mkF m 6 #[.val (.int xa), .val (.int xb)] [(.int xa)]))
    refine own_go (fun tq kq => XS.goto X0.here hx rfl (pc0 := 6) (pc' := 10) rfl (hb hby own_d8_6) (by decide) (by decide) kq) ?_
    show own_Rn p e below _ (s₁.setTop (mkF m 10 #[.val (.int xa), .val (.int xb)] [(.int xa)]))
    exact own_ret X0 (v := some (.int xa)) (fun h => by rw [Bd.returns] at h; cases h) (fun fs hr => retI X0 hx Bd.returns (hb hby own_d8_10) hr) (by rw [e0]; exact ⟨xa, rfl, N0, rfl, hm⟩) (by decide) (by decide)
theorem own_ef_rmCo0 (m : MethodId) (x : Addr) (G1 : Int32) : entryFrame m #[(.ref x)] 1 = mkF m 0 #[.val (.ref x)] [] := by first | (simp [entryFrame, mkF, argsToLocals, Value.category]; done) | rfl
theorem own_d15_0 : decode jdk_42_method_152_code 0 = .ok (.getstatic 38, 3) := by decide +kernel
theorem own_d15_3 : decode jdk_42_method_152_code 3 = .ok (.ifCond .eq 10, 3) := by decide +kernel
theorem own_d15_6 : decode jdk_42_method_152_code 6 = .ok (.aload_n 0, 1) := by decide +kernel
theorem own_d15_7 : decode jdk_42_method_152_code 7 = .ok (.getfield 15, 3) := by decide +kernel
theorem own_d15_10 : decode jdk_42_method_152_code 10 = .ok (.goto 4, 3) := by decide +kernel
theorem own_d15_14 : decode jdk_42_method_152_code 14 = .ok (.ireturn, 1) := by decide +kernel
def Q_rmCo0 (Z : State) (x : Addr) (G1 : Int32) (h0 : Heap) (n0 : Nat) (v : Option Value) (h : Heap) (L : List Loc) : Prop := v = some (.int (0 : Int32)) ∧ Fr n0 L ∧ h = h0
set_option maxRecDepth 65536 in
set_option maxHeartbeats 40000000 in
theorem rmCo0 (l : Launch) (Z : State) (a0 : Array Value) (hw : ∀ d ∈ tables_1, d.before a0 Z = true) (ws : List Jvm.Cond) (x : Addr) (G1 : Int32) (h0 : Heap) (n0 : Nat) (Z0 : n0 ≤ h0.size) (Pm0 : Fld Z h0 x "java/lang/String" "coder" "B" (.int (0 : Int32))) (O2 : Sta Z Z.heap "java/lang/String" "COMPACT_STRINGS" "Z" (.int G1)) (P5 : (¬ (G1 = (0 : Int32)))) (X00 : Old Z n0 h0) :
    MetFree l (⟨"java/lang/String", "coder", "()B"⟩ : MethodName) (head1 (Jvm.Cond.code (⟨"java/lang/String", "coder", "()B"⟩ : MethodName) jdk_42_method_152_code 1 (some .byte) :: ws) ({ frames := 0, cells := 0, slots := 0, locals := 0 } : Room)) (fun a U => a = #[(.ref x)] ∧ Z.Warmed39 U.vm ∧ U.heap = h0) (fun _ _ _ _ _ => True) (fun _ U o U' => ∃ v L, o = .returned v ∧ Q_rmCo0 Z x G1 h0 n0 v U'.heap L ∧ FrameEnd U o U' L ({ frames := 0, cells := 0, slots := 0, locals := 0 } : Room).cells ({ frames := 0, cells := 0, slots := 0, locals := 0 } : Room).slots) := by
  refine MetFree.of_bodySF (plainFor_of_name own_pn_java_lang_String) hisR ?_
  intro p e s m args below meth c s₁ Bd hml0 hP hK
  obtain ⟨rfl, hZ, hh⟩ := hP
  have hx := Bd.exec
  have hby := Bd.bytes
  have hml : c.maxLocals = 1 := hml0
  have hown : s.vm.findClass "java/lang/String" = some m.cls := findClass_of_methodNamed Bd.named
  have hnm := (name_of_methodNamed Bd.named Bd.method).1
  have X0 : Stand p l e ({ frames := 0, cells := 0, slots := 0, locals := 0 } : Room) s m #[(.ref x)] below meth c s₁ [] 0 0 := Stand.of_body Bd
  have e0 : s₁.heap = h0 := by rw [← hh, Bd.state]; rfl
  have N0 := Fr.nil n0
  have K0 : Keep h0 h0 [] := Keep.refl _ _
  refine own_go (S' := s₁.setTop (mkF m 0 #[.val (.ref x)] [])) (fun tq kq => castTop (own_ef_rmCo0 m x G1) kq) ?_
  have lt1 : @LT.lt Nat _ x h0.size := Pm0.lt
  obtain ⟨T2, X2, e2, st2⟩ := getS2 X0 hx hZ hown (host := "") (Or.inl (hw _ (own_mi 16 rfl))) Via.refl e0 (O2.ext X00.2) (g := (mkF m 0 #[.val (.ref x)] [])) rfl (hb hby own_d15_0)
  refine own_go st2 ?_
  show own_Rn p e below _ (T2.setTop (mkF m 3 #[.val (.ref x)] [(.int G1)]))
  refine own_go (fun tq kq => XS.ifNo X2.here hx rfl (hb hby own_d15_3) rfl ((if0 _ _).trans (feq (P5 : ¬ (G1 = (0 : Int32)))).1) kq) ?_
  show own_Rn p e below _ (T2.setTop (mkF m 6 #[.val (.ref x)] []))
  refine own_go (fun tq kq => XS.aloadN X2.here hx rfl (hb hby own_d15_6) rfl rfl kq) ?_
  show own_Rn p e below _ (T2.setTop (mkF m 7 #[.val (.ref x)] [(.ref x)]))
  obtain ⟨T3, X3, e3, st3⟩ := getF X2 hx hZ hown (host := "") (Or.inl (hw _ (own_mi 28 rfl))) Via.refl e2 Pm0 (g := (mkF m 7 #[.val (.ref x)] [(.ref x)])) rfl rfl (hb hby own_d15_7)
  refine own_go st3 ?_
  show own_Rn p e below _ (T3.setTop (mkF m 10 #[.val (.ref x)] [(.int (0 : Int32))]))
  refine own_go (fun tq kq => XS.goto X3.here hx rfl (pc0 := 10) (pc' := 14) rfl (hb hby own_d15_10) (by decide) (by decide) kq) ?_
  show own_Rn p e below _ (T3.setTop (mkF m 14 #[.val (.ref x)] [(.int (0 : Int32))]))
  exact own_ret X3 (v := some (.int (nar .byte (0 : Int32)))) (fun h => by rw [Bd.returns] at h; cases h) (fun fs hr => retN X3 hx (t := .byte) Bd.returns (by simp) (hb hby own_d15_14) hr) (by rw [e3]; exact ⟨rfl, N0, rfl⟩) (by decide) (by decide)
theorem own_ef_rmLe0 (m : MethodId) (x : Addr) (t : Addr) (kt : ClassId) (cs : List Int32) (G1 : Int32) : entryFrame m #[(.ref x)] 1 = mkF m 0 #[.val (.ref x)] [] := by first | (simp [entryFrame, mkF, argsToLocals, Value.category]; done) | rfl
theorem own_d14_0 : decode jdk_42_method_54_code 0 = .ok (.aload_n 0, 1) := by decide +kernel
theorem own_d14_1 : decode jdk_42_method_54_code 1 = .ok (.getfield 9, 3) := by decide +kernel
theorem own_d14_4 : decode jdk_42_method_54_code 4 = .ok (.arraylength, 1) := by decide +kernel
theorem own_d14_5 : decode jdk_42_method_54_code 5 = .ok (.aload_n 0, 1) := by decide +kernel
theorem own_d14_6 : decode jdk_42_method_54_code 6 = .ok (.invokevirtual 335, 3) := by decide +kernel
theorem own_pd_2829B : parseMethodDescriptor "()B" = some ⟨[], some .byte⟩ := by decide +kernel
theorem own_d14_9 : decode jdk_42_method_54_code 9 = .ok (.ishr, 1) := by decide +kernel
theorem own_d14_10 : decode jdk_42_method_54_code 10 = .ok (.ireturn, 1) := by decide +kernel
def Q_rmLe0 (Z : State) (x : Addr) (t : Addr) (kt : ClassId) (cs : List Int32) (G1 : Int32) (h0 : Heap) (n0 : Nat) (v : Option Value) (h : Heap) (L : List Loc) : Prop := v = some (.int (Int32.ofNat cs.length)) ∧ Fr n0 L ∧ h = h0
set_option maxRecDepth 65536 in
set_option maxHeartbeats 40000000 in
theorem rmLe0 (l : Launch) (Z : State) (a0 : Array Value) (hw : ∀ d ∈ tables_1, d.before a0 Z = true) (ws : List Jvm.Cond) (x : Addr) (t : Addr) (kt : ClassId) (cs : List Int32) (G1 : Int32) (h0 : Heap) (n0 : Nat) (Z0 : n0 ≤ h0.size) (Pm0 : Exa Z h0 x "java/lang/String") (Pm1 : Fld Z h0 x "java/lang/String" "value" "[B" (.ref t)) (Pm2 : Fld Z h0 x "java/lang/String" "coder" "B" (.int (0 : Int32))) (Pm3 : Arv Z h0 t kt .byte (Int32.ofNat cs.length) (own_bs cs) (.int 0)) (hn : (cs.length ≤ 4)) (O2 : Sta Z Z.heap "java/lang/String" "COMPACT_STRINGS" "Z" (.int G1)) (P5 : (¬ (G1 = (0 : Int32)))) (X00 : Old Z n0 h0) :
    MetFree l (⟨"java/lang/String", "length", "()I"⟩ : MethodName) (head1 (Jvm.Cond.code (⟨"java/lang/String", "length", "()I"⟩ : MethodName) jdk_42_method_54_code 1 (some .int) :: ws) ({ frames := 1, cells := 0, slots := 0, locals := 13 } : Room)) (fun a U => a = #[(.ref x)] ∧ Z.Warmed39 U.vm ∧ U.heap = h0) (fun _ _ _ _ _ => True) (fun _ U o U' => ∃ v L, o = .returned v ∧ Q_rmLe0 Z x t kt cs G1 h0 n0 v U'.heap L ∧ FrameEnd U o U' L ({ frames := 1, cells := 0, slots := 0, locals := 13 } : Room).cells ({ frames := 1, cells := 0, slots := 0, locals := 13 } : Room).slots) := by
  refine MetFree.of_bodySF (plainFor_of_name own_pn_java_lang_String) hisR ?_
  intro p e s m args below meth c s₁ Bd hml0 hP hK
  obtain ⟨rfl, hZ, hh⟩ := hP
  have hx := Bd.exec
  have hby := Bd.bytes
  have hml : c.maxLocals = 1 := hml0
  have hown : s.vm.findClass "java/lang/String" = some m.cls := findClass_of_methodNamed Bd.named
  have hnm := (name_of_methodNamed Bd.named Bd.method).1
  have X0 : Stand p l e ({ frames := 1, cells := 0, slots := 0, locals := 13 } : Room) s m #[(.ref x)] below meth c s₁ [] 0 0 := Stand.of_body Bd
  have e0 : s₁.heap = h0 := by rw [← hh, Bd.state]; rfl
  have N0 := Fr.nil n0
  have K0 : Keep h0 h0 [] := Keep.refl _ _
  refine own_go (S' := s₁.setTop (mkF m 0 #[.val (.ref x)] [])) (fun tq kq => castTop (own_ef_rmLe0 m x t kt cs G1) kq) ?_
  have lt1 : @LT.lt Nat _ x h0.size := Pm0.lt
  have lt2 : @LT.lt Nat _ t h0.size := Pm3.lt
  refine own_go (fun tq kq => XS.aloadN X0.here hx rfl (hb hby own_d14_0) rfl rfl kq) ?_
  show own_Rn p e below _ (s₁.setTop (mkF m 1 #[.val (.ref x)] [(.ref x)]))
  obtain ⟨T3, X3, e3, st3⟩ := getF X0 hx hZ hown (host := "") (Or.inl (hw _ (own_mi 30 rfl))) Via.refl e0 Pm1 (g := (mkF m 1 #[.val (.ref x)] [(.ref x)])) rfl rfl (hb hby own_d14_1)
  refine own_go st3 ?_
  show own_Rn p e below _ (T3.setTop (mkF m 4 #[.val (.ref x)] [(.ref t)]))
  obtain ⟨cl4, Ar4, -, Sz4, Nn4, -, -⟩ := id Pm3
  refine own_go (fun tq kq => X3.arraylength hx (cell := cl4) (by rw [e3]; exact Ar4.1) (State.isArrayOf_alike hZ.alike Ar4.2.1) (g := (mkF m 4 #[.val (.ref x)] [(.ref t)])) rfl rfl (hb hby own_d14_4) tq kq) ?_
  rw [len_of Sz4 Nn4]
  show own_Rn p e below _ (T3.setTop (mkF m 5 #[.val (.ref x)] [(.int (Int32.ofNat cs.length))]))
  refine own_go (fun tq kq => XS.aloadN X3.here hx rfl (hb hby own_d14_5) rfl rfl kq) ?_
  show own_Rn p e below _ (T3.setTop (mkF m 6 #[.val (.ref x)] [(.ref x), (.int (Int32.ofNat cs.length))]))
  have Zn5 : n0 ≤ h0.size := by omega
  obtain ⟨cq5, kq5, qa5, qb5, qc5⟩ := isOf hZ e3 Pm0
  obtain ⟨rv5, _, ⟨T5, L5, k5, n5⟩, -, X5, ⟨Lc5, hQ5, l5, y5, z5⟩, st5⟩ := X3.virtualBack hx (y := (⟨"java/lang/String", "coder", "()B"⟩ : MethodName)) (z := (⟨"java/lang/String", "coder", "()B"⟩ : MethodName)) hown (mvT hZ (hw _ (own_mi 67 rfl))) (mvT hZ (hw _ (own_mi 68 rfl))) (notFace_of_selects (args := #[]) (mvT hZ (hw _ (own_mi 70 rfl)))) (mvT hZ (hw _ (own_mi 70 rfl))) (mvT hZ (hw _ (own_mi 69 rfl))) (by decide) (backOf (W := 1) (rmCo0 l Z a0 hw [] (x) (G1) h0 n0 Zn5 Pm2 (O2) (P5) X00) hZ (hw _ (own_mi 71 rfl)) (hw _ (own_mi 4 rfl)) (by decide) (by decide)) qa5 qc5 (g := (mkF m 6 #[.val (.ref x)] [(.ref x), (.int (Int32.ofNat cs.length))])) rfl (by rw [hml]; rfl) (Steps.refl _) (argsL := []) (rest := [(.int (Int32.ofNat cs.length))]) (lenOf own_pd_2829B rfl) rfl (by show 2 * 0 + _ ≤ _; exact Nat.le_of_eq rfl) (hb hby own_d14_6) (fun _ _ => ⟨rfl, e3, (by decide : 0 + 0 ≤ _), (by decide : 0 + 0 ≤ _)⟩)
  dsimp only [Pt.U, Pt.locs, Pt.cells, Pt.slots] at X5 l5 y5 z5 st5 hQ5
  subst l5 y5 z5
  obtain ⟨rfl, Nq5, eh5⟩ := hQ5
  have N5 := Fr.app N0 Nq5
  refine own_go (fun tq kq => st5.trans kq) ?_
  show own_Rn p e below _ (T5.setTop (mkF m 9 #[.val (.ref x)] [(.int (0 : Int32)), (.int (Int32.ofNat cs.length))]))
  refine own_go (fun tq kq => XS.ishr X5.here hx rfl (hb hby own_d14_9) rfl kq) ?_
  show own_Rn p e below _ (T5.setTop (mkF m 10 #[.val (.ref x)] [(.int ((Int32.ofNat cs.length) >>> ((0 : Int32) &&& 31)))]))
  exact own_ret X5 (v := some (.int ((Int32.ofNat cs.length) >>> ((0 : Int32) &&& 31)))) (fun h => by rw [Bd.returns] at h; cases h) (fun fs hr => retI X5 hx Bd.returns (hb hby own_d14_10) hr) (by rw [eh5]; exact ⟨congrArg (fun z => some (Value.int z)) (own_shr0 _), N5, rfl⟩) (by decide) (by decide)
theorem own_ef_rmIl0 (m : MethodId) (x : Addr) (G1 : Int32) : entryFrame m #[(.ref x)] 1 = mkF m 0 #[.val (.ref x)] [] := by first | (simp [entryFrame, mkF, argsToLocals, Value.category]; done) | rfl
theorem own_d19_0 : decode jdk_42_method_154_code 0 = .ok (.getstatic 38, 3) := by decide +kernel
theorem own_d19_3 : decode jdk_42_method_154_code 3 = .ok (.ifCond .eq 14, 3) := by decide +kernel
theorem own_d19_6 : decode jdk_42_method_154_code 6 = .ok (.aload_n 0, 1) := by decide +kernel
theorem own_d19_7 : decode jdk_42_method_154_code 7 = .ok (.getfield 15, 3) := by decide +kernel
theorem own_d19_10 : decode jdk_42_method_154_code 10 = .ok (.ifCond .ne 7, 3) := by decide +kernel
theorem own_d19_13 : decode jdk_42_method_154_code 13 = .ok (.iconst 1, 1) := by decide +kernel
theorem own_d19_14 : decode jdk_42_method_154_code 14 = .ok (.goto 4, 3) := by decide +kernel
theorem own_d19_18 : decode jdk_42_method_154_code 18 = .ok (.ireturn, 1) := by decide +kernel
def Q_rmIl0 (Z : State) (x : Addr) (G1 : Int32) (h0 : Heap) (n0 : Nat) (v : Option Value) (h : Heap) (L : List Loc) : Prop := v = some (.int (1 : Int32)) ∧ Fr n0 L ∧ h = h0
set_option maxRecDepth 65536 in
set_option maxHeartbeats 40000000 in
theorem rmIl0 (l : Launch) (Z : State) (a0 : Array Value) (hw : ∀ d ∈ tables_1, d.before a0 Z = true) (ws : List Jvm.Cond) (x : Addr) (G1 : Int32) (h0 : Heap) (n0 : Nat) (Z0 : n0 ≤ h0.size) (Pm0 : Fld Z h0 x "java/lang/String" "coder" "B" (.int (0 : Int32))) (O2 : Sta Z Z.heap "java/lang/String" "COMPACT_STRINGS" "Z" (.int G1)) (P5 : (¬ (G1 = (0 : Int32)))) (X00 : Old Z n0 h0) :
    MetFree l (⟨"java/lang/String", "isLatin1", "()Z"⟩ : MethodName) (head1 (Jvm.Cond.code (⟨"java/lang/String", "isLatin1", "()Z"⟩ : MethodName) jdk_42_method_154_code 1 (some .boolean) :: ws) ({ frames := 0, cells := 0, slots := 0, locals := 0 } : Room)) (fun a U => a = #[(.ref x)] ∧ Z.Warmed39 U.vm ∧ U.heap = h0) (fun _ _ _ _ _ => True) (fun _ U o U' => ∃ v L, o = .returned v ∧ Q_rmIl0 Z x G1 h0 n0 v U'.heap L ∧ FrameEnd U o U' L ({ frames := 0, cells := 0, slots := 0, locals := 0 } : Room).cells ({ frames := 0, cells := 0, slots := 0, locals := 0 } : Room).slots) := by
  refine MetFree.of_bodySF (plainFor_of_name own_pn_java_lang_String) hisR ?_
  intro p e s m args below meth c s₁ Bd hml0 hP hK
  obtain ⟨rfl, hZ, hh⟩ := hP
  have hx := Bd.exec
  have hby := Bd.bytes
  have hml : c.maxLocals = 1 := hml0
  have hown : s.vm.findClass "java/lang/String" = some m.cls := findClass_of_methodNamed Bd.named
  have hnm := (name_of_methodNamed Bd.named Bd.method).1
  have X0 : Stand p l e ({ frames := 0, cells := 0, slots := 0, locals := 0 } : Room) s m #[(.ref x)] below meth c s₁ [] 0 0 := Stand.of_body Bd
  have e0 : s₁.heap = h0 := by rw [← hh, Bd.state]; rfl
  have N0 := Fr.nil n0
  have K0 : Keep h0 h0 [] := Keep.refl _ _
  refine own_go (S' := s₁.setTop (mkF m 0 #[.val (.ref x)] [])) (fun tq kq => castTop (own_ef_rmIl0 m x G1) kq) ?_
  have lt1 : @LT.lt Nat _ x h0.size := Pm0.lt
  obtain ⟨T2, X2, e2, st2⟩ := getS2 X0 hx hZ hown (host := "") (Or.inl (hw _ (own_mi 16 rfl))) Via.refl e0 (O2.ext X00.2) (g := (mkF m 0 #[.val (.ref x)] [])) rfl (hb hby own_d19_0)
  refine own_go st2 ?_
  show own_Rn p e below _ (T2.setTop (mkF m 3 #[.val (.ref x)] [(.int G1)]))
  refine own_go (fun tq kq => XS.ifNo X2.here hx rfl (hb hby own_d19_3) rfl ((if0 _ _).trans (feq (P5 : ¬ (G1 = (0 : Int32)))).1) kq) ?_
  show own_Rn p e below _ (T2.setTop (mkF m 6 #[.val (.ref x)] []))
  refine own_go (fun tq kq => XS.aloadN X2.here hx rfl (hb hby own_d19_6) rfl rfl kq) ?_
  show own_Rn p e below _ (T2.setTop (mkF m 7 #[.val (.ref x)] [(.ref x)]))
  obtain ⟨T3, X3, e3, st3⟩ := getF X2 hx hZ hown (host := "") (Or.inl (hw _ (own_mi 28 rfl))) Via.refl e2 Pm0 (g := (mkF m 7 #[.val (.ref x)] [(.ref x)])) rfl rfl (hb hby own_d19_7)
  refine own_go st3 ?_
  show own_Rn p e below _ (T3.setTop (mkF m 10 #[.val (.ref x)] [(.int (0 : Int32))]))
  refine own_go (fun tq kq => XS.ifNo X3.here hx rfl (hb hby own_d19_10) rfl ((if0 _ _).trans (teq ((by decide : (0 : Int32) = (0 : Int32)) : (0 : Int32) = (0 : Int32))).2) kq) ?_
  show own_Rn p e below _ (T3.setTop (mkF m 13 #[.val (.ref x)] []))
  refine own_go (fun tq kq => XS.iconst X3.here hx rfl (hb hby own_d19_13) kq) ?_
  show own_Rn p e below _ (T3.setTop (mkF m 14 #[.val (.ref x)] [(.int (1 : Int32))]))
  refine own_go (fun tq kq => XS.goto X3.here hx rfl (pc0 := 14) (pc' := 18) rfl (hb hby own_d19_14) (by decide) (by decide) kq) ?_
  show own_Rn p e below _ (T3.setTop (mkF m 18 #[.val (.ref x)] [(.int (1 : Int32))]))
  exact own_ret X3 (v := some (.int (nar .boolean (1 : Int32)))) (fun h => by rw [Bd.returns] at h; cases h) (fun fs hr => retN X3 hx (t := .boolean) Bd.returns (by simp) (hb hby own_d19_18) hr) (by rw [e3]; exact ⟨rfl, N0, rfl⟩) (by decide) (by decide)
theorem own_ef_rmCo1 (m : MethodId) (x : Addr) (G1 : Int32) : entryFrame m #[(.ref x)] 1 = mkF m 0 #[.val (.ref x)] [] := by first | (simp [entryFrame, mkF, argsToLocals, Value.category]; done) | rfl
def Q_rmCo1 (Z : State) (x : Addr) (G1 : Int32) (h0 : Heap) (n0 : Nat) (v : Option Value) (h : Heap) (L : List Loc) : Prop := v = some (.int (1 : Int32)) ∧ Fr n0 L ∧ h = h0
set_option maxRecDepth 65536 in
set_option maxHeartbeats 40000000 in
theorem rmCo1 (l : Launch) (Z : State) (a0 : Array Value) (hw : ∀ d ∈ tables_1, d.before a0 Z = true) (ws : List Jvm.Cond) (x : Addr) (G1 : Int32) (h0 : Heap) (n0 : Nat) (Z0 : n0 ≤ h0.size) (Pm0 : Fld Z h0 x "java/lang/String" "coder" "B" (.int (1 : Int32))) (O2 : Sta Z Z.heap "java/lang/String" "COMPACT_STRINGS" "Z" (.int G1)) (P5 : (¬ (G1 = (0 : Int32)))) (X00 : Old Z n0 h0) :
    MetFree l (⟨"java/lang/String", "coder", "()B"⟩ : MethodName) (head1 (Jvm.Cond.code (⟨"java/lang/String", "coder", "()B"⟩ : MethodName) jdk_42_method_152_code 1 (some .byte) :: ws) ({ frames := 0, cells := 0, slots := 0, locals := 0 } : Room)) (fun a U => a = #[(.ref x)] ∧ Z.Warmed39 U.vm ∧ U.heap = h0) (fun _ _ _ _ _ => True) (fun _ U o U' => ∃ v L, o = .returned v ∧ Q_rmCo1 Z x G1 h0 n0 v U'.heap L ∧ FrameEnd U o U' L ({ frames := 0, cells := 0, slots := 0, locals := 0 } : Room).cells ({ frames := 0, cells := 0, slots := 0, locals := 0 } : Room).slots) := by
  refine MetFree.of_bodySF (plainFor_of_name own_pn_java_lang_String) hisR ?_
  intro p e s m args below meth c s₁ Bd hml0 hP hK
  obtain ⟨rfl, hZ, hh⟩ := hP
  have hx := Bd.exec
  have hby := Bd.bytes
  have hml : c.maxLocals = 1 := hml0
  have hown : s.vm.findClass "java/lang/String" = some m.cls := findClass_of_methodNamed Bd.named
  have hnm := (name_of_methodNamed Bd.named Bd.method).1
  have X0 : Stand p l e ({ frames := 0, cells := 0, slots := 0, locals := 0 } : Room) s m #[(.ref x)] below meth c s₁ [] 0 0 := Stand.of_body Bd
  have e0 : s₁.heap = h0 := by rw [← hh, Bd.state]; rfl
  have N0 := Fr.nil n0
  have K0 : Keep h0 h0 [] := Keep.refl _ _
  refine own_go (S' := s₁.setTop (mkF m 0 #[.val (.ref x)] [])) (fun tq kq => castTop (own_ef_rmCo1 m x G1) kq) ?_
  have lt1 : @LT.lt Nat _ x h0.size := Pm0.lt
  obtain ⟨T2, X2, e2, st2⟩ := getS2 X0 hx hZ hown (host := "") (Or.inl (hw _ (own_mi 16 rfl))) Via.refl e0 (O2.ext X00.2) (g := (mkF m 0 #[.val (.ref x)] [])) rfl (hb hby own_d15_0)
  refine own_go st2 ?_
  show own_Rn p e below _ (T2.setTop (mkF m 3 #[.val (.ref x)] [(.int G1)]))
  refine own_go (fun tq kq => XS.ifNo X2.here hx rfl (hb hby own_d15_3) rfl ((if0 _ _).trans (feq (P5 : ¬ (G1 = (0 : Int32)))).1) kq) ?_
  show own_Rn p e below _ (T2.setTop (mkF m 6 #[.val (.ref x)] []))
  refine own_go (fun tq kq => XS.aloadN X2.here hx rfl (hb hby own_d15_6) rfl rfl kq) ?_
  show own_Rn p e below _ (T2.setTop (mkF m 7 #[.val (.ref x)] [(.ref x)]))
  obtain ⟨T3, X3, e3, st3⟩ := getF X2 hx hZ hown (host := "") (Or.inl (hw _ (own_mi 28 rfl))) Via.refl e2 Pm0 (g := (mkF m 7 #[.val (.ref x)] [(.ref x)])) rfl rfl (hb hby own_d15_7)
  refine own_go st3 ?_
  show own_Rn p e below _ (T3.setTop (mkF m 10 #[.val (.ref x)] [(.int (1 : Int32))]))
  refine own_go (fun tq kq => XS.goto X3.here hx rfl (pc0 := 10) (pc' := 14) rfl (hb hby own_d15_10) (by decide) (by decide) kq) ?_
  show own_Rn p e below _ (T3.setTop (mkF m 14 #[.val (.ref x)] [(.int (1 : Int32))]))
  exact own_ret X3 (v := some (.int (nar .byte (1 : Int32)))) (fun h => by rw [Bd.returns] at h; cases h) (fun fs hr => retN X3 hx (t := .byte) Bd.returns (by simp) (hb hby own_d15_14) hr) (by rw [e3]; exact ⟨rfl, N0, rfl⟩) (by decide) (by decide)
theorem own_ef_rmLe1 (m : MethodId) (x : Addr) (t : Addr) (kt : ClassId) (cs : List Int32) (G1 : Int32) : entryFrame m #[(.ref x)] 1 = mkF m 0 #[.val (.ref x)] [] := by first | (simp [entryFrame, mkF, argsToLocals, Value.category]; done) | rfl
def Q_rmLe1 (Z : State) (x : Addr) (t : Addr) (kt : ClassId) (cs : List Int32) (G1 : Int32) (h0 : Heap) (n0 : Nat) (v : Option Value) (h : Heap) (L : List Loc) : Prop := v = some (.int (Int32.ofNat cs.length)) ∧ Fr n0 L ∧ h = h0
set_option maxRecDepth 65536 in
set_option maxHeartbeats 40000000 in
theorem rmLe1 (l : Launch) (Z : State) (a0 : Array Value) (hw : ∀ d ∈ tables_1, d.before a0 Z = true) (ws : List Jvm.Cond) (x : Addr) (t : Addr) (kt : ClassId) (cs : List Int32) (G1 : Int32) (h0 : Heap) (n0 : Nat) (Z0 : n0 ≤ h0.size) (Pm0 : Exa Z h0 x "java/lang/String") (Pm1 : Fld Z h0 x "java/lang/String" "value" "[B" (.ref t)) (Pm2 : Fld Z h0 x "java/lang/String" "coder" "B" (.int (1 : Int32))) (Pm3 : Arv Z h0 t kt .byte (Int32.ofNat (2 * cs.length)) (own_u16 cs) (.int 0)) (hn : (cs.length ≤ 4)) (O2 : Sta Z Z.heap "java/lang/String" "COMPACT_STRINGS" "Z" (.int G1)) (P5 : (¬ (G1 = (0 : Int32)))) (X00 : Old Z n0 h0) :
    MetFree l (⟨"java/lang/String", "length", "()I"⟩ : MethodName) (head1 (Jvm.Cond.code (⟨"java/lang/String", "length", "()I"⟩ : MethodName) jdk_42_method_54_code 1 (some .int) :: ws) ({ frames := 1, cells := 0, slots := 0, locals := 13 } : Room)) (fun a U => a = #[(.ref x)] ∧ Z.Warmed39 U.vm ∧ U.heap = h0) (fun _ _ _ _ _ => True) (fun _ U o U' => ∃ v L, o = .returned v ∧ Q_rmLe1 Z x t kt cs G1 h0 n0 v U'.heap L ∧ FrameEnd U o U' L ({ frames := 1, cells := 0, slots := 0, locals := 13 } : Room).cells ({ frames := 1, cells := 0, slots := 0, locals := 13 } : Room).slots) := by
  refine MetFree.of_bodySF (plainFor_of_name own_pn_java_lang_String) hisR ?_
  intro p e s m args below meth c s₁ Bd hml0 hP hK
  obtain ⟨rfl, hZ, hh⟩ := hP
  have hx := Bd.exec
  have hby := Bd.bytes
  have hml : c.maxLocals = 1 := hml0
  have hown : s.vm.findClass "java/lang/String" = some m.cls := findClass_of_methodNamed Bd.named
  have hnm := (name_of_methodNamed Bd.named Bd.method).1
  have X0 : Stand p l e ({ frames := 1, cells := 0, slots := 0, locals := 13 } : Room) s m #[(.ref x)] below meth c s₁ [] 0 0 := Stand.of_body Bd
  have e0 : s₁.heap = h0 := by rw [← hh, Bd.state]; rfl
  have N0 := Fr.nil n0
  have K0 : Keep h0 h0 [] := Keep.refl _ _
  refine own_go (S' := s₁.setTop (mkF m 0 #[.val (.ref x)] [])) (fun tq kq => castTop (own_ef_rmLe1 m x t kt cs G1) kq) ?_
  have lt1 : @LT.lt Nat _ x h0.size := Pm0.lt
  have lt2 : @LT.lt Nat _ t h0.size := Pm3.lt
  refine own_go (fun tq kq => XS.aloadN X0.here hx rfl (hb hby own_d14_0) rfl rfl kq) ?_
  show own_Rn p e below _ (s₁.setTop (mkF m 1 #[.val (.ref x)] [(.ref x)]))
  obtain ⟨T3, X3, e3, st3⟩ := getF X0 hx hZ hown (host := "") (Or.inl (hw _ (own_mi 30 rfl))) Via.refl e0 Pm1 (g := (mkF m 1 #[.val (.ref x)] [(.ref x)])) rfl rfl (hb hby own_d14_1)
  refine own_go st3 ?_
  show own_Rn p e below _ (T3.setTop (mkF m 4 #[.val (.ref x)] [(.ref t)]))
  obtain ⟨cl4, Ar4, -, Sz4, Nn4, -, -⟩ := id Pm3
  refine own_go (fun tq kq => X3.arraylength hx (cell := cl4) (by rw [e3]; exact Ar4.1) (State.isArrayOf_alike hZ.alike Ar4.2.1) (g := (mkF m 4 #[.val (.ref x)] [(.ref t)])) rfl rfl (hb hby own_d14_4) tq kq) ?_
  rw [len_of Sz4 Nn4]
  show own_Rn p e below _ (T3.setTop (mkF m 5 #[.val (.ref x)] [(.int (Int32.ofNat (2 * cs.length)))]))
  refine own_go (fun tq kq => XS.aloadN X3.here hx rfl (hb hby own_d14_5) rfl rfl kq) ?_
  show own_Rn p e below _ (T3.setTop (mkF m 6 #[.val (.ref x)] [(.ref x), (.int (Int32.ofNat (2 * cs.length)))]))
  have Zn5 : n0 ≤ h0.size := by omega
  obtain ⟨cq5, kq5, qa5, qb5, qc5⟩ := isOf hZ e3 Pm0
  obtain ⟨rv5, _, ⟨T5, L5, k5, n5⟩, -, X5, ⟨Lc5, hQ5, l5, y5, z5⟩, st5⟩ := X3.virtualBack hx (y := (⟨"java/lang/String", "coder", "()B"⟩ : MethodName)) (z := (⟨"java/lang/String", "coder", "()B"⟩ : MethodName)) hown (mvT hZ (hw _ (own_mi 67 rfl))) (mvT hZ (hw _ (own_mi 68 rfl))) (notFace_of_selects (args := #[]) (mvT hZ (hw _ (own_mi 70 rfl)))) (mvT hZ (hw _ (own_mi 70 rfl))) (mvT hZ (hw _ (own_mi 69 rfl))) (by decide) (backOf (W := 1) (rmCo1 l Z a0 hw [] (x) (G1) h0 n0 Zn5 Pm2 (O2) (P5) X00) hZ (hw _ (own_mi 71 rfl)) (hw _ (own_mi 4 rfl)) (by decide) (by decide)) qa5 qc5 (g := (mkF m 6 #[.val (.ref x)] [(.ref x), (.int (Int32.ofNat (2 * cs.length)))])) rfl (by rw [hml]; rfl) (Steps.refl _) (argsL := []) (rest := [(.int (Int32.ofNat (2 * cs.length)))]) (lenOf own_pd_2829B rfl) rfl (by show 2 * 0 + _ ≤ _; exact Nat.le_of_eq rfl) (hb hby own_d14_6) (fun _ _ => ⟨rfl, e3, (by decide : 0 + 0 ≤ _), (by decide : 0 + 0 ≤ _)⟩)
  dsimp only [Pt.U, Pt.locs, Pt.cells, Pt.slots] at X5 l5 y5 z5 st5 hQ5
  subst l5 y5 z5
  obtain ⟨rfl, Nq5, eh5⟩ := hQ5
  have N5 := Fr.app N0 Nq5
  refine own_go (fun tq kq => st5.trans kq) ?_
  show own_Rn p e below _ (T5.setTop (mkF m 9 #[.val (.ref x)] [(.int (1 : Int32)), (.int (Int32.ofNat (2 * cs.length)))]))
  refine own_go (fun tq kq => XS.ishr X5.here hx rfl (hb hby own_d14_9) rfl kq) ?_
  show own_Rn p e below _ (T5.setTop (mkF m 10 #[.val (.ref x)] [(.int ((Int32.ofNat (2 * cs.length)) >>> ((1 : Int32) &&& 31)))]))
  exact own_ret X5 (v := some (.int ((Int32.ofNat (2 * cs.length)) >>> ((1 : Int32) &&& 31)))) (fun h => by rw [Bd.returns] at h; cases h) (fun fs hr => retI X5 hx Bd.returns (hb hby own_d14_10) hr) (by rw [eh5]; exact ⟨congrArg (fun z => some (Value.int z)) (own_shr1 _ (by omega)), N5, rfl⟩) (by decide) (by decide)
theorem own_ef_rmIl1 (m : MethodId) (x : Addr) (G1 : Int32) : entryFrame m #[(.ref x)] 1 = mkF m 0 #[.val (.ref x)] [] := by first | (simp [entryFrame, mkF, argsToLocals, Value.category]; done) | rfl
theorem own_d19_17 : decode jdk_42_method_154_code 17 = .ok (.iconst 0, 1) := by decide +kernel
def Q_rmIl1 (Z : State) (x : Addr) (G1 : Int32) (h0 : Heap) (n0 : Nat) (v : Option Value) (h : Heap) (L : List Loc) : Prop := v = some (.int (0 : Int32)) ∧ Fr n0 L ∧ h = h0
set_option maxRecDepth 65536 in
set_option maxHeartbeats 40000000 in
theorem rmIl1 (l : Launch) (Z : State) (a0 : Array Value) (hw : ∀ d ∈ tables_1, d.before a0 Z = true) (ws : List Jvm.Cond) (x : Addr) (G1 : Int32) (h0 : Heap) (n0 : Nat) (Z0 : n0 ≤ h0.size) (Pm0 : Fld Z h0 x "java/lang/String" "coder" "B" (.int (1 : Int32))) (O2 : Sta Z Z.heap "java/lang/String" "COMPACT_STRINGS" "Z" (.int G1)) (P5 : (¬ (G1 = (0 : Int32)))) (X00 : Old Z n0 h0) :
    MetFree l (⟨"java/lang/String", "isLatin1", "()Z"⟩ : MethodName) (head1 (Jvm.Cond.code (⟨"java/lang/String", "isLatin1", "()Z"⟩ : MethodName) jdk_42_method_154_code 1 (some .boolean) :: ws) ({ frames := 0, cells := 0, slots := 0, locals := 0 } : Room)) (fun a U => a = #[(.ref x)] ∧ Z.Warmed39 U.vm ∧ U.heap = h0) (fun _ _ _ _ _ => True) (fun _ U o U' => ∃ v L, o = .returned v ∧ Q_rmIl1 Z x G1 h0 n0 v U'.heap L ∧ FrameEnd U o U' L ({ frames := 0, cells := 0, slots := 0, locals := 0 } : Room).cells ({ frames := 0, cells := 0, slots := 0, locals := 0 } : Room).slots) := by
  refine MetFree.of_bodySF (plainFor_of_name own_pn_java_lang_String) hisR ?_
  intro p e s m args below meth c s₁ Bd hml0 hP hK
  obtain ⟨rfl, hZ, hh⟩ := hP
  have hx := Bd.exec
  have hby := Bd.bytes
  have hml : c.maxLocals = 1 := hml0
  have hown : s.vm.findClass "java/lang/String" = some m.cls := findClass_of_methodNamed Bd.named
  have hnm := (name_of_methodNamed Bd.named Bd.method).1
  have X0 : Stand p l e ({ frames := 0, cells := 0, slots := 0, locals := 0 } : Room) s m #[(.ref x)] below meth c s₁ [] 0 0 := Stand.of_body Bd
  have e0 : s₁.heap = h0 := by rw [← hh, Bd.state]; rfl
  have N0 := Fr.nil n0
  have K0 : Keep h0 h0 [] := Keep.refl _ _
  refine own_go (S' := s₁.setTop (mkF m 0 #[.val (.ref x)] [])) (fun tq kq => castTop (own_ef_rmIl1 m x G1) kq) ?_
  have lt1 : @LT.lt Nat _ x h0.size := Pm0.lt
  obtain ⟨T2, X2, e2, st2⟩ := getS2 X0 hx hZ hown (host := "") (Or.inl (hw _ (own_mi 16 rfl))) Via.refl e0 (O2.ext X00.2) (g := (mkF m 0 #[.val (.ref x)] [])) rfl (hb hby own_d19_0)
  refine own_go st2 ?_
  show own_Rn p e below _ (T2.setTop (mkF m 3 #[.val (.ref x)] [(.int G1)]))
  refine own_go (fun tq kq => XS.ifNo X2.here hx rfl (hb hby own_d19_3) rfl ((if0 _ _).trans (feq (P5 : ¬ (G1 = (0 : Int32)))).1) kq) ?_
  show own_Rn p e below _ (T2.setTop (mkF m 6 #[.val (.ref x)] []))
  refine own_go (fun tq kq => XS.aloadN X2.here hx rfl (hb hby own_d19_6) rfl rfl kq) ?_
  show own_Rn p e below _ (T2.setTop (mkF m 7 #[.val (.ref x)] [(.ref x)]))
  obtain ⟨T3, X3, e3, st3⟩ := getF X2 hx hZ hown (host := "") (Or.inl (hw _ (own_mi 28 rfl))) Via.refl e2 Pm0 (g := (mkF m 7 #[.val (.ref x)] [(.ref x)])) rfl rfl (hb hby own_d19_7)
  refine own_go st3 ?_
  show own_Rn p e below _ (T3.setTop (mkF m 10 #[.val (.ref x)] [(.int (1 : Int32))]))
  refine own_go (fun tq kq => XS.ifYes X3.here hx rfl (pc0 := 10) (pc' := 17) rfl (hb hby own_d19_10) rfl ((if0 _ _).trans (feq ((by decide : ¬ ((1 : Int32) = (0 : Int32))) : ¬ ((1 : Int32) = (0 : Int32)))).2) (by decide) (by decide) kq) ?_
  show own_Rn p e below _ (T3.setTop (mkF m 17 #[.val (.ref x)] []))
  refine own_go (fun tq kq => XS.iconst X3.here hx rfl (hb hby own_d19_17) kq) ?_
  show own_Rn p e below _ (T3.setTop (mkF m 18 #[.val (.ref x)] [(.int (0 : Int32))]))
  exact own_ret X3 (v := some (.int (nar .boolean (0 : Int32)))) (fun h => by rw [Bd.returns] at h; cases h) (fun fs hr => retN X3 hx (t := .boolean) Bd.returns (by simp) (hb hby own_d19_18) hr) (by rw [e3]; exact ⟨rfl, N0, rfl⟩) (by decide) (by decide)
theorem own_ef_rmPC (m : MethodId) (nn : Nat) : entryFrame m #[(.int (0 : Int32)), (.int (Int32.ofNat nn)), (.int (Int32.ofNat nn)), .null] 4 = mkF m 0 #[.val (.int (0 : Int32)), .val (.int (Int32.ofNat nn)), .val (.int (Int32.ofNat nn)), .val .null] [] := by first | (simp [entryFrame, mkF, argsToLocals, Value.category]; done) | rfl
theorem own_pn_jdk_internal_util_Preconditions : plainName "jdk/internal/util/Preconditions" = true := by first | (simp [plainName, overriddenIn]; done) | decide +kernel
theorem own_d18_0 : decode jdk_41_method_12_code 0 = .ok (.iload_n 0, 1) := by decide +kernel
theorem own_d18_1 : decode jdk_41_method_12_code 1 = .ok (.ifCond .lt 13, 3) := by decide +kernel
theorem own_d18_4 : decode jdk_41_method_12_code 4 = .ok (.iload_n 0, 1) := by decide +kernel
theorem own_d18_5 : decode jdk_41_method_12_code 5 = .ok (.iload_n 1, 1) := by decide +kernel
theorem own_d18_6 : decode jdk_41_method_12_code 6 = .ok (.if_icmp .gt 8, 3) := by decide +kernel
theorem own_d18_9 : decode jdk_41_method_12_code 9 = .ok (.iload_n 1, 1) := by decide +kernel
theorem own_d18_10 : decode jdk_41_method_12_code 10 = .ok (.iload_n 2, 1) := by decide +kernel
theorem own_d18_11 : decode jdk_41_method_12_code 11 = .ok (.if_icmp .le 11, 3) := by decide +kernel
theorem own_d18_22 : decode jdk_41_method_12_code 22 = .ok (.iload_n 0, 1) := by decide +kernel
theorem own_d18_23 : decode jdk_41_method_12_code 23 = .ok (.ireturn, 1) := by decide +kernel
def Q_rmPC (Z : State) (nn : Nat) (h0 : Heap) (n0 : Nat) (v : Option Value) (h : Heap) (L : List Loc) : Prop := v = some (.int (0 : Int32)) ∧ Fr n0 L ∧ h = h0
set_option maxRecDepth 65536 in
set_option maxHeartbeats 40000000 in
theorem rmPC (l : Launch) (Z : State) (a0 : Array Value) (hw : ∀ d ∈ tables_1, d.before a0 Z = true) (ws : List Jvm.Cond) (nn : Nat) (h0 : Heap) (n0 : Nat) (Z0 : n0 ≤ h0.size) (hn : (nn ≤ 4)) :
    MetFree l (⟨"jdk/internal/util/Preconditions", "checkFromToIndex", "(IIILjava/util/function/BiFunction;)I"⟩ : MethodName) (head1 (Jvm.Cond.code (⟨"jdk/internal/util/Preconditions", "checkFromToIndex", "(IIILjava/util/function/BiFunction;)I"⟩ : MethodName) jdk_41_method_12_code 4 (some .int) :: ws) ({ frames := 0, cells := 0, slots := 0, locals := 0 } : Room)) (fun a U => a = #[(.int (0 : Int32)), (.int (Int32.ofNat nn)), (.int (Int32.ofNat nn)), .null] ∧ Z.Warmed39 U.vm ∧ U.heap = h0) (fun _ _ _ _ _ => True) (fun _ U o U' => ∃ v L, o = .returned v ∧ Q_rmPC Z nn h0 n0 v U'.heap L ∧ FrameEnd U o U' L ({ frames := 0, cells := 0, slots := 0, locals := 0 } : Room).cells ({ frames := 0, cells := 0, slots := 0, locals := 0 } : Room).slots) := by
  refine MetFree.of_bodySF (plainFor_of_name own_pn_jdk_internal_util_Preconditions) hisR ?_
  intro p e s m args below meth c s₁ Bd hml0 hP hK
  obtain ⟨rfl, hZ, hh⟩ := hP
  have hx := Bd.exec
  have hby := Bd.bytes
  have hml : c.maxLocals = 4 := hml0
  have hown : s.vm.findClass "jdk/internal/util/Preconditions" = some m.cls := findClass_of_methodNamed Bd.named
  have hnm := (name_of_methodNamed Bd.named Bd.method).1
  have X0 : Stand p l e ({ frames := 0, cells := 0, slots := 0, locals := 0 } : Room) s m #[(.int (0 : Int32)), (.int (Int32.ofNat nn)), (.int (Int32.ofNat nn)), .null] below meth c s₁ [] 0 0 := Stand.of_body Bd
  have e0 : s₁.heap = h0 := by rw [← hh, Bd.state]; rfl
  have N0 := Fr.nil n0
  have K0 : Keep h0 h0 [] := Keep.refl _ _
  refine own_go (S' := s₁.setTop (mkF m 0 #[.val (.int (0 : Int32)), .val (.int (Int32.ofNat nn)), .val (.int (Int32.ofNat nn)), .val .null] [])) (fun tq kq => castTop (own_ef_rmPC m nn) kq) ?_
  refine own_go (fun tq kq => XS.iloadN X0.here hx rfl (hb hby own_d18_0) rfl kq) ?_
  show own_Rn p e below _ (s₁.setTop (mkF m 1 #[.val (.int (0 : Int32)), .val (.int (Int32.ofNat nn)), .val (.int (Int32.ofNat nn)), .val .null] [(.int (0 : Int32))]))
  refine own_go (fun tq kq => XS.ifNo X0.here hx rfl (hb hby own_d18_1) rfl ((if0 _ _).trans (flt (by decide : ¬ ((0 : Int32) < (0 : Int32)))).1) kq) ?_
  show own_Rn p e below _ (s₁.setTop (mkF m 4 #[.val (.int (0 : Int32)), .val (.int (Int32.ofNat nn)), .val (.int (Int32.ofNat nn)), .val .null] []))
  refine own_go (fun tq kq => XS.iloadN X0.here hx rfl (hb hby own_d18_4) rfl kq) ?_
  show own_Rn p e below _ (s₁.setTop (mkF m 5 #[.val (.int (0 : Int32)), .val (.int (Int32.ofNat nn)), .val (.int (Int32.ofNat nn)), .val .null] [(.int (0 : Int32))]))
  refine own_go (fun tq kq => XS.iloadN X0.here hx rfl (hb hby own_d18_5) rfl kq) ?_
  show own_Rn p e below _ (s₁.setTop (mkF m 6 #[.val (.int (0 : Int32)), .val (.int (Int32.ofNat nn)), .val (.int (Int32.ofNat nn)), .val .null] [(.int (Int32.ofNat nn)), (.int (0 : Int32))]))
  refine own_go (fun tq kq => XS.icmpNo X0.here hx rfl (hb hby own_d18_6) rfl (flt (own_nneg (by omega) : ¬ ((Int32.ofNat nn) < (0 : Int32)))).2.2.1 kq) ?_
  show own_Rn p e below _ (s₁.setTop (mkF m 9 #[.val (.int (0 : Int32)), .val (.int (Int32.ofNat nn)), .val (.int (Int32.ofNat nn)), .val .null] []))
  refine own_go (fun tq kq => XS.iloadN X0.here hx rfl (hb hby own_d18_9) rfl kq) ?_
  show own_Rn p e below _ (s₁.setTop (mkF m 10 #[.val (.int (0 : Int32)), .val (.int (Int32.ofNat nn)), .val (.int (Int32.ofNat nn)), .val .null] [(.int (Int32.ofNat nn))]))
  refine own_go (fun tq kq => XS.iloadN X0.here hx rfl (hb hby own_d18_10) rfl kq) ?_
  show own_Rn p e below _ (s₁.setTop (mkF m 11 #[.val (.int (0 : Int32)), .val (.int (Int32.ofNat nn)), .val (.int (Int32.ofNat nn)), .val .null] [(.int (Int32.ofNat nn)), (.int (Int32.ofNat nn))]))
  refine own_go (fun tq kq => XS.icmpYes X0.here hx rfl (pc0 := 11) (pc' := 22) rfl (hb hby own_d18_11) rfl (flt (fun h => Int32.lt_irrefl h : ¬ ((Int32.ofNat nn) < (Int32.ofNat nn)))).2.2.2 (by decide) (by decide) kq) ?_
  show own_Rn p e below _ (s₁.setTop (mkF m 22 #[.val (.int (0 : Int32)), .val (.int (Int32.ofNat nn)), .val (.int (Int32.ofNat nn)), .val .null] []))
  refine own_go (fun tq kq => XS.iloadN X0.here hx rfl (hb hby own_d18_22) rfl kq) ?_
  show own_Rn p e below _ (s₁.setTop (mkF m 23 #[.val (.int (0 : Int32)), .val (.int (Int32.ofNat nn)), .val (.int (Int32.ofNat nn)), .val .null] [(.int (0 : Int32))]))
  exact own_ret X0 (v := some (.int (0 : Int32))) (fun h => by rw [Bd.returns] at h; cases h) (fun fs hr => retI X0 hx Bd.returns (hb hby own_d18_23) hr) (by rw [e0]; exact ⟨rfl, N0, rfl⟩) (by decide) (by decide)
theorem own_ef_rmOC (m : MethodId) (nn : Nat) : entryFrame m #[(.int (0 : Int32)), (.int (Int32.ofNat nn)), (.int (Int32.ofNat nn))] 3 = mkF m 0 #[.val (.int (0 : Int32)), .val (.int (Int32.ofNat nn)), .val (.int (Int32.ofNat nn))] [] := by first | (simp [entryFrame, mkF, argsToLocals, Value.category]; done) | rfl
theorem own_pn_java_util_Objects : plainName "java/util/Objects" = true := by first | (simp [plainName, overriddenIn]; done) | decide +kernel
theorem own_d17_0 : decode jdk_31_method_18_code 0 = .ok (.iload_n 0, 1) := by decide +kernel
theorem own_d17_1 : decode jdk_31_method_18_code 1 = .ok (.iload_n 1, 1) := by decide +kernel
theorem own_d17_2 : decode jdk_31_method_18_code 2 = .ok (.iload_n 2, 1) := by decide +kernel
theorem own_d17_3 : decode jdk_31_method_18_code 3 = .ok (.aconst_null, 1) := by decide +kernel
theorem own_d17_4 : decode jdk_31_method_18_code 4 = .ok (.invokestatic 111, 3) := by decide +kernel
theorem own_pd_28IIILjava2futil2ffunction2fBiFunction3b29I : parseMethodDescriptor "(IIILjava/util/function/BiFunction;)I" = some ⟨[.int, .int, .int, (.object "java/util/function/BiFunction")], some .int⟩ := by decide +kernel
theorem own_d17_7 : decode jdk_31_method_18_code 7 = .ok (.ireturn, 1) := by decide +kernel
def Q_rmOC (Z : State) (nn : Nat) (h0 : Heap) (n0 : Nat) (v : Option Value) (h : Heap) (L : List Loc) : Prop := v = some (.int (0 : Int32)) ∧ Fr n0 L ∧ h = h0
set_option maxRecDepth 65536 in
set_option maxHeartbeats 40000000 in
theorem rmOC (l : Launch) (Z : State) (a0 : Array Value) (hw : ∀ d ∈ tables_1, d.before a0 Z = true) (ws : List Jvm.Cond) (nn : Nat) (h0 : Heap) (n0 : Nat) (Z0 : n0 ≤ h0.size) (hn : (nn ≤ 4)) :
    MetFree l (⟨"java/util/Objects", "checkFromToIndex", "(III)I"⟩ : MethodName) (head1 (Jvm.Cond.code (⟨"java/util/Objects", "checkFromToIndex", "(III)I"⟩ : MethodName) jdk_31_method_18_code 3 (some .int) :: ws) ({ frames := 1, cells := 0, slots := 0, locals := 15 } : Room)) (fun a U => a = #[(.int (0 : Int32)), (.int (Int32.ofNat nn)), (.int (Int32.ofNat nn))] ∧ Z.Warmed39 U.vm ∧ U.heap = h0) (fun _ _ _ _ _ => True) (fun _ U o U' => ∃ v L, o = .returned v ∧ Q_rmOC Z nn h0 n0 v U'.heap L ∧ FrameEnd U o U' L ({ frames := 1, cells := 0, slots := 0, locals := 15 } : Room).cells ({ frames := 1, cells := 0, slots := 0, locals := 15 } : Room).slots) := by
  refine MetFree.of_bodySF (plainFor_of_name own_pn_java_util_Objects) hisR ?_
  intro p e s m args below meth c s₁ Bd hml0 hP hK
  obtain ⟨rfl, hZ, hh⟩ := hP
  have hx := Bd.exec
  have hby := Bd.bytes
  have hml : c.maxLocals = 3 := hml0
  have hown : s.vm.findClass "java/util/Objects" = some m.cls := findClass_of_methodNamed Bd.named
  have hnm := (name_of_methodNamed Bd.named Bd.method).1
  have X0 : Stand p l e ({ frames := 1, cells := 0, slots := 0, locals := 15 } : Room) s m #[(.int (0 : Int32)), (.int (Int32.ofNat nn)), (.int (Int32.ofNat nn))] below meth c s₁ [] 0 0 := Stand.of_body Bd
  have e0 : s₁.heap = h0 := by rw [← hh, Bd.state]; rfl
  have N0 := Fr.nil n0
  have K0 : Keep h0 h0 [] := Keep.refl _ _
  refine own_go (S' := s₁.setTop (mkF m 0 #[.val (.int (0 : Int32)), .val (.int (Int32.ofNat nn)), .val (.int (Int32.ofNat nn))] [])) (fun tq kq => castTop (own_ef_rmOC m nn) kq) ?_
  refine own_go (fun tq kq => XS.iloadN X0.here hx rfl (hb hby own_d17_0) rfl kq) ?_
  show own_Rn p e below _ (s₁.setTop (mkF m 1 #[.val (.int (0 : Int32)), .val (.int (Int32.ofNat nn)), .val (.int (Int32.ofNat nn))] [(.int (0 : Int32))]))
  refine own_go (fun tq kq => XS.iloadN X0.here hx rfl (hb hby own_d17_1) rfl kq) ?_
  show own_Rn p e below _ (s₁.setTop (mkF m 2 #[.val (.int (0 : Int32)), .val (.int (Int32.ofNat nn)), .val (.int (Int32.ofNat nn))] [(.int (Int32.ofNat nn)), (.int (0 : Int32))]))
  refine own_go (fun tq kq => XS.iloadN X0.here hx rfl (hb hby own_d17_2) rfl kq) ?_
  show own_Rn p e below _ (s₁.setTop (mkF m 3 #[.val (.int (0 : Int32)), .val (.int (Int32.ofNat nn)), .val (.int (Int32.ofNat nn))] [(.int (Int32.ofNat nn)), (.int (Int32.ofNat nn)), (.int (0 : Int32))]))
  refine own_go (fun tq kq => XS.aconstNull X0.here hx rfl (hb hby own_d17_3) kq) ?_
  show own_Rn p e below _ (s₁.setTop (mkF m 4 #[.val (.int (0 : Int32)), .val (.int (Int32.ofNat nn)), .val (.int (Int32.ofNat nn))] [.null, (.int (Int32.ofNat nn)), (.int (Int32.ofNat nn)), (.int (0 : Int32))]))
  have Zn1 : n0 ≤ h0.size := by omega
  obtain ⟨rv1, _, ⟨T1, L1, k1, n1⟩, -, X1, ⟨Lc1, hQ1, l1, y1, z1⟩, st1⟩ := Jvm.LawKit.callS X0 hx (y := (⟨"jdk/internal/util/Preconditions", "checkFromToIndex", "(IIILjava/util/function/BiFunction;)I"⟩ : MethodName)) hown (mvT hZ (hw _ (own_mi 82 rfl))) (mvT hZ (hw _ (own_mi 83 rfl))) (mvT hZ (hw _ (own_mi 84 rfl))) (mvT hZ (hw _ (own_mi 85 rfl))) (by decide) (backOf (W := 0) (rmPC l Z a0 hw [] (nn) h0 n0 Zn1 (hn)) hZ (hw _ (own_mi 85 rfl)) (hw _ (own_mi 84 rfl)) (by decide) (by decide)) (g := (mkF m 4 #[.val (.int (0 : Int32)), .val (.int (Int32.ofNat nn)), .val (.int (Int32.ofNat nn))] [.null, (.int (Int32.ofNat nn)), (.int (Int32.ofNat nn)), (.int (0 : Int32))])) rfl (by rw [hml]; rfl) (argsL := [(.int (0 : Int32)), (.int (Int32.ofNat nn)), (.int (Int32.ofNat nn)), .null]) (rest := []) (lenOf own_pd_28IIILjava2futil2ffunction2fBiFunction3b29I rfl) rfl (by show 2 * 0 + _ ≤ _; exact Nat.le_of_eq rfl) (hb hby own_d17_4) (fun _ _ => ⟨rfl, e0, (by decide : 0 + 0 ≤ _), (by decide : 0 + 0 ≤ _)⟩)
  dsimp only [Pt.U, Pt.locs, Pt.cells, Pt.slots] at X1 l1 y1 z1 st1 hQ1
  subst l1 y1 z1
  obtain ⟨rfl, Nq1, eh1⟩ := hQ1
  have N1 := Fr.app N0 Nq1
  refine own_go st1 ?_
  show own_Rn p e below _ (T1.setTop (mkF m 7 #[.val (.int (0 : Int32)), .val (.int (Int32.ofNat nn)), .val (.int (Int32.ofNat nn))] [(.int (0 : Int32))]))
  exact own_ret X1 (v := some (.int (0 : Int32))) (fun h => by rw [Bd.returns] at h; cases h) (fun fs hr => retI X1 hx Bd.returns (hb hby own_d17_7) hr) (by rw [eh1]; exact ⟨rfl, N1, rfl⟩) (by decide) (by decide)
theorem own_ef_rmCP4 (m : MethodId) (bv : Addr) (kb : ClassId) (cs : List Int32) : entryFrame m #[(.ref bv), (.int (0 : Int32)), (.int (Int32.ofNat cs.length)), (.int (0 : Int32))] 6 = mkF m 0 #[.val (.ref bv), .val (.int (0 : Int32)), .val (.int (Int32.ofNat cs.length)), .val (.int (0 : Int32)), .unset, .unset] [] := by first | (simp [entryFrame, mkF, argsToLocals, Value.category]; done) | rfl
theorem own_d27_0 : decode jdk_52_method_11_code 0 = .ok (.getstatic 44, 3) := by decide +kernel
theorem own_d27_3 : decode jdk_52_method_11_code 3 = .ok (.ifCond .ne 16, 3) := by decide +kernel
theorem own_d27_19 : decode jdk_52_method_11_code 19 = .ok (.iload_n 2, 1) := by decide +kernel
theorem own_d27_20 : decode jdk_52_method_11_code 20 = .ok (.iload_n 1, 1) := by decide +kernel
theorem own_d27_21 : decode jdk_52_method_11_code 21 = .ok (.isub, 1) := by decide +kernel
theorem own_d27_22 : decode jdk_52_method_11_code 22 = .ok (.istore 4, 2) := by decide +kernel
theorem own_d27_24 : decode jdk_52_method_11_code 24 = .ok (.iload_n 1, 1) := by decide +kernel
theorem own_d27_25 : decode jdk_52_method_11_code 25 = .ok (.istore 5, 2) := by decide +kernel
theorem own_d27_27 : decode jdk_52_method_11_code 27 = .ok (.iload_n 3, 1) := by decide +kernel
theorem own_d27_28 : decode jdk_52_method_11_code 28 = .ok (.ifCond .eq 16, 3) := by decide +kernel
theorem own_d27_44 : decode jdk_52_method_11_code 44 = .ok (.iload 5, 2) := by decide +kernel
theorem own_d27_46 : decode jdk_52_method_11_code 46 = .ok (.iload_n 2, 1) := by decide +kernel
theorem own_d27_47 : decode jdk_52_method_11_code 47 = .ok (.iconst 1, 1) := by decide +kernel
theorem own_d27_48 : decode jdk_52_method_11_code 48 = .ok (.isub, 1) := by decide +kernel
theorem own_d27_49 : decode jdk_52_method_11_code 49 = .ok (.if_icmp .ge 39, 3) := by decide +kernel
theorem own_d27_88 : decode jdk_52_method_11_code 88 = .ok (.iload 4, 2) := by decide +kernel
theorem own_d27_90 : decode jdk_52_method_11_code 90 = .ok (.ireturn, 1) := by decide +kernel
theorem own_d27_52 : decode jdk_52_method_11_code 52 = .ok (.aload_n 0, 1) := by decide +kernel
theorem own_d27_53 : decode jdk_52_method_11_code 53 = .ok (.iload 5, 2) := by decide +kernel
theorem own_d27_55 : decode jdk_52_method_11_code 55 = .ok (.iinc 5 1, 3) := by decide +kernel
theorem own_d27_58 : decode jdk_52_method_11_code 58 = .ok (.invokestatic 71, 3) := by decide +kernel
theorem own_d27_61 : decode jdk_52_method_11_code 61 = .ok (.invokestatic 75, 3) := by decide +kernel
theorem own_d27_64 : decode jdk_52_method_11_code 64 = .ok (.ifCond .eq (-20), 3) := by decide +kernel
theorem own_d27_67 : decode jdk_52_method_11_code 67 = .ok (.aload_n 0, 1) := by decide +kernel
theorem own_d27_68 : decode jdk_52_method_11_code 68 = .ok (.iload 5, 2) := by decide +kernel
theorem own_d27_70 : decode jdk_52_method_11_code 70 = .ok (.invokestatic 71, 3) := by decide +kernel
theorem own_d27_73 : decode jdk_52_method_11_code 73 = .ok (.invokestatic 81, 3) := by decide +kernel
theorem own_d27_76 : decode jdk_52_method_11_code 76 = .ok (.ifCond .eq (-32), 3) := by decide +kernel
theorem own_d27_79 : decode jdk_52_method_11_code 79 = .ok (.iinc 4 (-1), 3) := by decide +kernel
theorem own_d27_82 : decode jdk_52_method_11_code 82 = .ok (.iinc 5 1, 3) := by decide +kernel
theorem own_d27_85 : decode jdk_52_method_11_code 85 = .ok (.goto (-41), 3) := by decide +kernel
def Q_rmCP4 (Z : State) (bv : Addr) (kb : ClassId) (cs : List Int32) (h0 : Heap) (n0 : Nat) (v : Option Value) (h : Heap) (L : List Loc) : Prop := v = some (.int (Int32.ofNat (own_cp cs))) ∧ Fr n0 L ∧ h = h0
set_option maxRecDepth 65536 in
set_option maxHeartbeats 40000000 in
theorem rmCP4 (l : Launch) (Z : State) (a0 : Array Value) (hw : ∀ d ∈ tables_1, d.before a0 Z = true) (ws : List Jvm.Cond) (bv : Addr) (kb : ClassId) (cs : List Int32) (h0 : Heap) (n0 : Nat) (Z0 : n0 ≤ h0.size) (Pm0 : Arv Z h0 bv kb .byte (Int32.ofNat (2 * cs.length)) (own_u16 cs) (.int 0)) (hn : (cs.length ≤ 4)) (h0n : (0 < cs.length)) (hr : (∀ c ∈ cs, ¬ c < 0 ∧ ¬ (65535 : Int32) < c)) (OAD : Sta Z Z.heap "java/lang/StringUTF16" "$assertionsDisabled" "Z" (.int (1 : Int32))) (OHI : Sta Z Z.heap "java/lang/StringUTF16" "HI_BYTE_SHIFT" "I" (.int (0 : Int32))) (OLO : Sta Z Z.heap "java/lang/StringUTF16" "LO_BYTE_SHIFT" "I" (.int (8 : Int32))) (X00 : Old Z n0 h0) :
    MetFree l (⟨"java/lang/StringUTF16", "codePointCount", "([BIIZ)I"⟩ : MethodName) (head1 (Jvm.Cond.code (⟨"java/lang/StringUTF16", "codePointCount", "([BIIZ)I"⟩ : MethodName) jdk_52_method_11_code 6 (some .int) :: ws) ({ frames := 1, cells := 0, slots := 0, locals := 13 } : Room)) (fun a U => a = #[(.ref bv), (.int (0 : Int32)), (.int (Int32.ofNat cs.length)), (.int (0 : Int32))] ∧ Z.Warmed39 U.vm ∧ U.heap = h0) (fun _ _ _ _ _ => True) (fun _ U o U' => ∃ v L, o = .returned v ∧ Q_rmCP4 Z bv kb cs h0 n0 v U'.heap L ∧ FrameEnd U o U' L ({ frames := 1, cells := 0, slots := 0, locals := 13 } : Room).cells ({ frames := 1, cells := 0, slots := 0, locals := 13 } : Room).slots) := by
  refine MetFree.of_bodySF (plainFor_of_name own_pn_java_lang_StringUTF16) hisR ?_
  intro p e s m args below meth c s₁ Bd hml0 hP hK
  obtain ⟨rfl, hZ, hh⟩ := hP
  have hx := Bd.exec
  have hby := Bd.bytes
  have hml : c.maxLocals = 6 := hml0
  have hown : s.vm.findClass "java/lang/StringUTF16" = some m.cls := findClass_of_methodNamed Bd.named
  have hnm := (name_of_methodNamed Bd.named Bd.method).1
  have X0 : Stand p l e ({ frames := 1, cells := 0, slots := 0, locals := 13 } : Room) s m #[(.ref bv), (.int (0 : Int32)), (.int (Int32.ofNat cs.length)), (.int (0 : Int32))] below meth c s₁ [] 0 0 := Stand.of_body Bd
  have e0 : s₁.heap = h0 := by rw [← hh, Bd.state]; rfl
  have N0 := Fr.nil n0
  have K0 : Keep h0 h0 [] := Keep.refl _ _
  refine own_go (S' := s₁.setTop (mkF m 0 #[.val (.ref bv), .val (.int (0 : Int32)), .val (.int (Int32.ofNat cs.length)), .val (.int (0 : Int32)), .unset, .unset] [])) (fun tq kq => castTop (own_ef_rmCP4 m bv kb cs) kq) ?_
  have lt1 : @LT.lt Nat _ bv h0.size := Pm0.lt
  obtain ⟨T2, X2, e2, st2⟩ := getS2 X0 hx hZ hown (host := "") (Or.inl (hw _ (own_mi 112 rfl))) Via.refl e0 (OAD.ext X00.2) (g := (mkF m 0 #[.val (.ref bv), .val (.int (0 : Int32)), .val (.int (Int32.ofNat cs.length)), .val (.int (0 : Int32)), .unset, .unset] [])) rfl (hb hby own_d27_0)
  refine own_go st2 ?_
  show own_Rn p e below _ (T2.setTop (mkF m 3 #[.val (.ref bv), .val (.int (0 : Int32)), .val (.int (Int32.ofNat cs.length)), .val (.int (0 : Int32)), .unset, .unset] [(.int (1 : Int32))]))
  refine own_go (fun tq kq => XS.ifYes X2.here hx rfl (pc0 := 3) (pc' := 19) rfl (hb hby own_d27_3) rfl ((if0 _ _).trans (feq ((by decide : ¬ ((1 : Int32) = (0 : Int32))) : ¬ ((1 : Int32) = (0 : Int32)))).2) (by decide) (by decide) kq) ?_
  show own_Rn p e below _ (T2.setTop (mkF m 19 #[.val (.ref bv), .val (.int (0 : Int32)), .val (.int (Int32.ofNat cs.length)), .val (.int (0 : Int32)), .unset, .unset] []))
  refine own_go (fun tq kq => XS.iloadN X2.here hx rfl (hb hby own_d27_19) rfl kq) ?_
  show own_Rn p e below _ (T2.setTop (mkF m 20 #[.val (.ref bv), .val (.int (0 : Int32)), .val (.int (Int32.ofNat cs.length)), .val (.int (0 : Int32)), .unset, .unset] [(.int (Int32.ofNat cs.length))]))
  refine own_go (fun tq kq => XS.iloadN X2.here hx rfl (hb hby own_d27_20) rfl kq) ?_
  show own_Rn p e below _ (T2.setTop (mkF m 21 #[.val (.ref bv), .val (.int (0 : Int32)), .val (.int (Int32.ofNat cs.length)), .val (.int (0 : Int32)), .unset, .unset] [(.int (0 : Int32)), (.int (Int32.ofNat cs.length))]))
  refine own_go (fun tq kq => XS.isub X2.here hx rfl (hb hby own_d27_21) rfl kq) ?_
  show own_Rn p e below _ (T2.setTop (mkF m 22 #[.val (.ref bv), .val (.int (0 : Int32)), .val (.int (Int32.ofNat cs.length)), .val (.int (0 : Int32)), .unset, .unset] [(.int ((Int32.ofNat cs.length) - (0 : Int32)))]))
  rw [Int32.sub_zero]
  show own_Rn p e below _ (T2.setTop (mkF m 22 #[.val (.ref bv), .val (.int (0 : Int32)), .val (.int (Int32.ofNat cs.length)), .val (.int (0 : Int32)), .unset, .unset] [(.int (Int32.ofNat cs.length))]))
  refine own_go (fun tq kq => XS.istore X2.here hx rfl (hb hby own_d27_22) rfl (l' := #[.val (.ref bv), .val (.int (0 : Int32)), .val (.int (Int32.ofNat cs.length)), .val (.int (0 : Int32)), .val (.int (Int32.ofNat cs.length)), .unset]) rfl kq) ?_
  show own_Rn p e below _ (T2.setTop (mkF m 24 #[.val (.ref bv), .val (.int (0 : Int32)), .val (.int (Int32.ofNat cs.length)), .val (.int (0 : Int32)), .val (.int (Int32.ofNat cs.length)), .unset] []))
  refine own_go (fun tq kq => XS.iloadN X2.here hx rfl (hb hby own_d27_24) rfl kq) ?_
  show own_Rn p e below _ (T2.setTop (mkF m 25 #[.val (.ref bv), .val (.int (0 : Int32)), .val (.int (Int32.ofNat cs.length)), .val (.int (0 : Int32)), .val (.int (Int32.ofNat cs.length)), .unset] [(.int (0 : Int32))]))
  refine own_go (fun tq kq => XS.istore X2.here hx rfl (hb hby own_d27_25) rfl (l' := #[.val (.ref bv), .val (.int (0 : Int32)), .val (.int (Int32.ofNat cs.length)), .val (.int (0 : Int32)), .val (.int (Int32.ofNat cs.length)), .val (.int (0 : Int32))]) rfl kq) ?_
  show own_Rn p e below _ (T2.setTop (mkF m 27 #[.val (.ref bv), .val (.int (0 : Int32)), .val (.int (Int32.ofNat cs.length)), .val (.int (0 : Int32)), .val (.int (Int32.ofNat cs.length)), .val (.int (0 : Int32))] []))
  refine own_go (fun tq kq => XS.iloadN X2.here hx rfl (hb hby own_d27_27) rfl kq) ?_
  show own_Rn p e below _ (T2.setTop (mkF m 28 #[.val (.ref bv), .val (.int (0 : Int32)), .val (.int (Int32.ofNat cs.length)), .val (.int (0 : Int32)), .val (.int (Int32.ofNat cs.length)), .val (.int (0 : Int32))] [(.int (0 : Int32))]))
  refine own_go (fun tq kq => XS.ifYes X2.here hx rfl (pc0 := 28) (pc' := 44) rfl (hb hby own_d27_28) rfl ((if0 _ _).trans (teq ((by decide : (0 : Int32) = (0 : Int32)) : (0 : Int32) = (0 : Int32))).1) (by decide) (by decide) kq) ?_
  show own_Rn p e below _ (T2.setTop (mkF m 44 #[.val (.ref bv), .val (.int (0 : Int32)), .val (.int (Int32.ofNat cs.length)), .val (.int (0 : Int32)), .val (.int (Int32.ofNat cs.length)), .val (.int (0 : Int32))] []))
  have loop : ∀ (mm qq PP : Nat) (Tl : State) (ls : List Loc), cs.length ≤ qq + mm → qq ≤ cs.length → PP = own_cp cs + own_pairs (cs.drop qq) → Stand p l e ({ frames := 1, cells := 0, slots := 0, locals := 13 } : Room) s m #[(.ref bv), (.int (0 : Int32)), (.int (Int32.ofNat cs.length)), (.int (0 : Int32))] below meth c Tl ls 0 0 → Tl.heap = h0 → Fr n0 ls → own_Rn p e below (fun o U' => ∃ v L, o = .returned v ∧ Q_rmCP4 Z bv kb cs h0 n0 v U'.heap L ∧ FrameEnd s o U' L ({ frames := 1, cells := 0, slots := 0, locals := 13 } : Room).cells ({ frames := 1, cells := 0, slots := 0, locals := 13 } : Room).slots) (Tl.setTop (mkF m 44 #[.val (.ref bv), .val (.int (0 : Int32)), .val (.int (Int32.ofNat cs.length)), .val (.int (0 : Int32)), .val (.int (Int32.ofNat PP)), .val (.int (Int32.ofNat qq))] [])) := by
    intro mm
    induction mm with
    | zero =>
      intro qq PP Tl ls hf hq hP Xl el Nl
      refine own_go (fun tq kq => XS.iload Xl.here hx rfl (hb hby own_d27_44) rfl kq) ?_
      show own_Rn p e below _ (Tl.setTop (mkF m 46 #[.val (.ref bv), .val (.int (0 : Int32)), .val (.int (Int32.ofNat cs.length)), .val (.int (0 : Int32)), .val (.int (Int32.ofNat PP)), .val (.int (Int32.ofNat qq))] [(.int (Int32.ofNat qq))]))
      refine own_go (fun tq kq => XS.iloadN Xl.here hx rfl (hb hby own_d27_46) rfl kq) ?_
      show own_Rn p e below _ (Tl.setTop (mkF m 47 #[.val (.ref bv), .val (.int (0 : Int32)), .val (.int (Int32.ofNat cs.length)), .val (.int (0 : Int32)), .val (.int (Int32.ofNat PP)), .val (.int (Int32.ofNat qq))] [(.int (Int32.ofNat cs.length)), (.int (Int32.ofNat qq))]))
      refine own_go (fun tq kq => XS.iconst Xl.here hx rfl (hb hby own_d27_47) kq) ?_
      show own_Rn p e below _ (Tl.setTop (mkF m 48 #[.val (.ref bv), .val (.int (0 : Int32)), .val (.int (Int32.ofNat cs.length)), .val (.int (0 : Int32)), .val (.int (Int32.ofNat PP)), .val (.int (Int32.ofNat qq))] [(.int (1 : Int32)), (.int (Int32.ofNat cs.length)), (.int (Int32.ofNat qq))]))
      refine own_go (fun tq kq => XS.isub Xl.here hx rfl (hb hby own_d27_48) rfl kq) ?_
      show own_Rn p e below _ (Tl.setTop (mkF m 49 #[.val (.ref bv), .val (.int (0 : Int32)), .val (.int (Int32.ofNat cs.length)), .val (.int (0 : Int32)), .val (.int (Int32.ofNat PP)), .val (.int (Int32.ofNat qq))] [(.int ((Int32.ofNat cs.length) - (1 : Int32))), (.int (Int32.ofNat qq))]))
      rw [show ((Int32.ofNat cs.length) - (1 : Int32)) = Int32.ofNat (cs.length - 1) by have h := dec_ofNat (cs.length - 1); rwa [show cs.length - 1 + 1 = cs.length by omega] at h]
      show own_Rn p e below _ (Tl.setTop (mkF m 49 #[.val (.ref bv), .val (.int (0 : Int32)), .val (.int (Int32.ofNat cs.length)), .val (.int (0 : Int32)), .val (.int (Int32.ofNat PP)), .val (.int (Int32.ofNat qq))] [(.int (Int32.ofNat (cs.length - 1))), (.int (Int32.ofNat qq))]))
      refine own_go (fun tq kq => XS.icmpYes Xl.here hx rfl (pc0 := 49) (pc' := 88) rfl (hb hby own_d27_49) rfl (flt (own_ofNat_nlt (by omega) (by omega) : ¬ ((Int32.ofNat qq) < (Int32.ofNat (cs.length - 1))))).2.1 (by decide) (by decide) kq) ?_
      show own_Rn p e below _ (Tl.setTop (mkF m 88 #[.val (.ref bv), .val (.int (0 : Int32)), .val (.int (Int32.ofNat cs.length)), .val (.int (0 : Int32)), .val (.int (Int32.ofNat PP)), .val (.int (Int32.ofNat qq))] []))
      refine own_go (fun tq kq => XS.iload Xl.here hx rfl (hb hby own_d27_88) rfl kq) ?_
      show own_Rn p e below _ (Tl.setTop (mkF m 90 #[.val (.ref bv), .val (.int (0 : Int32)), .val (.int (Int32.ofNat cs.length)), .val (.int (0 : Int32)), .val (.int (Int32.ofNat PP)), .val (.int (Int32.ofNat qq))] [(.int (Int32.ofNat PP))]))
      exact own_ret Xl (v := some (.int (Int32.ofNat PP))) (fun h => by rw [Bd.returns] at h; cases h) (fun fs hr => retI Xl hx Bd.returns (hb hby own_d27_90) hr) (by rw [el]; exact ⟨by rw [hP, own_pairs_end cs qq (by omega)]; rfl, Nl, rfl⟩) (by decide) (by decide)
    | succ mm ih =>
      intro qq PP Tl ls hf hq hP Xl el Nl
      refine own_go (fun tq kq => XS.iload Xl.here hx rfl (hb hby own_d27_44) rfl kq) ?_
      show own_Rn p e below _ (Tl.setTop (mkF m 46 #[.val (.ref bv), .val (.int (0 : Int32)), .val (.int (Int32.ofNat cs.length)), .val (.int (0 : Int32)), .val (.int (Int32.ofNat PP)), .val (.int (Int32.ofNat qq))] [(.int (Int32.ofNat qq))]))
      refine own_go (fun tq kq => XS.iloadN Xl.here hx rfl (hb hby own_d27_46) rfl kq) ?_
      show own_Rn p e below _ (Tl.setTop (mkF m 47 #[.val (.ref bv), .val (.int (0 : Int32)), .val (.int (Int32.ofNat cs.length)), .val (.int (0 : Int32)), .val (.int (Int32.ofNat PP)), .val (.int (Int32.ofNat qq))] [(.int (Int32.ofNat cs.length)), (.int (Int32.ofNat qq))]))
      refine own_go (fun tq kq => XS.iconst Xl.here hx rfl (hb hby own_d27_47) kq) ?_
      show own_Rn p e below _ (Tl.setTop (mkF m 48 #[.val (.ref bv), .val (.int (0 : Int32)), .val (.int (Int32.ofNat cs.length)), .val (.int (0 : Int32)), .val (.int (Int32.ofNat PP)), .val (.int (Int32.ofNat qq))] [(.int (1 : Int32)), (.int (Int32.ofNat cs.length)), (.int (Int32.ofNat qq))]))
      refine own_go (fun tq kq => XS.isub Xl.here hx rfl (hb hby own_d27_48) rfl kq) ?_
      show own_Rn p e below _ (Tl.setTop (mkF m 49 #[.val (.ref bv), .val (.int (0 : Int32)), .val (.int (Int32.ofNat cs.length)), .val (.int (0 : Int32)), .val (.int (Int32.ofNat PP)), .val (.int (Int32.ofNat qq))] [(.int ((Int32.ofNat cs.length) - (1 : Int32))), (.int (Int32.ofNat qq))]))
      rw [show ((Int32.ofNat cs.length) - (1 : Int32)) = Int32.ofNat (cs.length - 1) by have h := dec_ofNat (cs.length - 1); rwa [show cs.length - 1 + 1 = cs.length by omega] at h]
      show own_Rn p e below _ (Tl.setTop (mkF m 49 #[.val (.ref bv), .val (.int (0 : Int32)), .val (.int (Int32.ofNat cs.length)), .val (.int (0 : Int32)), .val (.int (Int32.ofNat PP)), .val (.int (Int32.ofNat qq))] [(.int (Int32.ofNat (cs.length - 1))), (.int (Int32.ofNat qq))]))
      by_cases hx1 : qq + 1 < cs.length
      · skip
        refine own_go (fun tq kq => XS.icmpNo Xl.here hx rfl (hb hby own_d27_49) rfl (tlt (own_ofNat_lt (by omega) (by omega) : (Int32.ofNat qq) < (Int32.ofNat (cs.length - 1)))).2.1 kq) ?_
        show own_Rn p e below _ (Tl.setTop (mkF m 52 #[.val (.ref bv), .val (.int (0 : Int32)), .val (.int (Int32.ofNat cs.length)), .val (.int (0 : Int32)), .val (.int (Int32.ofNat PP)), .val (.int (Int32.ofNat qq))] []))
        refine own_go (fun tq kq => XS.aloadN Xl.here hx rfl (hb hby own_d27_52) rfl rfl kq) ?_
        show own_Rn p e below _ (Tl.setTop (mkF m 53 #[.val (.ref bv), .val (.int (0 : Int32)), .val (.int (Int32.ofNat cs.length)), .val (.int (0 : Int32)), .val (.int (Int32.ofNat PP)), .val (.int (Int32.ofNat qq))] [(.ref bv)]))
        refine own_go (fun tq kq => XS.iload Xl.here hx rfl (hb hby own_d27_53) rfl kq) ?_
        show own_Rn p e below _ (Tl.setTop (mkF m 55 #[.val (.ref bv), .val (.int (0 : Int32)), .val (.int (Int32.ofNat cs.length)), .val (.int (0 : Int32)), .val (.int (Int32.ofNat PP)), .val (.int (Int32.ofNat qq))] [(.int (Int32.ofNat qq)), (.ref bv)]))
        refine own_go (fun tq kq => XS.iinc Xl.here hx rfl (hb hby own_d27_55) rfl (l' := #[.val (.ref bv), .val (.int (0 : Int32)), .val (.int (Int32.ofNat cs.length)), .val (.int (0 : Int32)), .val (.int (Int32.ofNat PP)), .val (.int ((Int32.ofNat qq) + (1 : Int32)))]) rfl kq) ?_
        show own_Rn p e below _ (Tl.setTop (mkF m 58 #[.val (.ref bv), .val (.int (0 : Int32)), .val (.int (Int32.ofNat cs.length)), .val (.int (0 : Int32)), .val (.int (Int32.ofNat PP)), .val (.int ((Int32.ofNat qq) + (1 : Int32)))] [(.int (Int32.ofNat qq)), (.ref bv)]))
        have hd := own_drop2 cs qq hx1
        rw [hd, own_pairs, ← own_drop1 cs qq hx1] at hP
        have Zn3 : n0 ≤ h0.size := by omega
        obtain ⟨rv3, _, ⟨T3, L3, k3, n3⟩, -, X3, ⟨Lc3, hQ3, l3, y3, z3⟩, st3⟩ := Jvm.LawKit.callS Xl hx (y := (⟨"java/lang/StringUTF16", "getChar", "([BI)C"⟩ : MethodName)) hown (mvT hZ (hw _ (own_mi 115 rfl))) (mvT hZ (hw _ (own_mi 116 rfl))) (mvT hZ (hw _ (own_mi 19 rfl))) (mvT hZ (hw _ (own_mi 117 rfl))) (by decide) (backOf (W := 0) (rmGet l Z a0 hw [] (bv) (kb) (cs) (qq) h0 n0 Zn3 Pm0 (by omega) (hn) (hr) (OAD) (OHI) (OLO) X00) hZ (hw _ (own_mi 117 rfl)) (hw _ (own_mi 19 rfl)) (by decide) (by decide)) (g := (mkF m 58 #[.val (.ref bv), .val (.int (0 : Int32)), .val (.int (Int32.ofNat cs.length)), .val (.int (0 : Int32)), .val (.int (Int32.ofNat PP)), .val (.int ((Int32.ofNat qq) + (1 : Int32)))] [(.int (Int32.ofNat qq)), (.ref bv)])) rfl (by rw [hml]; rfl) (argsL := [(.ref bv), (.int (Int32.ofNat qq))]) (rest := []) (lenOf own_pd_285bBI29C rfl) rfl (by show 2 * 0 + _ ≤ _; exact Nat.le_of_eq rfl) (hb hby own_d27_58) (fun _ _ => ⟨rfl, el, (by decide : 0 + 0 ≤ _), (by decide : 0 + 0 ≤ _)⟩)
        dsimp only [Pt.U, Pt.locs, Pt.cells, Pt.slots] at X3 l3 y3 z3 st3 hQ3
        subst l3 y3 z3
        obtain ⟨rfl, Nq3, eh3⟩ := hQ3
        have N3 := Fr.app Nl Nq3
        refine own_go st3 ?_
        show own_Rn p e below _ (T3.setTop (mkF m 61 #[.val (.ref bv), .val (.int (0 : Int32)), .val (.int (Int32.ofNat cs.length)), .val (.int (0 : Int32)), .val (.int (Int32.ofNat PP)), .val (.int ((Int32.ofNat qq) + (1 : Int32)))] [(.int (cs.getD qq 0))]))
        have Zn4 : n0 ≤ h0.size := by omega
        obtain ⟨rv4, _, ⟨T4, L4, k4, n4⟩, -, X4, ⟨Lc4, hQ4, l4, y4, z4⟩, st4⟩ := Jvm.LawKit.callS X3 hx (y := (⟨"java/lang/Character", "isHighSurrogate", "(C)Z"⟩ : MethodName)) hown (mvT hZ (hw _ (own_mi 125 rfl))) (mvT hZ (hw _ (own_mi 126 rfl))) (mvT hZ (hw _ (own_mi 127 rfl))) (mvT hZ (hw _ (own_mi 128 rfl))) (by decide) (backOf (W := 0) (rmHiJ l Z a0 hw [] ((cs.getD qq 0)) h0 n0 Zn4 ) hZ (hw _ (own_mi 128 rfl)) (hw _ (own_mi 127 rfl)) (by decide) (by decide)) (g := (mkF m 61 #[.val (.ref bv), .val (.int (0 : Int32)), .val (.int (Int32.ofNat cs.length)), .val (.int (0 : Int32)), .val (.int (Int32.ofNat PP)), .val (.int ((Int32.ofNat qq) + (1 : Int32)))] [(.int (cs.getD qq 0))])) rfl (by rw [hml]; rfl) (argsL := [(.int (cs.getD qq 0))]) (rest := []) (lenOf own_pd_28C29Z rfl) rfl (by show 2 * 0 + _ ≤ _; exact Nat.le_of_eq rfl) (hb hby own_d27_61) (fun _ _ => ⟨rfl, eh3, (by decide : 0 + 0 ≤ _), (by decide : 0 + 0 ≤ _)⟩)
        dsimp only [Pt.U, Pt.locs, Pt.cells, Pt.slots] at X4 l4 y4 z4 st4 hQ4
        subst l4 y4 z4
        obtain ⟨rfl, Nq4, eh4⟩ := hQ4
        have N4 := Fr.app N3 Nq4
        refine own_go st4 ?_
        show own_Rn p e below _ (T4.setTop (mkF m 64 #[.val (.ref bv), .val (.int (0 : Int32)), .val (.int (Int32.ofNat cs.length)), .val (.int (0 : Int32)), .val (.int (Int32.ofNat PP)), .val (.int ((Int32.ofNat qq) + (1 : Int32)))] [(.int (if own_isHi (cs.getD qq 0) then (1 : Int32) else 0))]))
        by_cases hA : own_isHi (cs.getD qq 0)
        · skip
          rw [if_pos hA]
          show own_Rn p e below _ (T4.setTop (mkF m 64 #[.val (.ref bv), .val (.int (0 : Int32)), .val (.int (Int32.ofNat cs.length)), .val (.int (0 : Int32)), .val (.int (Int32.ofNat PP)), .val (.int ((Int32.ofNat qq) + (1 : Int32)))] [(.int (1 : Int32))]))
          refine own_go (fun tq kq => XS.ifNo X4.here hx rfl (hb hby own_d27_64) rfl ((if0 _ _).trans (feq ((by decide : ¬ ((1 : Int32) = (0 : Int32))) : ¬ ((1 : Int32) = (0 : Int32)))).1) kq) ?_
          show own_Rn p e below _ (T4.setTop (mkF m 67 #[.val (.ref bv), .val (.int (0 : Int32)), .val (.int (Int32.ofNat cs.length)), .val (.int (0 : Int32)), .val (.int (Int32.ofNat PP)), .val (.int ((Int32.ofNat qq) + (1 : Int32)))] []))
          refine own_go (fun tq kq => XS.aloadN X4.here hx rfl (hb hby own_d27_67) rfl rfl kq) ?_
          show own_Rn p e below _ (T4.setTop (mkF m 68 #[.val (.ref bv), .val (.int (0 : Int32)), .val (.int (Int32.ofNat cs.length)), .val (.int (0 : Int32)), .val (.int (Int32.ofNat PP)), .val (.int ((Int32.ofNat qq) + (1 : Int32)))] [(.ref bv)]))
          refine own_go (fun tq kq => XS.iload X4.here hx rfl (hb hby own_d27_68) rfl kq) ?_
          show own_Rn p e below _ (T4.setTop (mkF m 70 #[.val (.ref bv), .val (.int (0 : Int32)), .val (.int (Int32.ofNat cs.length)), .val (.int (0 : Int32)), .val (.int (Int32.ofNat PP)), .val (.int ((Int32.ofNat qq) + (1 : Int32)))] [(.int ((Int32.ofNat qq) + (1 : Int32))), (.ref bv)]))
          rw [show (Int32.ofNat qq + (1 : Int32)) = Int32.ofNat (qq + 1) from (inc_ofNat qq).symm]
          show own_Rn p e below _ (T4.setTop (mkF m 70 #[.val (.ref bv), .val (.int (0 : Int32)), .val (.int (Int32.ofNat cs.length)), .val (.int (0 : Int32)), .val (.int (Int32.ofNat PP)), .val (.int (Int32.ofNat (qq + 1)))] [(.int (Int32.ofNat (qq + 1))), (.ref bv)]))
          have Zn5 : n0 ≤ h0.size := by omega
          obtain ⟨rv5, _, ⟨T5, L5, k5, n5⟩, -, X5, ⟨Lc5, hQ5, l5, y5, z5⟩, st5⟩ := Jvm.LawKit.callS X4 hx (y := (⟨"java/lang/StringUTF16", "getChar", "([BI)C"⟩ : MethodName)) hown (mvT hZ (hw _ (own_mi 115 rfl))) (mvT hZ (hw _ (own_mi 116 rfl))) (mvT hZ (hw _ (own_mi 19 rfl))) (mvT hZ (hw _ (own_mi 117 rfl))) (by decide) (backOf (W := 0) (rmGet l Z a0 hw [] (bv) (kb) (cs) ((qq + 1)) h0 n0 Zn5 Pm0 (hx1) (hn) (hr) (OAD) (OHI) (OLO) X00) hZ (hw _ (own_mi 117 rfl)) (hw _ (own_mi 19 rfl)) (by decide) (by decide)) (g := (mkF m 70 #[.val (.ref bv), .val (.int (0 : Int32)), .val (.int (Int32.ofNat cs.length)), .val (.int (0 : Int32)), .val (.int (Int32.ofNat PP)), .val (.int (Int32.ofNat (qq + 1)))] [(.int (Int32.ofNat (qq + 1))), (.ref bv)])) rfl (by rw [hml]; rfl) (argsL := [(.ref bv), (.int (Int32.ofNat (qq + 1)))]) (rest := []) (lenOf own_pd_285bBI29C rfl) rfl (by show 2 * 0 + _ ≤ _; exact Nat.le_of_eq rfl) (hb hby own_d27_70) (fun _ _ => ⟨rfl, eh4, (by decide : 0 + 0 ≤ _), (by decide : 0 + 0 ≤ _)⟩)
          dsimp only [Pt.U, Pt.locs, Pt.cells, Pt.slots] at X5 l5 y5 z5 st5 hQ5
          subst l5 y5 z5
          obtain ⟨rfl, Nq5, eh5⟩ := hQ5
          have N5 := Fr.app N4 Nq5
          refine own_go st5 ?_
          show own_Rn p e below _ (T5.setTop (mkF m 73 #[.val (.ref bv), .val (.int (0 : Int32)), .val (.int (Int32.ofNat cs.length)), .val (.int (0 : Int32)), .val (.int (Int32.ofNat PP)), .val (.int (Int32.ofNat (qq + 1)))] [(.int (cs.getD (qq + 1) 0))]))
          have Zn6 : n0 ≤ h0.size := by omega
          obtain ⟨rv6, _, ⟨T6, L6, k6, n6⟩, -, X6, ⟨Lc6, hQ6, l6, y6, z6⟩, st6⟩ := Jvm.LawKit.callS X5 hx (y := (⟨"java/lang/Character", "isLowSurrogate", "(C)Z"⟩ : MethodName)) hown (mvT hZ (hw _ (own_mi 135 rfl))) (mvT hZ (hw _ (own_mi 136 rfl))) (mvT hZ (hw _ (own_mi 127 rfl))) (mvT hZ (hw _ (own_mi 137 rfl))) (by decide) (backOf (W := 0) (rmLoJ l Z a0 hw [] ((cs.getD (qq + 1) 0)) h0 n0 Zn6 ) hZ (hw _ (own_mi 137 rfl)) (hw _ (own_mi 127 rfl)) (by decide) (by decide)) (g := (mkF m 73 #[.val (.ref bv), .val (.int (0 : Int32)), .val (.int (Int32.ofNat cs.length)), .val (.int (0 : Int32)), .val (.int (Int32.ofNat PP)), .val (.int (Int32.ofNat (qq + 1)))] [(.int (cs.getD (qq + 1) 0))])) rfl (by rw [hml]; rfl) (argsL := [(.int (cs.getD (qq + 1) 0))]) (rest := []) (lenOf own_pd_28C29Z rfl) rfl (by show 2 * 0 + _ ≤ _; exact Nat.le_of_eq rfl) (hb hby own_d27_73) (fun _ _ => ⟨rfl, eh5, (by decide : 0 + 0 ≤ _), (by decide : 0 + 0 ≤ _)⟩)
          dsimp only [Pt.U, Pt.locs, Pt.cells, Pt.slots] at X6 l6 y6 z6 st6 hQ6
          subst l6 y6 z6
          obtain ⟨rfl, Nq6, eh6⟩ := hQ6
          have N6 := Fr.app N5 Nq6
          refine own_go st6 ?_
          show own_Rn p e below _ (T6.setTop (mkF m 76 #[.val (.ref bv), .val (.int (0 : Int32)), .val (.int (Int32.ofNat cs.length)), .val (.int (0 : Int32)), .val (.int (Int32.ofNat PP)), .val (.int (Int32.ofNat (qq + 1)))] [(.int (if own_isLo (cs.getD (qq + 1) 0) then (1 : Int32) else 0))]))
          by_cases hB : own_isLo (cs.getD (qq + 1) 0)
          · skip
            rw [if_pos hB]
            show own_Rn p e below _ (T6.setTop (mkF m 76 #[.val (.ref bv), .val (.int (0 : Int32)), .val (.int (Int32.ofNat cs.length)), .val (.int (0 : Int32)), .val (.int (Int32.ofNat PP)), .val (.int (Int32.ofNat (qq + 1)))] [(.int (1 : Int32))]))
            rw [if_pos ⟨hA, hB⟩] at hP
            refine own_go (fun tq kq => XS.ifNo X6.here hx rfl (hb hby own_d27_76) rfl ((if0 _ _).trans (feq ((by decide : ¬ ((1 : Int32) = (0 : Int32))) : ¬ ((1 : Int32) = (0 : Int32)))).1) kq) ?_
            show own_Rn p e below _ (T6.setTop (mkF m 79 #[.val (.ref bv), .val (.int (0 : Int32)), .val (.int (Int32.ofNat cs.length)), .val (.int (0 : Int32)), .val (.int (Int32.ofNat PP)), .val (.int (Int32.ofNat (qq + 1)))] []))
            refine own_go (fun tq kq => XS.iinc X6.here hx rfl (hb hby own_d27_79) rfl (l' := #[.val (.ref bv), .val (.int (0 : Int32)), .val (.int (Int32.ofNat cs.length)), .val (.int (0 : Int32)), .val (.int ((Int32.ofNat PP) + (-1 : Int32))), .val (.int (Int32.ofNat (qq + 1)))]) rfl kq) ?_
            show own_Rn p e below _ (T6.setTop (mkF m 82 #[.val (.ref bv), .val (.int (0 : Int32)), .val (.int (Int32.ofNat cs.length)), .val (.int (0 : Int32)), .val (.int ((Int32.ofNat PP) + (-1 : Int32))), .val (.int (Int32.ofNat (qq + 1)))] []))
            refine own_go (fun tq kq => XS.iinc X6.here hx rfl (hb hby own_d27_82) rfl (l' := #[.val (.ref bv), .val (.int (0 : Int32)), .val (.int (Int32.ofNat cs.length)), .val (.int (0 : Int32)), .val (.int ((Int32.ofNat PP) + (-1 : Int32))), .val (.int ((Int32.ofNat (qq + 1)) + (1 : Int32)))]) rfl kq) ?_
            show own_Rn p e below _ (T6.setTop (mkF m 85 #[.val (.ref bv), .val (.int (0 : Int32)), .val (.int (Int32.ofNat cs.length)), .val (.int (0 : Int32)), .val (.int ((Int32.ofNat PP) + (-1 : Int32))), .val (.int ((Int32.ofNat (qq + 1)) + (1 : Int32)))] []))
            refine own_go (fun tq kq => XS.goto X6.here hx rfl (pc0 := 85) (pc' := 44) rfl (hb hby own_d27_85) (by decide) (by decide) kq) ?_
            show own_Rn p e below _ (T6.setTop (mkF m 44 #[.val (.ref bv), .val (.int (0 : Int32)), .val (.int (Int32.ofNat cs.length)), .val (.int (0 : Int32)), .val (.int ((Int32.ofNat PP) + (-1 : Int32))), .val (.int ((Int32.ofNat (qq + 1)) + (1 : Int32)))] []))
            rw [own_dec PP (by omega), show (Int32.ofNat (qq + 1) + (1 : Int32)) = Int32.ofNat (qq + 2) from (inc_ofNat (qq + 1)).symm]
            exact ih (qq + 2) (PP - 1) _ _ (by omega) (by omega) (by omega) X6 eh6 N6
          · skip
            rw [if_neg hB]
            show own_Rn p e below _ (T6.setTop (mkF m 76 #[.val (.ref bv), .val (.int (0 : Int32)), .val (.int (Int32.ofNat cs.length)), .val (.int (0 : Int32)), .val (.int (Int32.ofNat PP)), .val (.int (Int32.ofNat (qq + 1)))] [(.int (0 : Int32))]))
            rw [if_neg (fun g => hB g.2)] at hP
            refine own_go (fun tq kq => XS.ifYes X6.here hx rfl (pc0 := 76) (pc' := 44) rfl (hb hby own_d27_76) rfl ((if0 _ _).trans (teq ((by decide : (0 : Int32) = (0 : Int32)) : (0 : Int32) = (0 : Int32))).1) (by decide) (by decide) kq) ?_
            show own_Rn p e below _ (T6.setTop (mkF m 44 #[.val (.ref bv), .val (.int (0 : Int32)), .val (.int (Int32.ofNat cs.length)), .val (.int (0 : Int32)), .val (.int (Int32.ofNat PP)), .val (.int (Int32.ofNat (qq + 1)))] []))
            exact ih (qq + 1) PP _ _ (by omega) (by omega) (hP) X6 eh6 N6
        · skip
          rw [if_neg hA]
          show own_Rn p e below _ (T4.setTop (mkF m 64 #[.val (.ref bv), .val (.int (0 : Int32)), .val (.int (Int32.ofNat cs.length)), .val (.int (0 : Int32)), .val (.int (Int32.ofNat PP)), .val (.int ((Int32.ofNat qq) + (1 : Int32)))] [(.int (0 : Int32))]))
          rw [if_neg (fun g => hA g.1)] at hP
          refine own_go (fun tq kq => XS.ifYes X4.here hx rfl (pc0 := 64) (pc' := 44) rfl (hb hby own_d27_64) rfl ((if0 _ _).trans (teq ((by decide : (0 : Int32) = (0 : Int32)) : (0 : Int32) = (0 : Int32))).1) (by decide) (by decide) kq) ?_
          show own_Rn p e below _ (T4.setTop (mkF m 44 #[.val (.ref bv), .val (.int (0 : Int32)), .val (.int (Int32.ofNat cs.length)), .val (.int (0 : Int32)), .val (.int (Int32.ofNat PP)), .val (.int ((Int32.ofNat qq) + (1 : Int32)))] []))
          rw [show (Int32.ofNat qq + (1 : Int32)) = Int32.ofNat (qq + 1) from (inc_ofNat qq).symm]
          exact ih (qq + 1) PP _ _ (by omega) (by omega) (hP) X4 eh4 N4
      · skip
        refine own_go (fun tq kq => XS.icmpYes Xl.here hx rfl (pc0 := 49) (pc' := 88) rfl (hb hby own_d27_49) rfl (flt (own_ofNat_nlt (by omega) (by omega) : ¬ ((Int32.ofNat qq) < (Int32.ofNat (cs.length - 1))))).2.1 (by decide) (by decide) kq) ?_
        show own_Rn p e below _ (Tl.setTop (mkF m 88 #[.val (.ref bv), .val (.int (0 : Int32)), .val (.int (Int32.ofNat cs.length)), .val (.int (0 : Int32)), .val (.int (Int32.ofNat PP)), .val (.int (Int32.ofNat qq))] []))
        refine own_go (fun tq kq => XS.iload Xl.here hx rfl (hb hby own_d27_88) rfl kq) ?_
        show own_Rn p e below _ (Tl.setTop (mkF m 90 #[.val (.ref bv), .val (.int (0 : Int32)), .val (.int (Int32.ofNat cs.length)), .val (.int (0 : Int32)), .val (.int (Int32.ofNat PP)), .val (.int (Int32.ofNat qq))] [(.int (Int32.ofNat PP))]))
        exact own_ret Xl (v := some (.int (Int32.ofNat PP))) (fun h => by rw [Bd.returns] at h; cases h) (fun fs hr => retI Xl hx Bd.returns (hb hby own_d27_90) hr) (by rw [el]; exact ⟨by rw [hP, own_pairs_end cs qq (by omega)]; rfl, Nl, rfl⟩) (by decide) (by decide)
  exact loop cs.length 0 cs.length _ _ (by omega) (by omega) (own_cp_eq cs) X2 e2 N0
theorem own_ef_rmCP3 (m : MethodId) (bv : Addr) (kb : ClassId) (cs : List Int32) : entryFrame m #[(.ref bv), (.int (0 : Int32)), (.int (Int32.ofNat cs.length))] 3 = mkF m 0 #[.val (.ref bv), .val (.int (0 : Int32)), .val (.int (Int32.ofNat cs.length))] [] := by first | (simp [entryFrame, mkF, argsToLocals, Value.category]; done) | rfl
theorem own_d26_0 : decode jdk_52_method_12_code 0 = .ok (.aload_n 0, 1) := by decide +kernel
theorem own_d26_1 : decode jdk_52_method_12_code 1 = .ok (.iload_n 1, 1) := by decide +kernel
theorem own_d26_2 : decode jdk_52_method_12_code 2 = .ok (.iload_n 2, 1) := by decide +kernel
theorem own_d26_3 : decode jdk_52_method_12_code 3 = .ok (.iconst 0, 1) := by decide +kernel
theorem own_d26_4 : decode jdk_52_method_12_code 4 = .ok (.invokestatic 100, 3) := by decide +kernel
theorem own_pd_285bBIIZ29I : parseMethodDescriptor "([BIIZ)I" = some ⟨[(.array .byte), .int, .int, .boolean], some .int⟩ := by decide +kernel
theorem own_d26_7 : decode jdk_52_method_12_code 7 = .ok (.ireturn, 1) := by decide +kernel
def Q_rmCP3 (Z : State) (bv : Addr) (kb : ClassId) (cs : List Int32) (h0 : Heap) (n0 : Nat) (v : Option Value) (h : Heap) (L : List Loc) : Prop := v = some (.int (Int32.ofNat (own_cp cs))) ∧ Fr n0 L ∧ h = h0
set_option maxRecDepth 65536 in
set_option maxHeartbeats 40000000 in
theorem rmCP3 (l : Launch) (Z : State) (a0 : Array Value) (hw : ∀ d ∈ tables_1, d.before a0 Z = true) (ws : List Jvm.Cond) (bv : Addr) (kb : ClassId) (cs : List Int32) (h0 : Heap) (n0 : Nat) (Z0 : n0 ≤ h0.size) (Pm0 : Arv Z h0 bv kb .byte (Int32.ofNat (2 * cs.length)) (own_u16 cs) (.int 0)) (hn : (cs.length ≤ 4)) (h0n : (0 < cs.length)) (hr : (∀ c ∈ cs, ¬ c < 0 ∧ ¬ (65535 : Int32) < c)) (OAD : Sta Z Z.heap "java/lang/StringUTF16" "$assertionsDisabled" "Z" (.int (1 : Int32))) (OHI : Sta Z Z.heap "java/lang/StringUTF16" "HI_BYTE_SHIFT" "I" (.int (0 : Int32))) (OLO : Sta Z Z.heap "java/lang/StringUTF16" "LO_BYTE_SHIFT" "I" (.int (8 : Int32))) (X00 : Old Z n0 h0) :
    MetFree l (⟨"java/lang/StringUTF16", "codePointCount", "([BII)I"⟩ : MethodName) (head1 (Jvm.Cond.code (⟨"java/lang/StringUTF16", "codePointCount", "([BII)I"⟩ : MethodName) jdk_52_method_12_code 3 (some .int) :: ws) ({ frames := 2, cells := 0, slots := 0, locals := 30 } : Room)) (fun a U => a = #[(.ref bv), (.int (0 : Int32)), (.int (Int32.ofNat cs.length))] ∧ Z.Warmed39 U.vm ∧ U.heap = h0) (fun _ _ _ _ _ => True) (fun _ U o U' => ∃ v L, o = .returned v ∧ Q_rmCP3 Z bv kb cs h0 n0 v U'.heap L ∧ FrameEnd U o U' L ({ frames := 2, cells := 0, slots := 0, locals := 30 } : Room).cells ({ frames := 2, cells := 0, slots := 0, locals := 30 } : Room).slots) := by
  refine MetFree.of_bodySF (plainFor_of_name own_pn_java_lang_StringUTF16) hisR ?_
  intro p e s m args below meth c s₁ Bd hml0 hP hK
  obtain ⟨rfl, hZ, hh⟩ := hP
  have hx := Bd.exec
  have hby := Bd.bytes
  have hml : c.maxLocals = 3 := hml0
  have hown : s.vm.findClass "java/lang/StringUTF16" = some m.cls := findClass_of_methodNamed Bd.named
  have hnm := (name_of_methodNamed Bd.named Bd.method).1
  have X0 : Stand p l e ({ frames := 2, cells := 0, slots := 0, locals := 30 } : Room) s m #[(.ref bv), (.int (0 : Int32)), (.int (Int32.ofNat cs.length))] below meth c s₁ [] 0 0 := Stand.of_body Bd
  have e0 : s₁.heap = h0 := by rw [← hh, Bd.state]; rfl
  have N0 := Fr.nil n0
  have K0 : Keep h0 h0 [] := Keep.refl _ _
  refine own_go (S' := s₁.setTop (mkF m 0 #[.val (.ref bv), .val (.int (0 : Int32)), .val (.int (Int32.ofNat cs.length))] [])) (fun tq kq => castTop (own_ef_rmCP3 m bv kb cs) kq) ?_
  have lt1 : @LT.lt Nat _ bv h0.size := Pm0.lt
  refine own_go (fun tq kq => XS.aloadN X0.here hx rfl (hb hby own_d26_0) rfl rfl kq) ?_
  show own_Rn p e below _ (s₁.setTop (mkF m 1 #[.val (.ref bv), .val (.int (0 : Int32)), .val (.int (Int32.ofNat cs.length))] [(.ref bv)]))
  refine own_go (fun tq kq => XS.iloadN X0.here hx rfl (hb hby own_d26_1) rfl kq) ?_
  show own_Rn p e below _ (s₁.setTop (mkF m 2 #[.val (.ref bv), .val (.int (0 : Int32)), .val (.int (Int32.ofNat cs.length))] [(.int (0 : Int32)), (.ref bv)]))
  refine own_go (fun tq kq => XS.iloadN X0.here hx rfl (hb hby own_d26_2) rfl kq) ?_
  show own_Rn p e below _ (s₁.setTop (mkF m 3 #[.val (.ref bv), .val (.int (0 : Int32)), .val (.int (Int32.ofNat cs.length))] [(.int (Int32.ofNat cs.length)), (.int (0 : Int32)), (.ref bv)]))
  refine own_go (fun tq kq => XS.iconst X0.here hx rfl (hb hby own_d26_3) kq) ?_
  show own_Rn p e below _ (s₁.setTop (mkF m 4 #[.val (.ref bv), .val (.int (0 : Int32)), .val (.int (Int32.ofNat cs.length))] [(.int (0 : Int32)), (.int (Int32.ofNat cs.length)), (.int (0 : Int32)), (.ref bv)]))
  have Zn2 : n0 ≤ h0.size := by omega
  obtain ⟨rv2, _, ⟨T2, L2, k2, n2⟩, -, X2, ⟨Lc2, hQ2, l2, y2, z2⟩, st2⟩ := Jvm.LawKit.callS X0 hx (y := (⟨"java/lang/StringUTF16", "codePointCount", "([BIIZ)I"⟩ : MethodName)) hown (mvT hZ (hw _ (own_mi 122 rfl))) (mvT hZ (hw _ (own_mi 123 rfl))) (mvT hZ (hw _ (own_mi 19 rfl))) (mvT hZ (hw _ (own_mi 124 rfl))) (by decide) (backOf (W := 0) (rmCP4 l Z a0 hw [] (bv) (kb) (cs) h0 n0 Zn2 Pm0 (hn) (h0n) (hr) (OAD) (OHI) (OLO) X00) hZ (hw _ (own_mi 124 rfl)) (hw _ (own_mi 19 rfl)) (by decide) (by decide)) (g := (mkF m 4 #[.val (.ref bv), .val (.int (0 : Int32)), .val (.int (Int32.ofNat cs.length))] [(.int (0 : Int32)), (.int (Int32.ofNat cs.length)), (.int (0 : Int32)), (.ref bv)])) rfl (by rw [hml]; rfl) (argsL := [(.ref bv), (.int (0 : Int32)), (.int (Int32.ofNat cs.length)), (.int (0 : Int32))]) (rest := []) (lenOf own_pd_285bBIIZ29I rfl) rfl (by show 2 * 0 + _ ≤ _; exact Nat.le_of_eq rfl) (hb hby own_d26_4) (fun _ _ => ⟨rfl, e0, (by decide : 0 + 0 ≤ _), (by decide : 0 + 0 ≤ _)⟩)
  dsimp only [Pt.U, Pt.locs, Pt.cells, Pt.slots] at X2 l2 y2 z2 st2 hQ2
  subst l2 y2 z2
  obtain ⟨rfl, Nq2, eh2⟩ := hQ2
  have N2 := Fr.app N0 Nq2
  refine own_go st2 ?_
  show own_Rn p e below _ (T2.setTop (mkF m 7 #[.val (.ref bv), .val (.int (0 : Int32)), .val (.int (Int32.ofNat cs.length))] [(.int (Int32.ofNat (own_cp cs)))]))
  exact own_ret X2 (v := some (.int (Int32.ofNat (own_cp cs)))) (fun h => by rw [Bd.returns] at h; cases h) (fun fs hr => retI X2 hx Bd.returns (hb hby own_d26_7) hr) (by rw [eh2]; exact ⟨rfl, N2, rfl⟩) (by decide) (by decide)
theorem own_ef_rmCPC0 (m : MethodId) (x : Addr) (t : Addr) (kt : ClassId) (cs : List Int32) (G1 : Int32) : entryFrame m #[(.ref x), (.int (0 : Int32)), (.int (Int32.ofNat cs.length))] 3 = mkF m 0 #[.val (.ref x), .val (.int (0 : Int32)), .val (.int (Int32.ofNat cs.length))] [] := by first | (simp [entryFrame, mkF, argsToLocals, Value.category]; done) | rfl
theorem own_d16_0 : decode jdk_42_method_59_code 0 = .ok (.iload_n 1, 1) := by decide +kernel
theorem own_d16_1 : decode jdk_42_method_59_code 1 = .ok (.iload_n 2, 1) := by decide +kernel
theorem own_d16_2 : decode jdk_42_method_59_code 2 = .ok (.aload_n 0, 1) := by decide +kernel
theorem own_d16_3 : decode jdk_42_method_59_code 3 = .ok (.invokevirtual 505, 3) := by decide +kernel
theorem own_pd_2829I : parseMethodDescriptor "()I" = some ⟨[], some .int⟩ := by decide +kernel
theorem own_d16_6 : decode jdk_42_method_59_code 6 = .ok (.invokestatic 511, 3) := by decide +kernel
theorem own_pd_28III29I : parseMethodDescriptor "(III)I" = some ⟨[.int, .int, .int], some .int⟩ := by decide +kernel
theorem own_d16_9 : decode jdk_42_method_59_code 9 = .ok (.pop, 1) := by decide +kernel
theorem own_d16_10 : decode jdk_42_method_59_code 10 = .ok (.aload_n 0, 1) := by decide +kernel
theorem own_d16_11 : decode jdk_42_method_59_code 11 = .ok (.invokevirtual 492, 3) := by decide +kernel
theorem own_pd_2829Z : parseMethodDescriptor "()Z" = some ⟨[], some .boolean⟩ := by decide +kernel
theorem own_d16_14 : decode jdk_42_method_59_code 14 = .ok (.ifCond .eq 7, 3) := by decide +kernel
theorem own_d16_17 : decode jdk_42_method_59_code 17 = .ok (.iload_n 2, 1) := by decide +kernel
theorem own_d16_18 : decode jdk_42_method_59_code 18 = .ok (.iload_n 1, 1) := by decide +kernel
theorem own_d16_19 : decode jdk_42_method_59_code 19 = .ok (.isub, 1) := by decide +kernel
theorem own_d16_20 : decode jdk_42_method_59_code 20 = .ok (.ireturn, 1) := by decide +kernel
def Q_rmCPC0 (Z : State) (x : Addr) (t : Addr) (kt : ClassId) (cs : List Int32) (G1 : Int32) (h0 : Heap) (n0 : Nat) (v : Option Value) (h : Heap) (L : List Loc) : Prop := v = some (.int (Int32.ofNat (own_cp cs))) ∧ Fr n0 L ∧ h = h0
set_option maxRecDepth 65536 in
set_option maxHeartbeats 40000000 in
theorem rmCPC0 (l : Launch) (Z : State) (a0 : Array Value) (hw : ∀ d ∈ tables_1, d.before a0 Z = true) (ws : List Jvm.Cond) (x : Addr) (t : Addr) (kt : ClassId) (cs : List Int32) (G1 : Int32) (h0 : Heap) (n0 : Nat) (Z0 : n0 ≤ h0.size) (Pm0 : Exa Z h0 x "java/lang/String") (Pm1 : Fld Z h0 x "java/lang/String" "value" "[B" (.ref t)) (Pm2 : Fld Z h0 x "java/lang/String" "coder" "B" (.int (0 : Int32))) (Pm3 : Arv Z h0 t kt .byte (Int32.ofNat cs.length) (own_bs cs) (.int 0)) (hn : (cs.length ≤ 4)) (hal : (∀ c ∈ cs, ¬ (255 : Int32) < c)) (O2 : Sta Z Z.heap "java/lang/String" "COMPACT_STRINGS" "Z" (.int G1)) (P5 : (¬ (G1 = (0 : Int32)))) (X00 : Old Z n0 h0) :
    MetFree l (⟨"java/lang/String", "codePointCount", "(II)I"⟩ : MethodName) (head1 (Jvm.Cond.code (⟨"java/lang/String", "codePointCount", "(II)I"⟩ : MethodName) jdk_42_method_59_code 3 (some .int) :: ws) ({ frames := 2, cells := 0, slots := 0, locals := 29 } : Room)) (fun a U => a = #[(.ref x), (.int (0 : Int32)), (.int (Int32.ofNat cs.length))] ∧ Z.Warmed39 U.vm ∧ U.heap = h0) (fun _ _ _ _ _ => True) (fun _ U o U' => ∃ v L, o = .returned v ∧ Q_rmCPC0 Z x t kt cs G1 h0 n0 v U'.heap L ∧ FrameEnd U o U' L ({ frames := 2, cells := 0, slots := 0, locals := 29 } : Room).cells ({ frames := 2, cells := 0, slots := 0, locals := 29 } : Room).slots) := by
  refine MetFree.of_bodySF (plainFor_of_name own_pn_java_lang_String) hisR ?_
  intro p e s m args below meth c s₁ Bd hml0 hP hK
  obtain ⟨rfl, hZ, hh⟩ := hP
  have hx := Bd.exec
  have hby := Bd.bytes
  have hml : c.maxLocals = 3 := hml0
  have hown : s.vm.findClass "java/lang/String" = some m.cls := findClass_of_methodNamed Bd.named
  have hnm := (name_of_methodNamed Bd.named Bd.method).1
  have X0 : Stand p l e ({ frames := 2, cells := 0, slots := 0, locals := 29 } : Room) s m #[(.ref x), (.int (0 : Int32)), (.int (Int32.ofNat cs.length))] below meth c s₁ [] 0 0 := Stand.of_body Bd
  have e0 : s₁.heap = h0 := by rw [← hh, Bd.state]; rfl
  have N0 := Fr.nil n0
  have K0 : Keep h0 h0 [] := Keep.refl _ _
  refine own_go (S' := s₁.setTop (mkF m 0 #[.val (.ref x), .val (.int (0 : Int32)), .val (.int (Int32.ofNat cs.length))] [])) (fun tq kq => castTop (own_ef_rmCPC0 m x t kt cs G1) kq) ?_
  have lt1 : @LT.lt Nat _ x h0.size := Pm0.lt
  have lt2 : @LT.lt Nat _ t h0.size := Pm3.lt
  refine own_go (fun tq kq => XS.iloadN X0.here hx rfl (hb hby own_d16_0) rfl kq) ?_
  show own_Rn p e below _ (s₁.setTop (mkF m 1 #[.val (.ref x), .val (.int (0 : Int32)), .val (.int (Int32.ofNat cs.length))] [(.int (0 : Int32))]))
  refine own_go (fun tq kq => XS.iloadN X0.here hx rfl (hb hby own_d16_1) rfl kq) ?_
  show own_Rn p e below _ (s₁.setTop (mkF m 2 #[.val (.ref x), .val (.int (0 : Int32)), .val (.int (Int32.ofNat cs.length))] [(.int (Int32.ofNat cs.length)), (.int (0 : Int32))]))
  refine own_go (fun tq kq => XS.aloadN X0.here hx rfl (hb hby own_d16_2) rfl rfl kq) ?_
  show own_Rn p e below _ (s₁.setTop (mkF m 3 #[.val (.ref x), .val (.int (0 : Int32)), .val (.int (Int32.ofNat cs.length))] [(.ref x), (.int (Int32.ofNat cs.length)), (.int (0 : Int32))]))
  have Zn3 : n0 ≤ h0.size := by omega
  obtain ⟨cq3, kq3, qa3, qb3, qc3⟩ := isOf hZ e0 Pm0
  obtain ⟨rv3, _, ⟨T3, L3, k3, n3⟩, -, X3, ⟨Lc3, hQ3, l3, y3, z3⟩, st3⟩ := X0.virtualBack hx (y := (⟨"java/lang/String", "length", "()I"⟩ : MethodName)) (z := (⟨"java/lang/String", "length", "()I"⟩ : MethodName)) hown (mvT hZ (hw _ (own_mi 77 rfl))) (mvT hZ (hw _ (own_mi 63 rfl))) (notFace_of_selects (args := #[]) (mvT hZ (hw _ (own_mi 65 rfl)))) (mvT hZ (hw _ (own_mi 65 rfl))) (mvT hZ (hw _ (own_mi 64 rfl))) (by decide) (backOf (W := 2) (rmLe0 l Z a0 hw [] (x) (t) (kt) (cs) (G1) h0 n0 Zn3 Pm0 Pm1 Pm2 Pm3 (hn) (O2) (P5) X00) hZ (hw _ (own_mi 66 rfl)) (hw _ (own_mi 4 rfl)) (by decide) (by decide)) qa3 qc3 (g := (mkF m 3 #[.val (.ref x), .val (.int (0 : Int32)), .val (.int (Int32.ofNat cs.length))] [(.ref x), (.int (Int32.ofNat cs.length)), (.int (0 : Int32))])) rfl (by rw [hml]; rfl) (Steps.refl _) (argsL := []) (rest := [(.int (Int32.ofNat cs.length)), (.int (0 : Int32))]) (lenOf own_pd_2829I rfl) rfl (by show 2 * 0 + _ ≤ _; exact Nat.le_of_eq rfl) (hb hby own_d16_3) (fun _ _ => ⟨rfl, e0, (by decide : 0 + 0 ≤ _), (by decide : 0 + 0 ≤ _)⟩)
  dsimp only [Pt.U, Pt.locs, Pt.cells, Pt.slots] at X3 l3 y3 z3 st3 hQ3
  subst l3 y3 z3
  obtain ⟨rfl, Nq3, eh3⟩ := hQ3
  have N3 := Fr.app N0 Nq3
  refine own_go (fun tq kq => st3.trans kq) ?_
  show own_Rn p e below _ (T3.setTop (mkF m 6 #[.val (.ref x), .val (.int (0 : Int32)), .val (.int (Int32.ofNat cs.length))] [(.int (Int32.ofNat cs.length)), (.int (Int32.ofNat cs.length)), (.int (0 : Int32))]))
  have Zn4 : n0 ≤ h0.size := by omega
  obtain ⟨rv4, _, ⟨T4, L4, k4, n4⟩, -, X4, ⟨Lc4, hQ4, l4, y4, z4⟩, st4⟩ := Jvm.LawKit.callS X3 hx (y := (⟨"java/util/Objects", "checkFromToIndex", "(III)I"⟩ : MethodName)) hown (mvT hZ (hw _ (own_mi 78 rfl))) (mvT hZ (hw _ (own_mi 79 rfl))) (mvT hZ (hw _ (own_mi 80 rfl))) (mvT hZ (hw _ (own_mi 81 rfl))) (by decide) (backOf (W := 0) (rmOC l Z a0 hw [] (cs.length) h0 n0 Zn4 (hn)) hZ (hw _ (own_mi 81 rfl)) (hw _ (own_mi 80 rfl)) (by decide) (by decide)) (g := (mkF m 6 #[.val (.ref x), .val (.int (0 : Int32)), .val (.int (Int32.ofNat cs.length))] [(.int (Int32.ofNat cs.length)), (.int (Int32.ofNat cs.length)), (.int (0 : Int32))])) rfl (by rw [hml]; rfl) (argsL := [(.int (0 : Int32)), (.int (Int32.ofNat cs.length)), (.int (Int32.ofNat cs.length))]) (rest := []) (lenOf own_pd_28III29I rfl) rfl (by show 2 * 0 + _ ≤ _; exact Nat.le_of_eq rfl) (hb hby own_d16_6) (fun _ _ => ⟨rfl, eh3, (by decide : 0 + 0 ≤ _), (by decide : 0 + 0 ≤ _)⟩)
  dsimp only [Pt.U, Pt.locs, Pt.cells, Pt.slots] at X4 l4 y4 z4 st4 hQ4
  subst l4 y4 z4
  obtain ⟨rfl, Nq4, eh4⟩ := hQ4
  have N4 := Fr.app N3 Nq4
  refine own_go st4 ?_
  show own_Rn p e below _ (T4.setTop (mkF m 9 #[.val (.ref x), .val (.int (0 : Int32)), .val (.int (Int32.ofNat cs.length))] [(.int (0 : Int32))]))
  refine own_go (fun tq kq => XS.pop X4.here hx rfl (hb hby own_d16_9) rfl rfl kq) ?_
  show own_Rn p e below _ (T4.setTop (mkF m 10 #[.val (.ref x), .val (.int (0 : Int32)), .val (.int (Int32.ofNat cs.length))] []))
  refine own_go (fun tq kq => XS.aloadN X4.here hx rfl (hb hby own_d16_10) rfl rfl kq) ?_
  show own_Rn p e below _ (T4.setTop (mkF m 11 #[.val (.ref x), .val (.int (0 : Int32)), .val (.int (Int32.ofNat cs.length))] [(.ref x)]))
  have Zn5 : n0 ≤ h0.size := by omega
  obtain ⟨cq5, kq5, qa5, qb5, qc5⟩ := isOf hZ eh4 Pm0
  obtain ⟨rv5, _, ⟨T5, L5, k5, n5⟩, -, X5, ⟨Lc5, hQ5, l5, y5, z5⟩, st5⟩ := X4.virtualBack hx (y := (⟨"java/lang/String", "isLatin1", "()Z"⟩ : MethodName)) (z := (⟨"java/lang/String", "isLatin1", "()Z"⟩ : MethodName)) hown (mvT hZ (hw _ (own_mi 86 rfl))) (mvT hZ (hw _ (own_mi 87 rfl))) (notFace_of_selects (args := #[]) (mvT hZ (hw _ (own_mi 89 rfl)))) (mvT hZ (hw _ (own_mi 89 rfl))) (mvT hZ (hw _ (own_mi 88 rfl))) (by decide) (backOf (W := 0) (rmIl0 l Z a0 hw [] (x) (G1) h0 n0 Zn5 Pm2 (O2) (P5) X00) hZ (hw _ (own_mi 90 rfl)) (hw _ (own_mi 4 rfl)) (by decide) (by decide)) qa5 qc5 (g := (mkF m 11 #[.val (.ref x), .val (.int (0 : Int32)), .val (.int (Int32.ofNat cs.length))] [(.ref x)])) rfl (by rw [hml]; rfl) (Steps.refl _) (argsL := []) (rest := []) (lenOf own_pd_2829Z rfl) rfl (by show 2 * 0 + _ ≤ _; exact Nat.le_of_eq rfl) (hb hby own_d16_11) (fun _ _ => ⟨rfl, eh4, (by decide : 0 + 0 ≤ _), (by decide : 0 + 0 ≤ _)⟩)
  dsimp only [Pt.U, Pt.locs, Pt.cells, Pt.slots] at X5 l5 y5 z5 st5 hQ5
  subst l5 y5 z5
  obtain ⟨rfl, Nq5, eh5⟩ := hQ5
  have N5 := Fr.app N4 Nq5
  refine own_go (fun tq kq => st5.trans kq) ?_
  show own_Rn p e below _ (T5.setTop (mkF m 14 #[.val (.ref x), .val (.int (0 : Int32)), .val (.int (Int32.ofNat cs.length))] [(.int (1 : Int32))]))
  refine own_go (fun tq kq => XS.ifNo X5.here hx rfl (hb hby own_d16_14) rfl ((if0 _ _).trans (feq ((by decide : ¬ ((1 : Int32) = (0 : Int32))) : ¬ ((1 : Int32) = (0 : Int32)))).1) kq) ?_
  show own_Rn p e below _ (T5.setTop (mkF m 17 #[.val (.ref x), .val (.int (0 : Int32)), .val (.int (Int32.ofNat cs.length))] []))
  refine own_go (fun tq kq => XS.iloadN X5.here hx rfl (hb hby own_d16_17) rfl kq) ?_
  show own_Rn p e below _ (T5.setTop (mkF m 18 #[.val (.ref x), .val (.int (0 : Int32)), .val (.int (Int32.ofNat cs.length))] [(.int (Int32.ofNat cs.length))]))
  refine own_go (fun tq kq => XS.iloadN X5.here hx rfl (hb hby own_d16_18) rfl kq) ?_
  show own_Rn p e below _ (T5.setTop (mkF m 19 #[.val (.ref x), .val (.int (0 : Int32)), .val (.int (Int32.ofNat cs.length))] [(.int (0 : Int32)), (.int (Int32.ofNat cs.length))]))
  refine own_go (fun tq kq => XS.isub X5.here hx rfl (hb hby own_d16_19) rfl kq) ?_
  show own_Rn p e below _ (T5.setTop (mkF m 20 #[.val (.ref x), .val (.int (0 : Int32)), .val (.int (Int32.ofNat cs.length))] [(.int ((Int32.ofNat cs.length) - (0 : Int32)))]))
  exact own_ret X5 (v := some (.int ((Int32.ofNat cs.length) - (0 : Int32)))) (fun h => by rw [Bd.returns] at h; cases h) (fun fs hr => retI X5 hx Bd.returns (hb hby own_d16_20) hr) (by rw [eh5]; exact ⟨by rw [Int32.sub_zero, own_cp, own_lat cs hal]; rfl, N5, rfl⟩) (by decide) (by decide)
theorem own_ef_rmCPC1 (m : MethodId) (x : Addr) (t : Addr) (kt : ClassId) (cs : List Int32) (G1 : Int32) : entryFrame m #[(.ref x), (.int (0 : Int32)), (.int (Int32.ofNat cs.length))] 3 = mkF m 0 #[.val (.ref x), .val (.int (0 : Int32)), .val (.int (Int32.ofNat cs.length))] [] := by first | (simp [entryFrame, mkF, argsToLocals, Value.category]; done) | rfl
theorem own_d16_21 : decode jdk_42_method_59_code 21 = .ok (.aload_n 0, 1) := by decide +kernel
theorem own_d16_22 : decode jdk_42_method_59_code 22 = .ok (.getfield 9, 3) := by decide +kernel
theorem own_d16_25 : decode jdk_42_method_59_code 25 = .ok (.iload_n 1, 1) := by decide +kernel
theorem own_d16_26 : decode jdk_42_method_59_code 26 = .ok (.iload_n 2, 1) := by decide +kernel
theorem own_d16_27 : decode jdk_42_method_59_code 27 = .ok (.invokestatic 514, 3) := by decide +kernel
theorem own_pd_285bBII29I : parseMethodDescriptor "([BII)I" = some ⟨[(.array .byte), .int, .int], some .int⟩ := by decide +kernel
theorem own_d16_30 : decode jdk_42_method_59_code 30 = .ok (.ireturn, 1) := by decide +kernel
def Q_rmCPC1 (Z : State) (x : Addr) (t : Addr) (kt : ClassId) (cs : List Int32) (G1 : Int32) (h0 : Heap) (n0 : Nat) (v : Option Value) (h : Heap) (L : List Loc) : Prop := v = some (.int (Int32.ofNat (own_cp cs))) ∧ Fr n0 L ∧ h = h0
set_option maxRecDepth 65536 in
set_option maxHeartbeats 40000000 in
theorem rmCPC1 (l : Launch) (Z : State) (a0 : Array Value) (hw : ∀ d ∈ tables_1, d.before a0 Z = true) (ws : List Jvm.Cond) (x : Addr) (t : Addr) (kt : ClassId) (cs : List Int32) (G1 : Int32) (h0 : Heap) (n0 : Nat) (Z0 : n0 ≤ h0.size) (Pm0 : Exa Z h0 x "java/lang/String") (Pm1 : Fld Z h0 x "java/lang/String" "value" "[B" (.ref t)) (Pm2 : Fld Z h0 x "java/lang/String" "coder" "B" (.int (1 : Int32))) (Pm3 : Arv Z h0 t kt .byte (Int32.ofNat (2 * cs.length)) (own_u16 cs) (.int 0)) (hn : (cs.length ≤ 4)) (h0n : (0 < cs.length)) (hr : (∀ c ∈ cs, ¬ c < 0 ∧ ¬ (65535 : Int32) < c)) (OAD : Sta Z Z.heap "java/lang/StringUTF16" "$assertionsDisabled" "Z" (.int (1 : Int32))) (OHI : Sta Z Z.heap "java/lang/StringUTF16" "HI_BYTE_SHIFT" "I" (.int (0 : Int32))) (OLO : Sta Z Z.heap "java/lang/StringUTF16" "LO_BYTE_SHIFT" "I" (.int (8 : Int32))) (O2 : Sta Z Z.heap "java/lang/String" "COMPACT_STRINGS" "Z" (.int G1)) (P5 : (¬ (G1 = (0 : Int32)))) (X00 : Old Z n0 h0) :
    MetFree l (⟨"java/lang/String", "codePointCount", "(II)I"⟩ : MethodName) (head1 (Jvm.Cond.code (⟨"java/lang/String", "codePointCount", "(II)I"⟩ : MethodName) jdk_42_method_59_code 3 (some .int) :: ws) ({ frames := 3, cells := 0, slots := 0, locals := 44 } : Room)) (fun a U => a = #[(.ref x), (.int (0 : Int32)), (.int (Int32.ofNat cs.length))] ∧ Z.Warmed39 U.vm ∧ U.heap = h0) (fun _ _ _ _ _ => True) (fun _ U o U' => ∃ v L, o = .returned v ∧ Q_rmCPC1 Z x t kt cs G1 h0 n0 v U'.heap L ∧ FrameEnd U o U' L ({ frames := 3, cells := 0, slots := 0, locals := 44 } : Room).cells ({ frames := 3, cells := 0, slots := 0, locals := 44 } : Room).slots) := by
  refine MetFree.of_bodySF (plainFor_of_name own_pn_java_lang_String) hisR ?_
  intro p e s m args below meth c s₁ Bd hml0 hP hK
  obtain ⟨rfl, hZ, hh⟩ := hP
  have hx := Bd.exec
  have hby := Bd.bytes
  have hml : c.maxLocals = 3 := hml0
  have hown : s.vm.findClass "java/lang/String" = some m.cls := findClass_of_methodNamed Bd.named
  have hnm := (name_of_methodNamed Bd.named Bd.method).1
  have X0 : Stand p l e ({ frames := 3, cells := 0, slots := 0, locals := 44 } : Room) s m #[(.ref x), (.int (0 : Int32)), (.int (Int32.ofNat cs.length))] below meth c s₁ [] 0 0 := Stand.of_body Bd
  have e0 : s₁.heap = h0 := by rw [← hh, Bd.state]; rfl
  have N0 := Fr.nil n0
  have K0 : Keep h0 h0 [] := Keep.refl _ _
  refine own_go (S' := s₁.setTop (mkF m 0 #[.val (.ref x), .val (.int (0 : Int32)), .val (.int (Int32.ofNat cs.length))] [])) (fun tq kq => castTop (own_ef_rmCPC1 m x t kt cs G1) kq) ?_
  have lt1 : @LT.lt Nat _ x h0.size := Pm0.lt
  have lt2 : @LT.lt Nat _ t h0.size := Pm3.lt
  refine own_go (fun tq kq => XS.iloadN X0.here hx rfl (hb hby own_d16_0) rfl kq) ?_
  show own_Rn p e below _ (s₁.setTop (mkF m 1 #[.val (.ref x), .val (.int (0 : Int32)), .val (.int (Int32.ofNat cs.length))] [(.int (0 : Int32))]))
  refine own_go (fun tq kq => XS.iloadN X0.here hx rfl (hb hby own_d16_1) rfl kq) ?_
  show own_Rn p e below _ (s₁.setTop (mkF m 2 #[.val (.ref x), .val (.int (0 : Int32)), .val (.int (Int32.ofNat cs.length))] [(.int (Int32.ofNat cs.length)), (.int (0 : Int32))]))
  refine own_go (fun tq kq => XS.aloadN X0.here hx rfl (hb hby own_d16_2) rfl rfl kq) ?_
  show own_Rn p e below _ (s₁.setTop (mkF m 3 #[.val (.ref x), .val (.int (0 : Int32)), .val (.int (Int32.ofNat cs.length))] [(.ref x), (.int (Int32.ofNat cs.length)), (.int (0 : Int32))]))
  have Zn3 : n0 ≤ h0.size := by omega
  obtain ⟨cq3, kq3, qa3, qb3, qc3⟩ := isOf hZ e0 Pm0
  obtain ⟨rv3, _, ⟨T3, L3, k3, n3⟩, -, X3, ⟨Lc3, hQ3, l3, y3, z3⟩, st3⟩ := X0.virtualBack hx (y := (⟨"java/lang/String", "length", "()I"⟩ : MethodName)) (z := (⟨"java/lang/String", "length", "()I"⟩ : MethodName)) hown (mvT hZ (hw _ (own_mi 77 rfl))) (mvT hZ (hw _ (own_mi 63 rfl))) (notFace_of_selects (args := #[]) (mvT hZ (hw _ (own_mi 65 rfl)))) (mvT hZ (hw _ (own_mi 65 rfl))) (mvT hZ (hw _ (own_mi 64 rfl))) (by decide) (backOf (W := 2) (rmLe1 l Z a0 hw [] (x) (t) (kt) (cs) (G1) h0 n0 Zn3 Pm0 Pm1 Pm2 Pm3 (hn) (O2) (P5) X00) hZ (hw _ (own_mi 66 rfl)) (hw _ (own_mi 4 rfl)) (by decide) (by decide)) qa3 qc3 (g := (mkF m 3 #[.val (.ref x), .val (.int (0 : Int32)), .val (.int (Int32.ofNat cs.length))] [(.ref x), (.int (Int32.ofNat cs.length)), (.int (0 : Int32))])) rfl (by rw [hml]; rfl) (Steps.refl _) (argsL := []) (rest := [(.int (Int32.ofNat cs.length)), (.int (0 : Int32))]) (lenOf own_pd_2829I rfl) rfl (by show 2 * 0 + _ ≤ _; exact Nat.le_of_eq rfl) (hb hby own_d16_3) (fun _ _ => ⟨rfl, e0, (by decide : 0 + 0 ≤ _), (by decide : 0 + 0 ≤ _)⟩)
  dsimp only [Pt.U, Pt.locs, Pt.cells, Pt.slots] at X3 l3 y3 z3 st3 hQ3
  subst l3 y3 z3
  obtain ⟨rfl, Nq3, eh3⟩ := hQ3
  have N3 := Fr.app N0 Nq3
  refine own_go (fun tq kq => st3.trans kq) ?_
  show own_Rn p e below _ (T3.setTop (mkF m 6 #[.val (.ref x), .val (.int (0 : Int32)), .val (.int (Int32.ofNat cs.length))] [(.int (Int32.ofNat cs.length)), (.int (Int32.ofNat cs.length)), (.int (0 : Int32))]))
  have Zn4 : n0 ≤ h0.size := by omega
  obtain ⟨rv4, _, ⟨T4, L4, k4, n4⟩, -, X4, ⟨Lc4, hQ4, l4, y4, z4⟩, st4⟩ := Jvm.LawKit.callS X3 hx (y := (⟨"java/util/Objects", "checkFromToIndex", "(III)I"⟩ : MethodName)) hown (mvT hZ (hw _ (own_mi 78 rfl))) (mvT hZ (hw _ (own_mi 79 rfl))) (mvT hZ (hw _ (own_mi 80 rfl))) (mvT hZ (hw _ (own_mi 81 rfl))) (by decide) (backOf (W := 0) (rmOC l Z a0 hw [] (cs.length) h0 n0 Zn4 (hn)) hZ (hw _ (own_mi 81 rfl)) (hw _ (own_mi 80 rfl)) (by decide) (by decide)) (g := (mkF m 6 #[.val (.ref x), .val (.int (0 : Int32)), .val (.int (Int32.ofNat cs.length))] [(.int (Int32.ofNat cs.length)), (.int (Int32.ofNat cs.length)), (.int (0 : Int32))])) rfl (by rw [hml]; rfl) (argsL := [(.int (0 : Int32)), (.int (Int32.ofNat cs.length)), (.int (Int32.ofNat cs.length))]) (rest := []) (lenOf own_pd_28III29I rfl) rfl (by show 2 * 0 + _ ≤ _; exact Nat.le_of_eq rfl) (hb hby own_d16_6) (fun _ _ => ⟨rfl, eh3, (by decide : 0 + 0 ≤ _), (by decide : 0 + 0 ≤ _)⟩)
  dsimp only [Pt.U, Pt.locs, Pt.cells, Pt.slots] at X4 l4 y4 z4 st4 hQ4
  subst l4 y4 z4
  obtain ⟨rfl, Nq4, eh4⟩ := hQ4
  have N4 := Fr.app N3 Nq4
  refine own_go st4 ?_
  show own_Rn p e below _ (T4.setTop (mkF m 9 #[.val (.ref x), .val (.int (0 : Int32)), .val (.int (Int32.ofNat cs.length))] [(.int (0 : Int32))]))
  refine own_go (fun tq kq => XS.pop X4.here hx rfl (hb hby own_d16_9) rfl rfl kq) ?_
  show own_Rn p e below _ (T4.setTop (mkF m 10 #[.val (.ref x), .val (.int (0 : Int32)), .val (.int (Int32.ofNat cs.length))] []))
  refine own_go (fun tq kq => XS.aloadN X4.here hx rfl (hb hby own_d16_10) rfl rfl kq) ?_
  show own_Rn p e below _ (T4.setTop (mkF m 11 #[.val (.ref x), .val (.int (0 : Int32)), .val (.int (Int32.ofNat cs.length))] [(.ref x)]))
  have Zn5 : n0 ≤ h0.size := by omega
  obtain ⟨cq5, kq5, qa5, qb5, qc5⟩ := isOf hZ eh4 Pm0
  obtain ⟨rv5, _, ⟨T5, L5, k5, n5⟩, -, X5, ⟨Lc5, hQ5, l5, y5, z5⟩, st5⟩ := X4.virtualBack hx (y := (⟨"java/lang/String", "isLatin1", "()Z"⟩ : MethodName)) (z := (⟨"java/lang/String", "isLatin1", "()Z"⟩ : MethodName)) hown (mvT hZ (hw _ (own_mi 86 rfl))) (mvT hZ (hw _ (own_mi 87 rfl))) (notFace_of_selects (args := #[]) (mvT hZ (hw _ (own_mi 89 rfl)))) (mvT hZ (hw _ (own_mi 89 rfl))) (mvT hZ (hw _ (own_mi 88 rfl))) (by decide) (backOf (W := 0) (rmIl1 l Z a0 hw [] (x) (G1) h0 n0 Zn5 Pm2 (O2) (P5) X00) hZ (hw _ (own_mi 90 rfl)) (hw _ (own_mi 4 rfl)) (by decide) (by decide)) qa5 qc5 (g := (mkF m 11 #[.val (.ref x), .val (.int (0 : Int32)), .val (.int (Int32.ofNat cs.length))] [(.ref x)])) rfl (by rw [hml]; rfl) (Steps.refl _) (argsL := []) (rest := []) (lenOf own_pd_2829Z rfl) rfl (by show 2 * 0 + _ ≤ _; exact Nat.le_of_eq rfl) (hb hby own_d16_11) (fun _ _ => ⟨rfl, eh4, (by decide : 0 + 0 ≤ _), (by decide : 0 + 0 ≤ _)⟩)
  dsimp only [Pt.U, Pt.locs, Pt.cells, Pt.slots] at X5 l5 y5 z5 st5 hQ5
  subst l5 y5 z5
  obtain ⟨rfl, Nq5, eh5⟩ := hQ5
  have N5 := Fr.app N4 Nq5
  refine own_go (fun tq kq => st5.trans kq) ?_
  show own_Rn p e below _ (T5.setTop (mkF m 14 #[.val (.ref x), .val (.int (0 : Int32)), .val (.int (Int32.ofNat cs.length))] [(.int (0 : Int32))]))
  refine own_go (fun tq kq => XS.ifYes X5.here hx rfl (pc0 := 14) (pc' := 21) rfl (hb hby own_d16_14) rfl ((if0 _ _).trans (teq ((by decide : (0 : Int32) = (0 : Int32)) : (0 : Int32) = (0 : Int32))).1) (by decide) (by decide) kq) ?_
  show own_Rn p e below _ (T5.setTop (mkF m 21 #[.val (.ref x), .val (.int (0 : Int32)), .val (.int (Int32.ofNat cs.length))] []))
  refine own_go (fun tq kq => XS.aloadN X5.here hx rfl (hb hby own_d16_21) rfl rfl kq) ?_
  show own_Rn p e below _ (T5.setTop (mkF m 22 #[.val (.ref x), .val (.int (0 : Int32)), .val (.int (Int32.ofNat cs.length))] [(.ref x)]))
  obtain ⟨T6, X6, e6, st6⟩ := getF X5 hx hZ hown (host := "") (Or.inl (hw _ (own_mi 30 rfl))) Via.refl eh5 Pm1 (g := (mkF m 22 #[.val (.ref x), .val (.int (0 : Int32)), .val (.int (Int32.ofNat cs.length))] [(.ref x)])) rfl rfl (hb hby own_d16_22)
  refine own_go st6 ?_
  show own_Rn p e below _ (T6.setTop (mkF m 25 #[.val (.ref x), .val (.int (0 : Int32)), .val (.int (Int32.ofNat cs.length))] [(.ref t)]))
  refine own_go (fun tq kq => XS.iloadN X6.here hx rfl (hb hby own_d16_25) rfl kq) ?_
  show own_Rn p e below _ (T6.setTop (mkF m 26 #[.val (.ref x), .val (.int (0 : Int32)), .val (.int (Int32.ofNat cs.length))] [(.int (0 : Int32)), (.ref t)]))
  refine own_go (fun tq kq => XS.iloadN X6.here hx rfl (hb hby own_d16_26) rfl kq) ?_
  show own_Rn p e below _ (T6.setTop (mkF m 27 #[.val (.ref x), .val (.int (0 : Int32)), .val (.int (Int32.ofNat cs.length))] [(.int (Int32.ofNat cs.length)), (.int (0 : Int32)), (.ref t)]))
  have Zn7 : n0 ≤ h0.size := by omega
  obtain ⟨rv7, _, ⟨T7, L7, k7, n7⟩, -, X7, ⟨Lc7, hQ7, l7, y7, z7⟩, st7⟩ := Jvm.LawKit.callS X6 hx (y := (⟨"java/lang/StringUTF16", "codePointCount", "([BII)I"⟩ : MethodName)) hown (mvT hZ (hw _ (own_mi 119 rfl))) (mvT hZ (hw _ (own_mi 120 rfl))) (mvT hZ (hw _ (own_mi 19 rfl))) (mvT hZ (hw _ (own_mi 121 rfl))) (by decide) (backOf (W := 0) (rmCP3 l Z a0 hw [] (t) (kt) (cs) h0 n0 Zn7 Pm3 (hn) (h0n) (hr) (OAD) (OHI) (OLO) X00) hZ (hw _ (own_mi 121 rfl)) (hw _ (own_mi 19 rfl)) (by decide) (by decide)) (g := (mkF m 27 #[.val (.ref x), .val (.int (0 : Int32)), .val (.int (Int32.ofNat cs.length))] [(.int (Int32.ofNat cs.length)), (.int (0 : Int32)), (.ref t)])) rfl (by rw [hml]; rfl) (argsL := [(.ref t), (.int (0 : Int32)), (.int (Int32.ofNat cs.length))]) (rest := []) (lenOf own_pd_285bBII29I rfl) rfl (by show 2 * 0 + _ ≤ _; exact Nat.le_of_eq rfl) (hb hby own_d16_27) (fun _ _ => ⟨rfl, e6, (by decide : 0 + 0 ≤ _), (by decide : 0 + 0 ≤ _)⟩)
  dsimp only [Pt.U, Pt.locs, Pt.cells, Pt.slots] at X7 l7 y7 z7 st7 hQ7
  subst l7 y7 z7
  obtain ⟨rfl, Nq7, eh7⟩ := hQ7
  have N7 := Fr.app N5 Nq7
  refine own_go st7 ?_
  show own_Rn p e below _ (T7.setTop (mkF m 30 #[.val (.ref x), .val (.int (0 : Int32)), .val (.int (Int32.ofNat cs.length))] [(.int (Int32.ofNat (own_cp cs)))]))
  exact own_ret X7 (v := some (.int (Int32.ofNat (own_cp cs)))) (fun h => by rw [Bd.returns] at h; cases h) (fun fs hr => retI X7 hx Bd.returns (hb hby own_d16_30) hr) (by rw [eh7]; exact ⟨rfl, N7, rfl⟩) (by decide) (by decide)
theorem own_ef_rmAM (m : MethodId) (wa : Addr) (mx : Int32) (x : Addr) (t : Addr) (kt : ClassId) (N : Int32) (vs : List Value) (cd : Int32) (cs : List Int32) (G1 : Int32) : entryFrame m #[(.ref wa), (.int mx), (.ref x)] 3 = mkF m 0 #[.val (.ref wa), .val (.int mx), .val (.ref x)] [] := by first | (simp [entryFrame, mkF, argsToLocals, Value.category]; done) | rfl
theorem own_pn_com_example_cellwise_cellwise_Checks : plainName "com/example/cellwise/cellwise/Checks" = true := by first | (simp [plainName, overriddenIn]; done) | decide +kernel
theorem own_d13_0 : decode prog_3_method_7_code 0 = .ok (.aload_n 2, 1) := by decide +kernel
theorem own_d13_1 : decode prog_3_method_7_code 1 = .ok (.iconst 0, 1) := by decide +kernel
theorem own_d13_2 : decode prog_3_method_7_code 2 = .ok (.aload_n 2, 1) := by decide +kernel
theorem own_d13_3 : decode prog_3_method_7_code 3 = .ok (.invokevirtual 105, 3) := by decide +kernel
theorem own_d13_6 : decode prog_3_method_7_code 6 = .ok (.invokevirtual 109, 3) := by decide +kernel
theorem own_pd_28II29I : parseMethodDescriptor "(II)I" = some ⟨[.int, .int], some .int⟩ := by decide +kernel
theorem own_d13_9 : decode prog_3_method_7_code 9 = .ok (.iload_n 1, 1) := by decide +kernel
theorem own_d13_10 : decode prog_3_method_7_code 10 = .ok (.if_icmp .le 31, 3) := by decide +kernel
theorem own_d13_41 : decode prog_3_method_7_code 41 = .ok (.aload_n 2, 1) := by decide +kernel
theorem own_d13_42 : decode prog_3_method_7_code 42 = .ok (.areturn, 1) := by decide +kernel
def Q_rmAM (Z : State) (wa : Addr) (mx : Int32) (x : Addr) (t : Addr) (kt : ClassId) (N : Int32) (vs : List Value) (cd : Int32) (cs : List Int32) (G1 : Int32) (h0 : Heap) (n0 : Nat) (v : Option Value) (h : Heap) (L : List Loc) : Prop := v = some (.ref x) ∧ Fr n0 L ∧ h = h0
set_option maxRecDepth 65536 in
set_option maxHeartbeats 40000000 in
theorem rmAM (l : Launch) (Z : State) (a0 : Array Value) (hw : ∀ d ∈ tables_1, d.before a0 Z = true) (ws : List Jvm.Cond) (wa : Addr) (mx : Int32) (x : Addr) (t : Addr) (kt : ClassId) (N : Int32) (vs : List Value) (cd : Int32) (cs : List Int32) (G1 : Int32) (h0 : Heap) (n0 : Nat) (Z0 : n0 ≤ h0.size) (Pm0 : Exa Z h0 x "java/lang/String") (Pm1 : Fld Z h0 x "java/lang/String" "value" "[B" (.ref t)) (Pm2 : Fld Z h0 x "java/lang/String" "coder" "B" (.int cd)) (Pm3 : Arv Z h0 t kt .byte N vs (.int 0)) (RL : ((cd = 0 ∧ N = (Int32.ofNat cs.length) ∧ vs = own_bs cs ∧ ∀ c ∈ cs, ¬ (255 : Int32) < c) ∨ (cd = 1 ∧ N = (Int32.ofNat (2 * cs.length)) ∧ vs = own_u16 cs ∧ 0 < cs.length))) (hn : (cs.length ≤ 4)) (hr : (∀ c ∈ cs, ¬ c < 0 ∧ ¬ (65535 : Int32) < c)) (hmx : (¬ mx < Int32.ofNat (own_cp cs))) (OAD : Sta Z Z.heap "java/lang/StringUTF16" "$assertionsDisabled" "Z" (.int (1 : Int32))) (OHI : Sta Z Z.heap "java/lang/StringUTF16" "HI_BYTE_SHIFT" "I" (.int (0 : Int32))) (OLO : Sta Z Z.heap "java/lang/StringUTF16" "LO_BYTE_SHIFT" "I" (.int (8 : Int32))) (O2 : Sta Z Z.heap "java/lang/String" "COMPACT_STRINGS" "Z" (.int G1)) (P5 : (¬ (G1 = (0 : Int32)))) (X00 : Old Z n0 h0) :
    MetFree l (⟨"com/example/cellwise/cellwise/Checks", "atMost", "(Ljava/lang/String;ILjava/lang/String;)Ljava/lang/String;"⟩ : MethodName) (head1 (Jvm.Cond.code (⟨"com/example/cellwise/cellwise/Checks", "atMost", "(Ljava/lang/String;ILjava/lang/String;)Ljava/lang/String;"⟩ : MethodName) prog_3_method_7_code 3 (some (.object "java/lang/String")) :: ws) ({ frames := 4, cells := 0, slots := 0, locals := 58 } : Room)) (fun a U => a = #[(.ref wa), (.int mx), (.ref x)] ∧ Z.Warmed39 U.vm ∧ U.heap = h0) (fun _ _ _ _ _ => True) (fun _ U o U' => ∃ v L, o = .returned v ∧ Q_rmAM Z wa mx x t kt N vs cd cs G1 h0 n0 v U'.heap L ∧ FrameEnd U o U' L ({ frames := 4, cells := 0, slots := 0, locals := 58 } : Room).cells ({ frames := 4, cells := 0, slots := 0, locals := 58 } : Room).slots) := by
  refine MetFree.of_bodySF (plainFor_of_name own_pn_com_example_cellwise_cellwise_Checks) hisR ?_
  intro p e s m args below meth c s₁ Bd hml0 hP hK
  obtain ⟨rfl, hZ, hh⟩ := hP
  have hx := Bd.exec
  have hby := Bd.bytes
  have hml : c.maxLocals = 3 := hml0
  have hown : s.vm.findClass "com/example/cellwise/cellwise/Checks" = some m.cls := findClass_of_methodNamed Bd.named
  have hnm := (name_of_methodNamed Bd.named Bd.method).1
  have X0 : Stand p l e ({ frames := 4, cells := 0, slots := 0, locals := 58 } : Room) s m #[(.ref wa), (.int mx), (.ref x)] below meth c s₁ [] 0 0 := Stand.of_body Bd
  have e0 : s₁.heap = h0 := by rw [← hh, Bd.state]; rfl
  have N0 := Fr.nil n0
  have K0 : Keep h0 h0 [] := Keep.refl _ _
  refine own_go (S' := s₁.setTop (mkF m 0 #[.val (.ref wa), .val (.int mx), .val (.ref x)] [])) (fun tq kq => castTop (own_ef_rmAM m wa mx x t kt N vs cd cs G1) kq) ?_
  have lt1 : @LT.lt Nat _ x h0.size := Pm0.lt
  have lt2 : @LT.lt Nat _ t h0.size := Pm3.lt
  rcases RL with ⟨rfl, rfl, rfl, hal⟩ | ⟨rfl, rfl, rfl, h0n⟩
  · skip
    show own_Rn p e below _ (s₁.setTop (mkF m 0 #[.val (.ref wa), .val (.int mx), .val (.ref x)] []))
    refine own_go (fun tq kq => XS.aloadN X0.here hx rfl (hb hby own_d13_0) rfl rfl kq) ?_
    show own_Rn p e below _ (s₁.setTop (mkF m 1 #[.val (.ref wa), .val (.int mx), .val (.ref x)] [(.ref x)]))
    refine own_go (fun tq kq => XS.iconst X0.here hx rfl (hb hby own_d13_1) kq) ?_
    show own_Rn p e below _ (s₁.setTop (mkF m 2 #[.val (.ref wa), .val (.int mx), .val (.ref x)] [(.int (0 : Int32)), (.ref x)]))
    refine own_go (fun tq kq => XS.aloadN X0.here hx rfl (hb hby own_d13_2) rfl rfl kq) ?_
    show own_Rn p e below _ (s₁.setTop (mkF m 3 #[.val (.ref wa), .val (.int mx), .val (.ref x)] [(.ref x), (.int (0 : Int32)), (.ref x)]))
    have Zn3 : n0 ≤ h0.size := by omega
    obtain ⟨cq3, kq3, qa3, qb3, qc3⟩ := isOf hZ e0 Pm0
    obtain ⟨rv3, _, ⟨T3, L3, k3, n3⟩, -, X3, ⟨Lc3, hQ3, l3, y3, z3⟩, st3⟩ := X0.virtualBack hx (y := (⟨"java/lang/String", "length", "()I"⟩ : MethodName)) (z := (⟨"java/lang/String", "length", "()I"⟩ : MethodName)) hown (mvT hZ (hw _ (own_mi 62 rfl))) (mvT hZ (hw _ (own_mi 63 rfl))) (notFace_of_selects (args := #[]) (mvT hZ (hw _ (own_mi 65 rfl)))) (mvT hZ (hw _ (own_mi 65 rfl))) (mvT hZ (hw _ (own_mi 64 rfl))) (by decide) (backOf (W := 2) (rmLe0 l Z a0 hw [] (x) (t) (kt) (cs) (G1) h0 n0 Zn3 Pm0 Pm1 Pm2 Pm3 (hn) (O2) (P5) X00) hZ (hw _ (own_mi 66 rfl)) (hw _ (own_mi 4 rfl)) (by decide) (by decide)) qa3 qc3 (g := (mkF m 3 #[.val (.ref wa), .val (.int mx), .val (.ref x)] [(.ref x), (.int (0 : Int32)), (.ref x)])) rfl (by rw [hml]; rfl) (Steps.refl _) (argsL := []) (rest := [(.int (0 : Int32)), (.ref x)]) (lenOf own_pd_2829I rfl) rfl (by show 2 * 0 + _ ≤ _; exact Nat.le_of_eq rfl) (hb hby own_d13_3) (fun _ _ => ⟨rfl, e0, (by decide : 0 + 0 ≤ _), (by decide : 0 + 0 ≤ _)⟩)
    dsimp only [Pt.U, Pt.locs, Pt.cells, Pt.slots] at X3 l3 y3 z3 st3 hQ3
    subst l3 y3 z3
    obtain ⟨rfl, Nq3, eh3⟩ := hQ3
    have N3 := Fr.app N0 Nq3
    refine own_go (fun tq kq => st3.trans kq) ?_
    show own_Rn p e below _ (T3.setTop (mkF m 6 #[.val (.ref wa), .val (.int mx), .val (.ref x)] [(.int (Int32.ofNat cs.length)), (.int (0 : Int32)), (.ref x)]))
    have Zn4 : n0 ≤ h0.size := by omega
    obtain ⟨cq4, kq4, qa4, qb4, qc4⟩ := isOf hZ eh3 Pm0
    obtain ⟨rv4, _, ⟨T4, L4, k4, n4⟩, -, X4, ⟨Lc4, hQ4, l4, y4, z4⟩, st4⟩ := X3.virtualBack hx (y := (⟨"java/lang/String", "codePointCount", "(II)I"⟩ : MethodName)) (z := (⟨"java/lang/String", "codePointCount", "(II)I"⟩ : MethodName)) hown (mvT hZ (hw _ (own_mi 72 rfl))) (mvT hZ (hw _ (own_mi 73 rfl))) (notFace_of_selects (args := #[]) (mvT hZ (hw _ (own_mi 75 rfl)))) (mvT hZ (hw _ (own_mi 75 rfl))) (mvT hZ (hw _ (own_mi 74 rfl))) (by decide) (backOf (W := 0) (rmCPC0 l Z a0 hw [] (x) (t) (kt) (cs) (G1) h0 n0 Zn4 Pm0 Pm1 Pm2 Pm3 (hn) (hal) (O2) (P5) X00) hZ (hw _ (own_mi 76 rfl)) (hw _ (own_mi 4 rfl)) (by decide) (by decide)) qa4 qc4 (g := (mkF m 6 #[.val (.ref wa), .val (.int mx), .val (.ref x)] [(.int (Int32.ofNat cs.length)), (.int (0 : Int32)), (.ref x)])) rfl (by rw [hml]; rfl) (Steps.refl _) (argsL := [(.int (0 : Int32)), (.int (Int32.ofNat cs.length))]) (rest := []) (lenOf own_pd_28II29I rfl) rfl (by show 2 * 0 + _ ≤ _; exact Nat.le_of_eq rfl) (hb hby own_d13_6) (fun _ _ => ⟨rfl, eh3, (by decide : 0 + 0 ≤ _), (by decide : 0 + 0 ≤ _)⟩)
    dsimp only [Pt.U, Pt.locs, Pt.cells, Pt.slots] at X4 l4 y4 z4 st4 hQ4
    subst l4 y4 z4
    obtain ⟨rfl, Nq4, eh4⟩ := hQ4
    have N4 := Fr.app N3 Nq4
    refine own_go (fun tq kq => st4.trans kq) ?_
    show own_Rn p e below _ (T4.setTop (mkF m 9 #[.val (.ref wa), .val (.int mx), .val (.ref x)] [(.int (Int32.ofNat (own_cp cs)))]))
    refine own_go (fun tq kq => XS.iloadN X4.here hx rfl (hb hby own_d13_9) rfl kq) ?_
    show own_Rn p e below _ (T4.setTop (mkF m 10 #[.val (.ref wa), .val (.int mx), .val (.ref x)] [(.int mx), (.int (Int32.ofNat (own_cp cs)))]))
    refine own_go (fun tq kq => XS.icmpYes X4.here hx rfl (pc0 := 10) (pc' := 41) rfl (hb hby own_d13_10) rfl (flt (hmx : ¬ (mx < (Int32.ofNat (own_cp cs))))).2.2.2 (by decide) (by decide) kq) ?_
    show own_Rn p e below _ (T4.setTop (mkF m 41 #[.val (.ref wa), .val (.int mx), .val (.ref x)] []))
    refine own_go (fun tq kq => XS.aloadN X4.here hx rfl (hb hby own_d13_41) rfl rfl kq) ?_
    show own_Rn p e below _ (T4.setTop (mkF m 42 #[.val (.ref wa), .val (.int mx), .val (.ref x)] [(.ref x)]))
    exact own_ret X4 (v := some (.ref x)) (fun h => by rw [Bd.returns] at h; cases h) (fun fs hr => X4.areturnOut hx rfl Bd.returns rfl (hb hby own_d13_42) hr) (by rw [eh4]; exact ⟨rfl, N4, rfl⟩) (by decide) (by decide)
  · skip
    show own_Rn p e below _ (s₁.setTop (mkF m 0 #[.val (.ref wa), .val (.int mx), .val (.ref x)] []))
    refine own_go (fun tq kq => XS.aloadN X0.here hx rfl (hb hby own_d13_0) rfl rfl kq) ?_
    show own_Rn p e below _ (s₁.setTop (mkF m 1 #[.val (.ref wa), .val (.int mx), .val (.ref x)] [(.ref x)]))
    refine own_go (fun tq kq => XS.iconst X0.here hx rfl (hb hby own_d13_1) kq) ?_
    show own_Rn p e below _ (s₁.setTop (mkF m 2 #[.val (.ref wa), .val (.int mx), .val (.ref x)] [(.int (0 : Int32)), (.ref x)]))
    refine own_go (fun tq kq => XS.aloadN X0.here hx rfl (hb hby own_d13_2) rfl rfl kq) ?_
    show own_Rn p e below _ (s₁.setTop (mkF m 3 #[.val (.ref wa), .val (.int mx), .val (.ref x)] [(.ref x), (.int (0 : Int32)), (.ref x)]))
    have Zn5 : n0 ≤ h0.size := by omega
    obtain ⟨cq5, kq5, qa5, qb5, qc5⟩ := isOf hZ e0 Pm0
    obtain ⟨rv5, _, ⟨T5, L5, k5, n5⟩, -, X5, ⟨Lc5, hQ5, l5, y5, z5⟩, st5⟩ := X0.virtualBack hx (y := (⟨"java/lang/String", "length", "()I"⟩ : MethodName)) (z := (⟨"java/lang/String", "length", "()I"⟩ : MethodName)) hown (mvT hZ (hw _ (own_mi 62 rfl))) (mvT hZ (hw _ (own_mi 63 rfl))) (notFace_of_selects (args := #[]) (mvT hZ (hw _ (own_mi 65 rfl)))) (mvT hZ (hw _ (own_mi 65 rfl))) (mvT hZ (hw _ (own_mi 64 rfl))) (by decide) (backOf (W := 2) (rmLe1 l Z a0 hw [] (x) (t) (kt) (cs) (G1) h0 n0 Zn5 Pm0 Pm1 Pm2 Pm3 (hn) (O2) (P5) X00) hZ (hw _ (own_mi 66 rfl)) (hw _ (own_mi 4 rfl)) (by decide) (by decide)) qa5 qc5 (g := (mkF m 3 #[.val (.ref wa), .val (.int mx), .val (.ref x)] [(.ref x), (.int (0 : Int32)), (.ref x)])) rfl (by rw [hml]; rfl) (Steps.refl _) (argsL := []) (rest := [(.int (0 : Int32)), (.ref x)]) (lenOf own_pd_2829I rfl) rfl (by show 2 * 0 + _ ≤ _; exact Nat.le_of_eq rfl) (hb hby own_d13_3) (fun _ _ => ⟨rfl, e0, (by decide : 0 + 0 ≤ _), (by decide : 0 + 0 ≤ _)⟩)
    dsimp only [Pt.U, Pt.locs, Pt.cells, Pt.slots] at X5 l5 y5 z5 st5 hQ5
    subst l5 y5 z5
    obtain ⟨rfl, Nq5, eh5⟩ := hQ5
    have N5 := Fr.app N0 Nq5
    refine own_go (fun tq kq => st5.trans kq) ?_
    show own_Rn p e below _ (T5.setTop (mkF m 6 #[.val (.ref wa), .val (.int mx), .val (.ref x)] [(.int (Int32.ofNat cs.length)), (.int (0 : Int32)), (.ref x)]))
    have Zn6 : n0 ≤ h0.size := by omega
    obtain ⟨cq6, kq6, qa6, qb6, qc6⟩ := isOf hZ eh5 Pm0
    obtain ⟨rv6, _, ⟨T6, L6, k6, n6⟩, -, X6, ⟨Lc6, hQ6, l6, y6, z6⟩, st6⟩ := X5.virtualBack hx (y := (⟨"java/lang/String", "codePointCount", "(II)I"⟩ : MethodName)) (z := (⟨"java/lang/String", "codePointCount", "(II)I"⟩ : MethodName)) hown (mvT hZ (hw _ (own_mi 72 rfl))) (mvT hZ (hw _ (own_mi 73 rfl))) (notFace_of_selects (args := #[]) (mvT hZ (hw _ (own_mi 75 rfl)))) (mvT hZ (hw _ (own_mi 75 rfl))) (mvT hZ (hw _ (own_mi 74 rfl))) (by decide) (backOf (W := 0) (rmCPC1 l Z a0 hw [] (x) (t) (kt) (cs) (G1) h0 n0 Zn6 Pm0 Pm1 Pm2 Pm3 (hn) (h0n) (hr) (OAD) (OHI) (OLO) (O2) (P5) X00) hZ (hw _ (own_mi 76 rfl)) (hw _ (own_mi 4 rfl)) (by decide) (by decide)) qa6 qc6 (g := (mkF m 6 #[.val (.ref wa), .val (.int mx), .val (.ref x)] [(.int (Int32.ofNat cs.length)), (.int (0 : Int32)), (.ref x)])) rfl (by rw [hml]; rfl) (Steps.refl _) (argsL := [(.int (0 : Int32)), (.int (Int32.ofNat cs.length))]) (rest := []) (lenOf own_pd_28II29I rfl) rfl (by show 2 * 0 + _ ≤ _; exact Nat.le_of_eq rfl) (hb hby own_d13_6) (fun _ _ => ⟨rfl, eh5, (by decide : 0 + 0 ≤ _), (by decide : 0 + 0 ≤ _)⟩)
    dsimp only [Pt.U, Pt.locs, Pt.cells, Pt.slots] at X6 l6 y6 z6 st6 hQ6
    subst l6 y6 z6
    obtain ⟨rfl, Nq6, eh6⟩ := hQ6
    have N6 := Fr.app N5 Nq6
    refine own_go (fun tq kq => st6.trans kq) ?_
    show own_Rn p e below _ (T6.setTop (mkF m 9 #[.val (.ref wa), .val (.int mx), .val (.ref x)] [(.int (Int32.ofNat (own_cp cs)))]))
    refine own_go (fun tq kq => XS.iloadN X6.here hx rfl (hb hby own_d13_9) rfl kq) ?_
    show own_Rn p e below _ (T6.setTop (mkF m 10 #[.val (.ref wa), .val (.int mx), .val (.ref x)] [(.int mx), (.int (Int32.ofNat (own_cp cs)))]))
    refine own_go (fun tq kq => XS.icmpYes X6.here hx rfl (pc0 := 10) (pc' := 41) rfl (hb hby own_d13_10) rfl (flt (hmx : ¬ (mx < (Int32.ofNat (own_cp cs))))).2.2.2 (by decide) (by decide) kq) ?_
    show own_Rn p e below _ (T6.setTop (mkF m 41 #[.val (.ref wa), .val (.int mx), .val (.ref x)] []))
    refine own_go (fun tq kq => XS.aloadN X6.here hx rfl (hb hby own_d13_41) rfl rfl kq) ?_
    show own_Rn p e below _ (T6.setTop (mkF m 42 #[.val (.ref wa), .val (.int mx), .val (.ref x)] [(.ref x)]))
    exact own_ret X6 (v := some (.ref x)) (fun h => by rw [Bd.returns] at h; cases h) (fun fs hr => X6.areturnOut hx rfl Bd.returns rfl (hb hby own_d13_42) hr) (by rw [eh6]; exact ⟨rfl, N6, rfl⟩) (by decide) (by decide)
theorem own_ef_rm0 (m : MethodId) (l0 : Int64) (i1 : Int32) (i2 : Int32) (i3 : Int32) (G1 : Int32) : entryFrame m #[(.long l0), (.int i1), (.int i2), (.int i3)] maxLocals = mkF m 0 #[.val (.long l0), .second, .val (.int i1), .val (.int i2), .val (.int i3), .unset, .unset, .unset, .unset, .unset, .unset, .unset, .unset, .unset, .unset] [] := by first | (simp [entryFrame, mkF, argsToLocals, Value.category, maxLocals]; done) | rfl
theorem own_pd_285bC29V : parseMethodDescriptor "([C)V" = some ⟨[(.array .char)], none⟩ := by decide +kernel
theorem own_pd_28C29Ljava2flang2fString3b : parseMethodDescriptor "(C)Ljava/lang/String;" = some ⟨[.char], some (.object "java/lang/String")⟩ := by decide +kernel
theorem own_pd_28Ljava2flang2fString3bILjava2flang2fString3b29Ljava2flang2fString3b : parseMethodDescriptor "(Ljava/lang/String;ILjava/lang/String;)Ljava/lang/String;" = some ⟨[(.object "java/lang/String"), .int, (.object "java/lang/String")], some (.object "java/lang/String")⟩ := by decide +kernel
theorem own_pd_28Ljava2flang2fObject3b29Z : parseMethodDescriptor "(Ljava/lang/Object;)Z" = some ⟨[(.object "java/lang/Object")], some .boolean⟩ := by decide +kernel
theorem own_pd_28CC29Z : parseMethodDescriptor "(CC)Z" = some ⟨[.char, .char], some .boolean⟩ := by decide +kernel
def Q_rm0 (Z : State) (l0 : Int64) (i1 : Int32) (i2 : Int32) (i3 : Int32) (G1 : Int32) (h0 : Heap) (n0 : Nat) (v : Option Value) (h : Heap) (L : List Loc) : Prop := v = some (.int (1 : Int32)) ∧ Fr n0 L
set_option maxRecDepth 65536 in
set_option maxHeartbeats 40000000 in
theorem rm0 (l : Launch) (Z : State) (a0 : Array Value) (hw : ∀ d ∈ tables_1, d.before a0 Z = true) (ws : List Jvm.Cond) (l0 : Int64) (i1 : Int32) (i2 : Int32) (i3 : Int32) (G1 : Int32) (h0 : Heap) (n0 : Nat) (Z0 : n0 ≤ h0.size) (hEL : EW Z a0 consts_1) (OAD : Sta Z Z.heap "java/lang/StringUTF16" "$assertionsDisabled" "Z" (.int (1 : Int32))) (OHI : Sta Z Z.heap "java/lang/StringUTF16" "HI_BYTE_SHIFT" "I" (.int (0 : Int32))) (OLO : Sta Z Z.heap "java/lang/StringUTF16" "LO_BYTE_SHIFT" "I" (.int (8 : Int32))) (O2 : Sta Z Z.heap "java/lang/String" "COMPACT_STRINGS" "Z" (.int G1)) (P5 : (¬ (G1 = (0 : Int32)))) (X00 : Old Z n0 h0) :
    MetFree l x (head1 (Jvm.Cond.code x code maxLocals ret :: ws) room_1) (fun a U => a = #[(.long l0), (.int i1), (.int i2), (.int i3)] ∧ Z.Warmed39 U.vm ∧ U.heap = h0 ∧ CHv Z consts_1 U.vm h0 ∧ ∀ ax ∈ ([] : List Addr), Safe Z consts_1 U.vm h0 ax) (fun _ _ _ _ _ => True) (fun _ U o U' => ∃ v L, o = .returned v ∧ Q_rm0 Z l0 i1 i2 i3 G1 h0 n0 v U'.heap L ∧ CHr Z consts_1 U.vm U.heap U'.vm U'.heap ∧ ReturnedEndW U o U' L 24 1152) := by
  refine MetFree.of_bodySF (plainFor_of_name own_pn_com_example_cellwise_cellwise_ChecksAtMostPinLaw) hisR ?_
  intro p e s m args below meth c s₁ Bd hml0 hP hK
  obtain ⟨rfl, hZ, hh, hH, hSf⟩ := hP
  have hx := Bd.exec
  have hby := Bd.bytes
  have hml : c.maxLocals = 15 := hml0
  have hown : s.vm.findClass "com/example/cellwise/cellwise/ChecksAtMostPinLaw" = some m.cls := findClass_of_methodNamed Bd.named
  have hnm := (name_of_methodNamed Bd.named Bd.method).1
  have X0 : Stand p l e room_1 (s.setVm s.vm) m #[(.long l0), (.int i1), (.int i2), (.int i3)] below meth c s₁ [] 0 0 := Stand.of_body Bd
  have e0 : s₁.heap = h0 := by rw [← hh, Bd.state]; rfl
  have N0 := Fr.nil n0
  have K0 : Keep h0 h0 [] := Keep.refl _ _
  refine own_go (S' := s₁.setTop (mkF m 0 #[.val (.long l0), .second, .val (.int i1), .val (.int i2), .val (.int i3), .unset, .unset, .unset, .unset, .unset, .unset, .unset, .unset, .unset, .unset] [])) (fun tq kq => castTop (own_ef_rm0 m l0 i1 i2 i3 G1) kq) ?_
  have hS0 : s.Since s.vm h0.size := (State.WarmedH.refl s).since _
  have CR0 : CHr Z consts_1 s.vm h0 s.vm h0 := CHr.refl hH
  have hwS : ∀ d ∈ Bundle.stringAtoms, d.before a0 Z = true := fun d hd => hw d ((by decide +kernel : ∀ d ∈ Bundle.stringAtoms, d ∈ tables_1) d hd)
  refine own_go (fun tq kq => XS.iloadN X0.here hx rfl (hb hby at_0) rfl kq) ?_
  show own_Rn p e below _ (s₁.setTop (mkF m 1 #[.val (.long l0), .second, .val (.int i1), .val (.int i2), .val (.int i3), .unset, .unset, .unset, .unset, .unset, .unset, .unset, .unset, .unset, .unset] [(.int i1)]))
  refine own_go (fun tq kq => X0.ldcInt hx hown (mvT hZ (hw _ (own_mi 0 rfl))) (g := (mkF m 1 #[.val (.long l0), .second, .val (.int i1), .val (.int i2), .val (.int i3), .unset, .unset, .unset, .unset, .unset, .unset, .unset, .unset, .unset, .unset] [(.int i1)])) rfl (hb hby at_1) _ kq) ?_
  show own_Rn p e below _ (s₁.setTop (mkF m 3 #[.val (.long l0), .second, .val (.int i1), .val (.int i2), .val (.int i3), .unset, .unset, .unset, .unset, .unset, .unset, .unset, .unset, .unset, .unset] [(.int (2147483647 : Int32)), (.int i1)]))
  refine own_go (fun tq kq => XS.iand X0.here hx rfl (hb hby at_3) rfl kq) ?_
  show own_Rn p e below _ (s₁.setTop (mkF m 4 #[.val (.long l0), .second, .val (.int i1), .val (.int i2), .val (.int i3), .unset, .unset, .unset, .unset, .unset, .unset, .unset, .unset, .unset, .unset] [(.int (i1 &&& (2147483647 : Int32)))]))
  refine own_go (fun tq kq => XS.iconst X0.here hx rfl (hb hby at_4) kq) ?_
  show own_Rn p e below _ (s₁.setTop (mkF m 5 #[.val (.long l0), .second, .val (.int i1), .val (.int i2), .val (.int i3), .unset, .unset, .unset, .unset, .unset, .unset, .unset, .unset, .unset, .unset] [(.int (5 : Int32)), (.int (i1 &&& (2147483647 : Int32)))]))
  refine own_go (fun tq kq => iremM X0 hx rfl (hb hby at_5) rfl (by decide) kq) ?_
  show own_Rn p e below _ (s₁.setTop (mkF m 6 #[.val (.long l0), .second, .val (.int i1), .val (.int i2), .val (.int i3), .unset, .unset, .unset, .unset, .unset, .unset, .unset, .unset, .unset, .unset] [(.int ((i1 &&& (2147483647 : Int32)) % (5 : Int32)))]))
  obtain ⟨K, hK, eK⟩ := own_k5 i1
  rw [eK]
  show own_Rn p e below _ (s₁.setTop (mkF m 6 #[.val (.long l0), .second, .val (.int i1), .val (.int i2), .val (.int i3), .unset, .unset, .unset, .unset, .unset, .unset, .unset, .unset, .unset, .unset] [(.int (Int32.ofNat K))]))
  refine own_go (fun tq kq => XS.istore X0.here hx rfl (hb hby at_6) rfl (l' := #[.val (.long l0), .second, .val (.int i1), .val (.int i2), .val (.int i3), .val (.int (Int32.ofNat K)), .unset, .unset, .unset, .unset, .unset, .unset, .unset, .unset, .unset]) rfl kq) ?_
  show own_Rn p e below _ (s₁.setTop (mkF m 8 #[.val (.long l0), .second, .val (.int i1), .val (.int i2), .val (.int i3), .val (.int (Int32.ofNat K)), .unset, .unset, .unset, .unset, .unset, .unset, .unset, .unset, .unset] []))
  refine own_go (fun tq kq => XS.lloadN X0.here hx rfl (hb hby at_8) rfl kq) ?_
  show own_Rn p e below _ (s₁.setTop (mkF m 9 #[.val (.long l0), .second, .val (.int i1), .val (.int i2), .val (.int i3), .val (.int (Int32.ofNat K)), .unset, .unset, .unset, .unset, .unset, .unset, .unset, .unset, .unset] [(.long l0)]))
  refine own_go (fun tq kq => X0.ldc2Long hx hown (mvT hZ (hw _ (own_mi 1 rfl))) (g := (mkF m 9 #[.val (.long l0), .second, .val (.int i1), .val (.int i2), .val (.int i3), .val (.int (Int32.ofNat K)), .unset, .unset, .unset, .unset, .unset, .unset, .unset, .unset, .unset] [(.long l0)])) rfl (hb hby at_9) _ kq) ?_
  show own_Rn p e below _ (s₁.setTop (mkF m 12 #[.val (.long l0), .second, .val (.int i1), .val (.int i2), .val (.int i3), .val (.int (Int32.ofNat K)), .unset, .unset, .unset, .unset, .unset, .unset, .unset, .unset, .unset] [(.long (65535 : Int64)), (.long l0)]))
  refine own_go (fun tq kq => XS.land X0.here hx rfl (hb hby at_12) rfl kq) ?_
  show own_Rn p e below _ (s₁.setTop (mkF m 13 #[.val (.long l0), .second, .val (.int i1), .val (.int i2), .val (.int i3), .val (.int (Int32.ofNat K)), .unset, .unset, .unset, .unset, .unset, .unset, .unset, .unset, .unset] [(.long (l0 &&& (65535 : Int64)))]))
  refine own_go (fun tq kq => XS.l2i X0.here hx rfl (hb hby at_13) rfl kq) ?_
  show own_Rn p e below _ (s₁.setTop (mkF m 14 #[.val (.long l0), .second, .val (.int i1), .val (.int i2), .val (.int i3), .val (.int (Int32.ofNat K)), .unset, .unset, .unset, .unset, .unset, .unset, .unset, .unset, .unset] [(.int ((l0 &&& (65535 : Int64)).toInt32))]))
  refine own_go (fun tq kq => XS.i2c X0.here hx rfl (hb hby at_14) rfl kq) ?_
  show own_Rn p e below _ (s₁.setTop (mkF m 15 #[.val (.long l0), .second, .val (.int i1), .val (.int i2), .val (.int i3), .val (.int (Int32.ofNat K)), .unset, .unset, .unset, .unset, .unset, .unset, .unset, .unset, .unset] [(.int (((l0 &&& (65535 : Int64)).toInt32).toUInt32.toUInt16.toUInt32.toInt32))]))
  obtain ⟨c0, hc0⟩ : ∃ z : Int32, z = (((l0 &&& (65535 : Int64)).toInt32).toUInt32.toUInt16.toUInt32.toInt32) := ⟨_, rfl⟩
  rw [← hc0]
  show own_Rn p e below _ (s₁.setTop (mkF m 15 #[.val (.long l0), .second, .val (.int i1), .val (.int i2), .val (.int i3), .val (.int (Int32.ofNat K)), .unset, .unset, .unset, .unset, .unset, .unset, .unset, .unset, .unset] [(.int c0)]))
  have rc0 : ¬ c0 < 0 ∧ ¬ (65535 : Int32) < c0 := by rw [hc0]; exact own_ch16 _
  have nc0 : nar .char c0 = c0 := own_c16 c0 rc0
  refine own_go (fun tq kq => XS.istore X0.here hx rfl (hb hby at_15) rfl (l' := #[.val (.long l0), .second, .val (.int i1), .val (.int i2), .val (.int i3), .val (.int (Int32.ofNat K)), .val (.int c0), .unset, .unset, .unset, .unset, .unset, .unset, .unset, .unset]) rfl kq) ?_
  show own_Rn p e below _ (s₁.setTop (mkF m 17 #[.val (.long l0), .second, .val (.int i1), .val (.int i2), .val (.int i3), .val (.int (Int32.ofNat K)), .val (.int c0), .unset, .unset, .unset, .unset, .unset, .unset, .unset, .unset] []))
  refine own_go (fun tq kq => XS.lloadN X0.here hx rfl (hb hby at_17) rfl kq) ?_
  show own_Rn p e below _ (s₁.setTop (mkF m 18 #[.val (.long l0), .second, .val (.int i1), .val (.int i2), .val (.int i3), .val (.int (Int32.ofNat K)), .val (.int c0), .unset, .unset, .unset, .unset, .unset, .unset, .unset, .unset] [(.long l0)]))
  refine own_go (fun tq kq => XS.bipush X0.here hx rfl (hb hby at_18) kq) ?_
  show own_Rn p e below _ (s₁.setTop (mkF m 20 #[.val (.long l0), .second, .val (.int i1), .val (.int i2), .val (.int i3), .val (.int (Int32.ofNat K)), .val (.int c0), .unset, .unset, .unset, .unset, .unset, .unset, .unset, .unset] [(.int (16 : Int32)), (.long l0)]))
  refine own_go (fun tq kq => XS.lushr X0.here hx rfl (hb hby at_20) rfl kq) ?_
  show own_Rn p e below _ (s₁.setTop (mkF m 21 #[.val (.long l0), .second, .val (.int i1), .val (.int i2), .val (.int i3), .val (.int (Int32.ofNat K)), .val (.int c0), .unset, .unset, .unset, .unset, .unset, .unset, .unset, .unset] [(.long ((l0.toUInt64 >>> ((16 : Int32) &&& 0x3f).toInt64.toUInt64).toInt64))]))
  refine own_go (fun tq kq => X0.ldc2Long hx hown (mvT hZ (hw _ (own_mi 1 rfl))) (g := (mkF m 21 #[.val (.long l0), .second, .val (.int i1), .val (.int i2), .val (.int i3), .val (.int (Int32.ofNat K)), .val (.int c0), .unset, .unset, .unset, .unset, .unset, .unset, .unset, .unset] [(.long ((l0.toUInt64 >>> ((16 : Int32) &&& 0x3f).toInt64.toUInt64).toInt64))])) rfl (hb hby at_21) _ kq) ?_
  show own_Rn p e below _ (s₁.setTop (mkF m 24 #[.val (.long l0), .second, .val (.int i1), .val (.int i2), .val (.int i3), .val (.int (Int32.ofNat K)), .val (.int c0), .unset, .unset, .unset, .unset, .unset, .unset, .unset, .unset] [(.long (65535 : Int64)), (.long ((l0.toUInt64 >>> ((16 : Int32) &&& 0x3f).toInt64.toUInt64).toInt64))]))
  refine own_go (fun tq kq => XS.land X0.here hx rfl (hb hby at_24) rfl kq) ?_
  show own_Rn p e below _ (s₁.setTop (mkF m 25 #[.val (.long l0), .second, .val (.int i1), .val (.int i2), .val (.int i3), .val (.int (Int32.ofNat K)), .val (.int c0), .unset, .unset, .unset, .unset, .unset, .unset, .unset, .unset] [(.long (((l0.toUInt64 >>> ((16 : Int32) &&& 0x3f).toInt64.toUInt64).toInt64) &&& (65535 : Int64)))]))
  refine own_go (fun tq kq => XS.l2i X0.here hx rfl (hb hby at_25) rfl kq) ?_
  show own_Rn p e below _ (s₁.setTop (mkF m 26 #[.val (.long l0), .second, .val (.int i1), .val (.int i2), .val (.int i3), .val (.int (Int32.ofNat K)), .val (.int c0), .unset, .unset, .unset, .unset, .unset, .unset, .unset, .unset] [(.int ((((l0.toUInt64 >>> ((16 : Int32) &&& 0x3f).toInt64.toUInt64).toInt64) &&& (65535 : Int64)).toInt32))]))
  refine own_go (fun tq kq => XS.i2c X0.here hx rfl (hb hby at_26) rfl kq) ?_
  show own_Rn p e below _ (s₁.setTop (mkF m 27 #[.val (.long l0), .second, .val (.int i1), .val (.int i2), .val (.int i3), .val (.int (Int32.ofNat K)), .val (.int c0), .unset, .unset, .unset, .unset, .unset, .unset, .unset, .unset] [(.int (((((l0.toUInt64 >>> ((16 : Int32) &&& 0x3f).toInt64.toUInt64).toInt64) &&& (65535 : Int64)).toInt32).toUInt32.toUInt16.toUInt32.toInt32))]))
  obtain ⟨c1, hc1⟩ : ∃ z : Int32, z = (((((l0.toUInt64 >>> ((16 : Int32) &&& 0x3f).toInt64.toUInt64).toInt64) &&& (65535 : Int64)).toInt32).toUInt32.toUInt16.toUInt32.toInt32) := ⟨_, rfl⟩
  rw [← hc1]
  show own_Rn p e below _ (s₁.setTop (mkF m 27 #[.val (.long l0), .second, .val (.int i1), .val (.int i2), .val (.int i3), .val (.int (Int32.ofNat K)), .val (.int c0), .unset, .unset, .unset, .unset, .unset, .unset, .unset, .unset] [(.int c1)]))
  have rc1 : ¬ c1 < 0 ∧ ¬ (65535 : Int32) < c1 := by rw [hc1]; exact own_ch16 _
  have nc1 : nar .char c1 = c1 := own_c16 c1 rc1
  refine own_go (fun tq kq => XS.istore X0.here hx rfl (hb hby at_27) rfl (l' := #[.val (.long l0), .second, .val (.int i1), .val (.int i2), .val (.int i3), .val (.int (Int32.ofNat K)), .val (.int c0), .val (.int c1), .unset, .unset, .unset, .unset, .unset, .unset, .unset]) rfl kq) ?_
  show own_Rn p e below _ (s₁.setTop (mkF m 29 #[.val (.long l0), .second, .val (.int i1), .val (.int i2), .val (.int i3), .val (.int (Int32.ofNat K)), .val (.int c0), .val (.int c1), .unset, .unset, .unset, .unset, .unset, .unset, .unset] []))
  refine own_go (fun tq kq => XS.lloadN X0.here hx rfl (hb hby at_29) rfl kq) ?_
  show own_Rn p e below _ (s₁.setTop (mkF m 30 #[.val (.long l0), .second, .val (.int i1), .val (.int i2), .val (.int i3), .val (.int (Int32.ofNat K)), .val (.int c0), .val (.int c1), .unset, .unset, .unset, .unset, .unset, .unset, .unset] [(.long l0)]))
  refine own_go (fun tq kq => XS.bipush X0.here hx rfl (hb hby at_30) kq) ?_
  show own_Rn p e below _ (s₁.setTop (mkF m 32 #[.val (.long l0), .second, .val (.int i1), .val (.int i2), .val (.int i3), .val (.int (Int32.ofNat K)), .val (.int c0), .val (.int c1), .unset, .unset, .unset, .unset, .unset, .unset, .unset] [(.int (32 : Int32)), (.long l0)]))
  refine own_go (fun tq kq => XS.lushr X0.here hx rfl (hb hby at_32) rfl kq) ?_
  show own_Rn p e below _ (s₁.setTop (mkF m 33 #[.val (.long l0), .second, .val (.int i1), .val (.int i2), .val (.int i3), .val (.int (Int32.ofNat K)), .val (.int c0), .val (.int c1), .unset, .unset, .unset, .unset, .unset, .unset, .unset] [(.long ((l0.toUInt64 >>> ((32 : Int32) &&& 0x3f).toInt64.toUInt64).toInt64))]))
  refine own_go (fun tq kq => X0.ldc2Long hx hown (mvT hZ (hw _ (own_mi 1 rfl))) (g := (mkF m 33 #[.val (.long l0), .second, .val (.int i1), .val (.int i2), .val (.int i3), .val (.int (Int32.ofNat K)), .val (.int c0), .val (.int c1), .unset, .unset, .unset, .unset, .unset, .unset, .unset] [(.long ((l0.toUInt64 >>> ((32 : Int32) &&& 0x3f).toInt64.toUInt64).toInt64))])) rfl (hb hby at_33) _ kq) ?_
  show own_Rn p e below _ (s₁.setTop (mkF m 36 #[.val (.long l0), .second, .val (.int i1), .val (.int i2), .val (.int i3), .val (.int (Int32.ofNat K)), .val (.int c0), .val (.int c1), .unset, .unset, .unset, .unset, .unset, .unset, .unset] [(.long (65535 : Int64)), (.long ((l0.toUInt64 >>> ((32 : Int32) &&& 0x3f).toInt64.toUInt64).toInt64))]))
  refine own_go (fun tq kq => XS.land X0.here hx rfl (hb hby at_36) rfl kq) ?_
  show own_Rn p e below _ (s₁.setTop (mkF m 37 #[.val (.long l0), .second, .val (.int i1), .val (.int i2), .val (.int i3), .val (.int (Int32.ofNat K)), .val (.int c0), .val (.int c1), .unset, .unset, .unset, .unset, .unset, .unset, .unset] [(.long (((l0.toUInt64 >>> ((32 : Int32) &&& 0x3f).toInt64.toUInt64).toInt64) &&& (65535 : Int64)))]))
  refine own_go (fun tq kq => XS.l2i X0.here hx rfl (hb hby at_37) rfl kq) ?_
  show own_Rn p e below _ (s₁.setTop (mkF m 38 #[.val (.long l0), .second, .val (.int i1), .val (.int i2), .val (.int i3), .val (.int (Int32.ofNat K)), .val (.int c0), .val (.int c1), .unset, .unset, .unset, .unset, .unset, .unset, .unset] [(.int ((((l0.toUInt64 >>> ((32 : Int32) &&& 0x3f).toInt64.toUInt64).toInt64) &&& (65535 : Int64)).toInt32))]))
  refine own_go (fun tq kq => XS.i2c X0.here hx rfl (hb hby at_38) rfl kq) ?_
  show own_Rn p e below _ (s₁.setTop (mkF m 39 #[.val (.long l0), .second, .val (.int i1), .val (.int i2), .val (.int i3), .val (.int (Int32.ofNat K)), .val (.int c0), .val (.int c1), .unset, .unset, .unset, .unset, .unset, .unset, .unset] [(.int (((((l0.toUInt64 >>> ((32 : Int32) &&& 0x3f).toInt64.toUInt64).toInt64) &&& (65535 : Int64)).toInt32).toUInt32.toUInt16.toUInt32.toInt32))]))
  obtain ⟨c2, hc2⟩ : ∃ z : Int32, z = (((((l0.toUInt64 >>> ((32 : Int32) &&& 0x3f).toInt64.toUInt64).toInt64) &&& (65535 : Int64)).toInt32).toUInt32.toUInt16.toUInt32.toInt32) := ⟨_, rfl⟩
  rw [← hc2]
  show own_Rn p e below _ (s₁.setTop (mkF m 39 #[.val (.long l0), .second, .val (.int i1), .val (.int i2), .val (.int i3), .val (.int (Int32.ofNat K)), .val (.int c0), .val (.int c1), .unset, .unset, .unset, .unset, .unset, .unset, .unset] [(.int c2)]))
  have rc2 : ¬ c2 < 0 ∧ ¬ (65535 : Int32) < c2 := by rw [hc2]; exact own_ch16 _
  have nc2 : nar .char c2 = c2 := own_c16 c2 rc2
  refine own_go (fun tq kq => XS.istore X0.here hx rfl (hb hby at_39) rfl (l' := #[.val (.long l0), .second, .val (.int i1), .val (.int i2), .val (.int i3), .val (.int (Int32.ofNat K)), .val (.int c0), .val (.int c1), .val (.int c2), .unset, .unset, .unset, .unset, .unset, .unset]) rfl kq) ?_
  show own_Rn p e below _ (s₁.setTop (mkF m 41 #[.val (.long l0), .second, .val (.int i1), .val (.int i2), .val (.int i3), .val (.int (Int32.ofNat K)), .val (.int c0), .val (.int c1), .val (.int c2), .unset, .unset, .unset, .unset, .unset, .unset] []))
  refine own_go (fun tq kq => XS.lloadN X0.here hx rfl (hb hby at_41) rfl kq) ?_
  show own_Rn p e below _ (s₁.setTop (mkF m 42 #[.val (.long l0), .second, .val (.int i1), .val (.int i2), .val (.int i3), .val (.int (Int32.ofNat K)), .val (.int c0), .val (.int c1), .val (.int c2), .unset, .unset, .unset, .unset, .unset, .unset] [(.long l0)]))
  refine own_go (fun tq kq => XS.bipush X0.here hx rfl (hb hby at_42) kq) ?_
  show own_Rn p e below _ (s₁.setTop (mkF m 44 #[.val (.long l0), .second, .val (.int i1), .val (.int i2), .val (.int i3), .val (.int (Int32.ofNat K)), .val (.int c0), .val (.int c1), .val (.int c2), .unset, .unset, .unset, .unset, .unset, .unset] [(.int (48 : Int32)), (.long l0)]))
  refine own_go (fun tq kq => XS.lushr X0.here hx rfl (hb hby at_44) rfl kq) ?_
  show own_Rn p e below _ (s₁.setTop (mkF m 45 #[.val (.long l0), .second, .val (.int i1), .val (.int i2), .val (.int i3), .val (.int (Int32.ofNat K)), .val (.int c0), .val (.int c1), .val (.int c2), .unset, .unset, .unset, .unset, .unset, .unset] [(.long ((l0.toUInt64 >>> ((48 : Int32) &&& 0x3f).toInt64.toUInt64).toInt64))]))
  refine own_go (fun tq kq => X0.ldc2Long hx hown (mvT hZ (hw _ (own_mi 1 rfl))) (g := (mkF m 45 #[.val (.long l0), .second, .val (.int i1), .val (.int i2), .val (.int i3), .val (.int (Int32.ofNat K)), .val (.int c0), .val (.int c1), .val (.int c2), .unset, .unset, .unset, .unset, .unset, .unset] [(.long ((l0.toUInt64 >>> ((48 : Int32) &&& 0x3f).toInt64.toUInt64).toInt64))])) rfl (hb hby at_45) _ kq) ?_
  show own_Rn p e below _ (s₁.setTop (mkF m 48 #[.val (.long l0), .second, .val (.int i1), .val (.int i2), .val (.int i3), .val (.int (Int32.ofNat K)), .val (.int c0), .val (.int c1), .val (.int c2), .unset, .unset, .unset, .unset, .unset, .unset] [(.long (65535 : Int64)), (.long ((l0.toUInt64 >>> ((48 : Int32) &&& 0x3f).toInt64.toUInt64).toInt64))]))
  refine own_go (fun tq kq => XS.land X0.here hx rfl (hb hby at_48) rfl kq) ?_
  show own_Rn p e below _ (s₁.setTop (mkF m 49 #[.val (.long l0), .second, .val (.int i1), .val (.int i2), .val (.int i3), .val (.int (Int32.ofNat K)), .val (.int c0), .val (.int c1), .val (.int c2), .unset, .unset, .unset, .unset, .unset, .unset] [(.long (((l0.toUInt64 >>> ((48 : Int32) &&& 0x3f).toInt64.toUInt64).toInt64) &&& (65535 : Int64)))]))
  refine own_go (fun tq kq => XS.l2i X0.here hx rfl (hb hby at_49) rfl kq) ?_
  show own_Rn p e below _ (s₁.setTop (mkF m 50 #[.val (.long l0), .second, .val (.int i1), .val (.int i2), .val (.int i3), .val (.int (Int32.ofNat K)), .val (.int c0), .val (.int c1), .val (.int c2), .unset, .unset, .unset, .unset, .unset, .unset] [(.int ((((l0.toUInt64 >>> ((48 : Int32) &&& 0x3f).toInt64.toUInt64).toInt64) &&& (65535 : Int64)).toInt32))]))
  refine own_go (fun tq kq => XS.i2c X0.here hx rfl (hb hby at_50) rfl kq) ?_
  show own_Rn p e below _ (s₁.setTop (mkF m 51 #[.val (.long l0), .second, .val (.int i1), .val (.int i2), .val (.int i3), .val (.int (Int32.ofNat K)), .val (.int c0), .val (.int c1), .val (.int c2), .unset, .unset, .unset, .unset, .unset, .unset] [(.int (((((l0.toUInt64 >>> ((48 : Int32) &&& 0x3f).toInt64.toUInt64).toInt64) &&& (65535 : Int64)).toInt32).toUInt32.toUInt16.toUInt32.toInt32))]))
  obtain ⟨c3, hc3⟩ : ∃ z : Int32, z = (((((l0.toUInt64 >>> ((48 : Int32) &&& 0x3f).toInt64.toUInt64).toInt64) &&& (65535 : Int64)).toInt32).toUInt32.toUInt16.toUInt32.toInt32) := ⟨_, rfl⟩
  rw [← hc3]
  show own_Rn p e below _ (s₁.setTop (mkF m 51 #[.val (.long l0), .second, .val (.int i1), .val (.int i2), .val (.int i3), .val (.int (Int32.ofNat K)), .val (.int c0), .val (.int c1), .val (.int c2), .unset, .unset, .unset, .unset, .unset, .unset] [(.int c3)]))
  have rc3 : ¬ c3 < 0 ∧ ¬ (65535 : Int32) < c3 := by rw [hc3]; exact own_ch16 _
  have nc3 : nar .char c3 = c3 := own_c16 c3 rc3
  refine own_go (fun tq kq => XS.istore X0.here hx rfl (hb hby at_51) rfl (l' := #[.val (.long l0), .second, .val (.int i1), .val (.int i2), .val (.int i3), .val (.int (Int32.ofNat K)), .val (.int c0), .val (.int c1), .val (.int c2), .val (.int c3), .unset, .unset, .unset, .unset, .unset]) rfl kq) ?_
  show own_Rn p e below _ (s₁.setTop (mkF m 53 #[.val (.long l0), .second, .val (.int i1), .val (.int i2), .val (.int i3), .val (.int (Int32.ofNat K)), .val (.int c0), .val (.int c1), .val (.int c2), .val (.int c3), .unset, .unset, .unset, .unset, .unset] []))
  obtain rfl | rfl | rfl | rfl | rfl : K = 0 ∨ K = 1 ∨ K = 2 ∨ K = 3 ∨ K = 4 := by omega
  · skip
    show own_Rn p e below _ (s₁.setTop (mkF m 53 #[.val (.long l0), .second, .val (.int i1), .val (.int i2), .val (.int i3), .val (.int (0 : Int32)), .val (.int c0), .val (.int c1), .val (.int c2), .val (.int c3), .unset, .unset, .unset, .unset, .unset] []))
    refine own_go (fun tq kq => XS.iload X0.here hx rfl (hb hby at_53) rfl kq) ?_
    show own_Rn p e below _ (s₁.setTop (mkF m 55 #[.val (.long l0), .second, .val (.int i1), .val (.int i2), .val (.int i3), .val (.int (0 : Int32)), .val (.int c0), .val (.int c1), .val (.int c2), .val (.int c3), .unset, .unset, .unset, .unset, .unset] [(.int (0 : Int32))]))
    have hr : ∀ c ∈ ([] : List Int32), ¬ c < 0 ∧ ¬ (65535 : Int32) < c := by
      intro c hc; exact nomatch hc
    refine own_go (fun tq kq => XS.ifNo X0.here hx rfl (hb hby at_55) rfl ((if0 _ _).trans (teq ((by decide : (0 : Int32) = (0 : Int32)) : (0 : Int32) = (0 : Int32))).2) kq) ?_
    show own_Rn p e below _ (s₁.setTop (mkF m 58 #[.val (.long l0), .second, .val (.int i1), .val (.int i2), .val (.int i3), .val (.int (0 : Int32)), .val (.int c0), .val (.int c1), .val (.int c2), .val (.int c3), .unset, .unset, .unset, .unset, .unset] []))
    obtain ⟨T1, h1, X1, e1, E1, A1, D1, -, st1⟩ := newO X0 hx hZ hown (hw _ (own_mi 2 rfl)) (hw _ (own_mi 3 rfl)) (hw _ (own_mi 4 rfl)) e0 (g := (mkF m 58 #[.val (.long l0), .second, .val (.int i1), .val (.int i2), .val (.int i3), .val (.int (0 : Int32)), .val (.int c0), .val (.int c1), .val (.int c2), .val (.int c3), .unset, .unset, .unset, .unset, .unset] [])) rfl (hb hby at_58) (by decide) (by decide)
    obtain ⟨b1, g1⟩ : ∃ z, z = h0.size := ⟨_, rfl⟩
    rw [← g1] at A1 D1 st1
    refine own_go st1 ?_
    have sz2 : h0.size ≤ h1.size := E1.1
    have cr2 : CHr Z consts_1 s.vm h0 s.vm h1 := CHr.ext E1 CR0.1
    have CR2 := CR0.trans cr2
    have sf3 : Safe Z consts_1 s.vm h1 b1 := Safe.ext E1 CR0.1 (Safe.new (by omega))
    have lt4 : @LT.lt Nat _ b1 h1.size := A1.lt
    have gn1 : n0 ≤ b1 := by omega
    have D1_coder : Fld Z h1 b1 "java/lang/String" "coder" "B" (.int (0 : Int32)) := D1 (Or.inr (hw _ (own_mi 29 rfl))) (ty := .byte) own_fd_B
    have D1_value : Fld Z h1 b1 "java/lang/String" "value" "[B" .null := D1 (Or.inr (hw _ (own_mi 31 rfl))) (ty := (.array .byte)) own_fd_5bB
    show own_Rn p e below _ (T1.setTop (mkF m 61 #[.val (.long l0), .second, .val (.int i1), .val (.int i2), .val (.int i3), .val (.int (0 : Int32)), .val (.int c0), .val (.int c1), .val (.int c2), .val (.int c3), .unset, .unset, .unset, .unset, .unset] [(.ref b1)]))
    refine own_go (fun tq kq => XS.dup X1.here hx rfl (hb hby at_61) rfl rfl kq) ?_
    show own_Rn p e below _ (T1.setTop (mkF m 62 #[.val (.long l0), .second, .val (.int i1), .val (.int i2), .val (.int i3), .val (.int (0 : Int32)), .val (.int c0), .val (.int c1), .val (.int c2), .val (.int c3), .unset, .unset, .unset, .unset, .unset] [(.ref b1), (.ref b1)]))
    refine own_go (fun tq kq => XS.iconst X1.here hx rfl (hb hby at_62) kq) ?_
    show own_Rn p e below _ (T1.setTop (mkF m 63 #[.val (.long l0), .second, .val (.int i1), .val (.int i2), .val (.int i3), .val (.int (0 : Int32)), .val (.int c0), .val (.int c1), .val (.int c2), .val (.int c3), .unset, .unset, .unset, .unset, .unset] [(.int (0 : Int32)), (.ref b1), (.ref b1)]))
    obtain ⟨T6, h6, k6, X6, e6, E6, A6, st6⟩ := newP X1 hx hZ (hw _ (own_mi 5 rfl)) e1 (g := (mkF m 63 #[.val (.long l0), .second, .val (.int i1), .val (.int i2), .val (.int i3), .val (.int (0 : Int32)), .val (.int c0), .val (.int c1), .val (.int c2), .val (.int c3), .unset, .unset, .unset, .unset, .unset] [(.int (0 : Int32)), (.ref b1), (.ref b1)])) rfl (hb hby at_63) rfl (by decide) (cap := 0) (by decide) (by decide) (by decide) (by decide)
    obtain ⟨b6, g6⟩ : ∃ z, z = h1.size := ⟨_, rfl⟩
    rw [← g6] at A6 st6
    refine own_go st6 ?_
    have sz7 : h1.size ≤ h6.size := E6.1
    have cr7 : CHr Z consts_1 s.vm h1 s.vm h6 := CHr.ext E6 CR2.1
    have CR7 := CR2.trans cr7
    have gn6 : n0 ≤ b6 := by omega
    have V6 : Arv Z h6 b6 k6 .char (0 : Int32) [] (.int (0 : Int32)) := (Arv.new A6 (by decide)).pad (pad_rep [] _ 0)
    have lt8 : @LT.lt Nat _ b6 h6.size := V6.lt
    show own_Rn p e below _ (T6.setTop (mkF m 65 #[.val (.long l0), .second, .val (.int i1), .val (.int i2), .val (.int i3), .val (.int (0 : Int32)), .val (.int c0), .val (.int c1), .val (.int c2), .val (.int c3), .unset, .unset, .unset, .unset, .unset] [(.ref b6), (.ref b1), (.ref b1)]))
    have Zn9 : n0 ≤ h6.size := by omega
    have F10 : Exa Z h6 b1 "java/lang/String" := (A1.ext E6)
    have F11 : Fld Z h6 b1 "java/lang/String" "value" "[B" .null := (D1_value.ext E6)
    have F12 : Fld Z h6 b1 "java/lang/String" "coder" "B" (.int (0 : Int32)) := (D1_coder.ext E6)
    have sf14 : Safe Z consts_1 s.vm h6 b1 := (CHr.safe cr7 (show @LT.lt Nat _ _ _ by omega) sf3)
    obtain ⟨rv9, _, ⟨T9, L9, k9, n9⟩, -, X9, hS9, hG9, ⟨Lc9, hQ9, l9, y9, z9, CR9q⟩, st9⟩ := X6.specialBackS hx (y := (⟨"java/lang/String", "<init>", "([C)V"⟩ : MethodName)) rfl hown (mvT hZ (hw _ (own_mi 6 rfl))) (mvT hZ (hw _ (own_mi 7 rfl))) (mvT hZ (hw _ (own_mi 8 rfl))) (by decide) (own_backSH (W := 1) (rm := ({ frames := 2, cells := 4, slots := 8, locals := 29 } : Room)) (sf := [b1]) (h := h6) (rmSI1 l Z a0 hw [] (b1) (b6) (k6) h6 n0 Zn9 hEL F10 F11 F12 gn1 V6) hZ (hw _ (own_mi 8 rfl)) (hw _ (own_mi 4 rfl)) (by decide) (by decide) hEL CR7.1 (sfS sf14 sf0)) (g := (mkF m 65 #[.val (.long l0), .second, .val (.int i1), .val (.int i2), .val (.int i3), .val (.int (0 : Int32)), .val (.int c0), .val (.int c1), .val (.int c2), .val (.int c3), .unset, .unset, .unset, .unset, .unset] [(.ref b6), (.ref b1), (.ref b1)])) rfl (by rw [hml]; rfl) (Steps.refl _) (a := b1) (argsL := [(.ref b6)]) (rest := [(.ref b1)]) (lenOf own_pd_285bC29V rfl) rfl (by show 2 * 0 + _ ≤ _; exact Nat.le_of_eq rfl) (hb hby at_65) (fun _ _ => ⟨rfl, e6, (by decide : 2 + 4 ≤ _), (by decide : 4 + 8 ≤ _)⟩)
    dsimp only [Pt.U, Pt.locs, Pt.cells, Pt.slots] at X9 l9 y9 z9 st9 hQ9 hS9 hG9 CR9q
    subst l9 y9 z9
    obtain ⟨tt, kk, rfl, Nq9, Kq9, G0_9, G1_9, G2_9⟩ := hQ9
    have N9 := Fr.app N0 Nq9
    obtain ⟨Xr9, hSr9, hZ9, hown9⟩ := rebS hS0 (n1 := T6.heap.size) (by rw [e6]; omega) X9 hS9 hG9 hZ hown
    have sz15 : h6.size ≤ T9.heap.size := Kq9.1
    have cr15 : CHr Z consts_1 s.vm h6 T9.vm T9.heap := CR9q
    have CR15 := CR7.trans cr15
    have lt16 : @LT.lt Nat _ tt T9.heap.size := G2_9.lt
    refine own_go (fun tq kq => st9.trans kq) ?_
    show own_Rn p e below _ (T9.setTop (mkF m 68 #[.val (.long l0), .second, .val (.int i1), .val (.int i2), .val (.int i3), .val (.int (0 : Int32)), .val (.int c0), .val (.int c1), .val (.int c2), .val (.int c3), .unset, .unset, .unset, .unset, .unset] [(.ref b1)]))
    have RL : ((0 : Int32) = 0 ∧ (0 : Int32) = Int32.ofNat ([] : List Int32).length ∧ own_bs ([] : List Int32) = own_bs ([] : List Int32) ∧ ∀ c ∈ ([] : List Int32), ¬ (255 : Int32) < c) ∨ ((0 : Int32) = 1 ∧ (0 : Int32) = Int32.ofNat (2 * ([] : List Int32).length) ∧ own_bs ([] : List Int32) = own_u16 ([] : List Int32) ∧ 0 < ([] : List Int32).length) := Or.inl ⟨rfl, rfl, rfl, fun c hc => nomatch hc⟩
    refine own_go (fun tq kq => XS.astore Xr9.here hx rfl (hb hby at_68) rfl rfl (l' := #[.val (.long l0), .second, .val (.int i1), .val (.int i2), .val (.int i3), .val (.int (0 : Int32)), .val (.int c0), .val (.int c1), .val (.int c2), .val (.int c3), .val (.ref b1), .unset, .unset, .unset, .unset]) rfl kq) ?_
    show own_Rn p e below _ (T9.setTop (mkF m 70 #[.val (.long l0), .second, .val (.int i1), .val (.int i2), .val (.int i3), .val (.int (0 : Int32)), .val (.int c0), .val (.int c1), .val (.int c2), .val (.int c3), .val (.ref b1), .unset, .unset, .unset, .unset] []))
    refine own_go (fun tq kq => XS.goto Xr9.here hx rfl (pc0 := 70) (pc' := 198) rfl (hb hby at_70) (by decide) (by decide) kq) ?_
    show own_Rn p e below _ (T9.setTop (mkF m 198 #[.val (.long l0), .second, .val (.int i1), .val (.int i2), .val (.int i3), .val (.int (0 : Int32)), .val (.int c0), .val (.int c1), .val (.int c2), .val (.int c3), .val (.ref b1), .unset, .unset, .unset, .unset] []))
    refine own_go (fun tq kq => XS.iload Xr9.here hx rfl (hb hby at_198) rfl kq) ?_
    show own_Rn p e below _ (T9.setTop (mkF m 200 #[.val (.long l0), .second, .val (.int i1), .val (.int i2), .val (.int i3), .val (.int (0 : Int32)), .val (.int c0), .val (.int c1), .val (.int c2), .val (.int c3), .val (.ref b1), .unset, .unset, .unset, .unset] [(.int (0 : Int32))]))
    refine own_go (fun tq kq => XS.istore Xr9.here hx rfl (hb hby at_200) rfl (l' := #[.val (.long l0), .second, .val (.int i1), .val (.int i2), .val (.int i3), .val (.int (0 : Int32)), .val (.int c0), .val (.int c1), .val (.int c2), .val (.int c3), .val (.ref b1), .val (.int (0 : Int32)), .unset, .unset, .unset]) rfl kq) ?_
    show own_Rn p e below _ (T9.setTop (mkF m 202 #[.val (.long l0), .second, .val (.int i1), .val (.int i2), .val (.int i3), .val (.int (0 : Int32)), .val (.int c0), .val (.int c1), .val (.int c2), .val (.int c3), .val (.ref b1), .val (.int (0 : Int32)), .unset, .unset, .unset] []))
    refine own_go (fun tq kq => XS.iload Xr9.here hx rfl (hb hby at_202) rfl kq) ?_
    show own_Rn p e below _ (T9.setTop (mkF m 204 #[.val (.long l0), .second, .val (.int i1), .val (.int i2), .val (.int i3), .val (.int (0 : Int32)), .val (.int c0), .val (.int c1), .val (.int c2), .val (.int c3), .val (.ref b1), .val (.int (0 : Int32)), .unset, .unset, .unset] [(.int (0 : Int32))]))
    refine own_go (fun tq kq => XS.iconst Xr9.here hx rfl (hb hby at_204) kq) ?_
    show own_Rn p e below _ (T9.setTop (mkF m 205 #[.val (.long l0), .second, .val (.int i1), .val (.int i2), .val (.int i3), .val (.int (0 : Int32)), .val (.int c0), .val (.int c1), .val (.int c2), .val (.int c3), .val (.ref b1), .val (.int (0 : Int32)), .unset, .unset, .unset] [(.int (2 : Int32)), (.int (0 : Int32))]))
    refine own_go (fun tq kq => XS.icmpYes Xr9.here hx rfl (pc0 := 205) (pc' := 224) rfl (hb hby at_205) rfl (tlt (by decide : (0 : Int32) < (2 : Int32))).1 (by decide) (by decide) kq) ?_
    show own_Rn p e below _ (T9.setTop (mkF m 224 #[.val (.long l0), .second, .val (.int i1), .val (.int i2), .val (.int i3), .val (.int (0 : Int32)), .val (.int c0), .val (.int c1), .val (.int c2), .val (.int c3), .val (.ref b1), .val (.int (0 : Int32)), .unset, .unset, .unset] []))
    refine own_go (fun tq kq => XS.iload Xr9.here hx rfl (hb hby at_224) rfl kq) ?_
    show own_Rn p e below _ (T9.setTop (mkF m 226 #[.val (.long l0), .second, .val (.int i1), .val (.int i2), .val (.int i3), .val (.int (0 : Int32)), .val (.int c0), .val (.int c1), .val (.int c2), .val (.int c3), .val (.ref b1), .val (.int (0 : Int32)), .unset, .unset, .unset] [(.int (0 : Int32))]))
    refine own_go (fun tq kq => XS.iconst Xr9.here hx rfl (hb hby at_226) kq) ?_
    show own_Rn p e below _ (T9.setTop (mkF m 227 #[.val (.long l0), .second, .val (.int i1), .val (.int i2), .val (.int i3), .val (.int (0 : Int32)), .val (.int c0), .val (.int c1), .val (.int c2), .val (.int c3), .val (.ref b1), .val (.int (0 : Int32)), .unset, .unset, .unset] [(.int (3 : Int32)), (.int (0 : Int32))]))
    refine own_go (fun tq kq => XS.icmpYes Xr9.here hx rfl (pc0 := 227) (pc' := 246) rfl (hb hby at_227) rfl (tlt (by decide : (0 : Int32) < (3 : Int32))).1 (by decide) (by decide) kq) ?_
    show own_Rn p e below _ (T9.setTop (mkF m 246 #[.val (.long l0), .second, .val (.int i1), .val (.int i2), .val (.int i3), .val (.int (0 : Int32)), .val (.int c0), .val (.int c1), .val (.int c2), .val (.int c3), .val (.ref b1), .val (.int (0 : Int32)), .unset, .unset, .unset] []))
    refine own_go (fun tq kq => XS.iload Xr9.here hx rfl (hb hby at_246) rfl kq) ?_
    show own_Rn p e below _ (T9.setTop (mkF m 248 #[.val (.long l0), .second, .val (.int i1), .val (.int i2), .val (.int i3), .val (.int (0 : Int32)), .val (.int c0), .val (.int c1), .val (.int c2), .val (.int c3), .val (.ref b1), .val (.int (0 : Int32)), .unset, .unset, .unset] [(.int (0 : Int32))]))
    refine own_go (fun tq kq => XS.iconst Xr9.here hx rfl (hb hby at_248) kq) ?_
    show own_Rn p e below _ (T9.setTop (mkF m 249 #[.val (.long l0), .second, .val (.int i1), .val (.int i2), .val (.int i3), .val (.int (0 : Int32)), .val (.int c0), .val (.int c1), .val (.int c2), .val (.int c3), .val (.ref b1), .val (.int (0 : Int32)), .unset, .unset, .unset] [(.int (4 : Int32)), (.int (0 : Int32))]))
    refine own_go (fun tq kq => XS.icmpYes Xr9.here hx rfl (pc0 := 249) (pc' := 268) rfl (hb hby at_249) rfl (tlt (by decide : (0 : Int32) < (4 : Int32))).1 (by decide) (by decide) kq) ?_
    show own_Rn p e below _ (T9.setTop (mkF m 268 #[.val (.long l0), .second, .val (.int i1), .val (.int i2), .val (.int i3), .val (.int (0 : Int32)), .val (.int c0), .val (.int c1), .val (.int c2), .val (.int c3), .val (.ref b1), .val (.int (0 : Int32)), .unset, .unset, .unset] []))
    refine own_go (fun tq kq => XS.iloadN Xr9.here hx rfl (hb hby at_268) rfl kq) ?_
    show own_Rn p e below _ (T9.setTop (mkF m 269 #[.val (.long l0), .second, .val (.int i1), .val (.int i2), .val (.int i3), .val (.int (0 : Int32)), .val (.int c0), .val (.int c1), .val (.int c2), .val (.int c3), .val (.ref b1), .val (.int (0 : Int32)), .unset, .unset, .unset] [(.int i2)]))
    refine own_go (fun tq kq => XS.iload Xr9.here hx rfl (hb hby at_269) rfl kq) ?_
    show own_Rn p e below _ (T9.setTop (mkF m 271 #[.val (.long l0), .second, .val (.int i1), .val (.int i2), .val (.int i3), .val (.int (0 : Int32)), .val (.int c0), .val (.int c1), .val (.int c2), .val (.int c3), .val (.ref b1), .val (.int (0 : Int32)), .unset, .unset, .unset] [(.int (0 : Int32)), (.int i2)]))
    have Zn17 : n0 ≤ T9.heap.size := by omega
    obtain ⟨rv17, _, ⟨T17, L17, k17, n17⟩, -, X17, ⟨Lc17, hQ17, l17, y17, z17⟩, st17⟩ := Jvm.LawKit.callS Xr9 hx (y := (⟨"java/lang/Math", "max", "(II)I"⟩ : MethodName)) hown9 (mvT hZ9 (hw _ (own_mi 40 rfl))) (mvT hZ9 (hw _ (own_mi 41 rfl))) (mvT hZ9 (hw _ (own_mi 42 rfl))) (mvT hZ9 (hw _ (own_mi 43 rfl))) (by decide) (backOf (W := 0) (rmMax l Z a0 hw [] (i2) ((0 : Int32)) T9.heap n0 Zn17 ) hZ9 (hw _ (own_mi 43 rfl)) (hw _ (own_mi 42 rfl)) (by decide) (by decide)) (g := (mkF m 271 #[.val (.long l0), .second, .val (.int i1), .val (.int i2), .val (.int i3), .val (.int (0 : Int32)), .val (.int c0), .val (.int c1), .val (.int c2), .val (.int c3), .val (.ref b1), .val (.int (0 : Int32)), .unset, .unset, .unset] [(.int (0 : Int32)), (.int i2)])) rfl (by rw [hml]; rfl) (argsL := [(.int i2), (.int (0 : Int32))]) (rest := []) (lenOf own_pd_28II29I rfl) rfl (by show 2 * 0 + _ ≤ _; exact Nat.le_of_eq rfl) (hb hby at_271) (fun _ _ => ⟨rfl, rfl, (by decide : 6 + 0 ≤ _), (by decide : 12 + 0 ≤ _)⟩)
    dsimp only [Pt.U, Pt.locs, Pt.cells, Pt.slots] at X17 l17 y17 z17 st17 hQ17
    subst l17 y17 z17
    obtain ⟨bd, rfl, Nq17, eh17, R_17⟩ := hQ17
    have N17 := Fr.app N9 Nq17
    refine own_go st17 ?_
    show own_Rn p e below _ (T17.setTop (mkF m 274 #[.val (.long l0), .second, .val (.int i1), .val (.int i2), .val (.int i3), .val (.int (0 : Int32)), .val (.int c0), .val (.int c1), .val (.int c2), .val (.int c3), .val (.ref b1), .val (.int (0 : Int32)), .unset, .unset, .unset] [(.int bd)]))
    refine own_go (fun tq kq => XS.istore X17.here hx rfl (hb hby at_274) rfl (l' := #[.val (.long l0), .second, .val (.int i1), .val (.int i2), .val (.int i3), .val (.int (0 : Int32)), .val (.int c0), .val (.int c1), .val (.int c2), .val (.int c3), .val (.ref b1), .val (.int (0 : Int32)), .val (.int bd), .unset, .unset]) rfl kq) ?_
    show own_Rn p e below _ (T17.setTop (mkF m 276 #[.val (.long l0), .second, .val (.int i1), .val (.int i2), .val (.int i3), .val (.int (0 : Int32)), .val (.int c0), .val (.int c1), .val (.int c2), .val (.int c3), .val (.ref b1), .val (.int (0 : Int32)), .val (.int bd), .unset, .unset] []))
    refine own_go (fun tq kq => XS.iload X17.here hx rfl (hb hby at_276) rfl kq) ?_
    show own_Rn p e below _ (T17.setTop (mkF m 278 #[.val (.long l0), .second, .val (.int i1), .val (.int i2), .val (.int i3), .val (.int (0 : Int32)), .val (.int c0), .val (.int c1), .val (.int c2), .val (.int c3), .val (.ref b1), .val (.int (0 : Int32)), .val (.int bd), .unset, .unset] [(.int i3)]))
    refine own_go (fun tq kq => XS.sipush X17.here hx rfl (hb hby at_278) kq) ?_
    show own_Rn p e below _ (T17.setTop (mkF m 281 #[.val (.long l0), .second, .val (.int i1), .val (.int i2), .val (.int i3), .val (.int (0 : Int32)), .val (.int c0), .val (.int c1), .val (.int c2), .val (.int c3), .val (.ref b1), .val (.int (0 : Int32)), .val (.int bd), .unset, .unset] [(.int (255 : Int32)), (.int i3)]))
    refine own_go (fun tq kq => XS.iand X17.here hx rfl (hb hby at_281) rfl kq) ?_
    show own_Rn p e below _ (T17.setTop (mkF m 282 #[.val (.long l0), .second, .val (.int i1), .val (.int i2), .val (.int i3), .val (.int (0 : Int32)), .val (.int c0), .val (.int c1), .val (.int c2), .val (.int c3), .val (.ref b1), .val (.int (0 : Int32)), .val (.int bd), .unset, .unset] [(.int (i3 &&& (255 : Int32)))]))
    refine own_go (fun tq kq => XS.i2c X17.here hx rfl (hb hby at_282) rfl kq) ?_
    show own_Rn p e below _ (T17.setTop (mkF m 283 #[.val (.long l0), .second, .val (.int i1), .val (.int i2), .val (.int i3), .val (.int (0 : Int32)), .val (.int c0), .val (.int c1), .val (.int c2), .val (.int c3), .val (.ref b1), .val (.int (0 : Int32)), .val (.int bd), .unset, .unset] [(.int ((i3 &&& (255 : Int32)).toUInt32.toUInt16.toUInt32.toInt32))]))
    obtain ⟨wc, hwc⟩ : ∃ z : Int32, z = ((i3 &&& (255 : Int32)).toUInt32.toUInt16.toUInt32.toInt32) := ⟨_, rfl⟩
    rw [← hwc]
    show own_Rn p e below _ (T17.setTop (mkF m 283 #[.val (.long l0), .second, .val (.int i1), .val (.int i2), .val (.int i3), .val (.int (0 : Int32)), .val (.int c0), .val (.int c1), .val (.int c2), .val (.int c3), .val (.ref b1), .val (.int (0 : Int32)), .val (.int bd), .unset, .unset] [(.int wc)]))
    have rwc : ¬ wc < 0 ∧ ¬ (255 : Int32) < wc := by rw [hwc]; exact own_chr_rng _
    have Zn18 : n0 ≤ T9.heap.size := by omega
    have F19 : Old Z n0 T9.heap := (((X00.ext E1).ext E6).keep Kq9 (allS gn1 all0))
    obtain ⟨rv18, _, ⟨T18, L18, k18, n18⟩, -, X18, ⟨Lc18, hQ18, l18, y18, z18⟩, st18⟩ := Jvm.LawKit.callS X17 hx (y := (⟨"java/lang/String", "valueOf", "(C)Ljava/lang/String;"⟩ : MethodName)) hown9 (mvT hZ9 (hw _ (own_mi 44 rfl))) (mvT hZ9 (hw _ (own_mi 45 rfl))) (mvT hZ9 (hw _ (own_mi 4 rfl))) (mvT hZ9 (hw _ (own_mi 46 rfl))) (by decide) (backOf (W := 0) (rmVal l Z a0 hw [] (wc) (G1) T9.heap n0 Zn18 (rwc) (O2) (P5) F19) hZ9 (hw _ (own_mi 46 rfl)) (hw _ (own_mi 4 rfl)) (by decide) (by decide)) (g := (mkF m 283 #[.val (.long l0), .second, .val (.int i1), .val (.int i2), .val (.int i3), .val (.int (0 : Int32)), .val (.int c0), .val (.int c1), .val (.int c2), .val (.int c3), .val (.ref b1), .val (.int (0 : Int32)), .val (.int bd), .unset, .unset] [(.int wc)])) rfl (by rw [hml]; rfl) (argsL := [(.int wc)]) (rest := []) (lenOf own_pd_28C29Ljava2flang2fString3b rfl) rfl (by show 2 * 0 + _ ≤ _; exact Nat.le_of_eq rfl) (hb hby at_283) (fun _ _ => ⟨rfl, eh17, (by decide : 6 + 2 ≤ _), (by decide : 12 + 5 ≤ _)⟩)
    dsimp only [Pt.U, Pt.locs, Pt.cells, Pt.slots] at X18 l18 y18 z18 st18 hQ18
    subst l18 y18 z18
    obtain ⟨xw, tw, kw, rfl, Nq18, Kq18, G0_18, G1_18, G2_18, G3_18, G4_18, G5_18, G6_18, G7_18⟩ := hQ18
    have N18 := Fr.app N17 Nq18
    have sz20 : T9.heap.size ≤ T18.heap.size := Kq18.1
    have cr20 : CHr Z consts_1 T9.vm T9.heap T9.vm T18.heap := CHr.keep Kq18 sf0 CR15.1
    have CR20 := CR15.trans cr20
    have sf21 : Safe Z consts_1 T9.vm T18.heap xw := Safe.keep Kq18 sf0 CR15.1 (Safe.new (by omega))
    have sf22 : Safe Z consts_1 T9.vm T18.heap tw := Safe.keep Kq18 sf0 CR15.1 (Safe.new (by omega))
    have lt23 : @LT.lt Nat _ xw T18.heap.size := G4_18.lt
    have lt24 : @LT.lt Nat _ tw T18.heap.size := G7_18.lt
    refine own_go st18 ?_
    show own_Rn p e below _ (T18.setTop (mkF m 286 #[.val (.long l0), .second, .val (.int i1), .val (.int i2), .val (.int i3), .val (.int (0 : Int32)), .val (.int c0), .val (.int c1), .val (.int c2), .val (.int c3), .val (.ref b1), .val (.int (0 : Int32)), .val (.int bd), .unset, .unset] [(.ref xw)]))
    refine own_go (fun tq kq => XS.astore X18.here hx rfl (hb hby at_286) rfl rfl (l' := #[.val (.long l0), .second, .val (.int i1), .val (.int i2), .val (.int i3), .val (.int (0 : Int32)), .val (.int c0), .val (.int c1), .val (.int c2), .val (.int c3), .val (.ref b1), .val (.int (0 : Int32)), .val (.int bd), .val (.ref xw), .unset]) rfl kq) ?_
    show own_Rn p e below _ (T18.setTop (mkF m 288 #[.val (.long l0), .second, .val (.int i1), .val (.int i2), .val (.int i3), .val (.int (0 : Int32)), .val (.int c0), .val (.int c1), .val (.int c2), .val (.int c3), .val (.ref b1), .val (.int (0 : Int32)), .val (.int bd), .val (.ref xw), .unset] []))
    refine own_go (fun tq kq => XS.aload X18.here hx rfl (hb hby at_288) rfl rfl kq) ?_
    show own_Rn p e below _ (T18.setTop (mkF m 290 #[.val (.long l0), .second, .val (.int i1), .val (.int i2), .val (.int i3), .val (.int (0 : Int32)), .val (.int c0), .val (.int c1), .val (.int c2), .val (.int c3), .val (.ref b1), .val (.int (0 : Int32)), .val (.int bd), .val (.ref xw), .unset] [(.ref xw)]))
    refine own_go (fun tq kq => XS.iload X18.here hx rfl (hb hby at_290) rfl kq) ?_
    show own_Rn p e below _ (T18.setTop (mkF m 292 #[.val (.long l0), .second, .val (.int i1), .val (.int i2), .val (.int i3), .val (.int (0 : Int32)), .val (.int c0), .val (.int c1), .val (.int c2), .val (.int c3), .val (.ref b1), .val (.int (0 : Int32)), .val (.int bd), .val (.ref xw), .unset] [(.int bd), (.ref xw)]))
    refine own_go (fun tq kq => XS.aload X18.here hx rfl (hb hby at_292) rfl rfl kq) ?_
    show own_Rn p e below _ (T18.setTop (mkF m 294 #[.val (.long l0), .second, .val (.int i1), .val (.int i2), .val (.int i3), .val (.int (0 : Int32)), .val (.int c0), .val (.int c1), .val (.int c2), .val (.int c3), .val (.ref b1), .val (.int (0 : Int32)), .val (.int bd), .val (.ref xw), .unset] [(.ref b1), (.int bd), (.ref xw)]))
    have hcp : own_cp ([] : List Int32) = 0 := rfl
    have hmx : ¬ bd < Int32.ofNat (own_cp ([] : List Int32)) := by rw [hcp]; have h := R_17; rwa [show (0 : Int32) = Int32.ofNat 0 by decide] at h
    have Zn25 : n0 ≤ T18.heap.size := by omega
    have F26 : Exa Z T18.heap b1 "java/lang/String" := ((F10.keep Kq9).keep Kq18)
    have F27 : Fld Z T18.heap b1 "java/lang/String" "value" "[B" (.ref tt) := (G0_9.keep Kq18 nin0)
    have F28 : Fld Z T18.heap b1 "java/lang/String" "coder" "B" (.int (0 : Int32)) := (G1_9.keep Kq18 nin0)
    have F29 : Arv Z T18.heap tt kk .byte (0 : Int32) ((([] : List Int32).map (fun c => c.toInt8.toInt32)).map Value.int) (.int 0) := (G2_9.keep Kq18 nin0)
    have F30 : Old Z n0 T18.heap := (F19.keep Kq18 all0)
    obtain ⟨rv25, _, ⟨T25, L25, k25, n25⟩, -, X25, ⟨Lc25, hQ25, l25, y25, z25⟩, st25⟩ := Jvm.LawKit.callS X18 hx (y := (⟨"com/example/cellwise/cellwise/Checks", "atMost", "(Ljava/lang/String;ILjava/lang/String;)Ljava/lang/String;"⟩ : MethodName)) hown9 (mvT hZ9 (hw _ (own_mi 58 rfl))) (mvT hZ9 (hw _ (own_mi 59 rfl))) (mvT hZ9 (hw _ (own_mi 60 rfl))) (mvT hZ9 (hw _ (own_mi 61 rfl))) (by decide) (backOf (W := 0) (rmAM l Z a0 hw [] (xw) (bd) (b1) (tt) (kk) ((0 : Int32)) ((own_bs ([] : List Int32))) ((0 : Int32)) (([] : List Int32)) (G1) T18.heap n0 Zn25 F26 F27 F28 F29 (RL) (by simp) (hr) (hmx) (OAD) (OHI) (OLO) (O2) (P5) F30) hZ9 (hw _ (own_mi 61 rfl)) (hw _ (own_mi 60 rfl)) (by decide) (by decide)) (g := (mkF m 294 #[.val (.long l0), .second, .val (.int i1), .val (.int i2), .val (.int i3), .val (.int (0 : Int32)), .val (.int c0), .val (.int c1), .val (.int c2), .val (.int c3), .val (.ref b1), .val (.int (0 : Int32)), .val (.int bd), .val (.ref xw), .unset] [(.ref b1), (.int bd), (.ref xw)])) rfl (by rw [hml]; rfl) (argsL := [(.ref xw), (.int bd), (.ref b1)]) (rest := []) (lenOf own_pd_28Ljava2flang2fString3bILjava2flang2fString3b29Ljava2flang2fString3b rfl) rfl (by show 2 * 0 + _ ≤ _; exact Nat.le_of_eq rfl) (hb hby at_294) (fun _ _ => ⟨rfl, rfl, (by decide : 8 + 0 ≤ _), (by decide : 17 + 0 ≤ _)⟩)
    dsimp only [Pt.U, Pt.locs, Pt.cells, Pt.slots] at X25 l25 y25 z25 st25 hQ25
    subst l25 y25 z25
    obtain ⟨rfl, Nq25, eh25⟩ := hQ25
    have N25 := Fr.app N18 Nq25
    refine own_go st25 ?_
    show own_Rn p e below _ (T25.setTop (mkF m 297 #[.val (.long l0), .second, .val (.int i1), .val (.int i2), .val (.int i3), .val (.int (0 : Int32)), .val (.int c0), .val (.int c1), .val (.int c2), .val (.int c3), .val (.ref b1), .val (.int (0 : Int32)), .val (.int bd), .val (.ref xw), .unset] [(.ref b1)]))
    refine own_go (fun tq kq => XS.astore X25.here hx rfl (hb hby at_297) rfl rfl (l' := #[.val (.long l0), .second, .val (.int i1), .val (.int i2), .val (.int i3), .val (.int (0 : Int32)), .val (.int c0), .val (.int c1), .val (.int c2), .val (.int c3), .val (.ref b1), .val (.int (0 : Int32)), .val (.int bd), .val (.ref xw), .val (.ref b1)]) rfl kq) ?_
    show own_Rn p e below _ (T25.setTop (mkF m 299 #[.val (.long l0), .second, .val (.int i1), .val (.int i2), .val (.int i3), .val (.int (0 : Int32)), .val (.int c0), .val (.int c1), .val (.int c2), .val (.int c3), .val (.ref b1), .val (.int (0 : Int32)), .val (.int bd), .val (.ref xw), .val (.ref b1)] []))
    refine own_go (fun tq kq => XS.aload X25.here hx rfl (hb hby at_299) rfl rfl kq) ?_
    show own_Rn p e below _ (T25.setTop (mkF m 301 #[.val (.long l0), .second, .val (.int i1), .val (.int i2), .val (.int i3), .val (.int (0 : Int32)), .val (.int c0), .val (.int c1), .val (.int c2), .val (.int c3), .val (.ref b1), .val (.int (0 : Int32)), .val (.int bd), .val (.ref xw), .val (.ref b1)] [(.ref b1)]))
    refine own_go (fun tq kq => XS.ifnullNo X25.here hx rfl (hb hby at_301) rfl kq) ?_
    show own_Rn p e below _ (T25.setTop (mkF m 304 #[.val (.long l0), .second, .val (.int i1), .val (.int i2), .val (.int i3), .val (.int (0 : Int32)), .val (.int c0), .val (.int c1), .val (.int c2), .val (.int c3), .val (.ref b1), .val (.int (0 : Int32)), .val (.int bd), .val (.ref xw), .val (.ref b1)] []))
    refine own_go (fun tq kq => XS.aload X25.here hx rfl (hb hby at_304) rfl rfl kq) ?_
    show own_Rn p e below _ (T25.setTop (mkF m 306 #[.val (.long l0), .second, .val (.int i1), .val (.int i2), .val (.int i3), .val (.int (0 : Int32)), .val (.int c0), .val (.int c1), .val (.int c2), .val (.int c3), .val (.ref b1), .val (.int (0 : Int32)), .val (.int bd), .val (.ref xw), .val (.ref b1)] [(.ref b1)]))
    refine own_go (fun tq kq => XS.aload X25.here hx rfl (hb hby at_306) rfl rfl kq) ?_
    show own_Rn p e below _ (T25.setTop (mkF m 308 #[.val (.long l0), .second, .val (.int i1), .val (.int i2), .val (.int i3), .val (.int (0 : Int32)), .val (.int c0), .val (.int c1), .val (.int c2), .val (.int c3), .val (.ref b1), .val (.int (0 : Int32)), .val (.int bd), .val (.ref xw), .val (.ref b1)] [(.ref b1), (.ref b1)]))
    have Zn31 : n0 ≤ T18.heap.size := by omega
    obtain ⟨cq31, kq31, qa31, qb31, qc31⟩ := isOf hZ9 eh25 F26
    obtain ⟨rv31, _, ⟨T31, L31, k31, n31⟩, -, X31, ⟨Lc31, hQ31, l31, y31, z31⟩, st31⟩ := X25.virtualBack hx (y := (⟨"java/lang/String", "equals", "(Ljava/lang/Object;)Z"⟩ : MethodName)) (z := (⟨"java/lang/String", "equals", "(Ljava/lang/Object;)Z"⟩ : MethodName)) hown9 (mvT hZ9 (hw _ (own_mi 91 rfl))) (mvT hZ9 (hw _ (own_mi 92 rfl))) (notFace_of_selects (args := #[]) (mvT hZ9 (hw _ (own_mi 94 rfl)))) (mvT hZ9 (hw _ (own_mi 94 rfl))) (mvT hZ9 (hw _ (own_mi 93 rfl))) (by decide) (backOf (W := 0) (rmEqS l Z a0 hw [] (b1) T18.heap n0 Zn31 ) hZ9 (hw _ (own_mi 95 rfl)) (hw _ (own_mi 4 rfl)) (by decide) (by decide)) qa31 qc31 (g := (mkF m 308 #[.val (.long l0), .second, .val (.int i1), .val (.int i2), .val (.int i3), .val (.int (0 : Int32)), .val (.int c0), .val (.int c1), .val (.int c2), .val (.int c3), .val (.ref b1), .val (.int (0 : Int32)), .val (.int bd), .val (.ref xw), .val (.ref b1)] [(.ref b1), (.ref b1)])) rfl (by rw [hml]; rfl) (Steps.refl _) (argsL := [(.ref b1)]) (rest := []) (lenOf own_pd_28Ljava2flang2fObject3b29Z rfl) rfl (by show 2 * 0 + _ ≤ _; exact Nat.le_of_eq rfl) (hb hby at_308) (fun _ _ => ⟨rfl, eh25, (by decide : 8 + 0 ≤ _), (by decide : 17 + 0 ≤ _)⟩)
    dsimp only [Pt.U, Pt.locs, Pt.cells, Pt.slots] at X31 l31 y31 z31 st31 hQ31
    subst l31 y31 z31
    obtain ⟨rfl, Nq31, eh31⟩ := hQ31
    have N31 := Fr.app N25 Nq31
    refine own_go (fun tq kq => st31.trans kq) ?_
    show own_Rn p e below _ (T31.setTop (mkF m 311 #[.val (.long l0), .second, .val (.int i1), .val (.int i2), .val (.int i3), .val (.int (0 : Int32)), .val (.int c0), .val (.int c1), .val (.int c2), .val (.int c3), .val (.ref b1), .val (.int (0 : Int32)), .val (.int bd), .val (.ref xw), .val (.ref b1)] [(.int (1 : Int32))]))
    refine own_go (fun tq kq => XS.ifNo X31.here hx rfl (hb hby at_311) rfl ((if0 _ _).trans (feq ((by decide : ¬ ((1 : Int32) = (0 : Int32))) : ¬ ((1 : Int32) = (0 : Int32)))).1) kq) ?_
    show own_Rn p e below _ (T31.setTop (mkF m 314 #[.val (.long l0), .second, .val (.int i1), .val (.int i2), .val (.int i3), .val (.int (0 : Int32)), .val (.int c0), .val (.int c1), .val (.int c2), .val (.int c3), .val (.ref b1), .val (.int (0 : Int32)), .val (.int bd), .val (.ref xw), .val (.ref b1)] []))
    refine own_go (fun tq kq => XS.iconst X31.here hx rfl (hb hby at_314) kq) ?_
    show own_Rn p e below _ (T31.setTop (mkF m 315 #[.val (.long l0), .second, .val (.int i1), .val (.int i2), .val (.int i3), .val (.int (0 : Int32)), .val (.int c0), .val (.int c1), .val (.int c2), .val (.int c3), .val (.ref b1), .val (.int (0 : Int32)), .val (.int bd), .val (.ref xw), .val (.ref b1)] [(.int (1 : Int32))]))
    refine own_go (fun tq kq => XS.goto X31.here hx rfl (pc0 := 315) (pc' := 319) rfl (hb hby at_315) (by decide) (by decide) kq) ?_
    show own_Rn p e below _ (T31.setTop (mkF m 319 #[.val (.long l0), .second, .val (.int i1), .val (.int i2), .val (.int i3), .val (.int (0 : Int32)), .val (.int c0), .val (.int c1), .val (.int c2), .val (.int c3), .val (.ref b1), .val (.int (0 : Int32)), .val (.int bd), .val (.ref xw), .val (.ref b1)] [(.int (1 : Int32))]))
    exact own_retS X31 hSr9 (by rw [eh31]; omega) (v := some (.int (nar .boolean (1 : Int32)))) (fun h => by rw [Bd.returns] at h; cases h) (fun fs hr => retN X31 hx (t := .boolean) Bd.returns (by simp) (hb hby at_319) hr) (by rw [eh31]; exact ⟨rfl, N31⟩) (by rw [hh, eh31]; exact CR20.trans (CHv.at X31 hZ9 hEL CR20.1)) (by decide) (by decide)
  · skip
    show own_Rn p e below _ (s₁.setTop (mkF m 53 #[.val (.long l0), .second, .val (.int i1), .val (.int i2), .val (.int i3), .val (.int (1 : Int32)), .val (.int c0), .val (.int c1), .val (.int c2), .val (.int c3), .unset, .unset, .unset, .unset, .unset] []))
    refine own_go (fun tq kq => XS.iload X0.here hx rfl (hb hby at_53) rfl kq) ?_
    show own_Rn p e below _ (s₁.setTop (mkF m 55 #[.val (.long l0), .second, .val (.int i1), .val (.int i2), .val (.int i3), .val (.int (1 : Int32)), .val (.int c0), .val (.int c1), .val (.int c2), .val (.int c3), .unset, .unset, .unset, .unset, .unset] [(.int (1 : Int32))]))
    have hr : ∀ c ∈ ([c0] : List Int32), ¬ c < 0 ∧ ¬ (65535 : Int32) < c := by
      intro c hc
      simp only [List.mem_cons, List.not_mem_nil, or_false] at hc
      subst hc
      · exact rc0
    refine own_go (fun tq kq => XS.ifYes X0.here hx rfl (pc0 := 55) (pc' := 73) rfl (hb hby at_55) rfl ((if0 _ _).trans (feq (by decide : ¬ ((1 : Int32) = (0 : Int32)))).2) (by decide) (by decide) kq) ?_
    show own_Rn p e below _ (s₁.setTop (mkF m 73 #[.val (.long l0), .second, .val (.int i1), .val (.int i2), .val (.int i3), .val (.int (1 : Int32)), .val (.int c0), .val (.int c1), .val (.int c2), .val (.int c3), .unset, .unset, .unset, .unset, .unset] []))
    refine own_go (fun tq kq => XS.iload X0.here hx rfl (hb hby at_73) rfl kq) ?_
    show own_Rn p e below _ (s₁.setTop (mkF m 75 #[.val (.long l0), .second, .val (.int i1), .val (.int i2), .val (.int i3), .val (.int (1 : Int32)), .val (.int c0), .val (.int c1), .val (.int c2), .val (.int c3), .unset, .unset, .unset, .unset, .unset] [(.int (1 : Int32))]))
    refine own_go (fun tq kq => XS.iconst X0.here hx rfl (hb hby at_75) kq) ?_
    show own_Rn p e below _ (s₁.setTop (mkF m 76 #[.val (.long l0), .second, .val (.int i1), .val (.int i2), .val (.int i3), .val (.int (1 : Int32)), .val (.int c0), .val (.int c1), .val (.int c2), .val (.int c3), .unset, .unset, .unset, .unset, .unset] [(.int (1 : Int32)), (.int (1 : Int32))]))
    refine own_go (fun tq kq => XS.icmpNo X0.here hx rfl (hb hby at_76) rfl (teq (by decide : (1 : Int32) = (1 : Int32))).2 kq) ?_
    show own_Rn p e below _ (s₁.setTop (mkF m 79 #[.val (.long l0), .second, .val (.int i1), .val (.int i2), .val (.int i3), .val (.int (1 : Int32)), .val (.int c0), .val (.int c1), .val (.int c2), .val (.int c3), .unset, .unset, .unset, .unset, .unset] []))
    obtain ⟨T32, h32, X32, e32, E32, A32, D32, -, st32⟩ := newO X0 hx hZ hown (hw _ (own_mi 2 rfl)) (hw _ (own_mi 3 rfl)) (hw _ (own_mi 4 rfl)) e0 (g := (mkF m 79 #[.val (.long l0), .second, .val (.int i1), .val (.int i2), .val (.int i3), .val (.int (1 : Int32)), .val (.int c0), .val (.int c1), .val (.int c2), .val (.int c3), .unset, .unset, .unset, .unset, .unset] [])) rfl (hb hby at_79) (by decide) (by decide)
    obtain ⟨b32, g32⟩ : ∃ z, z = h0.size := ⟨_, rfl⟩
    rw [← g32] at A32 D32 st32
    refine own_go st32 ?_
    have sz33 : h0.size ≤ h32.size := E32.1
    have cr33 : CHr Z consts_1 s.vm h0 s.vm h32 := CHr.ext E32 CR0.1
    have CR33 := CR0.trans cr33
    have sf34 : Safe Z consts_1 s.vm h32 b32 := Safe.ext E32 CR0.1 (Safe.new (by omega))
    have lt35 : @LT.lt Nat _ b32 h32.size := A32.lt
    have gn32 : n0 ≤ b32 := by omega
    have D32_coder : Fld Z h32 b32 "java/lang/String" "coder" "B" (.int (0 : Int32)) := D32 (Or.inr (hw _ (own_mi 29 rfl))) (ty := .byte) own_fd_B
    have D32_value : Fld Z h32 b32 "java/lang/String" "value" "[B" .null := D32 (Or.inr (hw _ (own_mi 31 rfl))) (ty := (.array .byte)) own_fd_5bB
    show own_Rn p e below _ (T32.setTop (mkF m 82 #[.val (.long l0), .second, .val (.int i1), .val (.int i2), .val (.int i3), .val (.int (1 : Int32)), .val (.int c0), .val (.int c1), .val (.int c2), .val (.int c3), .unset, .unset, .unset, .unset, .unset] [(.ref b32)]))
    refine own_go (fun tq kq => XS.dup X32.here hx rfl (hb hby at_82) rfl rfl kq) ?_
    show own_Rn p e below _ (T32.setTop (mkF m 83 #[.val (.long l0), .second, .val (.int i1), .val (.int i2), .val (.int i3), .val (.int (1 : Int32)), .val (.int c0), .val (.int c1), .val (.int c2), .val (.int c3), .unset, .unset, .unset, .unset, .unset] [(.ref b32), (.ref b32)]))
    refine own_go (fun tq kq => XS.iconst X32.here hx rfl (hb hby at_83) kq) ?_
    show own_Rn p e below _ (T32.setTop (mkF m 84 #[.val (.long l0), .second, .val (.int i1), .val (.int i2), .val (.int i3), .val (.int (1 : Int32)), .val (.int c0), .val (.int c1), .val (.int c2), .val (.int c3), .unset, .unset, .unset, .unset, .unset] [(.int (1 : Int32)), (.ref b32), (.ref b32)]))
    obtain ⟨T37, h37, k37, X37, e37, E37, A37, st37⟩ := newP X32 hx hZ (hw _ (own_mi 5 rfl)) e32 (g := (mkF m 84 #[.val (.long l0), .second, .val (.int i1), .val (.int i2), .val (.int i3), .val (.int (1 : Int32)), .val (.int c0), .val (.int c1), .val (.int c2), .val (.int c3), .unset, .unset, .unset, .unset, .unset] [(.int (1 : Int32)), (.ref b32), (.ref b32)])) rfl (hb hby at_84) rfl (by decide) (cap := 1) (by decide) (by decide) (by decide) (by decide)
    obtain ⟨b37, g37⟩ : ∃ z, z = h32.size := ⟨_, rfl⟩
    rw [← g37] at A37 st37
    refine own_go st37 ?_
    have sz38 : h32.size ≤ h37.size := E37.1
    have cr38 : CHr Z consts_1 s.vm h32 s.vm h37 := CHr.ext E37 CR33.1
    have CR38 := CR33.trans cr38
    have gn37 : n0 ≤ b37 := by omega
    have V37 : Arv Z h37 b37 k37 .char (1 : Int32) [(.int (0 : Int32))] (.int (0 : Int32)) := (Arv.new A37 (by decide)).pad (pad_rep [] _ 1)
    have lt39 : @LT.lt Nat _ b37 h37.size := V37.lt
    show own_Rn p e below _ (T37.setTop (mkF m 86 #[.val (.long l0), .second, .val (.int i1), .val (.int i2), .val (.int i3), .val (.int (1 : Int32)), .val (.int c0), .val (.int c1), .val (.int c2), .val (.int c3), .unset, .unset, .unset, .unset, .unset] [(.ref b37), (.ref b32), (.ref b32)]))
    refine own_go (fun tq kq => XS.dup X37.here hx rfl (hb hby at_86) rfl rfl kq) ?_
    show own_Rn p e below _ (T37.setTop (mkF m 87 #[.val (.long l0), .second, .val (.int i1), .val (.int i2), .val (.int i3), .val (.int (1 : Int32)), .val (.int c0), .val (.int c1), .val (.int c2), .val (.int c3), .unset, .unset, .unset, .unset, .unset] [(.ref b37), (.ref b37), (.ref b32), (.ref b32)]))
    refine own_go (fun tq kq => XS.iconst X37.here hx rfl (hb hby at_87) kq) ?_
    show own_Rn p e below _ (T37.setTop (mkF m 88 #[.val (.long l0), .second, .val (.int i1), .val (.int i2), .val (.int i3), .val (.int (1 : Int32)), .val (.int c0), .val (.int c1), .val (.int c2), .val (.int c3), .unset, .unset, .unset, .unset, .unset] [(.int (0 : Int32)), (.ref b37), (.ref b37), (.ref b32), (.ref b32)]))
    refine own_go (fun tq kq => XS.iload X37.here hx rfl (hb hby at_88) rfl kq) ?_
    show own_Rn p e below _ (T37.setTop (mkF m 90 #[.val (.long l0), .second, .val (.int i1), .val (.int i2), .val (.int i3), .val (.int (1 : Int32)), .val (.int c0), .val (.int c1), .val (.int c2), .val (.int c3), .unset, .unset, .unset, .unset, .unset] [(.int c0), (.int (0 : Int32)), (.ref b37), (.ref b37), (.ref b32), (.ref b32)]))
    obtain ⟨cl40, Ar40, q40, Sz40, Nn40, Hs40, G40⟩ := id V37
    obtain ⟨T40, h40, X40, e40, W40, st40⟩ := stC X37 hx hZ e37 Ar40 (j := (0 : Int32)) (inb_of Sz40 ⟨by decide, by decide⟩) (g := (mkF m 90 #[.val (.long l0), .second, .val (.int i1), .val (.int i2), .val (.int i3), .val (.int (1 : Int32)), .val (.int c0), .val (.int c1), .val (.int c2), .val (.int c3), .unset, .unset, .unset, .unset, .unset] [(.int c0), (.int (0 : Int32)), (.ref b37), (.ref b37), (.ref b32), (.ref b32)])) rfl rfl (hb hby at_90)
    rw [nc0] at W40
    refine own_go st40 ?_
    have V40 : Arv Z h40 b37 k37 .char (1 : Int32) [(.int c0)] (.int (0 : Int32)) := Arv.set Ar40 q40 Sz40 Nn40 Hs40 G40 (by rw [← nc0]; exact fits_nar_char _) W40 0 rfl (Nat.le_of_ble_eq_true rfl)
    have N40 := Fr.snoc X40 N0 gn37
    have sf41 : Safe Z consts_1 s.vm h37 b37 := Safe.arv hZ.alike V37 (by decide)
    have sz42 : h37.size ≤ h40.size := Nat.le_of_eq (Wr.size W40).symm
    have cr42 : CHr Z consts_1 s.vm h37 s.vm h40 := CHr.wr W40 sf41 CR38.1
    have CR42 := CR38.trans cr42
    show own_Rn p e below _ (T40.setTop (mkF m 91 #[.val (.long l0), .second, .val (.int i1), .val (.int i2), .val (.int i3), .val (.int (1 : Int32)), .val (.int c0), .val (.int c1), .val (.int c2), .val (.int c3), .unset, .unset, .unset, .unset, .unset] [(.ref b37), (.ref b32), (.ref b32)]))
    have Zn43 : n0 ≤ h40.size := by omega
    have F44 : Exa Z h40 b32 "java/lang/String" := ((A32.ext E37).wr W40)
    have ne45 : b32 ≠ b37 := own_nea (by omega)
    have F46 : Fld Z h40 b32 "java/lang/String" "value" "[B" .null := ((D32_value.ext E37).other W40 (Or.inl ne45))
    have F47 : Fld Z h40 b32 "java/lang/String" "coder" "B" (.int (0 : Int32)) := ((D32_coder.ext E37).other W40 (Or.inl ne45))
    have F48 : Old Z n0 h40 := (((X00.ext E32).ext E37).wr W40 gn37)
    obtain ⟨rv43, _, ⟨T43, L43, k43, n43⟩, -, X43, ⟨Lc43, hQ43, l43, y43, z43⟩, st43⟩ := X40.specialBack hx (y := (⟨"java/lang/String", "<init>", "([C)V"⟩ : MethodName)) rfl hown (mvT hZ (hw _ (own_mi 6 rfl))) (mvT hZ (hw _ (own_mi 7 rfl))) (mvT hZ (hw _ (own_mi 8 rfl))) (by decide) (backOf (W := 1) (rmI1 l Z a0 hw [] (b32) (b37) (k37) (([c0] : List Int32)) ((.int (0 : Int32))) (G1) h40 n0 Zn43 F44 F46 F47 gn32 V40 (by simp) (by simp) (hr) (OAD) (OHI) (OLO) (O2) (P5) F48) hZ (hw _ (own_mi 8 rfl)) (hw _ (own_mi 4 rfl)) (by decide) (by decide)) (g := (mkF m 91 #[.val (.long l0), .second, .val (.int i1), .val (.int i2), .val (.int i3), .val (.int (1 : Int32)), .val (.int c0), .val (.int c1), .val (.int c2), .val (.int c3), .unset, .unset, .unset, .unset, .unset] [(.ref b37), (.ref b32), (.ref b32)])) rfl (by rw [hml]; rfl) (Steps.refl _) (a := b32) (argsL := [(.ref b37)]) (rest := [(.ref b32)]) (lenOf own_pd_285bC29V rfl) rfl (by show 2 * 0 + _ ≤ _; exact Nat.le_of_eq rfl) (hb hby at_91) (fun _ _ => ⟨rfl, e40, (by decide : 2 + 2 ≤ _), (by decide : 5 + 12 ≤ _)⟩)
    dsimp only [Pt.U, Pt.locs, Pt.cells, Pt.slots] at X43 l43 y43 z43 st43 hQ43
    subst l43 y43 z43
    obtain ⟨tt, kk, NN, vv, cd, rfl, Nq43, Kq43, G0_43, G1_43, G2_43, G3_43, G4_43, RL_43⟩ := hQ43
    have N43 := Fr.app N40 Nq43
    have sf50 : Safe Z consts_1 s.vm h40 b32 := (CHr.safe cr42 (show @LT.lt Nat _ _ _ by omega) (CHr.safe cr38 (show @LT.lt Nat _ _ _ by omega) sf34))
    have sz51 : h40.size ≤ T43.heap.size := Kq43.1
    have cr51 : CHr Z consts_1 s.vm h40 s.vm T43.heap := CHr.keep Kq43 (sfS sf50 sf0) CR42.1
    have CR51 := CR42.trans cr51
    have sf52 : Safe Z consts_1 s.vm T43.heap tt := Safe.keep Kq43 (sfS sf50 sf0) CR42.1 (Safe.new (by omega))
    have lt53 : @LT.lt Nat _ tt T43.heap.size := G4_43.lt
    refine own_go (fun tq kq => st43.trans kq) ?_
    show own_Rn p e below _ (T43.setTop (mkF m 94 #[.val (.long l0), .second, .val (.int i1), .val (.int i2), .val (.int i3), .val (.int (1 : Int32)), .val (.int c0), .val (.int c1), .val (.int c2), .val (.int c3), .unset, .unset, .unset, .unset, .unset] [(.ref b32)]))
    have RL : (cd = 0 ∧ NN = Int32.ofNat ([c0] : List Int32).length ∧ vv = own_bs ([c0] : List Int32) ∧ ∀ c ∈ ([c0] : List Int32), ¬ (255 : Int32) < c) ∨ (cd = 1 ∧ NN = Int32.ofNat (2 * ([c0] : List Int32).length) ∧ vv = own_u16 ([c0] : List Int32) ∧ 0 < ([c0] : List Int32).length) := by rcases RL_43 with h | ⟨h1, h2, h3⟩; exact Or.inl h; exact Or.inr ⟨h1, h2, h3, by simp⟩
    refine own_go (fun tq kq => XS.astore X43.here hx rfl (hb hby at_94) rfl rfl (l' := #[.val (.long l0), .second, .val (.int i1), .val (.int i2), .val (.int i3), .val (.int (1 : Int32)), .val (.int c0), .val (.int c1), .val (.int c2), .val (.int c3), .val (.ref b32), .unset, .unset, .unset, .unset]) rfl kq) ?_
    show own_Rn p e below _ (T43.setTop (mkF m 96 #[.val (.long l0), .second, .val (.int i1), .val (.int i2), .val (.int i3), .val (.int (1 : Int32)), .val (.int c0), .val (.int c1), .val (.int c2), .val (.int c3), .val (.ref b32), .unset, .unset, .unset, .unset] []))
    refine own_go (fun tq kq => XS.goto X43.here hx rfl (pc0 := 96) (pc' := 198) rfl (hb hby at_96) (by decide) (by decide) kq) ?_
    show own_Rn p e below _ (T43.setTop (mkF m 198 #[.val (.long l0), .second, .val (.int i1), .val (.int i2), .val (.int i3), .val (.int (1 : Int32)), .val (.int c0), .val (.int c1), .val (.int c2), .val (.int c3), .val (.ref b32), .unset, .unset, .unset, .unset] []))
    refine own_go (fun tq kq => XS.iload X43.here hx rfl (hb hby at_198) rfl kq) ?_
    show own_Rn p e below _ (T43.setTop (mkF m 200 #[.val (.long l0), .second, .val (.int i1), .val (.int i2), .val (.int i3), .val (.int (1 : Int32)), .val (.int c0), .val (.int c1), .val (.int c2), .val (.int c3), .val (.ref b32), .unset, .unset, .unset, .unset] [(.int (1 : Int32))]))
    refine own_go (fun tq kq => XS.istore X43.here hx rfl (hb hby at_200) rfl (l' := #[.val (.long l0), .second, .val (.int i1), .val (.int i2), .val (.int i3), .val (.int (1 : Int32)), .val (.int c0), .val (.int c1), .val (.int c2), .val (.int c3), .val (.ref b32), .val (.int (1 : Int32)), .unset, .unset, .unset]) rfl kq) ?_
    show own_Rn p e below _ (T43.setTop (mkF m 202 #[.val (.long l0), .second, .val (.int i1), .val (.int i2), .val (.int i3), .val (.int (1 : Int32)), .val (.int c0), .val (.int c1), .val (.int c2), .val (.int c3), .val (.ref b32), .val (.int (1 : Int32)), .unset, .unset, .unset] []))
    refine own_go (fun tq kq => XS.iload X43.here hx rfl (hb hby at_202) rfl kq) ?_
    show own_Rn p e below _ (T43.setTop (mkF m 204 #[.val (.long l0), .second, .val (.int i1), .val (.int i2), .val (.int i3), .val (.int (1 : Int32)), .val (.int c0), .val (.int c1), .val (.int c2), .val (.int c3), .val (.ref b32), .val (.int (1 : Int32)), .unset, .unset, .unset] [(.int (1 : Int32))]))
    refine own_go (fun tq kq => XS.iconst X43.here hx rfl (hb hby at_204) kq) ?_
    show own_Rn p e below _ (T43.setTop (mkF m 205 #[.val (.long l0), .second, .val (.int i1), .val (.int i2), .val (.int i3), .val (.int (1 : Int32)), .val (.int c0), .val (.int c1), .val (.int c2), .val (.int c3), .val (.ref b32), .val (.int (1 : Int32)), .unset, .unset, .unset] [(.int (2 : Int32)), (.int (1 : Int32))]))
    refine own_go (fun tq kq => XS.icmpYes X43.here hx rfl (pc0 := 205) (pc' := 224) rfl (hb hby at_205) rfl (tlt (by decide : (1 : Int32) < (2 : Int32))).1 (by decide) (by decide) kq) ?_
    show own_Rn p e below _ (T43.setTop (mkF m 224 #[.val (.long l0), .second, .val (.int i1), .val (.int i2), .val (.int i3), .val (.int (1 : Int32)), .val (.int c0), .val (.int c1), .val (.int c2), .val (.int c3), .val (.ref b32), .val (.int (1 : Int32)), .unset, .unset, .unset] []))
    refine own_go (fun tq kq => XS.iload X43.here hx rfl (hb hby at_224) rfl kq) ?_
    show own_Rn p e below _ (T43.setTop (mkF m 226 #[.val (.long l0), .second, .val (.int i1), .val (.int i2), .val (.int i3), .val (.int (1 : Int32)), .val (.int c0), .val (.int c1), .val (.int c2), .val (.int c3), .val (.ref b32), .val (.int (1 : Int32)), .unset, .unset, .unset] [(.int (1 : Int32))]))
    refine own_go (fun tq kq => XS.iconst X43.here hx rfl (hb hby at_226) kq) ?_
    show own_Rn p e below _ (T43.setTop (mkF m 227 #[.val (.long l0), .second, .val (.int i1), .val (.int i2), .val (.int i3), .val (.int (1 : Int32)), .val (.int c0), .val (.int c1), .val (.int c2), .val (.int c3), .val (.ref b32), .val (.int (1 : Int32)), .unset, .unset, .unset] [(.int (3 : Int32)), (.int (1 : Int32))]))
    refine own_go (fun tq kq => XS.icmpYes X43.here hx rfl (pc0 := 227) (pc' := 246) rfl (hb hby at_227) rfl (tlt (by decide : (1 : Int32) < (3 : Int32))).1 (by decide) (by decide) kq) ?_
    show own_Rn p e below _ (T43.setTop (mkF m 246 #[.val (.long l0), .second, .val (.int i1), .val (.int i2), .val (.int i3), .val (.int (1 : Int32)), .val (.int c0), .val (.int c1), .val (.int c2), .val (.int c3), .val (.ref b32), .val (.int (1 : Int32)), .unset, .unset, .unset] []))
    refine own_go (fun tq kq => XS.iload X43.here hx rfl (hb hby at_246) rfl kq) ?_
    show own_Rn p e below _ (T43.setTop (mkF m 248 #[.val (.long l0), .second, .val (.int i1), .val (.int i2), .val (.int i3), .val (.int (1 : Int32)), .val (.int c0), .val (.int c1), .val (.int c2), .val (.int c3), .val (.ref b32), .val (.int (1 : Int32)), .unset, .unset, .unset] [(.int (1 : Int32))]))
    refine own_go (fun tq kq => XS.iconst X43.here hx rfl (hb hby at_248) kq) ?_
    show own_Rn p e below _ (T43.setTop (mkF m 249 #[.val (.long l0), .second, .val (.int i1), .val (.int i2), .val (.int i3), .val (.int (1 : Int32)), .val (.int c0), .val (.int c1), .val (.int c2), .val (.int c3), .val (.ref b32), .val (.int (1 : Int32)), .unset, .unset, .unset] [(.int (4 : Int32)), (.int (1 : Int32))]))
    refine own_go (fun tq kq => XS.icmpYes X43.here hx rfl (pc0 := 249) (pc' := 268) rfl (hb hby at_249) rfl (tlt (by decide : (1 : Int32) < (4 : Int32))).1 (by decide) (by decide) kq) ?_
    show own_Rn p e below _ (T43.setTop (mkF m 268 #[.val (.long l0), .second, .val (.int i1), .val (.int i2), .val (.int i3), .val (.int (1 : Int32)), .val (.int c0), .val (.int c1), .val (.int c2), .val (.int c3), .val (.ref b32), .val (.int (1 : Int32)), .unset, .unset, .unset] []))
    refine own_go (fun tq kq => XS.iloadN X43.here hx rfl (hb hby at_268) rfl kq) ?_
    show own_Rn p e below _ (T43.setTop (mkF m 269 #[.val (.long l0), .second, .val (.int i1), .val (.int i2), .val (.int i3), .val (.int (1 : Int32)), .val (.int c0), .val (.int c1), .val (.int c2), .val (.int c3), .val (.ref b32), .val (.int (1 : Int32)), .unset, .unset, .unset] [(.int i2)]))
    refine own_go (fun tq kq => XS.iload X43.here hx rfl (hb hby at_269) rfl kq) ?_
    show own_Rn p e below _ (T43.setTop (mkF m 271 #[.val (.long l0), .second, .val (.int i1), .val (.int i2), .val (.int i3), .val (.int (1 : Int32)), .val (.int c0), .val (.int c1), .val (.int c2), .val (.int c3), .val (.ref b32), .val (.int (1 : Int32)), .unset, .unset, .unset] [(.int (1 : Int32)), (.int i2)]))
    have Zn54 : n0 ≤ T43.heap.size := by omega
    obtain ⟨rv54, _, ⟨T54, L54, k54, n54⟩, -, X54, ⟨Lc54, hQ54, l54, y54, z54⟩, st54⟩ := Jvm.LawKit.callS X43 hx (y := (⟨"java/lang/Math", "max", "(II)I"⟩ : MethodName)) hown (mvT hZ (hw _ (own_mi 40 rfl))) (mvT hZ (hw _ (own_mi 41 rfl))) (mvT hZ (hw _ (own_mi 42 rfl))) (mvT hZ (hw _ (own_mi 43 rfl))) (by decide) (backOf (W := 0) (rmMax l Z a0 hw [] (i2) ((1 : Int32)) T43.heap n0 Zn54 ) hZ (hw _ (own_mi 43 rfl)) (hw _ (own_mi 42 rfl)) (by decide) (by decide)) (g := (mkF m 271 #[.val (.long l0), .second, .val (.int i1), .val (.int i2), .val (.int i3), .val (.int (1 : Int32)), .val (.int c0), .val (.int c1), .val (.int c2), .val (.int c3), .val (.ref b32), .val (.int (1 : Int32)), .unset, .unset, .unset] [(.int (1 : Int32)), (.int i2)])) rfl (by rw [hml]; rfl) (argsL := [(.int i2), (.int (1 : Int32))]) (rest := []) (lenOf own_pd_28II29I rfl) rfl (by show 2 * 0 + _ ≤ _; exact Nat.le_of_eq rfl) (hb hby at_271) (fun _ _ => ⟨rfl, rfl, (by decide : 4 + 0 ≤ _), (by decide : 17 + 0 ≤ _)⟩)
    dsimp only [Pt.U, Pt.locs, Pt.cells, Pt.slots] at X54 l54 y54 z54 st54 hQ54
    subst l54 y54 z54
    obtain ⟨bd, rfl, Nq54, eh54, R_54⟩ := hQ54
    have N54 := Fr.app N43 Nq54
    refine own_go st54 ?_
    show own_Rn p e below _ (T54.setTop (mkF m 274 #[.val (.long l0), .second, .val (.int i1), .val (.int i2), .val (.int i3), .val (.int (1 : Int32)), .val (.int c0), .val (.int c1), .val (.int c2), .val (.int c3), .val (.ref b32), .val (.int (1 : Int32)), .unset, .unset, .unset] [(.int bd)]))
    refine own_go (fun tq kq => XS.istore X54.here hx rfl (hb hby at_274) rfl (l' := #[.val (.long l0), .second, .val (.int i1), .val (.int i2), .val (.int i3), .val (.int (1 : Int32)), .val (.int c0), .val (.int c1), .val (.int c2), .val (.int c3), .val (.ref b32), .val (.int (1 : Int32)), .val (.int bd), .unset, .unset]) rfl kq) ?_
    show own_Rn p e below _ (T54.setTop (mkF m 276 #[.val (.long l0), .second, .val (.int i1), .val (.int i2), .val (.int i3), .val (.int (1 : Int32)), .val (.int c0), .val (.int c1), .val (.int c2), .val (.int c3), .val (.ref b32), .val (.int (1 : Int32)), .val (.int bd), .unset, .unset] []))
    refine own_go (fun tq kq => XS.iload X54.here hx rfl (hb hby at_276) rfl kq) ?_
    show own_Rn p e below _ (T54.setTop (mkF m 278 #[.val (.long l0), .second, .val (.int i1), .val (.int i2), .val (.int i3), .val (.int (1 : Int32)), .val (.int c0), .val (.int c1), .val (.int c2), .val (.int c3), .val (.ref b32), .val (.int (1 : Int32)), .val (.int bd), .unset, .unset] [(.int i3)]))
    refine own_go (fun tq kq => XS.sipush X54.here hx rfl (hb hby at_278) kq) ?_
    show own_Rn p e below _ (T54.setTop (mkF m 281 #[.val (.long l0), .second, .val (.int i1), .val (.int i2), .val (.int i3), .val (.int (1 : Int32)), .val (.int c0), .val (.int c1), .val (.int c2), .val (.int c3), .val (.ref b32), .val (.int (1 : Int32)), .val (.int bd), .unset, .unset] [(.int (255 : Int32)), (.int i3)]))
    refine own_go (fun tq kq => XS.iand X54.here hx rfl (hb hby at_281) rfl kq) ?_
    show own_Rn p e below _ (T54.setTop (mkF m 282 #[.val (.long l0), .second, .val (.int i1), .val (.int i2), .val (.int i3), .val (.int (1 : Int32)), .val (.int c0), .val (.int c1), .val (.int c2), .val (.int c3), .val (.ref b32), .val (.int (1 : Int32)), .val (.int bd), .unset, .unset] [(.int (i3 &&& (255 : Int32)))]))
    refine own_go (fun tq kq => XS.i2c X54.here hx rfl (hb hby at_282) rfl kq) ?_
    show own_Rn p e below _ (T54.setTop (mkF m 283 #[.val (.long l0), .second, .val (.int i1), .val (.int i2), .val (.int i3), .val (.int (1 : Int32)), .val (.int c0), .val (.int c1), .val (.int c2), .val (.int c3), .val (.ref b32), .val (.int (1 : Int32)), .val (.int bd), .unset, .unset] [(.int ((i3 &&& (255 : Int32)).toUInt32.toUInt16.toUInt32.toInt32))]))
    obtain ⟨wc, hwc⟩ : ∃ z : Int32, z = ((i3 &&& (255 : Int32)).toUInt32.toUInt16.toUInt32.toInt32) := ⟨_, rfl⟩
    rw [← hwc]
    show own_Rn p e below _ (T54.setTop (mkF m 283 #[.val (.long l0), .second, .val (.int i1), .val (.int i2), .val (.int i3), .val (.int (1 : Int32)), .val (.int c0), .val (.int c1), .val (.int c2), .val (.int c3), .val (.ref b32), .val (.int (1 : Int32)), .val (.int bd), .unset, .unset] [(.int wc)]))
    have rwc : ¬ wc < 0 ∧ ¬ (255 : Int32) < wc := by rw [hwc]; exact own_chr_rng _
    have Zn55 : n0 ≤ T43.heap.size := by omega
    have F56 : Old Z n0 T43.heap := (F48.keep Kq43 (allS gn32 all0))
    obtain ⟨rv55, _, ⟨T55, L55, k55, n55⟩, -, X55, ⟨Lc55, hQ55, l55, y55, z55⟩, st55⟩ := Jvm.LawKit.callS X54 hx (y := (⟨"java/lang/String", "valueOf", "(C)Ljava/lang/String;"⟩ : MethodName)) hown (mvT hZ (hw _ (own_mi 44 rfl))) (mvT hZ (hw _ (own_mi 45 rfl))) (mvT hZ (hw _ (own_mi 4 rfl))) (mvT hZ (hw _ (own_mi 46 rfl))) (by decide) (backOf (W := 0) (rmVal l Z a0 hw [] (wc) (G1) T43.heap n0 Zn55 (rwc) (O2) (P5) F56) hZ (hw _ (own_mi 46 rfl)) (hw _ (own_mi 4 rfl)) (by decide) (by decide)) (g := (mkF m 283 #[.val (.long l0), .second, .val (.int i1), .val (.int i2), .val (.int i3), .val (.int (1 : Int32)), .val (.int c0), .val (.int c1), .val (.int c2), .val (.int c3), .val (.ref b32), .val (.int (1 : Int32)), .val (.int bd), .unset, .unset] [(.int wc)])) rfl (by rw [hml]; rfl) (argsL := [(.int wc)]) (rest := []) (lenOf own_pd_28C29Ljava2flang2fString3b rfl) rfl (by show 2 * 0 + _ ≤ _; exact Nat.le_of_eq rfl) (hb hby at_283) (fun _ _ => ⟨rfl, eh54, (by decide : 4 + 2 ≤ _), (by decide : 17 + 5 ≤ _)⟩)
    dsimp only [Pt.U, Pt.locs, Pt.cells, Pt.slots] at X55 l55 y55 z55 st55 hQ55
    subst l55 y55 z55
    obtain ⟨xw, tw, kw, rfl, Nq55, Kq55, G0_55, G1_55, G2_55, G3_55, G4_55, G5_55, G6_55, G7_55⟩ := hQ55
    have N55 := Fr.app N54 Nq55
    have sz57 : T43.heap.size ≤ T55.heap.size := Kq55.1
    have cr57 : CHr Z consts_1 s.vm T43.heap s.vm T55.heap := CHr.keep Kq55 sf0 CR51.1
    have CR57 := CR51.trans cr57
    have sf58 : Safe Z consts_1 s.vm T55.heap xw := Safe.keep Kq55 sf0 CR51.1 (Safe.new (by omega))
    have sf59 : Safe Z consts_1 s.vm T55.heap tw := Safe.keep Kq55 sf0 CR51.1 (Safe.new (by omega))
    have lt60 : @LT.lt Nat _ xw T55.heap.size := G4_55.lt
    have lt61 : @LT.lt Nat _ tw T55.heap.size := G7_55.lt
    refine own_go st55 ?_
    show own_Rn p e below _ (T55.setTop (mkF m 286 #[.val (.long l0), .second, .val (.int i1), .val (.int i2), .val (.int i3), .val (.int (1 : Int32)), .val (.int c0), .val (.int c1), .val (.int c2), .val (.int c3), .val (.ref b32), .val (.int (1 : Int32)), .val (.int bd), .unset, .unset] [(.ref xw)]))
    refine own_go (fun tq kq => XS.astore X55.here hx rfl (hb hby at_286) rfl rfl (l' := #[.val (.long l0), .second, .val (.int i1), .val (.int i2), .val (.int i3), .val (.int (1 : Int32)), .val (.int c0), .val (.int c1), .val (.int c2), .val (.int c3), .val (.ref b32), .val (.int (1 : Int32)), .val (.int bd), .val (.ref xw), .unset]) rfl kq) ?_
    show own_Rn p e below _ (T55.setTop (mkF m 288 #[.val (.long l0), .second, .val (.int i1), .val (.int i2), .val (.int i3), .val (.int (1 : Int32)), .val (.int c0), .val (.int c1), .val (.int c2), .val (.int c3), .val (.ref b32), .val (.int (1 : Int32)), .val (.int bd), .val (.ref xw), .unset] []))
    refine own_go (fun tq kq => XS.aload X55.here hx rfl (hb hby at_288) rfl rfl kq) ?_
    show own_Rn p e below _ (T55.setTop (mkF m 290 #[.val (.long l0), .second, .val (.int i1), .val (.int i2), .val (.int i3), .val (.int (1 : Int32)), .val (.int c0), .val (.int c1), .val (.int c2), .val (.int c3), .val (.ref b32), .val (.int (1 : Int32)), .val (.int bd), .val (.ref xw), .unset] [(.ref xw)]))
    refine own_go (fun tq kq => XS.iload X55.here hx rfl (hb hby at_290) rfl kq) ?_
    show own_Rn p e below _ (T55.setTop (mkF m 292 #[.val (.long l0), .second, .val (.int i1), .val (.int i2), .val (.int i3), .val (.int (1 : Int32)), .val (.int c0), .val (.int c1), .val (.int c2), .val (.int c3), .val (.ref b32), .val (.int (1 : Int32)), .val (.int bd), .val (.ref xw), .unset] [(.int bd), (.ref xw)]))
    refine own_go (fun tq kq => XS.aload X55.here hx rfl (hb hby at_292) rfl rfl kq) ?_
    show own_Rn p e below _ (T55.setTop (mkF m 294 #[.val (.long l0), .second, .val (.int i1), .val (.int i2), .val (.int i3), .val (.int (1 : Int32)), .val (.int c0), .val (.int c1), .val (.int c2), .val (.int c3), .val (.ref b32), .val (.int (1 : Int32)), .val (.int bd), .val (.ref xw), .unset] [(.ref b32), (.int bd), (.ref xw)]))
    have hcp : own_cp ([c0] : List Int32) = 1 := rfl
    have hmx : ¬ bd < Int32.ofNat (own_cp ([c0] : List Int32)) := by rw [hcp]; have h := R_54; rwa [show (1 : Int32) = Int32.ofNat 1 by decide] at h
    have Zn62 : n0 ≤ T55.heap.size := by omega
    have F63 : Exa Z T55.heap b32 "java/lang/String" := ((F44.keep Kq43).keep Kq55)
    have F64 : Fld Z T55.heap b32 "java/lang/String" "value" "[B" (.ref tt) := (G2_43.keep Kq55 nin0)
    have F65 : Fld Z T55.heap b32 "java/lang/String" "coder" "B" (.int cd) := (G3_43.keep Kq55 nin0)
    have F66 : Arv Z T55.heap tt kk .byte NN vv (.int 0) := (G4_43.keep Kq55 nin0)
    have F67 : Old Z n0 T55.heap := (F56.keep Kq55 all0)
    obtain ⟨rv62, _, ⟨T62, L62, k62, n62⟩, -, X62, ⟨Lc62, hQ62, l62, y62, z62⟩, st62⟩ := Jvm.LawKit.callS X55 hx (y := (⟨"com/example/cellwise/cellwise/Checks", "atMost", "(Ljava/lang/String;ILjava/lang/String;)Ljava/lang/String;"⟩ : MethodName)) hown (mvT hZ (hw _ (own_mi 58 rfl))) (mvT hZ (hw _ (own_mi 59 rfl))) (mvT hZ (hw _ (own_mi 60 rfl))) (mvT hZ (hw _ (own_mi 61 rfl))) (by decide) (backOf (W := 0) (rmAM l Z a0 hw [] (xw) (bd) (b32) (tt) (kk) (NN) (vv) (cd) (([c0] : List Int32)) (G1) T55.heap n0 Zn62 F63 F64 F65 F66 (RL) (by simp) (hr) (hmx) (OAD) (OHI) (OLO) (O2) (P5) F67) hZ (hw _ (own_mi 61 rfl)) (hw _ (own_mi 60 rfl)) (by decide) (by decide)) (g := (mkF m 294 #[.val (.long l0), .second, .val (.int i1), .val (.int i2), .val (.int i3), .val (.int (1 : Int32)), .val (.int c0), .val (.int c1), .val (.int c2), .val (.int c3), .val (.ref b32), .val (.int (1 : Int32)), .val (.int bd), .val (.ref xw), .unset] [(.ref b32), (.int bd), (.ref xw)])) rfl (by rw [hml]; rfl) (argsL := [(.ref xw), (.int bd), (.ref b32)]) (rest := []) (lenOf own_pd_28Ljava2flang2fString3bILjava2flang2fString3b29Ljava2flang2fString3b rfl) rfl (by show 2 * 0 + _ ≤ _; exact Nat.le_of_eq rfl) (hb hby at_294) (fun _ _ => ⟨rfl, rfl, (by decide : 6 + 0 ≤ _), (by decide : 22 + 0 ≤ _)⟩)
    dsimp only [Pt.U, Pt.locs, Pt.cells, Pt.slots] at X62 l62 y62 z62 st62 hQ62
    subst l62 y62 z62
    obtain ⟨rfl, Nq62, eh62⟩ := hQ62
    have N62 := Fr.app N55 Nq62
    refine own_go st62 ?_
    show own_Rn p e below _ (T62.setTop (mkF m 297 #[.val (.long l0), .second, .val (.int i1), .val (.int i2), .val (.int i3), .val (.int (1 : Int32)), .val (.int c0), .val (.int c1), .val (.int c2), .val (.int c3), .val (.ref b32), .val (.int (1 : Int32)), .val (.int bd), .val (.ref xw), .unset] [(.ref b32)]))
    refine own_go (fun tq kq => XS.astore X62.here hx rfl (hb hby at_297) rfl rfl (l' := #[.val (.long l0), .second, .val (.int i1), .val (.int i2), .val (.int i3), .val (.int (1 : Int32)), .val (.int c0), .val (.int c1), .val (.int c2), .val (.int c3), .val (.ref b32), .val (.int (1 : Int32)), .val (.int bd), .val (.ref xw), .val (.ref b32)]) rfl kq) ?_
    show own_Rn p e below _ (T62.setTop (mkF m 299 #[.val (.long l0), .second, .val (.int i1), .val (.int i2), .val (.int i3), .val (.int (1 : Int32)), .val (.int c0), .val (.int c1), .val (.int c2), .val (.int c3), .val (.ref b32), .val (.int (1 : Int32)), .val (.int bd), .val (.ref xw), .val (.ref b32)] []))
    refine own_go (fun tq kq => XS.aload X62.here hx rfl (hb hby at_299) rfl rfl kq) ?_
    show own_Rn p e below _ (T62.setTop (mkF m 301 #[.val (.long l0), .second, .val (.int i1), .val (.int i2), .val (.int i3), .val (.int (1 : Int32)), .val (.int c0), .val (.int c1), .val (.int c2), .val (.int c3), .val (.ref b32), .val (.int (1 : Int32)), .val (.int bd), .val (.ref xw), .val (.ref b32)] [(.ref b32)]))
    refine own_go (fun tq kq => XS.ifnullNo X62.here hx rfl (hb hby at_301) rfl kq) ?_
    show own_Rn p e below _ (T62.setTop (mkF m 304 #[.val (.long l0), .second, .val (.int i1), .val (.int i2), .val (.int i3), .val (.int (1 : Int32)), .val (.int c0), .val (.int c1), .val (.int c2), .val (.int c3), .val (.ref b32), .val (.int (1 : Int32)), .val (.int bd), .val (.ref xw), .val (.ref b32)] []))
    refine own_go (fun tq kq => XS.aload X62.here hx rfl (hb hby at_304) rfl rfl kq) ?_
    show own_Rn p e below _ (T62.setTop (mkF m 306 #[.val (.long l0), .second, .val (.int i1), .val (.int i2), .val (.int i3), .val (.int (1 : Int32)), .val (.int c0), .val (.int c1), .val (.int c2), .val (.int c3), .val (.ref b32), .val (.int (1 : Int32)), .val (.int bd), .val (.ref xw), .val (.ref b32)] [(.ref b32)]))
    refine own_go (fun tq kq => XS.aload X62.here hx rfl (hb hby at_306) rfl rfl kq) ?_
    show own_Rn p e below _ (T62.setTop (mkF m 308 #[.val (.long l0), .second, .val (.int i1), .val (.int i2), .val (.int i3), .val (.int (1 : Int32)), .val (.int c0), .val (.int c1), .val (.int c2), .val (.int c3), .val (.ref b32), .val (.int (1 : Int32)), .val (.int bd), .val (.ref xw), .val (.ref b32)] [(.ref b32), (.ref b32)]))
    have Zn68 : n0 ≤ T55.heap.size := by omega
    obtain ⟨cq68, kq68, qa68, qb68, qc68⟩ := isOf hZ eh62 F63
    obtain ⟨rv68, _, ⟨T68, L68, k68, n68⟩, -, X68, ⟨Lc68, hQ68, l68, y68, z68⟩, st68⟩ := X62.virtualBack hx (y := (⟨"java/lang/String", "equals", "(Ljava/lang/Object;)Z"⟩ : MethodName)) (z := (⟨"java/lang/String", "equals", "(Ljava/lang/Object;)Z"⟩ : MethodName)) hown (mvT hZ (hw _ (own_mi 91 rfl))) (mvT hZ (hw _ (own_mi 92 rfl))) (notFace_of_selects (args := #[]) (mvT hZ (hw _ (own_mi 94 rfl)))) (mvT hZ (hw _ (own_mi 94 rfl))) (mvT hZ (hw _ (own_mi 93 rfl))) (by decide) (backOf (W := 0) (rmEqS l Z a0 hw [] (b32) T55.heap n0 Zn68 ) hZ (hw _ (own_mi 95 rfl)) (hw _ (own_mi 4 rfl)) (by decide) (by decide)) qa68 qc68 (g := (mkF m 308 #[.val (.long l0), .second, .val (.int i1), .val (.int i2), .val (.int i3), .val (.int (1 : Int32)), .val (.int c0), .val (.int c1), .val (.int c2), .val (.int c3), .val (.ref b32), .val (.int (1 : Int32)), .val (.int bd), .val (.ref xw), .val (.ref b32)] [(.ref b32), (.ref b32)])) rfl (by rw [hml]; rfl) (Steps.refl _) (argsL := [(.ref b32)]) (rest := []) (lenOf own_pd_28Ljava2flang2fObject3b29Z rfl) rfl (by show 2 * 0 + _ ≤ _; exact Nat.le_of_eq rfl) (hb hby at_308) (fun _ _ => ⟨rfl, eh62, (by decide : 6 + 0 ≤ _), (by decide : 22 + 0 ≤ _)⟩)
    dsimp only [Pt.U, Pt.locs, Pt.cells, Pt.slots] at X68 l68 y68 z68 st68 hQ68
    subst l68 y68 z68
    obtain ⟨rfl, Nq68, eh68⟩ := hQ68
    have N68 := Fr.app N62 Nq68
    refine own_go (fun tq kq => st68.trans kq) ?_
    show own_Rn p e below _ (T68.setTop (mkF m 311 #[.val (.long l0), .second, .val (.int i1), .val (.int i2), .val (.int i3), .val (.int (1 : Int32)), .val (.int c0), .val (.int c1), .val (.int c2), .val (.int c3), .val (.ref b32), .val (.int (1 : Int32)), .val (.int bd), .val (.ref xw), .val (.ref b32)] [(.int (1 : Int32))]))
    refine own_go (fun tq kq => XS.ifNo X68.here hx rfl (hb hby at_311) rfl ((if0 _ _).trans (feq ((by decide : ¬ ((1 : Int32) = (0 : Int32))) : ¬ ((1 : Int32) = (0 : Int32)))).1) kq) ?_
    show own_Rn p e below _ (T68.setTop (mkF m 314 #[.val (.long l0), .second, .val (.int i1), .val (.int i2), .val (.int i3), .val (.int (1 : Int32)), .val (.int c0), .val (.int c1), .val (.int c2), .val (.int c3), .val (.ref b32), .val (.int (1 : Int32)), .val (.int bd), .val (.ref xw), .val (.ref b32)] []))
    refine own_go (fun tq kq => XS.iconst X68.here hx rfl (hb hby at_314) kq) ?_
    show own_Rn p e below _ (T68.setTop (mkF m 315 #[.val (.long l0), .second, .val (.int i1), .val (.int i2), .val (.int i3), .val (.int (1 : Int32)), .val (.int c0), .val (.int c1), .val (.int c2), .val (.int c3), .val (.ref b32), .val (.int (1 : Int32)), .val (.int bd), .val (.ref xw), .val (.ref b32)] [(.int (1 : Int32))]))
    refine own_go (fun tq kq => XS.goto X68.here hx rfl (pc0 := 315) (pc' := 319) rfl (hb hby at_315) (by decide) (by decide) kq) ?_
    show own_Rn p e below _ (T68.setTop (mkF m 319 #[.val (.long l0), .second, .val (.int i1), .val (.int i2), .val (.int i3), .val (.int (1 : Int32)), .val (.int c0), .val (.int c1), .val (.int c2), .val (.int c3), .val (.ref b32), .val (.int (1 : Int32)), .val (.int bd), .val (.ref xw), .val (.ref b32)] [(.int (1 : Int32))]))
    exact own_retS X68 hS0 (by rw [eh68]; omega) (v := some (.int (nar .boolean (1 : Int32)))) (fun h => by rw [Bd.returns] at h; cases h) (fun fs hr => retN X68 hx (t := .boolean) Bd.returns (by simp) (hb hby at_319) hr) (by rw [eh68]; exact ⟨rfl, N68⟩) (by rw [hh, eh68]; exact CR57.trans (CHv.at X68 hZ hEL CR57.1)) (by decide) (by decide)
  · skip
    show own_Rn p e below _ (s₁.setTop (mkF m 53 #[.val (.long l0), .second, .val (.int i1), .val (.int i2), .val (.int i3), .val (.int (2 : Int32)), .val (.int c0), .val (.int c1), .val (.int c2), .val (.int c3), .unset, .unset, .unset, .unset, .unset] []))
    refine own_go (fun tq kq => XS.iload X0.here hx rfl (hb hby at_53) rfl kq) ?_
    show own_Rn p e below _ (s₁.setTop (mkF m 55 #[.val (.long l0), .second, .val (.int i1), .val (.int i2), .val (.int i3), .val (.int (2 : Int32)), .val (.int c0), .val (.int c1), .val (.int c2), .val (.int c3), .unset, .unset, .unset, .unset, .unset] [(.int (2 : Int32))]))
    have hr : ∀ c ∈ ([c0, c1] : List Int32), ¬ c < 0 ∧ ¬ (65535 : Int32) < c := by
      intro c hc
      simp only [List.mem_cons, List.not_mem_nil, or_false] at hc
      rcases hc with rfl | rfl
      · exact rc0
      · exact rc1
    refine own_go (fun tq kq => XS.ifYes X0.here hx rfl (pc0 := 55) (pc' := 73) rfl (hb hby at_55) rfl ((if0 _ _).trans (feq (by decide : ¬ ((2 : Int32) = (0 : Int32)))).2) (by decide) (by decide) kq) ?_
    show own_Rn p e below _ (s₁.setTop (mkF m 73 #[.val (.long l0), .second, .val (.int i1), .val (.int i2), .val (.int i3), .val (.int (2 : Int32)), .val (.int c0), .val (.int c1), .val (.int c2), .val (.int c3), .unset, .unset, .unset, .unset, .unset] []))
    refine own_go (fun tq kq => XS.iload X0.here hx rfl (hb hby at_73) rfl kq) ?_
    show own_Rn p e below _ (s₁.setTop (mkF m 75 #[.val (.long l0), .second, .val (.int i1), .val (.int i2), .val (.int i3), .val (.int (2 : Int32)), .val (.int c0), .val (.int c1), .val (.int c2), .val (.int c3), .unset, .unset, .unset, .unset, .unset] [(.int (2 : Int32))]))
    refine own_go (fun tq kq => XS.iconst X0.here hx rfl (hb hby at_75) kq) ?_
    show own_Rn p e below _ (s₁.setTop (mkF m 76 #[.val (.long l0), .second, .val (.int i1), .val (.int i2), .val (.int i3), .val (.int (2 : Int32)), .val (.int c0), .val (.int c1), .val (.int c2), .val (.int c3), .unset, .unset, .unset, .unset, .unset] [(.int (1 : Int32)), (.int (2 : Int32))]))
    refine own_go (fun tq kq => XS.icmpYes X0.here hx rfl (pc0 := 76) (pc' := 99) rfl (hb hby at_76) rfl (feq (by decide : ¬ ((2 : Int32) = (1 : Int32)))).2 (by decide) (by decide) kq) ?_
    show own_Rn p e below _ (s₁.setTop (mkF m 99 #[.val (.long l0), .second, .val (.int i1), .val (.int i2), .val (.int i3), .val (.int (2 : Int32)), .val (.int c0), .val (.int c1), .val (.int c2), .val (.int c3), .unset, .unset, .unset, .unset, .unset] []))
    refine own_go (fun tq kq => XS.iload X0.here hx rfl (hb hby at_99) rfl kq) ?_
    show own_Rn p e below _ (s₁.setTop (mkF m 101 #[.val (.long l0), .second, .val (.int i1), .val (.int i2), .val (.int i3), .val (.int (2 : Int32)), .val (.int c0), .val (.int c1), .val (.int c2), .val (.int c3), .unset, .unset, .unset, .unset, .unset] [(.int (2 : Int32))]))
    refine own_go (fun tq kq => XS.iconst X0.here hx rfl (hb hby at_101) kq) ?_
    show own_Rn p e below _ (s₁.setTop (mkF m 102 #[.val (.long l0), .second, .val (.int i1), .val (.int i2), .val (.int i3), .val (.int (2 : Int32)), .val (.int c0), .val (.int c1), .val (.int c2), .val (.int c3), .unset, .unset, .unset, .unset, .unset] [(.int (2 : Int32)), (.int (2 : Int32))]))
    refine own_go (fun tq kq => XS.icmpNo X0.here hx rfl (hb hby at_102) rfl (teq (by decide : (2 : Int32) = (2 : Int32))).2 kq) ?_
    show own_Rn p e below _ (s₁.setTop (mkF m 105 #[.val (.long l0), .second, .val (.int i1), .val (.int i2), .val (.int i3), .val (.int (2 : Int32)), .val (.int c0), .val (.int c1), .val (.int c2), .val (.int c3), .unset, .unset, .unset, .unset, .unset] []))
    obtain ⟨T69, h69, X69, e69, E69, A69, D69, -, st69⟩ := newO X0 hx hZ hown (hw _ (own_mi 2 rfl)) (hw _ (own_mi 3 rfl)) (hw _ (own_mi 4 rfl)) e0 (g := (mkF m 105 #[.val (.long l0), .second, .val (.int i1), .val (.int i2), .val (.int i3), .val (.int (2 : Int32)), .val (.int c0), .val (.int c1), .val (.int c2), .val (.int c3), .unset, .unset, .unset, .unset, .unset] [])) rfl (hb hby at_105) (by decide) (by decide)
    obtain ⟨b69, g69⟩ : ∃ z, z = h0.size := ⟨_, rfl⟩
    rw [← g69] at A69 D69 st69
    refine own_go st69 ?_
    have sz70 : h0.size ≤ h69.size := E69.1
    have cr70 : CHr Z consts_1 s.vm h0 s.vm h69 := CHr.ext E69 CR0.1
    have CR70 := CR0.trans cr70
    have sf71 : Safe Z consts_1 s.vm h69 b69 := Safe.ext E69 CR0.1 (Safe.new (by omega))
    have lt72 : @LT.lt Nat _ b69 h69.size := A69.lt
    have gn69 : n0 ≤ b69 := by omega
    have D69_coder : Fld Z h69 b69 "java/lang/String" "coder" "B" (.int (0 : Int32)) := D69 (Or.inr (hw _ (own_mi 29 rfl))) (ty := .byte) own_fd_B
    have D69_value : Fld Z h69 b69 "java/lang/String" "value" "[B" .null := D69 (Or.inr (hw _ (own_mi 31 rfl))) (ty := (.array .byte)) own_fd_5bB
    show own_Rn p e below _ (T69.setTop (mkF m 108 #[.val (.long l0), .second, .val (.int i1), .val (.int i2), .val (.int i3), .val (.int (2 : Int32)), .val (.int c0), .val (.int c1), .val (.int c2), .val (.int c3), .unset, .unset, .unset, .unset, .unset] [(.ref b69)]))
    refine own_go (fun tq kq => XS.dup X69.here hx rfl (hb hby at_108) rfl rfl kq) ?_
    show own_Rn p e below _ (T69.setTop (mkF m 109 #[.val (.long l0), .second, .val (.int i1), .val (.int i2), .val (.int i3), .val (.int (2 : Int32)), .val (.int c0), .val (.int c1), .val (.int c2), .val (.int c3), .unset, .unset, .unset, .unset, .unset] [(.ref b69), (.ref b69)]))
    refine own_go (fun tq kq => XS.iconst X69.here hx rfl (hb hby at_109) kq) ?_
    show own_Rn p e below _ (T69.setTop (mkF m 110 #[.val (.long l0), .second, .val (.int i1), .val (.int i2), .val (.int i3), .val (.int (2 : Int32)), .val (.int c0), .val (.int c1), .val (.int c2), .val (.int c3), .unset, .unset, .unset, .unset, .unset] [(.int (2 : Int32)), (.ref b69), (.ref b69)]))
    obtain ⟨T74, h74, k74, X74, e74, E74, A74, st74⟩ := newP X69 hx hZ (hw _ (own_mi 5 rfl)) e69 (g := (mkF m 110 #[.val (.long l0), .second, .val (.int i1), .val (.int i2), .val (.int i3), .val (.int (2 : Int32)), .val (.int c0), .val (.int c1), .val (.int c2), .val (.int c3), .unset, .unset, .unset, .unset, .unset] [(.int (2 : Int32)), (.ref b69), (.ref b69)])) rfl (hb hby at_110) rfl (by decide) (cap := 2) (by decide) (by decide) (by decide) (by decide)
    obtain ⟨b74, g74⟩ : ∃ z, z = h69.size := ⟨_, rfl⟩
    rw [← g74] at A74 st74
    refine own_go st74 ?_
    have sz75 : h69.size ≤ h74.size := E74.1
    have cr75 : CHr Z consts_1 s.vm h69 s.vm h74 := CHr.ext E74 CR70.1
    have CR75 := CR70.trans cr75
    have gn74 : n0 ≤ b74 := by omega
    have V74 : Arv Z h74 b74 k74 .char (2 : Int32) [(.int (0 : Int32)), (.int (0 : Int32))] (.int (0 : Int32)) := (Arv.new A74 (by decide)).pad (pad_rep [] _ 2)
    have lt76 : @LT.lt Nat _ b74 h74.size := V74.lt
    show own_Rn p e below _ (T74.setTop (mkF m 112 #[.val (.long l0), .second, .val (.int i1), .val (.int i2), .val (.int i3), .val (.int (2 : Int32)), .val (.int c0), .val (.int c1), .val (.int c2), .val (.int c3), .unset, .unset, .unset, .unset, .unset] [(.ref b74), (.ref b69), (.ref b69)]))
    refine own_go (fun tq kq => XS.dup X74.here hx rfl (hb hby at_112) rfl rfl kq) ?_
    show own_Rn p e below _ (T74.setTop (mkF m 113 #[.val (.long l0), .second, .val (.int i1), .val (.int i2), .val (.int i3), .val (.int (2 : Int32)), .val (.int c0), .val (.int c1), .val (.int c2), .val (.int c3), .unset, .unset, .unset, .unset, .unset] [(.ref b74), (.ref b74), (.ref b69), (.ref b69)]))
    refine own_go (fun tq kq => XS.iconst X74.here hx rfl (hb hby at_113) kq) ?_
    show own_Rn p e below _ (T74.setTop (mkF m 114 #[.val (.long l0), .second, .val (.int i1), .val (.int i2), .val (.int i3), .val (.int (2 : Int32)), .val (.int c0), .val (.int c1), .val (.int c2), .val (.int c3), .unset, .unset, .unset, .unset, .unset] [(.int (0 : Int32)), (.ref b74), (.ref b74), (.ref b69), (.ref b69)]))
    refine own_go (fun tq kq => XS.iload X74.here hx rfl (hb hby at_114) rfl kq) ?_
    show own_Rn p e below _ (T74.setTop (mkF m 116 #[.val (.long l0), .second, .val (.int i1), .val (.int i2), .val (.int i3), .val (.int (2 : Int32)), .val (.int c0), .val (.int c1), .val (.int c2), .val (.int c3), .unset, .unset, .unset, .unset, .unset] [(.int c0), (.int (0 : Int32)), (.ref b74), (.ref b74), (.ref b69), (.ref b69)]))
    obtain ⟨cl77, Ar77, q77, Sz77, Nn77, Hs77, G77⟩ := id V74
    obtain ⟨T77, h77, X77, e77, W77, st77⟩ := stC X74 hx hZ e74 Ar77 (j := (0 : Int32)) (inb_of Sz77 ⟨by decide, by decide⟩) (g := (mkF m 116 #[.val (.long l0), .second, .val (.int i1), .val (.int i2), .val (.int i3), .val (.int (2 : Int32)), .val (.int c0), .val (.int c1), .val (.int c2), .val (.int c3), .unset, .unset, .unset, .unset, .unset] [(.int c0), (.int (0 : Int32)), (.ref b74), (.ref b74), (.ref b69), (.ref b69)])) rfl rfl (hb hby at_116)
    rw [nc0] at W77
    refine own_go st77 ?_
    have V77 : Arv Z h77 b74 k74 .char (2 : Int32) [(.int c0), (.int (0 : Int32))] (.int (0 : Int32)) := Arv.set Ar77 q77 Sz77 Nn77 Hs77 G77 (by rw [← nc0]; exact fits_nar_char _) W77 0 rfl (Nat.le_of_ble_eq_true rfl)
    have N77 := Fr.snoc X77 N0 gn74
    have sf78 : Safe Z consts_1 s.vm h74 b74 := Safe.arv hZ.alike V74 (by decide)
    have sz79 : h74.size ≤ h77.size := Nat.le_of_eq (Wr.size W77).symm
    have cr79 : CHr Z consts_1 s.vm h74 s.vm h77 := CHr.wr W77 sf78 CR75.1
    have CR79 := CR75.trans cr79
    show own_Rn p e below _ (T77.setTop (mkF m 117 #[.val (.long l0), .second, .val (.int i1), .val (.int i2), .val (.int i3), .val (.int (2 : Int32)), .val (.int c0), .val (.int c1), .val (.int c2), .val (.int c3), .unset, .unset, .unset, .unset, .unset] [(.ref b74), (.ref b69), (.ref b69)]))
    refine own_go (fun tq kq => XS.dup X77.here hx rfl (hb hby at_117) rfl rfl kq) ?_
    show own_Rn p e below _ (T77.setTop (mkF m 118 #[.val (.long l0), .second, .val (.int i1), .val (.int i2), .val (.int i3), .val (.int (2 : Int32)), .val (.int c0), .val (.int c1), .val (.int c2), .val (.int c3), .unset, .unset, .unset, .unset, .unset] [(.ref b74), (.ref b74), (.ref b69), (.ref b69)]))
    refine own_go (fun tq kq => XS.iconst X77.here hx rfl (hb hby at_118) kq) ?_
    show own_Rn p e below _ (T77.setTop (mkF m 119 #[.val (.long l0), .second, .val (.int i1), .val (.int i2), .val (.int i3), .val (.int (2 : Int32)), .val (.int c0), .val (.int c1), .val (.int c2), .val (.int c3), .unset, .unset, .unset, .unset, .unset] [(.int (1 : Int32)), (.ref b74), (.ref b74), (.ref b69), (.ref b69)]))
    refine own_go (fun tq kq => XS.iload X77.here hx rfl (hb hby at_119) rfl kq) ?_
    show own_Rn p e below _ (T77.setTop (mkF m 121 #[.val (.long l0), .second, .val (.int i1), .val (.int i2), .val (.int i3), .val (.int (2 : Int32)), .val (.int c0), .val (.int c1), .val (.int c2), .val (.int c3), .unset, .unset, .unset, .unset, .unset] [(.int c1), (.int (1 : Int32)), (.ref b74), (.ref b74), (.ref b69), (.ref b69)]))
    obtain ⟨cl80, Ar80, q80, Sz80, Nn80, Hs80, G80⟩ := id V77
    obtain ⟨T80, h80, X80, e80, W80, st80⟩ := stC X77 hx hZ e77 Ar80 (j := (1 : Int32)) (inb_of Sz80 ⟨by decide, by decide⟩) (g := (mkF m 121 #[.val (.long l0), .second, .val (.int i1), .val (.int i2), .val (.int i3), .val (.int (2 : Int32)), .val (.int c0), .val (.int c1), .val (.int c2), .val (.int c3), .unset, .unset, .unset, .unset, .unset] [(.int c1), (.int (1 : Int32)), (.ref b74), (.ref b74), (.ref b69), (.ref b69)])) rfl rfl (hb hby at_121)
    rw [nc1] at W80
    refine own_go st80 ?_
    have V80 : Arv Z h80 b74 k74 .char (2 : Int32) [(.int c0), (.int c1)] (.int (0 : Int32)) := Arv.set Ar80 q80 Sz80 Nn80 Hs80 G80 (by rw [← nc1]; exact fits_nar_char _) W80 1 rfl (Nat.le_of_ble_eq_true rfl)
    have N80 := Fr.snoc X80 N77 gn74
    have sf81 : Safe Z consts_1 s.vm h77 b74 := Safe.arv hZ.alike V77 (by decide)
    have sz82 : h77.size ≤ h80.size := Nat.le_of_eq (Wr.size W80).symm
    have cr82 : CHr Z consts_1 s.vm h77 s.vm h80 := CHr.wr W80 sf81 CR79.1
    have CR82 := CR79.trans cr82
    show own_Rn p e below _ (T80.setTop (mkF m 122 #[.val (.long l0), .second, .val (.int i1), .val (.int i2), .val (.int i3), .val (.int (2 : Int32)), .val (.int c0), .val (.int c1), .val (.int c2), .val (.int c3), .unset, .unset, .unset, .unset, .unset] [(.ref b74), (.ref b69), (.ref b69)]))
    have Zn83 : n0 ≤ h80.size := by omega
    have F84 : Exa Z h80 b69 "java/lang/String" := (((A69.ext E74).wr W77).wr W80)
    have ne85 : b69 ≠ b74 := own_nea (by omega)
    have F86 : Fld Z h80 b69 "java/lang/String" "value" "[B" .null := (((D69_value.ext E74).other W77 (Or.inl ne85)).other W80 (Or.inl ne85))
    have F87 : Fld Z h80 b69 "java/lang/String" "coder" "B" (.int (0 : Int32)) := (((D69_coder.ext E74).other W77 (Or.inl ne85)).other W80 (Or.inl ne85))
    have F88 : Old Z n0 h80 := ((((X00.ext E69).ext E74).wr W77 gn74).wr W80 gn74)
    obtain ⟨rv83, _, ⟨T83, L83, k83, n83⟩, -, X83, ⟨Lc83, hQ83, l83, y83, z83⟩, st83⟩ := X80.specialBack hx (y := (⟨"java/lang/String", "<init>", "([C)V"⟩ : MethodName)) rfl hown (mvT hZ (hw _ (own_mi 6 rfl))) (mvT hZ (hw _ (own_mi 7 rfl))) (mvT hZ (hw _ (own_mi 8 rfl))) (by decide) (backOf (W := 1) (rmI1 l Z a0 hw [] (b69) (b74) (k74) (([c0, c1] : List Int32)) ((.int (0 : Int32))) (G1) h80 n0 Zn83 F84 F86 F87 gn69 V80 (by simp) (by simp) (hr) (OAD) (OHI) (OLO) (O2) (P5) F88) hZ (hw _ (own_mi 8 rfl)) (hw _ (own_mi 4 rfl)) (by decide) (by decide)) (g := (mkF m 122 #[.val (.long l0), .second, .val (.int i1), .val (.int i2), .val (.int i3), .val (.int (2 : Int32)), .val (.int c0), .val (.int c1), .val (.int c2), .val (.int c3), .unset, .unset, .unset, .unset, .unset] [(.ref b74), (.ref b69), (.ref b69)])) rfl (by rw [hml]; rfl) (Steps.refl _) (a := b69) (argsL := [(.ref b74)]) (rest := [(.ref b69)]) (lenOf own_pd_285bC29V rfl) rfl (by show 2 * 0 + _ ≤ _; exact Nat.le_of_eq rfl) (hb hby at_122) (fun _ _ => ⟨rfl, e80, (by decide : 2 + 2 ≤ _), (by decide : 6 + 12 ≤ _)⟩)
    dsimp only [Pt.U, Pt.locs, Pt.cells, Pt.slots] at X83 l83 y83 z83 st83 hQ83
    subst l83 y83 z83
    obtain ⟨tt, kk, NN, vv, cd, rfl, Nq83, Kq83, G0_83, G1_83, G2_83, G3_83, G4_83, RL_83⟩ := hQ83
    have N83 := Fr.app N80 Nq83
    have sf90 : Safe Z consts_1 s.vm h80 b69 := (CHr.safe cr82 (show @LT.lt Nat _ _ _ by omega) (CHr.safe cr79 (show @LT.lt Nat _ _ _ by omega) (CHr.safe cr75 (show @LT.lt Nat _ _ _ by omega) sf71)))
    have sz91 : h80.size ≤ T83.heap.size := Kq83.1
    have cr91 : CHr Z consts_1 s.vm h80 s.vm T83.heap := CHr.keep Kq83 (sfS sf90 sf0) CR82.1
    have CR91 := CR82.trans cr91
    have sf92 : Safe Z consts_1 s.vm T83.heap tt := Safe.keep Kq83 (sfS sf90 sf0) CR82.1 (Safe.new (by omega))
    have lt93 : @LT.lt Nat _ tt T83.heap.size := G4_83.lt
    refine own_go (fun tq kq => st83.trans kq) ?_
    show own_Rn p e below _ (T83.setTop (mkF m 125 #[.val (.long l0), .second, .val (.int i1), .val (.int i2), .val (.int i3), .val (.int (2 : Int32)), .val (.int c0), .val (.int c1), .val (.int c2), .val (.int c3), .unset, .unset, .unset, .unset, .unset] [(.ref b69)]))
    have RL : (cd = 0 ∧ NN = Int32.ofNat ([c0, c1] : List Int32).length ∧ vv = own_bs ([c0, c1] : List Int32) ∧ ∀ c ∈ ([c0, c1] : List Int32), ¬ (255 : Int32) < c) ∨ (cd = 1 ∧ NN = Int32.ofNat (2 * ([c0, c1] : List Int32).length) ∧ vv = own_u16 ([c0, c1] : List Int32) ∧ 0 < ([c0, c1] : List Int32).length) := by rcases RL_83 with h | ⟨h1, h2, h3⟩; exact Or.inl h; exact Or.inr ⟨h1, h2, h3, by simp⟩
    refine own_go (fun tq kq => XS.astore X83.here hx rfl (hb hby at_125) rfl rfl (l' := #[.val (.long l0), .second, .val (.int i1), .val (.int i2), .val (.int i3), .val (.int (2 : Int32)), .val (.int c0), .val (.int c1), .val (.int c2), .val (.int c3), .val (.ref b69), .unset, .unset, .unset, .unset]) rfl kq) ?_
    show own_Rn p e below _ (T83.setTop (mkF m 127 #[.val (.long l0), .second, .val (.int i1), .val (.int i2), .val (.int i3), .val (.int (2 : Int32)), .val (.int c0), .val (.int c1), .val (.int c2), .val (.int c3), .val (.ref b69), .unset, .unset, .unset, .unset] []))
    refine own_go (fun tq kq => XS.goto X83.here hx rfl (pc0 := 127) (pc' := 198) rfl (hb hby at_127) (by decide) (by decide) kq) ?_
    show own_Rn p e below _ (T83.setTop (mkF m 198 #[.val (.long l0), .second, .val (.int i1), .val (.int i2), .val (.int i3), .val (.int (2 : Int32)), .val (.int c0), .val (.int c1), .val (.int c2), .val (.int c3), .val (.ref b69), .unset, .unset, .unset, .unset] []))
    refine own_go (fun tq kq => XS.iload X83.here hx rfl (hb hby at_198) rfl kq) ?_
    show own_Rn p e below _ (T83.setTop (mkF m 200 #[.val (.long l0), .second, .val (.int i1), .val (.int i2), .val (.int i3), .val (.int (2 : Int32)), .val (.int c0), .val (.int c1), .val (.int c2), .val (.int c3), .val (.ref b69), .unset, .unset, .unset, .unset] [(.int (2 : Int32))]))
    refine own_go (fun tq kq => XS.istore X83.here hx rfl (hb hby at_200) rfl (l' := #[.val (.long l0), .second, .val (.int i1), .val (.int i2), .val (.int i3), .val (.int (2 : Int32)), .val (.int c0), .val (.int c1), .val (.int c2), .val (.int c3), .val (.ref b69), .val (.int (2 : Int32)), .unset, .unset, .unset]) rfl kq) ?_
    show own_Rn p e below _ (T83.setTop (mkF m 202 #[.val (.long l0), .second, .val (.int i1), .val (.int i2), .val (.int i3), .val (.int (2 : Int32)), .val (.int c0), .val (.int c1), .val (.int c2), .val (.int c3), .val (.ref b69), .val (.int (2 : Int32)), .unset, .unset, .unset] []))
    refine own_go (fun tq kq => XS.iload X83.here hx rfl (hb hby at_202) rfl kq) ?_
    show own_Rn p e below _ (T83.setTop (mkF m 204 #[.val (.long l0), .second, .val (.int i1), .val (.int i2), .val (.int i3), .val (.int (2 : Int32)), .val (.int c0), .val (.int c1), .val (.int c2), .val (.int c3), .val (.ref b69), .val (.int (2 : Int32)), .unset, .unset, .unset] [(.int (2 : Int32))]))
    refine own_go (fun tq kq => XS.iconst X83.here hx rfl (hb hby at_204) kq) ?_
    show own_Rn p e below _ (T83.setTop (mkF m 205 #[.val (.long l0), .second, .val (.int i1), .val (.int i2), .val (.int i3), .val (.int (2 : Int32)), .val (.int c0), .val (.int c1), .val (.int c2), .val (.int c3), .val (.ref b69), .val (.int (2 : Int32)), .unset, .unset, .unset] [(.int (2 : Int32)), (.int (2 : Int32))]))
    refine own_go (fun tq kq => XS.icmpNo X83.here hx rfl (hb hby at_205) rfl (flt (by decide : ¬ ((2 : Int32) < (2 : Int32)))).1 kq) ?_
    show own_Rn p e below _ (T83.setTop (mkF m 208 #[.val (.long l0), .second, .val (.int i1), .val (.int i2), .val (.int i3), .val (.int (2 : Int32)), .val (.int c0), .val (.int c1), .val (.int c2), .val (.int c3), .val (.ref b69), .val (.int (2 : Int32)), .unset, .unset, .unset] []))
    refine own_go (fun tq kq => XS.iload X83.here hx rfl (hb hby at_208) rfl kq) ?_
    show own_Rn p e below _ (T83.setTop (mkF m 210 #[.val (.long l0), .second, .val (.int i1), .val (.int i2), .val (.int i3), .val (.int (2 : Int32)), .val (.int c0), .val (.int c1), .val (.int c2), .val (.int c3), .val (.ref b69), .val (.int (2 : Int32)), .unset, .unset, .unset] [(.int c0)]))
    refine own_go (fun tq kq => XS.iload X83.here hx rfl (hb hby at_210) rfl kq) ?_
    show own_Rn p e below _ (T83.setTop (mkF m 212 #[.val (.long l0), .second, .val (.int i1), .val (.int i2), .val (.int i3), .val (.int (2 : Int32)), .val (.int c0), .val (.int c1), .val (.int c2), .val (.int c3), .val (.ref b69), .val (.int (2 : Int32)), .unset, .unset, .unset] [(.int c1), (.int c0)]))
    have Zn94 : n0 ≤ T83.heap.size := by omega
    obtain ⟨rv94, _, ⟨T94, L94, k94, n94⟩, -, X94, ⟨Lc94, hQ94, l94, y94, z94⟩, st94⟩ := Jvm.LawKit.callS X83 hx (y := (⟨"com/example/cellwise/cellwise/ChecksAtMostPinLaw", "pair", "(CC)Z"⟩ : MethodName)) hown (mvT hZ (hw _ (own_mi 32 rfl))) (mvT hZ (hw _ (own_mi 33 rfl))) (mvT hZ (hw _ (own_mi 34 rfl))) (mvT hZ (hw _ (own_mi 35 rfl))) (by decide) (backOf (W := 0) (rmPair l Z a0 hw [] (c0) (c1) T83.heap n0 Zn94 ) hZ (hw _ (own_mi 35 rfl)) (hw _ (own_mi 34 rfl)) (by decide) (by decide)) (g := (mkF m 212 #[.val (.long l0), .second, .val (.int i1), .val (.int i2), .val (.int i3), .val (.int (2 : Int32)), .val (.int c0), .val (.int c1), .val (.int c2), .val (.int c3), .val (.ref b69), .val (.int (2 : Int32)), .unset, .unset, .unset] [(.int c1), (.int c0)])) rfl (by rw [hml]; rfl) (argsL := [(.int c0), (.int c1)]) (rest := []) (lenOf own_pd_28CC29Z rfl) rfl (by show 2 * 0 + _ ≤ _; exact Nat.le_of_eq rfl) (hb hby at_212) (fun _ _ => ⟨rfl, rfl, (by decide : 4 + 0 ≤ _), (by decide : 18 + 0 ≤ _)⟩)
    dsimp only [Pt.U, Pt.locs, Pt.cells, Pt.slots] at X94 l94 y94 z94 st94 hQ94
    subst l94 y94 z94
    obtain ⟨rfl, Nq94, eh94⟩ := hQ94
    have N94 := Fr.app N83 Nq94
    refine own_go st94 ?_
    show own_Rn p e below _ (T94.setTop (mkF m 215 #[.val (.long l0), .second, .val (.int i1), .val (.int i2), .val (.int i3), .val (.int (2 : Int32)), .val (.int c0), .val (.int c1), .val (.int c2), .val (.int c3), .val (.ref b69), .val (.int (2 : Int32)), .unset, .unset, .unset] [(.int (if own_isHi c0 ∧ own_isLo c1 then (1 : Int32) else 0))]))
    by_cases hA0 : own_isHi c0 ∧ own_isLo c1
    · skip
      rw [if_pos hA0]
      show own_Rn p e below _ (T94.setTop (mkF m 215 #[.val (.long l0), .second, .val (.int i1), .val (.int i2), .val (.int i3), .val (.int (2 : Int32)), .val (.int c0), .val (.int c1), .val (.int c2), .val (.int c3), .val (.ref b69), .val (.int (2 : Int32)), .unset, .unset, .unset] [(.int (1 : Int32))]))
      have hp0 : own_pr c0 c1 = 1 := if_pos hA0
      refine own_go (fun tq kq => XS.ifNo X94.here hx rfl (hb hby at_215) rfl ((if0 _ _).trans (feq ((by decide : ¬ ((1 : Int32) = (0 : Int32))) : ¬ ((1 : Int32) = (0 : Int32)))).1) kq) ?_
      show own_Rn p e below _ (T94.setTop (mkF m 218 #[.val (.long l0), .second, .val (.int i1), .val (.int i2), .val (.int i3), .val (.int (2 : Int32)), .val (.int c0), .val (.int c1), .val (.int c2), .val (.int c3), .val (.ref b69), .val (.int (2 : Int32)), .unset, .unset, .unset] []))
      refine own_go (fun tq kq => XS.iload X94.here hx rfl (hb hby at_218) rfl kq) ?_
      show own_Rn p e below _ (T94.setTop (mkF m 220 #[.val (.long l0), .second, .val (.int i1), .val (.int i2), .val (.int i3), .val (.int (2 : Int32)), .val (.int c0), .val (.int c1), .val (.int c2), .val (.int c3), .val (.ref b69), .val (.int (2 : Int32)), .unset, .unset, .unset] [(.int (2 : Int32))]))
      refine own_go (fun tq kq => XS.iconst X94.here hx rfl (hb hby at_220) kq) ?_
      show own_Rn p e below _ (T94.setTop (mkF m 221 #[.val (.long l0), .second, .val (.int i1), .val (.int i2), .val (.int i3), .val (.int (2 : Int32)), .val (.int c0), .val (.int c1), .val (.int c2), .val (.int c3), .val (.ref b69), .val (.int (2 : Int32)), .unset, .unset, .unset] [(.int (1 : Int32)), (.int (2 : Int32))]))
      refine own_go (fun tq kq => XS.isub X94.here hx rfl (hb hby at_221) rfl kq) ?_
      show own_Rn p e below _ (T94.setTop (mkF m 222 #[.val (.long l0), .second, .val (.int i1), .val (.int i2), .val (.int i3), .val (.int (2 : Int32)), .val (.int c0), .val (.int c1), .val (.int c2), .val (.int c3), .val (.ref b69), .val (.int (2 : Int32)), .unset, .unset, .unset] [(.int ((2 : Int32) - (1 : Int32)))]))
      refine own_go (fun tq kq => XS.istore X94.here hx rfl (hb hby at_222) rfl (l' := #[.val (.long l0), .second, .val (.int i1), .val (.int i2), .val (.int i3), .val (.int (2 : Int32)), .val (.int c0), .val (.int c1), .val (.int c2), .val (.int c3), .val (.ref b69), .val (.int ((2 : Int32) - (1 : Int32))), .unset, .unset, .unset]) rfl kq) ?_
      show own_Rn p e below _ (T94.setTop (mkF m 224 #[.val (.long l0), .second, .val (.int i1), .val (.int i2), .val (.int i3), .val (.int (2 : Int32)), .val (.int c0), .val (.int c1), .val (.int c2), .val (.int c3), .val (.ref b69), .val (.int ((2 : Int32) - (1 : Int32))), .unset, .unset, .unset] []))
      refine own_go (fun tq kq => XS.iload X94.here hx rfl (hb hby at_224) rfl kq) ?_
      show own_Rn p e below _ (T94.setTop (mkF m 226 #[.val (.long l0), .second, .val (.int i1), .val (.int i2), .val (.int i3), .val (.int (2 : Int32)), .val (.int c0), .val (.int c1), .val (.int c2), .val (.int c3), .val (.ref b69), .val (.int ((2 : Int32) - (1 : Int32))), .unset, .unset, .unset] [(.int (2 : Int32))]))
      refine own_go (fun tq kq => XS.iconst X94.here hx rfl (hb hby at_226) kq) ?_
      show own_Rn p e below _ (T94.setTop (mkF m 227 #[.val (.long l0), .second, .val (.int i1), .val (.int i2), .val (.int i3), .val (.int (2 : Int32)), .val (.int c0), .val (.int c1), .val (.int c2), .val (.int c3), .val (.ref b69), .val (.int ((2 : Int32) - (1 : Int32))), .unset, .unset, .unset] [(.int (3 : Int32)), (.int (2 : Int32))]))
      refine own_go (fun tq kq => XS.icmpYes X94.here hx rfl (pc0 := 227) (pc' := 246) rfl (hb hby at_227) rfl (tlt (by decide : (2 : Int32) < (3 : Int32))).1 (by decide) (by decide) kq) ?_
      show own_Rn p e below _ (T94.setTop (mkF m 246 #[.val (.long l0), .second, .val (.int i1), .val (.int i2), .val (.int i3), .val (.int (2 : Int32)), .val (.int c0), .val (.int c1), .val (.int c2), .val (.int c3), .val (.ref b69), .val (.int ((2 : Int32) - (1 : Int32))), .unset, .unset, .unset] []))
      refine own_go (fun tq kq => XS.iload X94.here hx rfl (hb hby at_246) rfl kq) ?_
      show own_Rn p e below _ (T94.setTop (mkF m 248 #[.val (.long l0), .second, .val (.int i1), .val (.int i2), .val (.int i3), .val (.int (2 : Int32)), .val (.int c0), .val (.int c1), .val (.int c2), .val (.int c3), .val (.ref b69), .val (.int ((2 : Int32) - (1 : Int32))), .unset, .unset, .unset] [(.int (2 : Int32))]))
      refine own_go (fun tq kq => XS.iconst X94.here hx rfl (hb hby at_248) kq) ?_
      show own_Rn p e below _ (T94.setTop (mkF m 249 #[.val (.long l0), .second, .val (.int i1), .val (.int i2), .val (.int i3), .val (.int (2 : Int32)), .val (.int c0), .val (.int c1), .val (.int c2), .val (.int c3), .val (.ref b69), .val (.int ((2 : Int32) - (1 : Int32))), .unset, .unset, .unset] [(.int (4 : Int32)), (.int (2 : Int32))]))
      refine own_go (fun tq kq => XS.icmpYes X94.here hx rfl (pc0 := 249) (pc' := 268) rfl (hb hby at_249) rfl (tlt (by decide : (2 : Int32) < (4 : Int32))).1 (by decide) (by decide) kq) ?_
      show own_Rn p e below _ (T94.setTop (mkF m 268 #[.val (.long l0), .second, .val (.int i1), .val (.int i2), .val (.int i3), .val (.int (2 : Int32)), .val (.int c0), .val (.int c1), .val (.int c2), .val (.int c3), .val (.ref b69), .val (.int ((2 : Int32) - (1 : Int32))), .unset, .unset, .unset] []))
      refine own_go (fun tq kq => XS.iloadN X94.here hx rfl (hb hby at_268) rfl kq) ?_
      show own_Rn p e below _ (T94.setTop (mkF m 269 #[.val (.long l0), .second, .val (.int i1), .val (.int i2), .val (.int i3), .val (.int (2 : Int32)), .val (.int c0), .val (.int c1), .val (.int c2), .val (.int c3), .val (.ref b69), .val (.int ((2 : Int32) - (1 : Int32))), .unset, .unset, .unset] [(.int i2)]))
      refine own_go (fun tq kq => XS.iload X94.here hx rfl (hb hby at_269) rfl kq) ?_
      show own_Rn p e below _ (T94.setTop (mkF m 271 #[.val (.long l0), .second, .val (.int i1), .val (.int i2), .val (.int i3), .val (.int (2 : Int32)), .val (.int c0), .val (.int c1), .val (.int c2), .val (.int c3), .val (.ref b69), .val (.int ((2 : Int32) - (1 : Int32))), .unset, .unset, .unset] [(.int ((2 : Int32) - (1 : Int32))), (.int i2)]))
      have Zn95 : n0 ≤ T83.heap.size := by omega
      obtain ⟨rv95, _, ⟨T95, L95, k95, n95⟩, -, X95, ⟨Lc95, hQ95, l95, y95, z95⟩, st95⟩ := Jvm.LawKit.callS X94 hx (y := (⟨"java/lang/Math", "max", "(II)I"⟩ : MethodName)) hown (mvT hZ (hw _ (own_mi 40 rfl))) (mvT hZ (hw _ (own_mi 41 rfl))) (mvT hZ (hw _ (own_mi 42 rfl))) (mvT hZ (hw _ (own_mi 43 rfl))) (by decide) (backOf (W := 0) (rmMax l Z a0 hw [] (i2) (((2 : Int32) - (1 : Int32))) T83.heap n0 Zn95 ) hZ (hw _ (own_mi 43 rfl)) (hw _ (own_mi 42 rfl)) (by decide) (by decide)) (g := (mkF m 271 #[.val (.long l0), .second, .val (.int i1), .val (.int i2), .val (.int i3), .val (.int (2 : Int32)), .val (.int c0), .val (.int c1), .val (.int c2), .val (.int c3), .val (.ref b69), .val (.int ((2 : Int32) - (1 : Int32))), .unset, .unset, .unset] [(.int ((2 : Int32) - (1 : Int32))), (.int i2)])) rfl (by rw [hml]; rfl) (argsL := [(.int i2), (.int ((2 : Int32) - (1 : Int32)))]) (rest := []) (lenOf own_pd_28II29I rfl) rfl (by show 2 * 0 + _ ≤ _; exact Nat.le_of_eq rfl) (hb hby at_271) (fun _ _ => ⟨rfl, eh94, (by decide : 4 + 0 ≤ _), (by decide : 18 + 0 ≤ _)⟩)
      dsimp only [Pt.U, Pt.locs, Pt.cells, Pt.slots] at X95 l95 y95 z95 st95 hQ95
      subst l95 y95 z95
      obtain ⟨bd, rfl, Nq95, eh95, R_95⟩ := hQ95
      have N95 := Fr.app N94 Nq95
      refine own_go st95 ?_
      show own_Rn p e below _ (T95.setTop (mkF m 274 #[.val (.long l0), .second, .val (.int i1), .val (.int i2), .val (.int i3), .val (.int (2 : Int32)), .val (.int c0), .val (.int c1), .val (.int c2), .val (.int c3), .val (.ref b69), .val (.int ((2 : Int32) - (1 : Int32))), .unset, .unset, .unset] [(.int bd)]))
      refine own_go (fun tq kq => XS.istore X95.here hx rfl (hb hby at_274) rfl (l' := #[.val (.long l0), .second, .val (.int i1), .val (.int i2), .val (.int i3), .val (.int (2 : Int32)), .val (.int c0), .val (.int c1), .val (.int c2), .val (.int c3), .val (.ref b69), .val (.int ((2 : Int32) - (1 : Int32))), .val (.int bd), .unset, .unset]) rfl kq) ?_
      show own_Rn p e below _ (T95.setTop (mkF m 276 #[.val (.long l0), .second, .val (.int i1), .val (.int i2), .val (.int i3), .val (.int (2 : Int32)), .val (.int c0), .val (.int c1), .val (.int c2), .val (.int c3), .val (.ref b69), .val (.int ((2 : Int32) - (1 : Int32))), .val (.int bd), .unset, .unset] []))
      refine own_go (fun tq kq => XS.iload X95.here hx rfl (hb hby at_276) rfl kq) ?_
      show own_Rn p e below _ (T95.setTop (mkF m 278 #[.val (.long l0), .second, .val (.int i1), .val (.int i2), .val (.int i3), .val (.int (2 : Int32)), .val (.int c0), .val (.int c1), .val (.int c2), .val (.int c3), .val (.ref b69), .val (.int ((2 : Int32) - (1 : Int32))), .val (.int bd), .unset, .unset] [(.int i3)]))
      refine own_go (fun tq kq => XS.sipush X95.here hx rfl (hb hby at_278) kq) ?_
      show own_Rn p e below _ (T95.setTop (mkF m 281 #[.val (.long l0), .second, .val (.int i1), .val (.int i2), .val (.int i3), .val (.int (2 : Int32)), .val (.int c0), .val (.int c1), .val (.int c2), .val (.int c3), .val (.ref b69), .val (.int ((2 : Int32) - (1 : Int32))), .val (.int bd), .unset, .unset] [(.int (255 : Int32)), (.int i3)]))
      refine own_go (fun tq kq => XS.iand X95.here hx rfl (hb hby at_281) rfl kq) ?_
      show own_Rn p e below _ (T95.setTop (mkF m 282 #[.val (.long l0), .second, .val (.int i1), .val (.int i2), .val (.int i3), .val (.int (2 : Int32)), .val (.int c0), .val (.int c1), .val (.int c2), .val (.int c3), .val (.ref b69), .val (.int ((2 : Int32) - (1 : Int32))), .val (.int bd), .unset, .unset] [(.int (i3 &&& (255 : Int32)))]))
      refine own_go (fun tq kq => XS.i2c X95.here hx rfl (hb hby at_282) rfl kq) ?_
      show own_Rn p e below _ (T95.setTop (mkF m 283 #[.val (.long l0), .second, .val (.int i1), .val (.int i2), .val (.int i3), .val (.int (2 : Int32)), .val (.int c0), .val (.int c1), .val (.int c2), .val (.int c3), .val (.ref b69), .val (.int ((2 : Int32) - (1 : Int32))), .val (.int bd), .unset, .unset] [(.int ((i3 &&& (255 : Int32)).toUInt32.toUInt16.toUInt32.toInt32))]))
      obtain ⟨wc, hwc⟩ : ∃ z : Int32, z = ((i3 &&& (255 : Int32)).toUInt32.toUInt16.toUInt32.toInt32) := ⟨_, rfl⟩
      rw [← hwc]
      show own_Rn p e below _ (T95.setTop (mkF m 283 #[.val (.long l0), .second, .val (.int i1), .val (.int i2), .val (.int i3), .val (.int (2 : Int32)), .val (.int c0), .val (.int c1), .val (.int c2), .val (.int c3), .val (.ref b69), .val (.int ((2 : Int32) - (1 : Int32))), .val (.int bd), .unset, .unset] [(.int wc)]))
      have rwc : ¬ wc < 0 ∧ ¬ (255 : Int32) < wc := by rw [hwc]; exact own_chr_rng _
      have Zn96 : n0 ≤ T83.heap.size := by omega
      have F97 : Old Z n0 T83.heap := (F88.keep Kq83 (allS gn69 all0))
      obtain ⟨rv96, _, ⟨T96, L96, k96, n96⟩, -, X96, ⟨Lc96, hQ96, l96, y96, z96⟩, st96⟩ := Jvm.LawKit.callS X95 hx (y := (⟨"java/lang/String", "valueOf", "(C)Ljava/lang/String;"⟩ : MethodName)) hown (mvT hZ (hw _ (own_mi 44 rfl))) (mvT hZ (hw _ (own_mi 45 rfl))) (mvT hZ (hw _ (own_mi 4 rfl))) (mvT hZ (hw _ (own_mi 46 rfl))) (by decide) (backOf (W := 0) (rmVal l Z a0 hw [] (wc) (G1) T83.heap n0 Zn96 (rwc) (O2) (P5) F97) hZ (hw _ (own_mi 46 rfl)) (hw _ (own_mi 4 rfl)) (by decide) (by decide)) (g := (mkF m 283 #[.val (.long l0), .second, .val (.int i1), .val (.int i2), .val (.int i3), .val (.int (2 : Int32)), .val (.int c0), .val (.int c1), .val (.int c2), .val (.int c3), .val (.ref b69), .val (.int ((2 : Int32) - (1 : Int32))), .val (.int bd), .unset, .unset] [(.int wc)])) rfl (by rw [hml]; rfl) (argsL := [(.int wc)]) (rest := []) (lenOf own_pd_28C29Ljava2flang2fString3b rfl) rfl (by show 2 * 0 + _ ≤ _; exact Nat.le_of_eq rfl) (hb hby at_283) (fun _ _ => ⟨rfl, eh95, (by decide : 4 + 2 ≤ _), (by decide : 18 + 5 ≤ _)⟩)
      dsimp only [Pt.U, Pt.locs, Pt.cells, Pt.slots] at X96 l96 y96 z96 st96 hQ96
      subst l96 y96 z96
      obtain ⟨xw, tw, kw, rfl, Nq96, Kq96, G0_96, G1_96, G2_96, G3_96, G4_96, G5_96, G6_96, G7_96⟩ := hQ96
      have N96 := Fr.app N95 Nq96
      have sz98 : T83.heap.size ≤ T96.heap.size := Kq96.1
      have cr98 : CHr Z consts_1 s.vm T83.heap s.vm T96.heap := CHr.keep Kq96 sf0 CR91.1
      have CR98 := CR91.trans cr98
      have sf99 : Safe Z consts_1 s.vm T96.heap xw := Safe.keep Kq96 sf0 CR91.1 (Safe.new (by omega))
      have sf100 : Safe Z consts_1 s.vm T96.heap tw := Safe.keep Kq96 sf0 CR91.1 (Safe.new (by omega))
      have lt101 : @LT.lt Nat _ xw T96.heap.size := G4_96.lt
      have lt102 : @LT.lt Nat _ tw T96.heap.size := G7_96.lt
      refine own_go st96 ?_
      show own_Rn p e below _ (T96.setTop (mkF m 286 #[.val (.long l0), .second, .val (.int i1), .val (.int i2), .val (.int i3), .val (.int (2 : Int32)), .val (.int c0), .val (.int c1), .val (.int c2), .val (.int c3), .val (.ref b69), .val (.int ((2 : Int32) - (1 : Int32))), .val (.int bd), .unset, .unset] [(.ref xw)]))
      refine own_go (fun tq kq => XS.astore X96.here hx rfl (hb hby at_286) rfl rfl (l' := #[.val (.long l0), .second, .val (.int i1), .val (.int i2), .val (.int i3), .val (.int (2 : Int32)), .val (.int c0), .val (.int c1), .val (.int c2), .val (.int c3), .val (.ref b69), .val (.int ((2 : Int32) - (1 : Int32))), .val (.int bd), .val (.ref xw), .unset]) rfl kq) ?_
      show own_Rn p e below _ (T96.setTop (mkF m 288 #[.val (.long l0), .second, .val (.int i1), .val (.int i2), .val (.int i3), .val (.int (2 : Int32)), .val (.int c0), .val (.int c1), .val (.int c2), .val (.int c3), .val (.ref b69), .val (.int ((2 : Int32) - (1 : Int32))), .val (.int bd), .val (.ref xw), .unset] []))
      refine own_go (fun tq kq => XS.aload X96.here hx rfl (hb hby at_288) rfl rfl kq) ?_
      show own_Rn p e below _ (T96.setTop (mkF m 290 #[.val (.long l0), .second, .val (.int i1), .val (.int i2), .val (.int i3), .val (.int (2 : Int32)), .val (.int c0), .val (.int c1), .val (.int c2), .val (.int c3), .val (.ref b69), .val (.int ((2 : Int32) - (1 : Int32))), .val (.int bd), .val (.ref xw), .unset] [(.ref xw)]))
      refine own_go (fun tq kq => XS.iload X96.here hx rfl (hb hby at_290) rfl kq) ?_
      show own_Rn p e below _ (T96.setTop (mkF m 292 #[.val (.long l0), .second, .val (.int i1), .val (.int i2), .val (.int i3), .val (.int (2 : Int32)), .val (.int c0), .val (.int c1), .val (.int c2), .val (.int c3), .val (.ref b69), .val (.int ((2 : Int32) - (1 : Int32))), .val (.int bd), .val (.ref xw), .unset] [(.int bd), (.ref xw)]))
      refine own_go (fun tq kq => XS.aload X96.here hx rfl (hb hby at_292) rfl rfl kq) ?_
      show own_Rn p e below _ (T96.setTop (mkF m 294 #[.val (.long l0), .second, .val (.int i1), .val (.int i2), .val (.int i3), .val (.int (2 : Int32)), .val (.int c0), .val (.int c1), .val (.int c2), .val (.int c3), .val (.ref b69), .val (.int ((2 : Int32) - (1 : Int32))), .val (.int bd), .val (.ref xw), .unset] [(.ref b69), (.int bd), (.ref xw)]))
      have hcp : own_cp ([c0, c1] : List Int32) = 1 := by rw [own_cp, own_p2, hp0]; rfl
      have hmx : ¬ bd < Int32.ofNat (own_cp ([c0, c1] : List Int32)) := by rw [hcp]; have h := R_95; rwa [show ((2 : Int32) - (1 : Int32)) = Int32.ofNat 1 by decide] at h
      have Zn103 : n0 ≤ T96.heap.size := by omega
      have F104 : Exa Z T96.heap b69 "java/lang/String" := ((F84.keep Kq83).keep Kq96)
      have F105 : Fld Z T96.heap b69 "java/lang/String" "value" "[B" (.ref tt) := (G2_83.keep Kq96 nin0)
      have F106 : Fld Z T96.heap b69 "java/lang/String" "coder" "B" (.int cd) := (G3_83.keep Kq96 nin0)
      have F107 : Arv Z T96.heap tt kk .byte NN vv (.int 0) := (G4_83.keep Kq96 nin0)
      have F108 : Old Z n0 T96.heap := (F97.keep Kq96 all0)
      obtain ⟨rv103, _, ⟨T103, L103, k103, n103⟩, -, X103, ⟨Lc103, hQ103, l103, y103, z103⟩, st103⟩ := Jvm.LawKit.callS X96 hx (y := (⟨"com/example/cellwise/cellwise/Checks", "atMost", "(Ljava/lang/String;ILjava/lang/String;)Ljava/lang/String;"⟩ : MethodName)) hown (mvT hZ (hw _ (own_mi 58 rfl))) (mvT hZ (hw _ (own_mi 59 rfl))) (mvT hZ (hw _ (own_mi 60 rfl))) (mvT hZ (hw _ (own_mi 61 rfl))) (by decide) (backOf (W := 0) (rmAM l Z a0 hw [] (xw) (bd) (b69) (tt) (kk) (NN) (vv) (cd) (([c0, c1] : List Int32)) (G1) T96.heap n0 Zn103 F104 F105 F106 F107 (RL) (by simp) (hr) (hmx) (OAD) (OHI) (OLO) (O2) (P5) F108) hZ (hw _ (own_mi 61 rfl)) (hw _ (own_mi 60 rfl)) (by decide) (by decide)) (g := (mkF m 294 #[.val (.long l0), .second, .val (.int i1), .val (.int i2), .val (.int i3), .val (.int (2 : Int32)), .val (.int c0), .val (.int c1), .val (.int c2), .val (.int c3), .val (.ref b69), .val (.int ((2 : Int32) - (1 : Int32))), .val (.int bd), .val (.ref xw), .unset] [(.ref b69), (.int bd), (.ref xw)])) rfl (by rw [hml]; rfl) (argsL := [(.ref xw), (.int bd), (.ref b69)]) (rest := []) (lenOf own_pd_28Ljava2flang2fString3bILjava2flang2fString3b29Ljava2flang2fString3b rfl) rfl (by show 2 * 0 + _ ≤ _; exact Nat.le_of_eq rfl) (hb hby at_294) (fun _ _ => ⟨rfl, rfl, (by decide : 6 + 0 ≤ _), (by decide : 23 + 0 ≤ _)⟩)
      dsimp only [Pt.U, Pt.locs, Pt.cells, Pt.slots] at X103 l103 y103 z103 st103 hQ103
      subst l103 y103 z103
      obtain ⟨rfl, Nq103, eh103⟩ := hQ103
      have N103 := Fr.app N96 Nq103
      refine own_go st103 ?_
      show own_Rn p e below _ (T103.setTop (mkF m 297 #[.val (.long l0), .second, .val (.int i1), .val (.int i2), .val (.int i3), .val (.int (2 : Int32)), .val (.int c0), .val (.int c1), .val (.int c2), .val (.int c3), .val (.ref b69), .val (.int ((2 : Int32) - (1 : Int32))), .val (.int bd), .val (.ref xw), .unset] [(.ref b69)]))
      refine own_go (fun tq kq => XS.astore X103.here hx rfl (hb hby at_297) rfl rfl (l' := #[.val (.long l0), .second, .val (.int i1), .val (.int i2), .val (.int i3), .val (.int (2 : Int32)), .val (.int c0), .val (.int c1), .val (.int c2), .val (.int c3), .val (.ref b69), .val (.int ((2 : Int32) - (1 : Int32))), .val (.int bd), .val (.ref xw), .val (.ref b69)]) rfl kq) ?_
      show own_Rn p e below _ (T103.setTop (mkF m 299 #[.val (.long l0), .second, .val (.int i1), .val (.int i2), .val (.int i3), .val (.int (2 : Int32)), .val (.int c0), .val (.int c1), .val (.int c2), .val (.int c3), .val (.ref b69), .val (.int ((2 : Int32) - (1 : Int32))), .val (.int bd), .val (.ref xw), .val (.ref b69)] []))
      refine own_go (fun tq kq => XS.aload X103.here hx rfl (hb hby at_299) rfl rfl kq) ?_
      show own_Rn p e below _ (T103.setTop (mkF m 301 #[.val (.long l0), .second, .val (.int i1), .val (.int i2), .val (.int i3), .val (.int (2 : Int32)), .val (.int c0), .val (.int c1), .val (.int c2), .val (.int c3), .val (.ref b69), .val (.int ((2 : Int32) - (1 : Int32))), .val (.int bd), .val (.ref xw), .val (.ref b69)] [(.ref b69)]))
      refine own_go (fun tq kq => XS.ifnullNo X103.here hx rfl (hb hby at_301) rfl kq) ?_
      show own_Rn p e below _ (T103.setTop (mkF m 304 #[.val (.long l0), .second, .val (.int i1), .val (.int i2), .val (.int i3), .val (.int (2 : Int32)), .val (.int c0), .val (.int c1), .val (.int c2), .val (.int c3), .val (.ref b69), .val (.int ((2 : Int32) - (1 : Int32))), .val (.int bd), .val (.ref xw), .val (.ref b69)] []))
      refine own_go (fun tq kq => XS.aload X103.here hx rfl (hb hby at_304) rfl rfl kq) ?_
      show own_Rn p e below _ (T103.setTop (mkF m 306 #[.val (.long l0), .second, .val (.int i1), .val (.int i2), .val (.int i3), .val (.int (2 : Int32)), .val (.int c0), .val (.int c1), .val (.int c2), .val (.int c3), .val (.ref b69), .val (.int ((2 : Int32) - (1 : Int32))), .val (.int bd), .val (.ref xw), .val (.ref b69)] [(.ref b69)]))
      refine own_go (fun tq kq => XS.aload X103.here hx rfl (hb hby at_306) rfl rfl kq) ?_
      show own_Rn p e below _ (T103.setTop (mkF m 308 #[.val (.long l0), .second, .val (.int i1), .val (.int i2), .val (.int i3), .val (.int (2 : Int32)), .val (.int c0), .val (.int c1), .val (.int c2), .val (.int c3), .val (.ref b69), .val (.int ((2 : Int32) - (1 : Int32))), .val (.int bd), .val (.ref xw), .val (.ref b69)] [(.ref b69), (.ref b69)]))
      have Zn109 : n0 ≤ T96.heap.size := by omega
      obtain ⟨cq109, kq109, qa109, qb109, qc109⟩ := isOf hZ eh103 F104
      obtain ⟨rv109, _, ⟨T109, L109, k109, n109⟩, -, X109, ⟨Lc109, hQ109, l109, y109, z109⟩, st109⟩ := X103.virtualBack hx (y := (⟨"java/lang/String", "equals", "(Ljava/lang/Object;)Z"⟩ : MethodName)) (z := (⟨"java/lang/String", "equals", "(Ljava/lang/Object;)Z"⟩ : MethodName)) hown (mvT hZ (hw _ (own_mi 91 rfl))) (mvT hZ (hw _ (own_mi 92 rfl))) (notFace_of_selects (args := #[]) (mvT hZ (hw _ (own_mi 94 rfl)))) (mvT hZ (hw _ (own_mi 94 rfl))) (mvT hZ (hw _ (own_mi 93 rfl))) (by decide) (backOf (W := 0) (rmEqS l Z a0 hw [] (b69) T96.heap n0 Zn109 ) hZ (hw _ (own_mi 95 rfl)) (hw _ (own_mi 4 rfl)) (by decide) (by decide)) qa109 qc109 (g := (mkF m 308 #[.val (.long l0), .second, .val (.int i1), .val (.int i2), .val (.int i3), .val (.int (2 : Int32)), .val (.int c0), .val (.int c1), .val (.int c2), .val (.int c3), .val (.ref b69), .val (.int ((2 : Int32) - (1 : Int32))), .val (.int bd), .val (.ref xw), .val (.ref b69)] [(.ref b69), (.ref b69)])) rfl (by rw [hml]; rfl) (Steps.refl _) (argsL := [(.ref b69)]) (rest := []) (lenOf own_pd_28Ljava2flang2fObject3b29Z rfl) rfl (by show 2 * 0 + _ ≤ _; exact Nat.le_of_eq rfl) (hb hby at_308) (fun _ _ => ⟨rfl, eh103, (by decide : 6 + 0 ≤ _), (by decide : 23 + 0 ≤ _)⟩)
      dsimp only [Pt.U, Pt.locs, Pt.cells, Pt.slots] at X109 l109 y109 z109 st109 hQ109
      subst l109 y109 z109
      obtain ⟨rfl, Nq109, eh109⟩ := hQ109
      have N109 := Fr.app N103 Nq109
      refine own_go (fun tq kq => st109.trans kq) ?_
      show own_Rn p e below _ (T109.setTop (mkF m 311 #[.val (.long l0), .second, .val (.int i1), .val (.int i2), .val (.int i3), .val (.int (2 : Int32)), .val (.int c0), .val (.int c1), .val (.int c2), .val (.int c3), .val (.ref b69), .val (.int ((2 : Int32) - (1 : Int32))), .val (.int bd), .val (.ref xw), .val (.ref b69)] [(.int (1 : Int32))]))
      refine own_go (fun tq kq => XS.ifNo X109.here hx rfl (hb hby at_311) rfl ((if0 _ _).trans (feq ((by decide : ¬ ((1 : Int32) = (0 : Int32))) : ¬ ((1 : Int32) = (0 : Int32)))).1) kq) ?_
      show own_Rn p e below _ (T109.setTop (mkF m 314 #[.val (.long l0), .second, .val (.int i1), .val (.int i2), .val (.int i3), .val (.int (2 : Int32)), .val (.int c0), .val (.int c1), .val (.int c2), .val (.int c3), .val (.ref b69), .val (.int ((2 : Int32) - (1 : Int32))), .val (.int bd), .val (.ref xw), .val (.ref b69)] []))
      refine own_go (fun tq kq => XS.iconst X109.here hx rfl (hb hby at_314) kq) ?_
      show own_Rn p e below _ (T109.setTop (mkF m 315 #[.val (.long l0), .second, .val (.int i1), .val (.int i2), .val (.int i3), .val (.int (2 : Int32)), .val (.int c0), .val (.int c1), .val (.int c2), .val (.int c3), .val (.ref b69), .val (.int ((2 : Int32) - (1 : Int32))), .val (.int bd), .val (.ref xw), .val (.ref b69)] [(.int (1 : Int32))]))
      refine own_go (fun tq kq => XS.goto X109.here hx rfl (pc0 := 315) (pc' := 319) rfl (hb hby at_315) (by decide) (by decide) kq) ?_
      show own_Rn p e below _ (T109.setTop (mkF m 319 #[.val (.long l0), .second, .val (.int i1), .val (.int i2), .val (.int i3), .val (.int (2 : Int32)), .val (.int c0), .val (.int c1), .val (.int c2), .val (.int c3), .val (.ref b69), .val (.int ((2 : Int32) - (1 : Int32))), .val (.int bd), .val (.ref xw), .val (.ref b69)] [(.int (1 : Int32))]))
      exact own_retS X109 hS0 (by rw [eh109]; omega) (v := some (.int (nar .boolean (1 : Int32)))) (fun h => by rw [Bd.returns] at h; cases h) (fun fs hr => retN X109 hx (t := .boolean) Bd.returns (by simp) (hb hby at_319) hr) (by rw [eh109]; exact ⟨rfl, N109⟩) (by rw [hh, eh109]; exact CR98.trans (CHv.at X109 hZ hEL CR98.1)) (by decide) (by decide)
    · skip
      rw [if_neg hA0]
      show own_Rn p e below _ (T94.setTop (mkF m 215 #[.val (.long l0), .second, .val (.int i1), .val (.int i2), .val (.int i3), .val (.int (2 : Int32)), .val (.int c0), .val (.int c1), .val (.int c2), .val (.int c3), .val (.ref b69), .val (.int (2 : Int32)), .unset, .unset, .unset] [(.int (0 : Int32))]))
      have hp0 : own_pr c0 c1 = 0 := if_neg hA0
      refine own_go (fun tq kq => XS.ifYes X94.here hx rfl (pc0 := 215) (pc' := 224) rfl (hb hby at_215) rfl ((if0 _ _).trans (teq ((by decide : (0 : Int32) = (0 : Int32)) : (0 : Int32) = (0 : Int32))).1) (by decide) (by decide) kq) ?_
      show own_Rn p e below _ (T94.setTop (mkF m 224 #[.val (.long l0), .second, .val (.int i1), .val (.int i2), .val (.int i3), .val (.int (2 : Int32)), .val (.int c0), .val (.int c1), .val (.int c2), .val (.int c3), .val (.ref b69), .val (.int (2 : Int32)), .unset, .unset, .unset] []))
      refine own_go (fun tq kq => XS.iload X94.here hx rfl (hb hby at_224) rfl kq) ?_
      show own_Rn p e below _ (T94.setTop (mkF m 226 #[.val (.long l0), .second, .val (.int i1), .val (.int i2), .val (.int i3), .val (.int (2 : Int32)), .val (.int c0), .val (.int c1), .val (.int c2), .val (.int c3), .val (.ref b69), .val (.int (2 : Int32)), .unset, .unset, .unset] [(.int (2 : Int32))]))
      refine own_go (fun tq kq => XS.iconst X94.here hx rfl (hb hby at_226) kq) ?_
      show own_Rn p e below _ (T94.setTop (mkF m 227 #[.val (.long l0), .second, .val (.int i1), .val (.int i2), .val (.int i3), .val (.int (2 : Int32)), .val (.int c0), .val (.int c1), .val (.int c2), .val (.int c3), .val (.ref b69), .val (.int (2 : Int32)), .unset, .unset, .unset] [(.int (3 : Int32)), (.int (2 : Int32))]))
      refine own_go (fun tq kq => XS.icmpYes X94.here hx rfl (pc0 := 227) (pc' := 246) rfl (hb hby at_227) rfl (tlt (by decide : (2 : Int32) < (3 : Int32))).1 (by decide) (by decide) kq) ?_
      show own_Rn p e below _ (T94.setTop (mkF m 246 #[.val (.long l0), .second, .val (.int i1), .val (.int i2), .val (.int i3), .val (.int (2 : Int32)), .val (.int c0), .val (.int c1), .val (.int c2), .val (.int c3), .val (.ref b69), .val (.int (2 : Int32)), .unset, .unset, .unset] []))
      refine own_go (fun tq kq => XS.iload X94.here hx rfl (hb hby at_246) rfl kq) ?_
      show own_Rn p e below _ (T94.setTop (mkF m 248 #[.val (.long l0), .second, .val (.int i1), .val (.int i2), .val (.int i3), .val (.int (2 : Int32)), .val (.int c0), .val (.int c1), .val (.int c2), .val (.int c3), .val (.ref b69), .val (.int (2 : Int32)), .unset, .unset, .unset] [(.int (2 : Int32))]))
      refine own_go (fun tq kq => XS.iconst X94.here hx rfl (hb hby at_248) kq) ?_
      show own_Rn p e below _ (T94.setTop (mkF m 249 #[.val (.long l0), .second, .val (.int i1), .val (.int i2), .val (.int i3), .val (.int (2 : Int32)), .val (.int c0), .val (.int c1), .val (.int c2), .val (.int c3), .val (.ref b69), .val (.int (2 : Int32)), .unset, .unset, .unset] [(.int (4 : Int32)), (.int (2 : Int32))]))
      refine own_go (fun tq kq => XS.icmpYes X94.here hx rfl (pc0 := 249) (pc' := 268) rfl (hb hby at_249) rfl (tlt (by decide : (2 : Int32) < (4 : Int32))).1 (by decide) (by decide) kq) ?_
      show own_Rn p e below _ (T94.setTop (mkF m 268 #[.val (.long l0), .second, .val (.int i1), .val (.int i2), .val (.int i3), .val (.int (2 : Int32)), .val (.int c0), .val (.int c1), .val (.int c2), .val (.int c3), .val (.ref b69), .val (.int (2 : Int32)), .unset, .unset, .unset] []))
      refine own_go (fun tq kq => XS.iloadN X94.here hx rfl (hb hby at_268) rfl kq) ?_
      show own_Rn p e below _ (T94.setTop (mkF m 269 #[.val (.long l0), .second, .val (.int i1), .val (.int i2), .val (.int i3), .val (.int (2 : Int32)), .val (.int c0), .val (.int c1), .val (.int c2), .val (.int c3), .val (.ref b69), .val (.int (2 : Int32)), .unset, .unset, .unset] [(.int i2)]))
      refine own_go (fun tq kq => XS.iload X94.here hx rfl (hb hby at_269) rfl kq) ?_
      show own_Rn p e below _ (T94.setTop (mkF m 271 #[.val (.long l0), .second, .val (.int i1), .val (.int i2), .val (.int i3), .val (.int (2 : Int32)), .val (.int c0), .val (.int c1), .val (.int c2), .val (.int c3), .val (.ref b69), .val (.int (2 : Int32)), .unset, .unset, .unset] [(.int (2 : Int32)), (.int i2)]))
      have Zn110 : n0 ≤ T83.heap.size := by omega
      obtain ⟨rv110, _, ⟨T110, L110, k110, n110⟩, -, X110, ⟨Lc110, hQ110, l110, y110, z110⟩, st110⟩ := Jvm.LawKit.callS X94 hx (y := (⟨"java/lang/Math", "max", "(II)I"⟩ : MethodName)) hown (mvT hZ (hw _ (own_mi 40 rfl))) (mvT hZ (hw _ (own_mi 41 rfl))) (mvT hZ (hw _ (own_mi 42 rfl))) (mvT hZ (hw _ (own_mi 43 rfl))) (by decide) (backOf (W := 0) (rmMax l Z a0 hw [] (i2) ((2 : Int32)) T83.heap n0 Zn110 ) hZ (hw _ (own_mi 43 rfl)) (hw _ (own_mi 42 rfl)) (by decide) (by decide)) (g := (mkF m 271 #[.val (.long l0), .second, .val (.int i1), .val (.int i2), .val (.int i3), .val (.int (2 : Int32)), .val (.int c0), .val (.int c1), .val (.int c2), .val (.int c3), .val (.ref b69), .val (.int (2 : Int32)), .unset, .unset, .unset] [(.int (2 : Int32)), (.int i2)])) rfl (by rw [hml]; rfl) (argsL := [(.int i2), (.int (2 : Int32))]) (rest := []) (lenOf own_pd_28II29I rfl) rfl (by show 2 * 0 + _ ≤ _; exact Nat.le_of_eq rfl) (hb hby at_271) (fun _ _ => ⟨rfl, eh94, (by decide : 4 + 0 ≤ _), (by decide : 18 + 0 ≤ _)⟩)
      dsimp only [Pt.U, Pt.locs, Pt.cells, Pt.slots] at X110 l110 y110 z110 st110 hQ110
      subst l110 y110 z110
      obtain ⟨bd, rfl, Nq110, eh110, R_110⟩ := hQ110
      have N110 := Fr.app N94 Nq110
      refine own_go st110 ?_
      show own_Rn p e below _ (T110.setTop (mkF m 274 #[.val (.long l0), .second, .val (.int i1), .val (.int i2), .val (.int i3), .val (.int (2 : Int32)), .val (.int c0), .val (.int c1), .val (.int c2), .val (.int c3), .val (.ref b69), .val (.int (2 : Int32)), .unset, .unset, .unset] [(.int bd)]))
      refine own_go (fun tq kq => XS.istore X110.here hx rfl (hb hby at_274) rfl (l' := #[.val (.long l0), .second, .val (.int i1), .val (.int i2), .val (.int i3), .val (.int (2 : Int32)), .val (.int c0), .val (.int c1), .val (.int c2), .val (.int c3), .val (.ref b69), .val (.int (2 : Int32)), .val (.int bd), .unset, .unset]) rfl kq) ?_
      show own_Rn p e below _ (T110.setTop (mkF m 276 #[.val (.long l0), .second, .val (.int i1), .val (.int i2), .val (.int i3), .val (.int (2 : Int32)), .val (.int c0), .val (.int c1), .val (.int c2), .val (.int c3), .val (.ref b69), .val (.int (2 : Int32)), .val (.int bd), .unset, .unset] []))
      refine own_go (fun tq kq => XS.iload X110.here hx rfl (hb hby at_276) rfl kq) ?_
      show own_Rn p e below _ (T110.setTop (mkF m 278 #[.val (.long l0), .second, .val (.int i1), .val (.int i2), .val (.int i3), .val (.int (2 : Int32)), .val (.int c0), .val (.int c1), .val (.int c2), .val (.int c3), .val (.ref b69), .val (.int (2 : Int32)), .val (.int bd), .unset, .unset] [(.int i3)]))
      refine own_go (fun tq kq => XS.sipush X110.here hx rfl (hb hby at_278) kq) ?_
      show own_Rn p e below _ (T110.setTop (mkF m 281 #[.val (.long l0), .second, .val (.int i1), .val (.int i2), .val (.int i3), .val (.int (2 : Int32)), .val (.int c0), .val (.int c1), .val (.int c2), .val (.int c3), .val (.ref b69), .val (.int (2 : Int32)), .val (.int bd), .unset, .unset] [(.int (255 : Int32)), (.int i3)]))
      refine own_go (fun tq kq => XS.iand X110.here hx rfl (hb hby at_281) rfl kq) ?_
      show own_Rn p e below _ (T110.setTop (mkF m 282 #[.val (.long l0), .second, .val (.int i1), .val (.int i2), .val (.int i3), .val (.int (2 : Int32)), .val (.int c0), .val (.int c1), .val (.int c2), .val (.int c3), .val (.ref b69), .val (.int (2 : Int32)), .val (.int bd), .unset, .unset] [(.int (i3 &&& (255 : Int32)))]))
      refine own_go (fun tq kq => XS.i2c X110.here hx rfl (hb hby at_282) rfl kq) ?_
      show own_Rn p e below _ (T110.setTop (mkF m 283 #[.val (.long l0), .second, .val (.int i1), .val (.int i2), .val (.int i3), .val (.int (2 : Int32)), .val (.int c0), .val (.int c1), .val (.int c2), .val (.int c3), .val (.ref b69), .val (.int (2 : Int32)), .val (.int bd), .unset, .unset] [(.int ((i3 &&& (255 : Int32)).toUInt32.toUInt16.toUInt32.toInt32))]))
      obtain ⟨wc, hwc⟩ : ∃ z : Int32, z = ((i3 &&& (255 : Int32)).toUInt32.toUInt16.toUInt32.toInt32) := ⟨_, rfl⟩
      rw [← hwc]
      show own_Rn p e below _ (T110.setTop (mkF m 283 #[.val (.long l0), .second, .val (.int i1), .val (.int i2), .val (.int i3), .val (.int (2 : Int32)), .val (.int c0), .val (.int c1), .val (.int c2), .val (.int c3), .val (.ref b69), .val (.int (2 : Int32)), .val (.int bd), .unset, .unset] [(.int wc)]))
      have rwc : ¬ wc < 0 ∧ ¬ (255 : Int32) < wc := by rw [hwc]; exact own_chr_rng _
      have Zn111 : n0 ≤ T83.heap.size := by omega
      have F112 : Old Z n0 T83.heap := (F88.keep Kq83 (allS gn69 all0))
      obtain ⟨rv111, _, ⟨T111, L111, k111, n111⟩, -, X111, ⟨Lc111, hQ111, l111, y111, z111⟩, st111⟩ := Jvm.LawKit.callS X110 hx (y := (⟨"java/lang/String", "valueOf", "(C)Ljava/lang/String;"⟩ : MethodName)) hown (mvT hZ (hw _ (own_mi 44 rfl))) (mvT hZ (hw _ (own_mi 45 rfl))) (mvT hZ (hw _ (own_mi 4 rfl))) (mvT hZ (hw _ (own_mi 46 rfl))) (by decide) (backOf (W := 0) (rmVal l Z a0 hw [] (wc) (G1) T83.heap n0 Zn111 (rwc) (O2) (P5) F112) hZ (hw _ (own_mi 46 rfl)) (hw _ (own_mi 4 rfl)) (by decide) (by decide)) (g := (mkF m 283 #[.val (.long l0), .second, .val (.int i1), .val (.int i2), .val (.int i3), .val (.int (2 : Int32)), .val (.int c0), .val (.int c1), .val (.int c2), .val (.int c3), .val (.ref b69), .val (.int (2 : Int32)), .val (.int bd), .unset, .unset] [(.int wc)])) rfl (by rw [hml]; rfl) (argsL := [(.int wc)]) (rest := []) (lenOf own_pd_28C29Ljava2flang2fString3b rfl) rfl (by show 2 * 0 + _ ≤ _; exact Nat.le_of_eq rfl) (hb hby at_283) (fun _ _ => ⟨rfl, eh110, (by decide : 4 + 2 ≤ _), (by decide : 18 + 5 ≤ _)⟩)
      dsimp only [Pt.U, Pt.locs, Pt.cells, Pt.slots] at X111 l111 y111 z111 st111 hQ111
      subst l111 y111 z111
      obtain ⟨xw, tw, kw, rfl, Nq111, Kq111, G0_111, G1_111, G2_111, G3_111, G4_111, G5_111, G6_111, G7_111⟩ := hQ111
      have N111 := Fr.app N110 Nq111
      have sz113 : T83.heap.size ≤ T111.heap.size := Kq111.1
      have cr113 : CHr Z consts_1 s.vm T83.heap s.vm T111.heap := CHr.keep Kq111 sf0 CR91.1
      have CR113 := CR91.trans cr113
      have sf114 : Safe Z consts_1 s.vm T111.heap xw := Safe.keep Kq111 sf0 CR91.1 (Safe.new (by omega))
      have sf115 : Safe Z consts_1 s.vm T111.heap tw := Safe.keep Kq111 sf0 CR91.1 (Safe.new (by omega))
      have lt116 : @LT.lt Nat _ xw T111.heap.size := G4_111.lt
      have lt117 : @LT.lt Nat _ tw T111.heap.size := G7_111.lt
      refine own_go st111 ?_
      show own_Rn p e below _ (T111.setTop (mkF m 286 #[.val (.long l0), .second, .val (.int i1), .val (.int i2), .val (.int i3), .val (.int (2 : Int32)), .val (.int c0), .val (.int c1), .val (.int c2), .val (.int c3), .val (.ref b69), .val (.int (2 : Int32)), .val (.int bd), .unset, .unset] [(.ref xw)]))
      refine own_go (fun tq kq => XS.astore X111.here hx rfl (hb hby at_286) rfl rfl (l' := #[.val (.long l0), .second, .val (.int i1), .val (.int i2), .val (.int i3), .val (.int (2 : Int32)), .val (.int c0), .val (.int c1), .val (.int c2), .val (.int c3), .val (.ref b69), .val (.int (2 : Int32)), .val (.int bd), .val (.ref xw), .unset]) rfl kq) ?_
      show own_Rn p e below _ (T111.setTop (mkF m 288 #[.val (.long l0), .second, .val (.int i1), .val (.int i2), .val (.int i3), .val (.int (2 : Int32)), .val (.int c0), .val (.int c1), .val (.int c2), .val (.int c3), .val (.ref b69), .val (.int (2 : Int32)), .val (.int bd), .val (.ref xw), .unset] []))
      refine own_go (fun tq kq => XS.aload X111.here hx rfl (hb hby at_288) rfl rfl kq) ?_
      show own_Rn p e below _ (T111.setTop (mkF m 290 #[.val (.long l0), .second, .val (.int i1), .val (.int i2), .val (.int i3), .val (.int (2 : Int32)), .val (.int c0), .val (.int c1), .val (.int c2), .val (.int c3), .val (.ref b69), .val (.int (2 : Int32)), .val (.int bd), .val (.ref xw), .unset] [(.ref xw)]))
      refine own_go (fun tq kq => XS.iload X111.here hx rfl (hb hby at_290) rfl kq) ?_
      show own_Rn p e below _ (T111.setTop (mkF m 292 #[.val (.long l0), .second, .val (.int i1), .val (.int i2), .val (.int i3), .val (.int (2 : Int32)), .val (.int c0), .val (.int c1), .val (.int c2), .val (.int c3), .val (.ref b69), .val (.int (2 : Int32)), .val (.int bd), .val (.ref xw), .unset] [(.int bd), (.ref xw)]))
      refine own_go (fun tq kq => XS.aload X111.here hx rfl (hb hby at_292) rfl rfl kq) ?_
      show own_Rn p e below _ (T111.setTop (mkF m 294 #[.val (.long l0), .second, .val (.int i1), .val (.int i2), .val (.int i3), .val (.int (2 : Int32)), .val (.int c0), .val (.int c1), .val (.int c2), .val (.int c3), .val (.ref b69), .val (.int (2 : Int32)), .val (.int bd), .val (.ref xw), .unset] [(.ref b69), (.int bd), (.ref xw)]))
      have hcp : own_cp ([c0, c1] : List Int32) = 2 := by rw [own_cp, own_p2, hp0]; rfl
      have hmx : ¬ bd < Int32.ofNat (own_cp ([c0, c1] : List Int32)) := by rw [hcp]; have h := R_110; rwa [show (2 : Int32) = Int32.ofNat 2 by decide] at h
      have Zn118 : n0 ≤ T111.heap.size := by omega
      have F119 : Exa Z T111.heap b69 "java/lang/String" := ((F84.keep Kq83).keep Kq111)
      have F120 : Fld Z T111.heap b69 "java/lang/String" "value" "[B" (.ref tt) := (G2_83.keep Kq111 nin0)
      have F121 : Fld Z T111.heap b69 "java/lang/String" "coder" "B" (.int cd) := (G3_83.keep Kq111 nin0)
      have F122 : Arv Z T111.heap tt kk .byte NN vv (.int 0) := (G4_83.keep Kq111 nin0)
      have F123 : Old Z n0 T111.heap := (F112.keep Kq111 all0)
      obtain ⟨rv118, _, ⟨T118, L118, k118, n118⟩, -, X118, ⟨Lc118, hQ118, l118, y118, z118⟩, st118⟩ := Jvm.LawKit.callS X111 hx (y := (⟨"com/example/cellwise/cellwise/Checks", "atMost", "(Ljava/lang/String;ILjava/lang/String;)Ljava/lang/String;"⟩ : MethodName)) hown (mvT hZ (hw _ (own_mi 58 rfl))) (mvT hZ (hw _ (own_mi 59 rfl))) (mvT hZ (hw _ (own_mi 60 rfl))) (mvT hZ (hw _ (own_mi 61 rfl))) (by decide) (backOf (W := 0) (rmAM l Z a0 hw [] (xw) (bd) (b69) (tt) (kk) (NN) (vv) (cd) (([c0, c1] : List Int32)) (G1) T111.heap n0 Zn118 F119 F120 F121 F122 (RL) (by simp) (hr) (hmx) (OAD) (OHI) (OLO) (O2) (P5) F123) hZ (hw _ (own_mi 61 rfl)) (hw _ (own_mi 60 rfl)) (by decide) (by decide)) (g := (mkF m 294 #[.val (.long l0), .second, .val (.int i1), .val (.int i2), .val (.int i3), .val (.int (2 : Int32)), .val (.int c0), .val (.int c1), .val (.int c2), .val (.int c3), .val (.ref b69), .val (.int (2 : Int32)), .val (.int bd), .val (.ref xw), .unset] [(.ref b69), (.int bd), (.ref xw)])) rfl (by rw [hml]; rfl) (argsL := [(.ref xw), (.int bd), (.ref b69)]) (rest := []) (lenOf own_pd_28Ljava2flang2fString3bILjava2flang2fString3b29Ljava2flang2fString3b rfl) rfl (by show 2 * 0 + _ ≤ _; exact Nat.le_of_eq rfl) (hb hby at_294) (fun _ _ => ⟨rfl, rfl, (by decide : 6 + 0 ≤ _), (by decide : 23 + 0 ≤ _)⟩)
      dsimp only [Pt.U, Pt.locs, Pt.cells, Pt.slots] at X118 l118 y118 z118 st118 hQ118
      subst l118 y118 z118
      obtain ⟨rfl, Nq118, eh118⟩ := hQ118
      have N118 := Fr.app N111 Nq118
      refine own_go st118 ?_
      show own_Rn p e below _ (T118.setTop (mkF m 297 #[.val (.long l0), .second, .val (.int i1), .val (.int i2), .val (.int i3), .val (.int (2 : Int32)), .val (.int c0), .val (.int c1), .val (.int c2), .val (.int c3), .val (.ref b69), .val (.int (2 : Int32)), .val (.int bd), .val (.ref xw), .unset] [(.ref b69)]))
      refine own_go (fun tq kq => XS.astore X118.here hx rfl (hb hby at_297) rfl rfl (l' := #[.val (.long l0), .second, .val (.int i1), .val (.int i2), .val (.int i3), .val (.int (2 : Int32)), .val (.int c0), .val (.int c1), .val (.int c2), .val (.int c3), .val (.ref b69), .val (.int (2 : Int32)), .val (.int bd), .val (.ref xw), .val (.ref b69)]) rfl kq) ?_
      show own_Rn p e below _ (T118.setTop (mkF m 299 #[.val (.long l0), .second, .val (.int i1), .val (.int i2), .val (.int i3), .val (.int (2 : Int32)), .val (.int c0), .val (.int c1), .val (.int c2), .val (.int c3), .val (.ref b69), .val (.int (2 : Int32)), .val (.int bd), .val (.ref xw), .val (.ref b69)] []))
      refine own_go (fun tq kq => XS.aload X118.here hx rfl (hb hby at_299) rfl rfl kq) ?_
      show own_Rn p e below _ (T118.setTop (mkF m 301 #[.val (.long l0), .second, .val (.int i1), .val (.int i2), .val (.int i3), .val (.int (2 : Int32)), .val (.int c0), .val (.int c1), .val (.int c2), .val (.int c3), .val (.ref b69), .val (.int (2 : Int32)), .val (.int bd), .val (.ref xw), .val (.ref b69)] [(.ref b69)]))
      refine own_go (fun tq kq => XS.ifnullNo X118.here hx rfl (hb hby at_301) rfl kq) ?_
      show own_Rn p e below _ (T118.setTop (mkF m 304 #[.val (.long l0), .second, .val (.int i1), .val (.int i2), .val (.int i3), .val (.int (2 : Int32)), .val (.int c0), .val (.int c1), .val (.int c2), .val (.int c3), .val (.ref b69), .val (.int (2 : Int32)), .val (.int bd), .val (.ref xw), .val (.ref b69)] []))
      refine own_go (fun tq kq => XS.aload X118.here hx rfl (hb hby at_304) rfl rfl kq) ?_
      show own_Rn p e below _ (T118.setTop (mkF m 306 #[.val (.long l0), .second, .val (.int i1), .val (.int i2), .val (.int i3), .val (.int (2 : Int32)), .val (.int c0), .val (.int c1), .val (.int c2), .val (.int c3), .val (.ref b69), .val (.int (2 : Int32)), .val (.int bd), .val (.ref xw), .val (.ref b69)] [(.ref b69)]))
      refine own_go (fun tq kq => XS.aload X118.here hx rfl (hb hby at_306) rfl rfl kq) ?_
      show own_Rn p e below _ (T118.setTop (mkF m 308 #[.val (.long l0), .second, .val (.int i1), .val (.int i2), .val (.int i3), .val (.int (2 : Int32)), .val (.int c0), .val (.int c1), .val (.int c2), .val (.int c3), .val (.ref b69), .val (.int (2 : Int32)), .val (.int bd), .val (.ref xw), .val (.ref b69)] [(.ref b69), (.ref b69)]))
      have Zn124 : n0 ≤ T111.heap.size := by omega
      obtain ⟨cq124, kq124, qa124, qb124, qc124⟩ := isOf hZ eh118 F119
      obtain ⟨rv124, _, ⟨T124, L124, k124, n124⟩, -, X124, ⟨Lc124, hQ124, l124, y124, z124⟩, st124⟩ := X118.virtualBack hx (y := (⟨"java/lang/String", "equals", "(Ljava/lang/Object;)Z"⟩ : MethodName)) (z := (⟨"java/lang/String", "equals", "(Ljava/lang/Object;)Z"⟩ : MethodName)) hown (mvT hZ (hw _ (own_mi 91 rfl))) (mvT hZ (hw _ (own_mi 92 rfl))) (notFace_of_selects (args := #[]) (mvT hZ (hw _ (own_mi 94 rfl)))) (mvT hZ (hw _ (own_mi 94 rfl))) (mvT hZ (hw _ (own_mi 93 rfl))) (by decide) (backOf (W := 0) (rmEqS l Z a0 hw [] (b69) T111.heap n0 Zn124 ) hZ (hw _ (own_mi 95 rfl)) (hw _ (own_mi 4 rfl)) (by decide) (by decide)) qa124 qc124 (g := (mkF m 308 #[.val (.long l0), .second, .val (.int i1), .val (.int i2), .val (.int i3), .val (.int (2 : Int32)), .val (.int c0), .val (.int c1), .val (.int c2), .val (.int c3), .val (.ref b69), .val (.int (2 : Int32)), .val (.int bd), .val (.ref xw), .val (.ref b69)] [(.ref b69), (.ref b69)])) rfl (by rw [hml]; rfl) (Steps.refl _) (argsL := [(.ref b69)]) (rest := []) (lenOf own_pd_28Ljava2flang2fObject3b29Z rfl) rfl (by show 2 * 0 + _ ≤ _; exact Nat.le_of_eq rfl) (hb hby at_308) (fun _ _ => ⟨rfl, eh118, (by decide : 6 + 0 ≤ _), (by decide : 23 + 0 ≤ _)⟩)
      dsimp only [Pt.U, Pt.locs, Pt.cells, Pt.slots] at X124 l124 y124 z124 st124 hQ124
      subst l124 y124 z124
      obtain ⟨rfl, Nq124, eh124⟩ := hQ124
      have N124 := Fr.app N118 Nq124
      refine own_go (fun tq kq => st124.trans kq) ?_
      show own_Rn p e below _ (T124.setTop (mkF m 311 #[.val (.long l0), .second, .val (.int i1), .val (.int i2), .val (.int i3), .val (.int (2 : Int32)), .val (.int c0), .val (.int c1), .val (.int c2), .val (.int c3), .val (.ref b69), .val (.int (2 : Int32)), .val (.int bd), .val (.ref xw), .val (.ref b69)] [(.int (1 : Int32))]))
      refine own_go (fun tq kq => XS.ifNo X124.here hx rfl (hb hby at_311) rfl ((if0 _ _).trans (feq ((by decide : ¬ ((1 : Int32) = (0 : Int32))) : ¬ ((1 : Int32) = (0 : Int32)))).1) kq) ?_
      show own_Rn p e below _ (T124.setTop (mkF m 314 #[.val (.long l0), .second, .val (.int i1), .val (.int i2), .val (.int i3), .val (.int (2 : Int32)), .val (.int c0), .val (.int c1), .val (.int c2), .val (.int c3), .val (.ref b69), .val (.int (2 : Int32)), .val (.int bd), .val (.ref xw), .val (.ref b69)] []))
      refine own_go (fun tq kq => XS.iconst X124.here hx rfl (hb hby at_314) kq) ?_
      show own_Rn p e below _ (T124.setTop (mkF m 315 #[.val (.long l0), .second, .val (.int i1), .val (.int i2), .val (.int i3), .val (.int (2 : Int32)), .val (.int c0), .val (.int c1), .val (.int c2), .val (.int c3), .val (.ref b69), .val (.int (2 : Int32)), .val (.int bd), .val (.ref xw), .val (.ref b69)] [(.int (1 : Int32))]))
      refine own_go (fun tq kq => XS.goto X124.here hx rfl (pc0 := 315) (pc' := 319) rfl (hb hby at_315) (by decide) (by decide) kq) ?_
      show own_Rn p e below _ (T124.setTop (mkF m 319 #[.val (.long l0), .second, .val (.int i1), .val (.int i2), .val (.int i3), .val (.int (2 : Int32)), .val (.int c0), .val (.int c1), .val (.int c2), .val (.int c3), .val (.ref b69), .val (.int (2 : Int32)), .val (.int bd), .val (.ref xw), .val (.ref b69)] [(.int (1 : Int32))]))
      exact own_retS X124 hS0 (by rw [eh124]; omega) (v := some (.int (nar .boolean (1 : Int32)))) (fun h => by rw [Bd.returns] at h; cases h) (fun fs hr => retN X124 hx (t := .boolean) Bd.returns (by simp) (hb hby at_319) hr) (by rw [eh124]; exact ⟨rfl, N124⟩) (by rw [hh, eh124]; exact CR113.trans (CHv.at X124 hZ hEL CR113.1)) (by decide) (by decide)
  · skip
    show own_Rn p e below _ (s₁.setTop (mkF m 53 #[.val (.long l0), .second, .val (.int i1), .val (.int i2), .val (.int i3), .val (.int (3 : Int32)), .val (.int c0), .val (.int c1), .val (.int c2), .val (.int c3), .unset, .unset, .unset, .unset, .unset] []))
    refine own_go (fun tq kq => XS.iload X0.here hx rfl (hb hby at_53) rfl kq) ?_
    show own_Rn p e below _ (s₁.setTop (mkF m 55 #[.val (.long l0), .second, .val (.int i1), .val (.int i2), .val (.int i3), .val (.int (3 : Int32)), .val (.int c0), .val (.int c1), .val (.int c2), .val (.int c3), .unset, .unset, .unset, .unset, .unset] [(.int (3 : Int32))]))
    have hr : ∀ c ∈ ([c0, c1, c2] : List Int32), ¬ c < 0 ∧ ¬ (65535 : Int32) < c := by
      intro c hc
      simp only [List.mem_cons, List.not_mem_nil, or_false] at hc
      rcases hc with rfl | rfl | rfl
      · exact rc0
      · exact rc1
      · exact rc2
    refine own_go (fun tq kq => XS.ifYes X0.here hx rfl (pc0 := 55) (pc' := 73) rfl (hb hby at_55) rfl ((if0 _ _).trans (feq (by decide : ¬ ((3 : Int32) = (0 : Int32)))).2) (by decide) (by decide) kq) ?_
    show own_Rn p e below _ (s₁.setTop (mkF m 73 #[.val (.long l0), .second, .val (.int i1), .val (.int i2), .val (.int i3), .val (.int (3 : Int32)), .val (.int c0), .val (.int c1), .val (.int c2), .val (.int c3), .unset, .unset, .unset, .unset, .unset] []))
    refine own_go (fun tq kq => XS.iload X0.here hx rfl (hb hby at_73) rfl kq) ?_
    show own_Rn p e below _ (s₁.setTop (mkF m 75 #[.val (.long l0), .second, .val (.int i1), .val (.int i2), .val (.int i3), .val (.int (3 : Int32)), .val (.int c0), .val (.int c1), .val (.int c2), .val (.int c3), .unset, .unset, .unset, .unset, .unset] [(.int (3 : Int32))]))
    refine own_go (fun tq kq => XS.iconst X0.here hx rfl (hb hby at_75) kq) ?_
    show own_Rn p e below _ (s₁.setTop (mkF m 76 #[.val (.long l0), .second, .val (.int i1), .val (.int i2), .val (.int i3), .val (.int (3 : Int32)), .val (.int c0), .val (.int c1), .val (.int c2), .val (.int c3), .unset, .unset, .unset, .unset, .unset] [(.int (1 : Int32)), (.int (3 : Int32))]))
    refine own_go (fun tq kq => XS.icmpYes X0.here hx rfl (pc0 := 76) (pc' := 99) rfl (hb hby at_76) rfl (feq (by decide : ¬ ((3 : Int32) = (1 : Int32)))).2 (by decide) (by decide) kq) ?_
    show own_Rn p e below _ (s₁.setTop (mkF m 99 #[.val (.long l0), .second, .val (.int i1), .val (.int i2), .val (.int i3), .val (.int (3 : Int32)), .val (.int c0), .val (.int c1), .val (.int c2), .val (.int c3), .unset, .unset, .unset, .unset, .unset] []))
    refine own_go (fun tq kq => XS.iload X0.here hx rfl (hb hby at_99) rfl kq) ?_
    show own_Rn p e below _ (s₁.setTop (mkF m 101 #[.val (.long l0), .second, .val (.int i1), .val (.int i2), .val (.int i3), .val (.int (3 : Int32)), .val (.int c0), .val (.int c1), .val (.int c2), .val (.int c3), .unset, .unset, .unset, .unset, .unset] [(.int (3 : Int32))]))
    refine own_go (fun tq kq => XS.iconst X0.here hx rfl (hb hby at_101) kq) ?_
    show own_Rn p e below _ (s₁.setTop (mkF m 102 #[.val (.long l0), .second, .val (.int i1), .val (.int i2), .val (.int i3), .val (.int (3 : Int32)), .val (.int c0), .val (.int c1), .val (.int c2), .val (.int c3), .unset, .unset, .unset, .unset, .unset] [(.int (2 : Int32)), (.int (3 : Int32))]))
    refine own_go (fun tq kq => XS.icmpYes X0.here hx rfl (pc0 := 102) (pc' := 130) rfl (hb hby at_102) rfl (feq (by decide : ¬ ((3 : Int32) = (2 : Int32)))).2 (by decide) (by decide) kq) ?_
    show own_Rn p e below _ (s₁.setTop (mkF m 130 #[.val (.long l0), .second, .val (.int i1), .val (.int i2), .val (.int i3), .val (.int (3 : Int32)), .val (.int c0), .val (.int c1), .val (.int c2), .val (.int c3), .unset, .unset, .unset, .unset, .unset] []))
    refine own_go (fun tq kq => XS.iload X0.here hx rfl (hb hby at_130) rfl kq) ?_
    show own_Rn p e below _ (s₁.setTop (mkF m 132 #[.val (.long l0), .second, .val (.int i1), .val (.int i2), .val (.int i3), .val (.int (3 : Int32)), .val (.int c0), .val (.int c1), .val (.int c2), .val (.int c3), .unset, .unset, .unset, .unset, .unset] [(.int (3 : Int32))]))
    refine own_go (fun tq kq => XS.iconst X0.here hx rfl (hb hby at_132) kq) ?_
    show own_Rn p e below _ (s₁.setTop (mkF m 133 #[.val (.long l0), .second, .val (.int i1), .val (.int i2), .val (.int i3), .val (.int (3 : Int32)), .val (.int c0), .val (.int c1), .val (.int c2), .val (.int c3), .unset, .unset, .unset, .unset, .unset] [(.int (3 : Int32)), (.int (3 : Int32))]))
    refine own_go (fun tq kq => XS.icmpNo X0.here hx rfl (hb hby at_133) rfl (teq (by decide : (3 : Int32) = (3 : Int32))).2 kq) ?_
    show own_Rn p e below _ (s₁.setTop (mkF m 136 #[.val (.long l0), .second, .val (.int i1), .val (.int i2), .val (.int i3), .val (.int (3 : Int32)), .val (.int c0), .val (.int c1), .val (.int c2), .val (.int c3), .unset, .unset, .unset, .unset, .unset] []))
    obtain ⟨T125, h125, X125, e125, E125, A125, D125, -, st125⟩ := newO X0 hx hZ hown (hw _ (own_mi 2 rfl)) (hw _ (own_mi 3 rfl)) (hw _ (own_mi 4 rfl)) e0 (g := (mkF m 136 #[.val (.long l0), .second, .val (.int i1), .val (.int i2), .val (.int i3), .val (.int (3 : Int32)), .val (.int c0), .val (.int c1), .val (.int c2), .val (.int c3), .unset, .unset, .unset, .unset, .unset] [])) rfl (hb hby at_136) (by decide) (by decide)
    obtain ⟨b125, g125⟩ : ∃ z, z = h0.size := ⟨_, rfl⟩
    rw [← g125] at A125 D125 st125
    refine own_go st125 ?_
    have sz126 : h0.size ≤ h125.size := E125.1
    have cr126 : CHr Z consts_1 s.vm h0 s.vm h125 := CHr.ext E125 CR0.1
    have CR126 := CR0.trans cr126
    have sf127 : Safe Z consts_1 s.vm h125 b125 := Safe.ext E125 CR0.1 (Safe.new (by omega))
    have lt128 : @LT.lt Nat _ b125 h125.size := A125.lt
    have gn125 : n0 ≤ b125 := by omega
    have D125_coder : Fld Z h125 b125 "java/lang/String" "coder" "B" (.int (0 : Int32)) := D125 (Or.inr (hw _ (own_mi 29 rfl))) (ty := .byte) own_fd_B
    have D125_value : Fld Z h125 b125 "java/lang/String" "value" "[B" .null := D125 (Or.inr (hw _ (own_mi 31 rfl))) (ty := (.array .byte)) own_fd_5bB
    show own_Rn p e below _ (T125.setTop (mkF m 139 #[.val (.long l0), .second, .val (.int i1), .val (.int i2), .val (.int i3), .val (.int (3 : Int32)), .val (.int c0), .val (.int c1), .val (.int c2), .val (.int c3), .unset, .unset, .unset, .unset, .unset] [(.ref b125)]))
    refine own_go (fun tq kq => XS.dup X125.here hx rfl (hb hby at_139) rfl rfl kq) ?_
    show own_Rn p e below _ (T125.setTop (mkF m 140 #[.val (.long l0), .second, .val (.int i1), .val (.int i2), .val (.int i3), .val (.int (3 : Int32)), .val (.int c0), .val (.int c1), .val (.int c2), .val (.int c3), .unset, .unset, .unset, .unset, .unset] [(.ref b125), (.ref b125)]))
    refine own_go (fun tq kq => XS.iconst X125.here hx rfl (hb hby at_140) kq) ?_
    show own_Rn p e below _ (T125.setTop (mkF m 141 #[.val (.long l0), .second, .val (.int i1), .val (.int i2), .val (.int i3), .val (.int (3 : Int32)), .val (.int c0), .val (.int c1), .val (.int c2), .val (.int c3), .unset, .unset, .unset, .unset, .unset] [(.int (3 : Int32)), (.ref b125), (.ref b125)]))
    obtain ⟨T130, h130, k130, X130, e130, E130, A130, st130⟩ := newP X125 hx hZ (hw _ (own_mi 5 rfl)) e125 (g := (mkF m 141 #[.val (.long l0), .second, .val (.int i1), .val (.int i2), .val (.int i3), .val (.int (3 : Int32)), .val (.int c0), .val (.int c1), .val (.int c2), .val (.int c3), .unset, .unset, .unset, .unset, .unset] [(.int (3 : Int32)), (.ref b125), (.ref b125)])) rfl (hb hby at_141) rfl (by decide) (cap := 3) (by decide) (by decide) (by decide) (by decide)
    obtain ⟨b130, g130⟩ : ∃ z, z = h125.size := ⟨_, rfl⟩
    rw [← g130] at A130 st130
    refine own_go st130 ?_
    have sz131 : h125.size ≤ h130.size := E130.1
    have cr131 : CHr Z consts_1 s.vm h125 s.vm h130 := CHr.ext E130 CR126.1
    have CR131 := CR126.trans cr131
    have gn130 : n0 ≤ b130 := by omega
    have V130 : Arv Z h130 b130 k130 .char (3 : Int32) [(.int (0 : Int32)), (.int (0 : Int32)), (.int (0 : Int32))] (.int (0 : Int32)) := (Arv.new A130 (by decide)).pad (pad_rep [] _ 3)
    have lt132 : @LT.lt Nat _ b130 h130.size := V130.lt
    show own_Rn p e below _ (T130.setTop (mkF m 143 #[.val (.long l0), .second, .val (.int i1), .val (.int i2), .val (.int i3), .val (.int (3 : Int32)), .val (.int c0), .val (.int c1), .val (.int c2), .val (.int c3), .unset, .unset, .unset, .unset, .unset] [(.ref b130), (.ref b125), (.ref b125)]))
    refine own_go (fun tq kq => XS.dup X130.here hx rfl (hb hby at_143) rfl rfl kq) ?_
    show own_Rn p e below _ (T130.setTop (mkF m 144 #[.val (.long l0), .second, .val (.int i1), .val (.int i2), .val (.int i3), .val (.int (3 : Int32)), .val (.int c0), .val (.int c1), .val (.int c2), .val (.int c3), .unset, .unset, .unset, .unset, .unset] [(.ref b130), (.ref b130), (.ref b125), (.ref b125)]))
    refine own_go (fun tq kq => XS.iconst X130.here hx rfl (hb hby at_144) kq) ?_
    show own_Rn p e below _ (T130.setTop (mkF m 145 #[.val (.long l0), .second, .val (.int i1), .val (.int i2), .val (.int i3), .val (.int (3 : Int32)), .val (.int c0), .val (.int c1), .val (.int c2), .val (.int c3), .unset, .unset, .unset, .unset, .unset] [(.int (0 : Int32)), (.ref b130), (.ref b130), (.ref b125), (.ref b125)]))
    refine own_go (fun tq kq => XS.iload X130.here hx rfl (hb hby at_145) rfl kq) ?_
    show own_Rn p e below _ (T130.setTop (mkF m 147 #[.val (.long l0), .second, .val (.int i1), .val (.int i2), .val (.int i3), .val (.int (3 : Int32)), .val (.int c0), .val (.int c1), .val (.int c2), .val (.int c3), .unset, .unset, .unset, .unset, .unset] [(.int c0), (.int (0 : Int32)), (.ref b130), (.ref b130), (.ref b125), (.ref b125)]))
    obtain ⟨cl133, Ar133, q133, Sz133, Nn133, Hs133, G133⟩ := id V130
    obtain ⟨T133, h133, X133, e133, W133, st133⟩ := stC X130 hx hZ e130 Ar133 (j := (0 : Int32)) (inb_of Sz133 ⟨by decide, by decide⟩) (g := (mkF m 147 #[.val (.long l0), .second, .val (.int i1), .val (.int i2), .val (.int i3), .val (.int (3 : Int32)), .val (.int c0), .val (.int c1), .val (.int c2), .val (.int c3), .unset, .unset, .unset, .unset, .unset] [(.int c0), (.int (0 : Int32)), (.ref b130), (.ref b130), (.ref b125), (.ref b125)])) rfl rfl (hb hby at_147)
    rw [nc0] at W133
    refine own_go st133 ?_
    have V133 : Arv Z h133 b130 k130 .char (3 : Int32) [(.int c0), (.int (0 : Int32)), (.int (0 : Int32))] (.int (0 : Int32)) := Arv.set Ar133 q133 Sz133 Nn133 Hs133 G133 (by rw [← nc0]; exact fits_nar_char _) W133 0 rfl (Nat.le_of_ble_eq_true rfl)
    have N133 := Fr.snoc X133 N0 gn130
    have sf134 : Safe Z consts_1 s.vm h130 b130 := Safe.arv hZ.alike V130 (by decide)
    have sz135 : h130.size ≤ h133.size := Nat.le_of_eq (Wr.size W133).symm
    have cr135 : CHr Z consts_1 s.vm h130 s.vm h133 := CHr.wr W133 sf134 CR131.1
    have CR135 := CR131.trans cr135
    show own_Rn p e below _ (T133.setTop (mkF m 148 #[.val (.long l0), .second, .val (.int i1), .val (.int i2), .val (.int i3), .val (.int (3 : Int32)), .val (.int c0), .val (.int c1), .val (.int c2), .val (.int c3), .unset, .unset, .unset, .unset, .unset] [(.ref b130), (.ref b125), (.ref b125)]))
    refine own_go (fun tq kq => XS.dup X133.here hx rfl (hb hby at_148) rfl rfl kq) ?_
    show own_Rn p e below _ (T133.setTop (mkF m 149 #[.val (.long l0), .second, .val (.int i1), .val (.int i2), .val (.int i3), .val (.int (3 : Int32)), .val (.int c0), .val (.int c1), .val (.int c2), .val (.int c3), .unset, .unset, .unset, .unset, .unset] [(.ref b130), (.ref b130), (.ref b125), (.ref b125)]))
    refine own_go (fun tq kq => XS.iconst X133.here hx rfl (hb hby at_149) kq) ?_
    show own_Rn p e below _ (T133.setTop (mkF m 150 #[.val (.long l0), .second, .val (.int i1), .val (.int i2), .val (.int i3), .val (.int (3 : Int32)), .val (.int c0), .val (.int c1), .val (.int c2), .val (.int c3), .unset, .unset, .unset, .unset, .unset] [(.int (1 : Int32)), (.ref b130), (.ref b130), (.ref b125), (.ref b125)]))
    refine own_go (fun tq kq => XS.iload X133.here hx rfl (hb hby at_150) rfl kq) ?_
    show own_Rn p e below _ (T133.setTop (mkF m 152 #[.val (.long l0), .second, .val (.int i1), .val (.int i2), .val (.int i3), .val (.int (3 : Int32)), .val (.int c0), .val (.int c1), .val (.int c2), .val (.int c3), .unset, .unset, .unset, .unset, .unset] [(.int c1), (.int (1 : Int32)), (.ref b130), (.ref b130), (.ref b125), (.ref b125)]))
    obtain ⟨cl136, Ar136, q136, Sz136, Nn136, Hs136, G136⟩ := id V133
    obtain ⟨T136, h136, X136, e136, W136, st136⟩ := stC X133 hx hZ e133 Ar136 (j := (1 : Int32)) (inb_of Sz136 ⟨by decide, by decide⟩) (g := (mkF m 152 #[.val (.long l0), .second, .val (.int i1), .val (.int i2), .val (.int i3), .val (.int (3 : Int32)), .val (.int c0), .val (.int c1), .val (.int c2), .val (.int c3), .unset, .unset, .unset, .unset, .unset] [(.int c1), (.int (1 : Int32)), (.ref b130), (.ref b130), (.ref b125), (.ref b125)])) rfl rfl (hb hby at_152)
    rw [nc1] at W136
    refine own_go st136 ?_
    have V136 : Arv Z h136 b130 k130 .char (3 : Int32) [(.int c0), (.int c1), (.int (0 : Int32))] (.int (0 : Int32)) := Arv.set Ar136 q136 Sz136 Nn136 Hs136 G136 (by rw [← nc1]; exact fits_nar_char _) W136 1 rfl (Nat.le_of_ble_eq_true rfl)
    have N136 := Fr.snoc X136 N133 gn130
    have sf137 : Safe Z consts_1 s.vm h133 b130 := Safe.arv hZ.alike V133 (by decide)
    have sz138 : h133.size ≤ h136.size := Nat.le_of_eq (Wr.size W136).symm
    have cr138 : CHr Z consts_1 s.vm h133 s.vm h136 := CHr.wr W136 sf137 CR135.1
    have CR138 := CR135.trans cr138
    show own_Rn p e below _ (T136.setTop (mkF m 153 #[.val (.long l0), .second, .val (.int i1), .val (.int i2), .val (.int i3), .val (.int (3 : Int32)), .val (.int c0), .val (.int c1), .val (.int c2), .val (.int c3), .unset, .unset, .unset, .unset, .unset] [(.ref b130), (.ref b125), (.ref b125)]))
    refine own_go (fun tq kq => XS.dup X136.here hx rfl (hb hby at_153) rfl rfl kq) ?_
    show own_Rn p e below _ (T136.setTop (mkF m 154 #[.val (.long l0), .second, .val (.int i1), .val (.int i2), .val (.int i3), .val (.int (3 : Int32)), .val (.int c0), .val (.int c1), .val (.int c2), .val (.int c3), .unset, .unset, .unset, .unset, .unset] [(.ref b130), (.ref b130), (.ref b125), (.ref b125)]))
    refine own_go (fun tq kq => XS.iconst X136.here hx rfl (hb hby at_154) kq) ?_
    show own_Rn p e below _ (T136.setTop (mkF m 155 #[.val (.long l0), .second, .val (.int i1), .val (.int i2), .val (.int i3), .val (.int (3 : Int32)), .val (.int c0), .val (.int c1), .val (.int c2), .val (.int c3), .unset, .unset, .unset, .unset, .unset] [(.int (2 : Int32)), (.ref b130), (.ref b130), (.ref b125), (.ref b125)]))
    refine own_go (fun tq kq => XS.iload X136.here hx rfl (hb hby at_155) rfl kq) ?_
    show own_Rn p e below _ (T136.setTop (mkF m 157 #[.val (.long l0), .second, .val (.int i1), .val (.int i2), .val (.int i3), .val (.int (3 : Int32)), .val (.int c0), .val (.int c1), .val (.int c2), .val (.int c3), .unset, .unset, .unset, .unset, .unset] [(.int c2), (.int (2 : Int32)), (.ref b130), (.ref b130), (.ref b125), (.ref b125)]))
    obtain ⟨cl139, Ar139, q139, Sz139, Nn139, Hs139, G139⟩ := id V136
    obtain ⟨T139, h139, X139, e139, W139, st139⟩ := stC X136 hx hZ e136 Ar139 (j := (2 : Int32)) (inb_of Sz139 ⟨by decide, by decide⟩) (g := (mkF m 157 #[.val (.long l0), .second, .val (.int i1), .val (.int i2), .val (.int i3), .val (.int (3 : Int32)), .val (.int c0), .val (.int c1), .val (.int c2), .val (.int c3), .unset, .unset, .unset, .unset, .unset] [(.int c2), (.int (2 : Int32)), (.ref b130), (.ref b130), (.ref b125), (.ref b125)])) rfl rfl (hb hby at_157)
    rw [nc2] at W139
    refine own_go st139 ?_
    have V139 : Arv Z h139 b130 k130 .char (3 : Int32) [(.int c0), (.int c1), (.int c2)] (.int (0 : Int32)) := Arv.set Ar139 q139 Sz139 Nn139 Hs139 G139 (by rw [← nc2]; exact fits_nar_char _) W139 2 rfl (Nat.le_of_ble_eq_true rfl)
    have N139 := Fr.snoc X139 N136 gn130
    have sf140 : Safe Z consts_1 s.vm h136 b130 := Safe.arv hZ.alike V136 (by decide)
    have sz141 : h136.size ≤ h139.size := Nat.le_of_eq (Wr.size W139).symm
    have cr141 : CHr Z consts_1 s.vm h136 s.vm h139 := CHr.wr W139 sf140 CR138.1
    have CR141 := CR138.trans cr141
    show own_Rn p e below _ (T139.setTop (mkF m 158 #[.val (.long l0), .second, .val (.int i1), .val (.int i2), .val (.int i3), .val (.int (3 : Int32)), .val (.int c0), .val (.int c1), .val (.int c2), .val (.int c3), .unset, .unset, .unset, .unset, .unset] [(.ref b130), (.ref b125), (.ref b125)]))
    have Zn142 : n0 ≤ h139.size := by omega
    have F143 : Exa Z h139 b125 "java/lang/String" := ((((A125.ext E130).wr W133).wr W136).wr W139)
    have ne144 : b125 ≠ b130 := own_nea (by omega)
    have F145 : Fld Z h139 b125 "java/lang/String" "value" "[B" .null := ((((D125_value.ext E130).other W133 (Or.inl ne144)).other W136 (Or.inl ne144)).other W139 (Or.inl ne144))
    have F146 : Fld Z h139 b125 "java/lang/String" "coder" "B" (.int (0 : Int32)) := ((((D125_coder.ext E130).other W133 (Or.inl ne144)).other W136 (Or.inl ne144)).other W139 (Or.inl ne144))
    have F147 : Old Z n0 h139 := (((((X00.ext E125).ext E130).wr W133 gn130).wr W136 gn130).wr W139 gn130)
    obtain ⟨rv142, _, ⟨T142, L142, k142, n142⟩, -, X142, ⟨Lc142, hQ142, l142, y142, z142⟩, st142⟩ := X139.specialBack hx (y := (⟨"java/lang/String", "<init>", "([C)V"⟩ : MethodName)) rfl hown (mvT hZ (hw _ (own_mi 6 rfl))) (mvT hZ (hw _ (own_mi 7 rfl))) (mvT hZ (hw _ (own_mi 8 rfl))) (by decide) (backOf (W := 1) (rmI1 l Z a0 hw [] (b125) (b130) (k130) (([c0, c1, c2] : List Int32)) ((.int (0 : Int32))) (G1) h139 n0 Zn142 F143 F145 F146 gn125 V139 (by simp) (by simp) (hr) (OAD) (OHI) (OLO) (O2) (P5) F147) hZ (hw _ (own_mi 8 rfl)) (hw _ (own_mi 4 rfl)) (by decide) (by decide)) (g := (mkF m 158 #[.val (.long l0), .second, .val (.int i1), .val (.int i2), .val (.int i3), .val (.int (3 : Int32)), .val (.int c0), .val (.int c1), .val (.int c2), .val (.int c3), .unset, .unset, .unset, .unset, .unset] [(.ref b130), (.ref b125), (.ref b125)])) rfl (by rw [hml]; rfl) (Steps.refl _) (a := b125) (argsL := [(.ref b130)]) (rest := [(.ref b125)]) (lenOf own_pd_285bC29V rfl) rfl (by show 2 * 0 + _ ≤ _; exact Nat.le_of_eq rfl) (hb hby at_158) (fun _ _ => ⟨rfl, e139, (by decide : 2 + 2 ≤ _), (by decide : 7 + 12 ≤ _)⟩)
    dsimp only [Pt.U, Pt.locs, Pt.cells, Pt.slots] at X142 l142 y142 z142 st142 hQ142
    subst l142 y142 z142
    obtain ⟨tt, kk, NN, vv, cd, rfl, Nq142, Kq142, G0_142, G1_142, G2_142, G3_142, G4_142, RL_142⟩ := hQ142
    have N142 := Fr.app N139 Nq142
    have sf149 : Safe Z consts_1 s.vm h139 b125 := (CHr.safe cr141 (show @LT.lt Nat _ _ _ by omega) (CHr.safe cr138 (show @LT.lt Nat _ _ _ by omega) (CHr.safe cr135 (show @LT.lt Nat _ _ _ by omega) (CHr.safe cr131 (show @LT.lt Nat _ _ _ by omega) sf127))))
    have sz150 : h139.size ≤ T142.heap.size := Kq142.1
    have cr150 : CHr Z consts_1 s.vm h139 s.vm T142.heap := CHr.keep Kq142 (sfS sf149 sf0) CR141.1
    have CR150 := CR141.trans cr150
    have sf151 : Safe Z consts_1 s.vm T142.heap tt := Safe.keep Kq142 (sfS sf149 sf0) CR141.1 (Safe.new (by omega))
    have lt152 : @LT.lt Nat _ tt T142.heap.size := G4_142.lt
    refine own_go (fun tq kq => st142.trans kq) ?_
    show own_Rn p e below _ (T142.setTop (mkF m 161 #[.val (.long l0), .second, .val (.int i1), .val (.int i2), .val (.int i3), .val (.int (3 : Int32)), .val (.int c0), .val (.int c1), .val (.int c2), .val (.int c3), .unset, .unset, .unset, .unset, .unset] [(.ref b125)]))
    have RL : (cd = 0 ∧ NN = Int32.ofNat ([c0, c1, c2] : List Int32).length ∧ vv = own_bs ([c0, c1, c2] : List Int32) ∧ ∀ c ∈ ([c0, c1, c2] : List Int32), ¬ (255 : Int32) < c) ∨ (cd = 1 ∧ NN = Int32.ofNat (2 * ([c0, c1, c2] : List Int32).length) ∧ vv = own_u16 ([c0, c1, c2] : List Int32) ∧ 0 < ([c0, c1, c2] : List Int32).length) := by rcases RL_142 with h | ⟨h1, h2, h3⟩; exact Or.inl h; exact Or.inr ⟨h1, h2, h3, by simp⟩
    refine own_go (fun tq kq => XS.astore X142.here hx rfl (hb hby at_161) rfl rfl (l' := #[.val (.long l0), .second, .val (.int i1), .val (.int i2), .val (.int i3), .val (.int (3 : Int32)), .val (.int c0), .val (.int c1), .val (.int c2), .val (.int c3), .val (.ref b125), .unset, .unset, .unset, .unset]) rfl kq) ?_
    show own_Rn p e below _ (T142.setTop (mkF m 163 #[.val (.long l0), .second, .val (.int i1), .val (.int i2), .val (.int i3), .val (.int (3 : Int32)), .val (.int c0), .val (.int c1), .val (.int c2), .val (.int c3), .val (.ref b125), .unset, .unset, .unset, .unset] []))
    refine own_go (fun tq kq => XS.goto X142.here hx rfl (pc0 := 163) (pc' := 198) rfl (hb hby at_163) (by decide) (by decide) kq) ?_
    show own_Rn p e below _ (T142.setTop (mkF m 198 #[.val (.long l0), .second, .val (.int i1), .val (.int i2), .val (.int i3), .val (.int (3 : Int32)), .val (.int c0), .val (.int c1), .val (.int c2), .val (.int c3), .val (.ref b125), .unset, .unset, .unset, .unset] []))
    refine own_go (fun tq kq => XS.iload X142.here hx rfl (hb hby at_198) rfl kq) ?_
    show own_Rn p e below _ (T142.setTop (mkF m 200 #[.val (.long l0), .second, .val (.int i1), .val (.int i2), .val (.int i3), .val (.int (3 : Int32)), .val (.int c0), .val (.int c1), .val (.int c2), .val (.int c3), .val (.ref b125), .unset, .unset, .unset, .unset] [(.int (3 : Int32))]))
    refine own_go (fun tq kq => XS.istore X142.here hx rfl (hb hby at_200) rfl (l' := #[.val (.long l0), .second, .val (.int i1), .val (.int i2), .val (.int i3), .val (.int (3 : Int32)), .val (.int c0), .val (.int c1), .val (.int c2), .val (.int c3), .val (.ref b125), .val (.int (3 : Int32)), .unset, .unset, .unset]) rfl kq) ?_
    show own_Rn p e below _ (T142.setTop (mkF m 202 #[.val (.long l0), .second, .val (.int i1), .val (.int i2), .val (.int i3), .val (.int (3 : Int32)), .val (.int c0), .val (.int c1), .val (.int c2), .val (.int c3), .val (.ref b125), .val (.int (3 : Int32)), .unset, .unset, .unset] []))
    refine own_go (fun tq kq => XS.iload X142.here hx rfl (hb hby at_202) rfl kq) ?_
    show own_Rn p e below _ (T142.setTop (mkF m 204 #[.val (.long l0), .second, .val (.int i1), .val (.int i2), .val (.int i3), .val (.int (3 : Int32)), .val (.int c0), .val (.int c1), .val (.int c2), .val (.int c3), .val (.ref b125), .val (.int (3 : Int32)), .unset, .unset, .unset] [(.int (3 : Int32))]))
    refine own_go (fun tq kq => XS.iconst X142.here hx rfl (hb hby at_204) kq) ?_
    show own_Rn p e below _ (T142.setTop (mkF m 205 #[.val (.long l0), .second, .val (.int i1), .val (.int i2), .val (.int i3), .val (.int (3 : Int32)), .val (.int c0), .val (.int c1), .val (.int c2), .val (.int c3), .val (.ref b125), .val (.int (3 : Int32)), .unset, .unset, .unset] [(.int (2 : Int32)), (.int (3 : Int32))]))
    refine own_go (fun tq kq => XS.icmpNo X142.here hx rfl (hb hby at_205) rfl (flt (by decide : ¬ ((3 : Int32) < (2 : Int32)))).1 kq) ?_
    show own_Rn p e below _ (T142.setTop (mkF m 208 #[.val (.long l0), .second, .val (.int i1), .val (.int i2), .val (.int i3), .val (.int (3 : Int32)), .val (.int c0), .val (.int c1), .val (.int c2), .val (.int c3), .val (.ref b125), .val (.int (3 : Int32)), .unset, .unset, .unset] []))
    refine own_go (fun tq kq => XS.iload X142.here hx rfl (hb hby at_208) rfl kq) ?_
    show own_Rn p e below _ (T142.setTop (mkF m 210 #[.val (.long l0), .second, .val (.int i1), .val (.int i2), .val (.int i3), .val (.int (3 : Int32)), .val (.int c0), .val (.int c1), .val (.int c2), .val (.int c3), .val (.ref b125), .val (.int (3 : Int32)), .unset, .unset, .unset] [(.int c0)]))
    refine own_go (fun tq kq => XS.iload X142.here hx rfl (hb hby at_210) rfl kq) ?_
    show own_Rn p e below _ (T142.setTop (mkF m 212 #[.val (.long l0), .second, .val (.int i1), .val (.int i2), .val (.int i3), .val (.int (3 : Int32)), .val (.int c0), .val (.int c1), .val (.int c2), .val (.int c3), .val (.ref b125), .val (.int (3 : Int32)), .unset, .unset, .unset] [(.int c1), (.int c0)]))
    have Zn153 : n0 ≤ T142.heap.size := by omega
    obtain ⟨rv153, _, ⟨T153, L153, k153, n153⟩, -, X153, ⟨Lc153, hQ153, l153, y153, z153⟩, st153⟩ := Jvm.LawKit.callS X142 hx (y := (⟨"com/example/cellwise/cellwise/ChecksAtMostPinLaw", "pair", "(CC)Z"⟩ : MethodName)) hown (mvT hZ (hw _ (own_mi 32 rfl))) (mvT hZ (hw _ (own_mi 33 rfl))) (mvT hZ (hw _ (own_mi 34 rfl))) (mvT hZ (hw _ (own_mi 35 rfl))) (by decide) (backOf (W := 0) (rmPair l Z a0 hw [] (c0) (c1) T142.heap n0 Zn153 ) hZ (hw _ (own_mi 35 rfl)) (hw _ (own_mi 34 rfl)) (by decide) (by decide)) (g := (mkF m 212 #[.val (.long l0), .second, .val (.int i1), .val (.int i2), .val (.int i3), .val (.int (3 : Int32)), .val (.int c0), .val (.int c1), .val (.int c2), .val (.int c3), .val (.ref b125), .val (.int (3 : Int32)), .unset, .unset, .unset] [(.int c1), (.int c0)])) rfl (by rw [hml]; rfl) (argsL := [(.int c0), (.int c1)]) (rest := []) (lenOf own_pd_28CC29Z rfl) rfl (by show 2 * 0 + _ ≤ _; exact Nat.le_of_eq rfl) (hb hby at_212) (fun _ _ => ⟨rfl, rfl, (by decide : 4 + 0 ≤ _), (by decide : 19 + 0 ≤ _)⟩)
    dsimp only [Pt.U, Pt.locs, Pt.cells, Pt.slots] at X153 l153 y153 z153 st153 hQ153
    subst l153 y153 z153
    obtain ⟨rfl, Nq153, eh153⟩ := hQ153
    have N153 := Fr.app N142 Nq153
    refine own_go st153 ?_
    show own_Rn p e below _ (T153.setTop (mkF m 215 #[.val (.long l0), .second, .val (.int i1), .val (.int i2), .val (.int i3), .val (.int (3 : Int32)), .val (.int c0), .val (.int c1), .val (.int c2), .val (.int c3), .val (.ref b125), .val (.int (3 : Int32)), .unset, .unset, .unset] [(.int (if own_isHi c0 ∧ own_isLo c1 then (1 : Int32) else 0))]))
    by_cases hA0 : own_isHi c0 ∧ own_isLo c1
    · skip
      rw [if_pos hA0]
      show own_Rn p e below _ (T153.setTop (mkF m 215 #[.val (.long l0), .second, .val (.int i1), .val (.int i2), .val (.int i3), .val (.int (3 : Int32)), .val (.int c0), .val (.int c1), .val (.int c2), .val (.int c3), .val (.ref b125), .val (.int (3 : Int32)), .unset, .unset, .unset] [(.int (1 : Int32))]))
      have hp0 : own_pr c0 c1 = 1 := if_pos hA0
      refine own_go (fun tq kq => XS.ifNo X153.here hx rfl (hb hby at_215) rfl ((if0 _ _).trans (feq ((by decide : ¬ ((1 : Int32) = (0 : Int32))) : ¬ ((1 : Int32) = (0 : Int32)))).1) kq) ?_
      show own_Rn p e below _ (T153.setTop (mkF m 218 #[.val (.long l0), .second, .val (.int i1), .val (.int i2), .val (.int i3), .val (.int (3 : Int32)), .val (.int c0), .val (.int c1), .val (.int c2), .val (.int c3), .val (.ref b125), .val (.int (3 : Int32)), .unset, .unset, .unset] []))
      refine own_go (fun tq kq => XS.iload X153.here hx rfl (hb hby at_218) rfl kq) ?_
      show own_Rn p e below _ (T153.setTop (mkF m 220 #[.val (.long l0), .second, .val (.int i1), .val (.int i2), .val (.int i3), .val (.int (3 : Int32)), .val (.int c0), .val (.int c1), .val (.int c2), .val (.int c3), .val (.ref b125), .val (.int (3 : Int32)), .unset, .unset, .unset] [(.int (3 : Int32))]))
      refine own_go (fun tq kq => XS.iconst X153.here hx rfl (hb hby at_220) kq) ?_
      show own_Rn p e below _ (T153.setTop (mkF m 221 #[.val (.long l0), .second, .val (.int i1), .val (.int i2), .val (.int i3), .val (.int (3 : Int32)), .val (.int c0), .val (.int c1), .val (.int c2), .val (.int c3), .val (.ref b125), .val (.int (3 : Int32)), .unset, .unset, .unset] [(.int (1 : Int32)), (.int (3 : Int32))]))
      refine own_go (fun tq kq => XS.isub X153.here hx rfl (hb hby at_221) rfl kq) ?_
      show own_Rn p e below _ (T153.setTop (mkF m 222 #[.val (.long l0), .second, .val (.int i1), .val (.int i2), .val (.int i3), .val (.int (3 : Int32)), .val (.int c0), .val (.int c1), .val (.int c2), .val (.int c3), .val (.ref b125), .val (.int (3 : Int32)), .unset, .unset, .unset] [(.int ((3 : Int32) - (1 : Int32)))]))
      refine own_go (fun tq kq => XS.istore X153.here hx rfl (hb hby at_222) rfl (l' := #[.val (.long l0), .second, .val (.int i1), .val (.int i2), .val (.int i3), .val (.int (3 : Int32)), .val (.int c0), .val (.int c1), .val (.int c2), .val (.int c3), .val (.ref b125), .val (.int ((3 : Int32) - (1 : Int32))), .unset, .unset, .unset]) rfl kq) ?_
      show own_Rn p e below _ (T153.setTop (mkF m 224 #[.val (.long l0), .second, .val (.int i1), .val (.int i2), .val (.int i3), .val (.int (3 : Int32)), .val (.int c0), .val (.int c1), .val (.int c2), .val (.int c3), .val (.ref b125), .val (.int ((3 : Int32) - (1 : Int32))), .unset, .unset, .unset] []))
      refine own_go (fun tq kq => XS.iload X153.here hx rfl (hb hby at_224) rfl kq) ?_
      show own_Rn p e below _ (T153.setTop (mkF m 226 #[.val (.long l0), .second, .val (.int i1), .val (.int i2), .val (.int i3), .val (.int (3 : Int32)), .val (.int c0), .val (.int c1), .val (.int c2), .val (.int c3), .val (.ref b125), .val (.int ((3 : Int32) - (1 : Int32))), .unset, .unset, .unset] [(.int (3 : Int32))]))
      refine own_go (fun tq kq => XS.iconst X153.here hx rfl (hb hby at_226) kq) ?_
      show own_Rn p e below _ (T153.setTop (mkF m 227 #[.val (.long l0), .second, .val (.int i1), .val (.int i2), .val (.int i3), .val (.int (3 : Int32)), .val (.int c0), .val (.int c1), .val (.int c2), .val (.int c3), .val (.ref b125), .val (.int ((3 : Int32) - (1 : Int32))), .unset, .unset, .unset] [(.int (3 : Int32)), (.int (3 : Int32))]))
      refine own_go (fun tq kq => XS.icmpNo X153.here hx rfl (hb hby at_227) rfl (flt (by decide : ¬ ((3 : Int32) < (3 : Int32)))).1 kq) ?_
      show own_Rn p e below _ (T153.setTop (mkF m 230 #[.val (.long l0), .second, .val (.int i1), .val (.int i2), .val (.int i3), .val (.int (3 : Int32)), .val (.int c0), .val (.int c1), .val (.int c2), .val (.int c3), .val (.ref b125), .val (.int ((3 : Int32) - (1 : Int32))), .unset, .unset, .unset] []))
      refine own_go (fun tq kq => XS.iload X153.here hx rfl (hb hby at_230) rfl kq) ?_
      show own_Rn p e below _ (T153.setTop (mkF m 232 #[.val (.long l0), .second, .val (.int i1), .val (.int i2), .val (.int i3), .val (.int (3 : Int32)), .val (.int c0), .val (.int c1), .val (.int c2), .val (.int c3), .val (.ref b125), .val (.int ((3 : Int32) - (1 : Int32))), .unset, .unset, .unset] [(.int c1)]))
      refine own_go (fun tq kq => XS.iload X153.here hx rfl (hb hby at_232) rfl kq) ?_
      show own_Rn p e below _ (T153.setTop (mkF m 234 #[.val (.long l0), .second, .val (.int i1), .val (.int i2), .val (.int i3), .val (.int (3 : Int32)), .val (.int c0), .val (.int c1), .val (.int c2), .val (.int c3), .val (.ref b125), .val (.int ((3 : Int32) - (1 : Int32))), .unset, .unset, .unset] [(.int c2), (.int c1)]))
      have Zn154 : n0 ≤ T142.heap.size := by omega
      obtain ⟨rv154, _, ⟨T154, L154, k154, n154⟩, -, X154, ⟨Lc154, hQ154, l154, y154, z154⟩, st154⟩ := Jvm.LawKit.callS X153 hx (y := (⟨"com/example/cellwise/cellwise/ChecksAtMostPinLaw", "pair", "(CC)Z"⟩ : MethodName)) hown (mvT hZ (hw _ (own_mi 32 rfl))) (mvT hZ (hw _ (own_mi 33 rfl))) (mvT hZ (hw _ (own_mi 34 rfl))) (mvT hZ (hw _ (own_mi 35 rfl))) (by decide) (backOf (W := 0) (rmPair l Z a0 hw [] (c1) (c2) T142.heap n0 Zn154 ) hZ (hw _ (own_mi 35 rfl)) (hw _ (own_mi 34 rfl)) (by decide) (by decide)) (g := (mkF m 234 #[.val (.long l0), .second, .val (.int i1), .val (.int i2), .val (.int i3), .val (.int (3 : Int32)), .val (.int c0), .val (.int c1), .val (.int c2), .val (.int c3), .val (.ref b125), .val (.int ((3 : Int32) - (1 : Int32))), .unset, .unset, .unset] [(.int c2), (.int c1)])) rfl (by rw [hml]; rfl) (argsL := [(.int c1), (.int c2)]) (rest := []) (lenOf own_pd_28CC29Z rfl) rfl (by show 2 * 0 + _ ≤ _; exact Nat.le_of_eq rfl) (hb hby at_234) (fun _ _ => ⟨rfl, eh153, (by decide : 4 + 0 ≤ _), (by decide : 19 + 0 ≤ _)⟩)
      dsimp only [Pt.U, Pt.locs, Pt.cells, Pt.slots] at X154 l154 y154 z154 st154 hQ154
      subst l154 y154 z154
      obtain ⟨rfl, Nq154, eh154⟩ := hQ154
      have N154 := Fr.app N153 Nq154
      refine own_go st154 ?_
      show own_Rn p e below _ (T154.setTop (mkF m 237 #[.val (.long l0), .second, .val (.int i1), .val (.int i2), .val (.int i3), .val (.int (3 : Int32)), .val (.int c0), .val (.int c1), .val (.int c2), .val (.int c3), .val (.ref b125), .val (.int ((3 : Int32) - (1 : Int32))), .unset, .unset, .unset] [(.int (if own_isHi c1 ∧ own_isLo c2 then (1 : Int32) else 0))]))
      by_cases hA1 : own_isHi c1 ∧ own_isLo c2
      · skip
        rw [if_pos hA1]
        show own_Rn p e below _ (T154.setTop (mkF m 237 #[.val (.long l0), .second, .val (.int i1), .val (.int i2), .val (.int i3), .val (.int (3 : Int32)), .val (.int c0), .val (.int c1), .val (.int c2), .val (.int c3), .val (.ref b125), .val (.int ((3 : Int32) - (1 : Int32))), .unset, .unset, .unset] [(.int (1 : Int32))]))
        have hp1 : own_pr c1 c2 = 1 := if_pos hA1
        refine own_go (fun tq kq => XS.ifNo X154.here hx rfl (hb hby at_237) rfl ((if0 _ _).trans (feq ((by decide : ¬ ((1 : Int32) = (0 : Int32))) : ¬ ((1 : Int32) = (0 : Int32)))).1) kq) ?_
        show own_Rn p e below _ (T154.setTop (mkF m 240 #[.val (.long l0), .second, .val (.int i1), .val (.int i2), .val (.int i3), .val (.int (3 : Int32)), .val (.int c0), .val (.int c1), .val (.int c2), .val (.int c3), .val (.ref b125), .val (.int ((3 : Int32) - (1 : Int32))), .unset, .unset, .unset] []))
        refine own_go (fun tq kq => XS.iload X154.here hx rfl (hb hby at_240) rfl kq) ?_
        show own_Rn p e below _ (T154.setTop (mkF m 242 #[.val (.long l0), .second, .val (.int i1), .val (.int i2), .val (.int i3), .val (.int (3 : Int32)), .val (.int c0), .val (.int c1), .val (.int c2), .val (.int c3), .val (.ref b125), .val (.int ((3 : Int32) - (1 : Int32))), .unset, .unset, .unset] [(.int ((3 : Int32) - (1 : Int32)))]))
        refine own_go (fun tq kq => XS.iconst X154.here hx rfl (hb hby at_242) kq) ?_
        show own_Rn p e below _ (T154.setTop (mkF m 243 #[.val (.long l0), .second, .val (.int i1), .val (.int i2), .val (.int i3), .val (.int (3 : Int32)), .val (.int c0), .val (.int c1), .val (.int c2), .val (.int c3), .val (.ref b125), .val (.int ((3 : Int32) - (1 : Int32))), .unset, .unset, .unset] [(.int (1 : Int32)), (.int ((3 : Int32) - (1 : Int32)))]))
        refine own_go (fun tq kq => XS.isub X154.here hx rfl (hb hby at_243) rfl kq) ?_
        show own_Rn p e below _ (T154.setTop (mkF m 244 #[.val (.long l0), .second, .val (.int i1), .val (.int i2), .val (.int i3), .val (.int (3 : Int32)), .val (.int c0), .val (.int c1), .val (.int c2), .val (.int c3), .val (.ref b125), .val (.int ((3 : Int32) - (1 : Int32))), .unset, .unset, .unset] [(.int (((3 : Int32) - (1 : Int32)) - (1 : Int32)))]))
        refine own_go (fun tq kq => XS.istore X154.here hx rfl (hb hby at_244) rfl (l' := #[.val (.long l0), .second, .val (.int i1), .val (.int i2), .val (.int i3), .val (.int (3 : Int32)), .val (.int c0), .val (.int c1), .val (.int c2), .val (.int c3), .val (.ref b125), .val (.int (((3 : Int32) - (1 : Int32)) - (1 : Int32))), .unset, .unset, .unset]) rfl kq) ?_
        show own_Rn p e below _ (T154.setTop (mkF m 246 #[.val (.long l0), .second, .val (.int i1), .val (.int i2), .val (.int i3), .val (.int (3 : Int32)), .val (.int c0), .val (.int c1), .val (.int c2), .val (.int c3), .val (.ref b125), .val (.int (((3 : Int32) - (1 : Int32)) - (1 : Int32))), .unset, .unset, .unset] []))
        refine own_go (fun tq kq => XS.iload X154.here hx rfl (hb hby at_246) rfl kq) ?_
        show own_Rn p e below _ (T154.setTop (mkF m 248 #[.val (.long l0), .second, .val (.int i1), .val (.int i2), .val (.int i3), .val (.int (3 : Int32)), .val (.int c0), .val (.int c1), .val (.int c2), .val (.int c3), .val (.ref b125), .val (.int (((3 : Int32) - (1 : Int32)) - (1 : Int32))), .unset, .unset, .unset] [(.int (3 : Int32))]))
        refine own_go (fun tq kq => XS.iconst X154.here hx rfl (hb hby at_248) kq) ?_
        show own_Rn p e below _ (T154.setTop (mkF m 249 #[.val (.long l0), .second, .val (.int i1), .val (.int i2), .val (.int i3), .val (.int (3 : Int32)), .val (.int c0), .val (.int c1), .val (.int c2), .val (.int c3), .val (.ref b125), .val (.int (((3 : Int32) - (1 : Int32)) - (1 : Int32))), .unset, .unset, .unset] [(.int (4 : Int32)), (.int (3 : Int32))]))
        refine own_go (fun tq kq => XS.icmpYes X154.here hx rfl (pc0 := 249) (pc' := 268) rfl (hb hby at_249) rfl (tlt (by decide : (3 : Int32) < (4 : Int32))).1 (by decide) (by decide) kq) ?_
        show own_Rn p e below _ (T154.setTop (mkF m 268 #[.val (.long l0), .second, .val (.int i1), .val (.int i2), .val (.int i3), .val (.int (3 : Int32)), .val (.int c0), .val (.int c1), .val (.int c2), .val (.int c3), .val (.ref b125), .val (.int (((3 : Int32) - (1 : Int32)) - (1 : Int32))), .unset, .unset, .unset] []))
        refine own_go (fun tq kq => XS.iloadN X154.here hx rfl (hb hby at_268) rfl kq) ?_
        show own_Rn p e below _ (T154.setTop (mkF m 269 #[.val (.long l0), .second, .val (.int i1), .val (.int i2), .val (.int i3), .val (.int (3 : Int32)), .val (.int c0), .val (.int c1), .val (.int c2), .val (.int c3), .val (.ref b125), .val (.int (((3 : Int32) - (1 : Int32)) - (1 : Int32))), .unset, .unset, .unset] [(.int i2)]))
        refine own_go (fun tq kq => XS.iload X154.here hx rfl (hb hby at_269) rfl kq) ?_
        show own_Rn p e below _ (T154.setTop (mkF m 271 #[.val (.long l0), .second, .val (.int i1), .val (.int i2), .val (.int i3), .val (.int (3 : Int32)), .val (.int c0), .val (.int c1), .val (.int c2), .val (.int c3), .val (.ref b125), .val (.int (((3 : Int32) - (1 : Int32)) - (1 : Int32))), .unset, .unset, .unset] [(.int (((3 : Int32) - (1 : Int32)) - (1 : Int32))), (.int i2)]))
        have Zn155 : n0 ≤ T142.heap.size := by omega
        obtain ⟨rv155, _, ⟨T155, L155, k155, n155⟩, -, X155, ⟨Lc155, hQ155, l155, y155, z155⟩, st155⟩ := Jvm.LawKit.callS X154 hx (y := (⟨"java/lang/Math", "max", "(II)I"⟩ : MethodName)) hown (mvT hZ (hw _ (own_mi 40 rfl))) (mvT hZ (hw _ (own_mi 41 rfl))) (mvT hZ (hw _ (own_mi 42 rfl))) (mvT hZ (hw _ (own_mi 43 rfl))) (by decide) (backOf (W := 0) (rmMax l Z a0 hw [] (i2) ((((3 : Int32) - (1 : Int32)) - (1 : Int32))) T142.heap n0 Zn155 ) hZ (hw _ (own_mi 43 rfl)) (hw _ (own_mi 42 rfl)) (by decide) (by decide)) (g := (mkF m 271 #[.val (.long l0), .second, .val (.int i1), .val (.int i2), .val (.int i3), .val (.int (3 : Int32)), .val (.int c0), .val (.int c1), .val (.int c2), .val (.int c3), .val (.ref b125), .val (.int (((3 : Int32) - (1 : Int32)) - (1 : Int32))), .unset, .unset, .unset] [(.int (((3 : Int32) - (1 : Int32)) - (1 : Int32))), (.int i2)])) rfl (by rw [hml]; rfl) (argsL := [(.int i2), (.int (((3 : Int32) - (1 : Int32)) - (1 : Int32)))]) (rest := []) (lenOf own_pd_28II29I rfl) rfl (by show 2 * 0 + _ ≤ _; exact Nat.le_of_eq rfl) (hb hby at_271) (fun _ _ => ⟨rfl, eh154, (by decide : 4 + 0 ≤ _), (by decide : 19 + 0 ≤ _)⟩)
        dsimp only [Pt.U, Pt.locs, Pt.cells, Pt.slots] at X155 l155 y155 z155 st155 hQ155
        subst l155 y155 z155
        obtain ⟨bd, rfl, Nq155, eh155, R_155⟩ := hQ155
        have N155 := Fr.app N154 Nq155
        refine own_go st155 ?_
        show own_Rn p e below _ (T155.setTop (mkF m 274 #[.val (.long l0), .second, .val (.int i1), .val (.int i2), .val (.int i3), .val (.int (3 : Int32)), .val (.int c0), .val (.int c1), .val (.int c2), .val (.int c3), .val (.ref b125), .val (.int (((3 : Int32) - (1 : Int32)) - (1 : Int32))), .unset, .unset, .unset] [(.int bd)]))
        refine own_go (fun tq kq => XS.istore X155.here hx rfl (hb hby at_274) rfl (l' := #[.val (.long l0), .second, .val (.int i1), .val (.int i2), .val (.int i3), .val (.int (3 : Int32)), .val (.int c0), .val (.int c1), .val (.int c2), .val (.int c3), .val (.ref b125), .val (.int (((3 : Int32) - (1 : Int32)) - (1 : Int32))), .val (.int bd), .unset, .unset]) rfl kq) ?_
        show own_Rn p e below _ (T155.setTop (mkF m 276 #[.val (.long l0), .second, .val (.int i1), .val (.int i2), .val (.int i3), .val (.int (3 : Int32)), .val (.int c0), .val (.int c1), .val (.int c2), .val (.int c3), .val (.ref b125), .val (.int (((3 : Int32) - (1 : Int32)) - (1 : Int32))), .val (.int bd), .unset, .unset] []))
        refine own_go (fun tq kq => XS.iload X155.here hx rfl (hb hby at_276) rfl kq) ?_
        show own_Rn p e below _ (T155.setTop (mkF m 278 #[.val (.long l0), .second, .val (.int i1), .val (.int i2), .val (.int i3), .val (.int (3 : Int32)), .val (.int c0), .val (.int c1), .val (.int c2), .val (.int c3), .val (.ref b125), .val (.int (((3 : Int32) - (1 : Int32)) - (1 : Int32))), .val (.int bd), .unset, .unset] [(.int i3)]))
        refine own_go (fun tq kq => XS.sipush X155.here hx rfl (hb hby at_278) kq) ?_
        show own_Rn p e below _ (T155.setTop (mkF m 281 #[.val (.long l0), .second, .val (.int i1), .val (.int i2), .val (.int i3), .val (.int (3 : Int32)), .val (.int c0), .val (.int c1), .val (.int c2), .val (.int c3), .val (.ref b125), .val (.int (((3 : Int32) - (1 : Int32)) - (1 : Int32))), .val (.int bd), .unset, .unset] [(.int (255 : Int32)), (.int i3)]))
        refine own_go (fun tq kq => XS.iand X155.here hx rfl (hb hby at_281) rfl kq) ?_
        show own_Rn p e below _ (T155.setTop (mkF m 282 #[.val (.long l0), .second, .val (.int i1), .val (.int i2), .val (.int i3), .val (.int (3 : Int32)), .val (.int c0), .val (.int c1), .val (.int c2), .val (.int c3), .val (.ref b125), .val (.int (((3 : Int32) - (1 : Int32)) - (1 : Int32))), .val (.int bd), .unset, .unset] [(.int (i3 &&& (255 : Int32)))]))
        refine own_go (fun tq kq => XS.i2c X155.here hx rfl (hb hby at_282) rfl kq) ?_
        show own_Rn p e below _ (T155.setTop (mkF m 283 #[.val (.long l0), .second, .val (.int i1), .val (.int i2), .val (.int i3), .val (.int (3 : Int32)), .val (.int c0), .val (.int c1), .val (.int c2), .val (.int c3), .val (.ref b125), .val (.int (((3 : Int32) - (1 : Int32)) - (1 : Int32))), .val (.int bd), .unset, .unset] [(.int ((i3 &&& (255 : Int32)).toUInt32.toUInt16.toUInt32.toInt32))]))
        obtain ⟨wc, hwc⟩ : ∃ z : Int32, z = ((i3 &&& (255 : Int32)).toUInt32.toUInt16.toUInt32.toInt32) := ⟨_, rfl⟩
        rw [← hwc]
        show own_Rn p e below _ (T155.setTop (mkF m 283 #[.val (.long l0), .second, .val (.int i1), .val (.int i2), .val (.int i3), .val (.int (3 : Int32)), .val (.int c0), .val (.int c1), .val (.int c2), .val (.int c3), .val (.ref b125), .val (.int (((3 : Int32) - (1 : Int32)) - (1 : Int32))), .val (.int bd), .unset, .unset] [(.int wc)]))
        have rwc : ¬ wc < 0 ∧ ¬ (255 : Int32) < wc := by rw [hwc]; exact own_chr_rng _
        have Zn156 : n0 ≤ T142.heap.size := by omega
        have F157 : Old Z n0 T142.heap := (F147.keep Kq142 (allS gn125 all0))
        obtain ⟨rv156, _, ⟨T156, L156, k156, n156⟩, -, X156, ⟨Lc156, hQ156, l156, y156, z156⟩, st156⟩ := Jvm.LawKit.callS X155 hx (y := (⟨"java/lang/String", "valueOf", "(C)Ljava/lang/String;"⟩ : MethodName)) hown (mvT hZ (hw _ (own_mi 44 rfl))) (mvT hZ (hw _ (own_mi 45 rfl))) (mvT hZ (hw _ (own_mi 4 rfl))) (mvT hZ (hw _ (own_mi 46 rfl))) (by decide) (backOf (W := 0) (rmVal l Z a0 hw [] (wc) (G1) T142.heap n0 Zn156 (rwc) (O2) (P5) F157) hZ (hw _ (own_mi 46 rfl)) (hw _ (own_mi 4 rfl)) (by decide) (by decide)) (g := (mkF m 283 #[.val (.long l0), .second, .val (.int i1), .val (.int i2), .val (.int i3), .val (.int (3 : Int32)), .val (.int c0), .val (.int c1), .val (.int c2), .val (.int c3), .val (.ref b125), .val (.int (((3 : Int32) - (1 : Int32)) - (1 : Int32))), .val (.int bd), .unset, .unset] [(.int wc)])) rfl (by rw [hml]; rfl) (argsL := [(.int wc)]) (rest := []) (lenOf own_pd_28C29Ljava2flang2fString3b rfl) rfl (by show 2 * 0 + _ ≤ _; exact Nat.le_of_eq rfl) (hb hby at_283) (fun _ _ => ⟨rfl, eh155, (by decide : 4 + 2 ≤ _), (by decide : 19 + 5 ≤ _)⟩)
        dsimp only [Pt.U, Pt.locs, Pt.cells, Pt.slots] at X156 l156 y156 z156 st156 hQ156
        subst l156 y156 z156
        obtain ⟨xw, tw, kw, rfl, Nq156, Kq156, G0_156, G1_156, G2_156, G3_156, G4_156, G5_156, G6_156, G7_156⟩ := hQ156
        have N156 := Fr.app N155 Nq156
        have sz158 : T142.heap.size ≤ T156.heap.size := Kq156.1
        have cr158 : CHr Z consts_1 s.vm T142.heap s.vm T156.heap := CHr.keep Kq156 sf0 CR150.1
        have CR158 := CR150.trans cr158
        have sf159 : Safe Z consts_1 s.vm T156.heap xw := Safe.keep Kq156 sf0 CR150.1 (Safe.new (by omega))
        have sf160 : Safe Z consts_1 s.vm T156.heap tw := Safe.keep Kq156 sf0 CR150.1 (Safe.new (by omega))
        have lt161 : @LT.lt Nat _ xw T156.heap.size := G4_156.lt
        have lt162 : @LT.lt Nat _ tw T156.heap.size := G7_156.lt
        refine own_go st156 ?_
        show own_Rn p e below _ (T156.setTop (mkF m 286 #[.val (.long l0), .second, .val (.int i1), .val (.int i2), .val (.int i3), .val (.int (3 : Int32)), .val (.int c0), .val (.int c1), .val (.int c2), .val (.int c3), .val (.ref b125), .val (.int (((3 : Int32) - (1 : Int32)) - (1 : Int32))), .val (.int bd), .unset, .unset] [(.ref xw)]))
        refine own_go (fun tq kq => XS.astore X156.here hx rfl (hb hby at_286) rfl rfl (l' := #[.val (.long l0), .second, .val (.int i1), .val (.int i2), .val (.int i3), .val (.int (3 : Int32)), .val (.int c0), .val (.int c1), .val (.int c2), .val (.int c3), .val (.ref b125), .val (.int (((3 : Int32) - (1 : Int32)) - (1 : Int32))), .val (.int bd), .val (.ref xw), .unset]) rfl kq) ?_
        show own_Rn p e below _ (T156.setTop (mkF m 288 #[.val (.long l0), .second, .val (.int i1), .val (.int i2), .val (.int i3), .val (.int (3 : Int32)), .val (.int c0), .val (.int c1), .val (.int c2), .val (.int c3), .val (.ref b125), .val (.int (((3 : Int32) - (1 : Int32)) - (1 : Int32))), .val (.int bd), .val (.ref xw), .unset] []))
        refine own_go (fun tq kq => XS.aload X156.here hx rfl (hb hby at_288) rfl rfl kq) ?_
        show own_Rn p e below _ (T156.setTop (mkF m 290 #[.val (.long l0), .second, .val (.int i1), .val (.int i2), .val (.int i3), .val (.int (3 : Int32)), .val (.int c0), .val (.int c1), .val (.int c2), .val (.int c3), .val (.ref b125), .val (.int (((3 : Int32) - (1 : Int32)) - (1 : Int32))), .val (.int bd), .val (.ref xw), .unset] [(.ref xw)]))
        refine own_go (fun tq kq => XS.iload X156.here hx rfl (hb hby at_290) rfl kq) ?_
        show own_Rn p e below _ (T156.setTop (mkF m 292 #[.val (.long l0), .second, .val (.int i1), .val (.int i2), .val (.int i3), .val (.int (3 : Int32)), .val (.int c0), .val (.int c1), .val (.int c2), .val (.int c3), .val (.ref b125), .val (.int (((3 : Int32) - (1 : Int32)) - (1 : Int32))), .val (.int bd), .val (.ref xw), .unset] [(.int bd), (.ref xw)]))
        refine own_go (fun tq kq => XS.aload X156.here hx rfl (hb hby at_292) rfl rfl kq) ?_
        show own_Rn p e below _ (T156.setTop (mkF m 294 #[.val (.long l0), .second, .val (.int i1), .val (.int i2), .val (.int i3), .val (.int (3 : Int32)), .val (.int c0), .val (.int c1), .val (.int c2), .val (.int c3), .val (.ref b125), .val (.int (((3 : Int32) - (1 : Int32)) - (1 : Int32))), .val (.int bd), .val (.ref xw), .unset] [(.ref b125), (.int bd), (.ref xw)]))
        have hcp : own_cp ([c0, c1, c2] : List Int32) = 1 := by rw [own_cp, own_p3, hp0, hp1]; rfl
        have hmx : ¬ bd < Int32.ofNat (own_cp ([c0, c1, c2] : List Int32)) := by rw [hcp]; have h := R_155; rwa [show (((3 : Int32) - (1 : Int32)) - (1 : Int32)) = Int32.ofNat 1 by decide] at h
        have Zn163 : n0 ≤ T156.heap.size := by omega
        have F164 : Exa Z T156.heap b125 "java/lang/String" := ((F143.keep Kq142).keep Kq156)
        have F165 : Fld Z T156.heap b125 "java/lang/String" "value" "[B" (.ref tt) := (G2_142.keep Kq156 nin0)
        have F166 : Fld Z T156.heap b125 "java/lang/String" "coder" "B" (.int cd) := (G3_142.keep Kq156 nin0)
        have F167 : Arv Z T156.heap tt kk .byte NN vv (.int 0) := (G4_142.keep Kq156 nin0)
        have F168 : Old Z n0 T156.heap := (F157.keep Kq156 all0)
        obtain ⟨rv163, _, ⟨T163, L163, k163, n163⟩, -, X163, ⟨Lc163, hQ163, l163, y163, z163⟩, st163⟩ := Jvm.LawKit.callS X156 hx (y := (⟨"com/example/cellwise/cellwise/Checks", "atMost", "(Ljava/lang/String;ILjava/lang/String;)Ljava/lang/String;"⟩ : MethodName)) hown (mvT hZ (hw _ (own_mi 58 rfl))) (mvT hZ (hw _ (own_mi 59 rfl))) (mvT hZ (hw _ (own_mi 60 rfl))) (mvT hZ (hw _ (own_mi 61 rfl))) (by decide) (backOf (W := 0) (rmAM l Z a0 hw [] (xw) (bd) (b125) (tt) (kk) (NN) (vv) (cd) (([c0, c1, c2] : List Int32)) (G1) T156.heap n0 Zn163 F164 F165 F166 F167 (RL) (by simp) (hr) (hmx) (OAD) (OHI) (OLO) (O2) (P5) F168) hZ (hw _ (own_mi 61 rfl)) (hw _ (own_mi 60 rfl)) (by decide) (by decide)) (g := (mkF m 294 #[.val (.long l0), .second, .val (.int i1), .val (.int i2), .val (.int i3), .val (.int (3 : Int32)), .val (.int c0), .val (.int c1), .val (.int c2), .val (.int c3), .val (.ref b125), .val (.int (((3 : Int32) - (1 : Int32)) - (1 : Int32))), .val (.int bd), .val (.ref xw), .unset] [(.ref b125), (.int bd), (.ref xw)])) rfl (by rw [hml]; rfl) (argsL := [(.ref xw), (.int bd), (.ref b125)]) (rest := []) (lenOf own_pd_28Ljava2flang2fString3bILjava2flang2fString3b29Ljava2flang2fString3b rfl) rfl (by show 2 * 0 + _ ≤ _; exact Nat.le_of_eq rfl) (hb hby at_294) (fun _ _ => ⟨rfl, rfl, (by decide : 6 + 0 ≤ _), (by decide : 24 + 0 ≤ _)⟩)
        dsimp only [Pt.U, Pt.locs, Pt.cells, Pt.slots] at X163 l163 y163 z163 st163 hQ163
        subst l163 y163 z163
        obtain ⟨rfl, Nq163, eh163⟩ := hQ163
        have N163 := Fr.app N156 Nq163
        refine own_go st163 ?_
        show own_Rn p e below _ (T163.setTop (mkF m 297 #[.val (.long l0), .second, .val (.int i1), .val (.int i2), .val (.int i3), .val (.int (3 : Int32)), .val (.int c0), .val (.int c1), .val (.int c2), .val (.int c3), .val (.ref b125), .val (.int (((3 : Int32) - (1 : Int32)) - (1 : Int32))), .val (.int bd), .val (.ref xw), .unset] [(.ref b125)]))
        refine own_go (fun tq kq => XS.astore X163.here hx rfl (hb hby at_297) rfl rfl (l' := #[.val (.long l0), .second, .val (.int i1), .val (.int i2), .val (.int i3), .val (.int (3 : Int32)), .val (.int c0), .val (.int c1), .val (.int c2), .val (.int c3), .val (.ref b125), .val (.int (((3 : Int32) - (1 : Int32)) - (1 : Int32))), .val (.int bd), .val (.ref xw), .val (.ref b125)]) rfl kq) ?_
        show own_Rn p e below _ (T163.setTop (mkF m 299 #[.val (.long l0), .second, .val (.int i1), .val (.int i2), .val (.int i3), .val (.int (3 : Int32)), .val (.int c0), .val (.int c1), .val (.int c2), .val (.int c3), .val (.ref b125), .val (.int (((3 : Int32) - (1 : Int32)) - (1 : Int32))), .val (.int bd), .val (.ref xw), .val (.ref b125)] []))
        refine own_go (fun tq kq => XS.aload X163.here hx rfl (hb hby at_299) rfl rfl kq) ?_
        show own_Rn p e below _ (T163.setTop (mkF m 301 #[.val (.long l0), .second, .val (.int i1), .val (.int i2), .val (.int i3), .val (.int (3 : Int32)), .val (.int c0), .val (.int c1), .val (.int c2), .val (.int c3), .val (.ref b125), .val (.int (((3 : Int32) - (1 : Int32)) - (1 : Int32))), .val (.int bd), .val (.ref xw), .val (.ref b125)] [(.ref b125)]))
        refine own_go (fun tq kq => XS.ifnullNo X163.here hx rfl (hb hby at_301) rfl kq) ?_
        show own_Rn p e below _ (T163.setTop (mkF m 304 #[.val (.long l0), .second, .val (.int i1), .val (.int i2), .val (.int i3), .val (.int (3 : Int32)), .val (.int c0), .val (.int c1), .val (.int c2), .val (.int c3), .val (.ref b125), .val (.int (((3 : Int32) - (1 : Int32)) - (1 : Int32))), .val (.int bd), .val (.ref xw), .val (.ref b125)] []))
        refine own_go (fun tq kq => XS.aload X163.here hx rfl (hb hby at_304) rfl rfl kq) ?_
        show own_Rn p e below _ (T163.setTop (mkF m 306 #[.val (.long l0), .second, .val (.int i1), .val (.int i2), .val (.int i3), .val (.int (3 : Int32)), .val (.int c0), .val (.int c1), .val (.int c2), .val (.int c3), .val (.ref b125), .val (.int (((3 : Int32) - (1 : Int32)) - (1 : Int32))), .val (.int bd), .val (.ref xw), .val (.ref b125)] [(.ref b125)]))
        refine own_go (fun tq kq => XS.aload X163.here hx rfl (hb hby at_306) rfl rfl kq) ?_
        show own_Rn p e below _ (T163.setTop (mkF m 308 #[.val (.long l0), .second, .val (.int i1), .val (.int i2), .val (.int i3), .val (.int (3 : Int32)), .val (.int c0), .val (.int c1), .val (.int c2), .val (.int c3), .val (.ref b125), .val (.int (((3 : Int32) - (1 : Int32)) - (1 : Int32))), .val (.int bd), .val (.ref xw), .val (.ref b125)] [(.ref b125), (.ref b125)]))
        have Zn169 : n0 ≤ T156.heap.size := by omega
        obtain ⟨cq169, kq169, qa169, qb169, qc169⟩ := isOf hZ eh163 F164
        obtain ⟨rv169, _, ⟨T169, L169, k169, n169⟩, -, X169, ⟨Lc169, hQ169, l169, y169, z169⟩, st169⟩ := X163.virtualBack hx (y := (⟨"java/lang/String", "equals", "(Ljava/lang/Object;)Z"⟩ : MethodName)) (z := (⟨"java/lang/String", "equals", "(Ljava/lang/Object;)Z"⟩ : MethodName)) hown (mvT hZ (hw _ (own_mi 91 rfl))) (mvT hZ (hw _ (own_mi 92 rfl))) (notFace_of_selects (args := #[]) (mvT hZ (hw _ (own_mi 94 rfl)))) (mvT hZ (hw _ (own_mi 94 rfl))) (mvT hZ (hw _ (own_mi 93 rfl))) (by decide) (backOf (W := 0) (rmEqS l Z a0 hw [] (b125) T156.heap n0 Zn169 ) hZ (hw _ (own_mi 95 rfl)) (hw _ (own_mi 4 rfl)) (by decide) (by decide)) qa169 qc169 (g := (mkF m 308 #[.val (.long l0), .second, .val (.int i1), .val (.int i2), .val (.int i3), .val (.int (3 : Int32)), .val (.int c0), .val (.int c1), .val (.int c2), .val (.int c3), .val (.ref b125), .val (.int (((3 : Int32) - (1 : Int32)) - (1 : Int32))), .val (.int bd), .val (.ref xw), .val (.ref b125)] [(.ref b125), (.ref b125)])) rfl (by rw [hml]; rfl) (Steps.refl _) (argsL := [(.ref b125)]) (rest := []) (lenOf own_pd_28Ljava2flang2fObject3b29Z rfl) rfl (by show 2 * 0 + _ ≤ _; exact Nat.le_of_eq rfl) (hb hby at_308) (fun _ _ => ⟨rfl, eh163, (by decide : 6 + 0 ≤ _), (by decide : 24 + 0 ≤ _)⟩)
        dsimp only [Pt.U, Pt.locs, Pt.cells, Pt.slots] at X169 l169 y169 z169 st169 hQ169
        subst l169 y169 z169
        obtain ⟨rfl, Nq169, eh169⟩ := hQ169
        have N169 := Fr.app N163 Nq169
        refine own_go (fun tq kq => st169.trans kq) ?_
        show own_Rn p e below _ (T169.setTop (mkF m 311 #[.val (.long l0), .second, .val (.int i1), .val (.int i2), .val (.int i3), .val (.int (3 : Int32)), .val (.int c0), .val (.int c1), .val (.int c2), .val (.int c3), .val (.ref b125), .val (.int (((3 : Int32) - (1 : Int32)) - (1 : Int32))), .val (.int bd), .val (.ref xw), .val (.ref b125)] [(.int (1 : Int32))]))
        refine own_go (fun tq kq => XS.ifNo X169.here hx rfl (hb hby at_311) rfl ((if0 _ _).trans (feq ((by decide : ¬ ((1 : Int32) = (0 : Int32))) : ¬ ((1 : Int32) = (0 : Int32)))).1) kq) ?_
        show own_Rn p e below _ (T169.setTop (mkF m 314 #[.val (.long l0), .second, .val (.int i1), .val (.int i2), .val (.int i3), .val (.int (3 : Int32)), .val (.int c0), .val (.int c1), .val (.int c2), .val (.int c3), .val (.ref b125), .val (.int (((3 : Int32) - (1 : Int32)) - (1 : Int32))), .val (.int bd), .val (.ref xw), .val (.ref b125)] []))
        refine own_go (fun tq kq => XS.iconst X169.here hx rfl (hb hby at_314) kq) ?_
        show own_Rn p e below _ (T169.setTop (mkF m 315 #[.val (.long l0), .second, .val (.int i1), .val (.int i2), .val (.int i3), .val (.int (3 : Int32)), .val (.int c0), .val (.int c1), .val (.int c2), .val (.int c3), .val (.ref b125), .val (.int (((3 : Int32) - (1 : Int32)) - (1 : Int32))), .val (.int bd), .val (.ref xw), .val (.ref b125)] [(.int (1 : Int32))]))
        refine own_go (fun tq kq => XS.goto X169.here hx rfl (pc0 := 315) (pc' := 319) rfl (hb hby at_315) (by decide) (by decide) kq) ?_
        show own_Rn p e below _ (T169.setTop (mkF m 319 #[.val (.long l0), .second, .val (.int i1), .val (.int i2), .val (.int i3), .val (.int (3 : Int32)), .val (.int c0), .val (.int c1), .val (.int c2), .val (.int c3), .val (.ref b125), .val (.int (((3 : Int32) - (1 : Int32)) - (1 : Int32))), .val (.int bd), .val (.ref xw), .val (.ref b125)] [(.int (1 : Int32))]))
        exact own_retS X169 hS0 (by rw [eh169]; omega) (v := some (.int (nar .boolean (1 : Int32)))) (fun h => by rw [Bd.returns] at h; cases h) (fun fs hr => retN X169 hx (t := .boolean) Bd.returns (by simp) (hb hby at_319) hr) (by rw [eh169]; exact ⟨rfl, N169⟩) (by rw [hh, eh169]; exact CR158.trans (CHv.at X169 hZ hEL CR158.1)) (by decide) (by decide)
      · skip
        rw [if_neg hA1]
        show own_Rn p e below _ (T154.setTop (mkF m 237 #[.val (.long l0), .second, .val (.int i1), .val (.int i2), .val (.int i3), .val (.int (3 : Int32)), .val (.int c0), .val (.int c1), .val (.int c2), .val (.int c3), .val (.ref b125), .val (.int ((3 : Int32) - (1 : Int32))), .unset, .unset, .unset] [(.int (0 : Int32))]))
        have hp1 : own_pr c1 c2 = 0 := if_neg hA1
        refine own_go (fun tq kq => XS.ifYes X154.here hx rfl (pc0 := 237) (pc' := 246) rfl (hb hby at_237) rfl ((if0 _ _).trans (teq ((by decide : (0 : Int32) = (0 : Int32)) : (0 : Int32) = (0 : Int32))).1) (by decide) (by decide) kq) ?_
        show own_Rn p e below _ (T154.setTop (mkF m 246 #[.val (.long l0), .second, .val (.int i1), .val (.int i2), .val (.int i3), .val (.int (3 : Int32)), .val (.int c0), .val (.int c1), .val (.int c2), .val (.int c3), .val (.ref b125), .val (.int ((3 : Int32) - (1 : Int32))), .unset, .unset, .unset] []))
        refine own_go (fun tq kq => XS.iload X154.here hx rfl (hb hby at_246) rfl kq) ?_
        show own_Rn p e below _ (T154.setTop (mkF m 248 #[.val (.long l0), .second, .val (.int i1), .val (.int i2), .val (.int i3), .val (.int (3 : Int32)), .val (.int c0), .val (.int c1), .val (.int c2), .val (.int c3), .val (.ref b125), .val (.int ((3 : Int32) - (1 : Int32))), .unset, .unset, .unset] [(.int (3 : Int32))]))
        refine own_go (fun tq kq => XS.iconst X154.here hx rfl (hb hby at_248) kq) ?_
        show own_Rn p e below _ (T154.setTop (mkF m 249 #[.val (.long l0), .second, .val (.int i1), .val (.int i2), .val (.int i3), .val (.int (3 : Int32)), .val (.int c0), .val (.int c1), .val (.int c2), .val (.int c3), .val (.ref b125), .val (.int ((3 : Int32) - (1 : Int32))), .unset, .unset, .unset] [(.int (4 : Int32)), (.int (3 : Int32))]))
        refine own_go (fun tq kq => XS.icmpYes X154.here hx rfl (pc0 := 249) (pc' := 268) rfl (hb hby at_249) rfl (tlt (by decide : (3 : Int32) < (4 : Int32))).1 (by decide) (by decide) kq) ?_
        show own_Rn p e below _ (T154.setTop (mkF m 268 #[.val (.long l0), .second, .val (.int i1), .val (.int i2), .val (.int i3), .val (.int (3 : Int32)), .val (.int c0), .val (.int c1), .val (.int c2), .val (.int c3), .val (.ref b125), .val (.int ((3 : Int32) - (1 : Int32))), .unset, .unset, .unset] []))
        refine own_go (fun tq kq => XS.iloadN X154.here hx rfl (hb hby at_268) rfl kq) ?_
        show own_Rn p e below _ (T154.setTop (mkF m 269 #[.val (.long l0), .second, .val (.int i1), .val (.int i2), .val (.int i3), .val (.int (3 : Int32)), .val (.int c0), .val (.int c1), .val (.int c2), .val (.int c3), .val (.ref b125), .val (.int ((3 : Int32) - (1 : Int32))), .unset, .unset, .unset] [(.int i2)]))
        refine own_go (fun tq kq => XS.iload X154.here hx rfl (hb hby at_269) rfl kq) ?_
        show own_Rn p e below _ (T154.setTop (mkF m 271 #[.val (.long l0), .second, .val (.int i1), .val (.int i2), .val (.int i3), .val (.int (3 : Int32)), .val (.int c0), .val (.int c1), .val (.int c2), .val (.int c3), .val (.ref b125), .val (.int ((3 : Int32) - (1 : Int32))), .unset, .unset, .unset] [(.int ((3 : Int32) - (1 : Int32))), (.int i2)]))
        have Zn170 : n0 ≤ T142.heap.size := by omega
        obtain ⟨rv170, _, ⟨T170, L170, k170, n170⟩, -, X170, ⟨Lc170, hQ170, l170, y170, z170⟩, st170⟩ := Jvm.LawKit.callS X154 hx (y := (⟨"java/lang/Math", "max", "(II)I"⟩ : MethodName)) hown (mvT hZ (hw _ (own_mi 40 rfl))) (mvT hZ (hw _ (own_mi 41 rfl))) (mvT hZ (hw _ (own_mi 42 rfl))) (mvT hZ (hw _ (own_mi 43 rfl))) (by decide) (backOf (W := 0) (rmMax l Z a0 hw [] (i2) (((3 : Int32) - (1 : Int32))) T142.heap n0 Zn170 ) hZ (hw _ (own_mi 43 rfl)) (hw _ (own_mi 42 rfl)) (by decide) (by decide)) (g := (mkF m 271 #[.val (.long l0), .second, .val (.int i1), .val (.int i2), .val (.int i3), .val (.int (3 : Int32)), .val (.int c0), .val (.int c1), .val (.int c2), .val (.int c3), .val (.ref b125), .val (.int ((3 : Int32) - (1 : Int32))), .unset, .unset, .unset] [(.int ((3 : Int32) - (1 : Int32))), (.int i2)])) rfl (by rw [hml]; rfl) (argsL := [(.int i2), (.int ((3 : Int32) - (1 : Int32)))]) (rest := []) (lenOf own_pd_28II29I rfl) rfl (by show 2 * 0 + _ ≤ _; exact Nat.le_of_eq rfl) (hb hby at_271) (fun _ _ => ⟨rfl, eh154, (by decide : 4 + 0 ≤ _), (by decide : 19 + 0 ≤ _)⟩)
        dsimp only [Pt.U, Pt.locs, Pt.cells, Pt.slots] at X170 l170 y170 z170 st170 hQ170
        subst l170 y170 z170
        obtain ⟨bd, rfl, Nq170, eh170, R_170⟩ := hQ170
        have N170 := Fr.app N154 Nq170
        refine own_go st170 ?_
        show own_Rn p e below _ (T170.setTop (mkF m 274 #[.val (.long l0), .second, .val (.int i1), .val (.int i2), .val (.int i3), .val (.int (3 : Int32)), .val (.int c0), .val (.int c1), .val (.int c2), .val (.int c3), .val (.ref b125), .val (.int ((3 : Int32) - (1 : Int32))), .unset, .unset, .unset] [(.int bd)]))
        refine own_go (fun tq kq => XS.istore X170.here hx rfl (hb hby at_274) rfl (l' := #[.val (.long l0), .second, .val (.int i1), .val (.int i2), .val (.int i3), .val (.int (3 : Int32)), .val (.int c0), .val (.int c1), .val (.int c2), .val (.int c3), .val (.ref b125), .val (.int ((3 : Int32) - (1 : Int32))), .val (.int bd), .unset, .unset]) rfl kq) ?_
        show own_Rn p e below _ (T170.setTop (mkF m 276 #[.val (.long l0), .second, .val (.int i1), .val (.int i2), .val (.int i3), .val (.int (3 : Int32)), .val (.int c0), .val (.int c1), .val (.int c2), .val (.int c3), .val (.ref b125), .val (.int ((3 : Int32) - (1 : Int32))), .val (.int bd), .unset, .unset] []))
        refine own_go (fun tq kq => XS.iload X170.here hx rfl (hb hby at_276) rfl kq) ?_
        show own_Rn p e below _ (T170.setTop (mkF m 278 #[.val (.long l0), .second, .val (.int i1), .val (.int i2), .val (.int i3), .val (.int (3 : Int32)), .val (.int c0), .val (.int c1), .val (.int c2), .val (.int c3), .val (.ref b125), .val (.int ((3 : Int32) - (1 : Int32))), .val (.int bd), .unset, .unset] [(.int i3)]))
        refine own_go (fun tq kq => XS.sipush X170.here hx rfl (hb hby at_278) kq) ?_
        show own_Rn p e below _ (T170.setTop (mkF m 281 #[.val (.long l0), .second, .val (.int i1), .val (.int i2), .val (.int i3), .val (.int (3 : Int32)), .val (.int c0), .val (.int c1), .val (.int c2), .val (.int c3), .val (.ref b125), .val (.int ((3 : Int32) - (1 : Int32))), .val (.int bd), .unset, .unset] [(.int (255 : Int32)), (.int i3)]))
        refine own_go (fun tq kq => XS.iand X170.here hx rfl (hb hby at_281) rfl kq) ?_
        show own_Rn p e below _ (T170.setTop (mkF m 282 #[.val (.long l0), .second, .val (.int i1), .val (.int i2), .val (.int i3), .val (.int (3 : Int32)), .val (.int c0), .val (.int c1), .val (.int c2), .val (.int c3), .val (.ref b125), .val (.int ((3 : Int32) - (1 : Int32))), .val (.int bd), .unset, .unset] [(.int (i3 &&& (255 : Int32)))]))
        refine own_go (fun tq kq => XS.i2c X170.here hx rfl (hb hby at_282) rfl kq) ?_
        show own_Rn p e below _ (T170.setTop (mkF m 283 #[.val (.long l0), .second, .val (.int i1), .val (.int i2), .val (.int i3), .val (.int (3 : Int32)), .val (.int c0), .val (.int c1), .val (.int c2), .val (.int c3), .val (.ref b125), .val (.int ((3 : Int32) - (1 : Int32))), .val (.int bd), .unset, .unset] [(.int ((i3 &&& (255 : Int32)).toUInt32.toUInt16.toUInt32.toInt32))]))
        obtain ⟨wc, hwc⟩ : ∃ z : Int32, z = ((i3 &&& (255 : Int32)).toUInt32.toUInt16.toUInt32.toInt32) := ⟨_, rfl⟩
        rw [← hwc]
        show own_Rn p e below _ (T170.setTop (mkF m 283 #[.val (.long l0), .second, .val (.int i1), .val (.int i2), .val (.int i3), .val (.int (3 : Int32)), .val (.int c0), .val (.int c1), .val (.int c2), .val (.int c3), .val (.ref b125), .val (.int ((3 : Int32) - (1 : Int32))), .val (.int bd), .unset, .unset] [(.int wc)]))
        have rwc : ¬ wc < 0 ∧ ¬ (255 : Int32) < wc := by rw [hwc]; exact own_chr_rng _
        have Zn171 : n0 ≤ T142.heap.size := by omega
        have F172 : Old Z n0 T142.heap := (F147.keep Kq142 (allS gn125 all0))
        obtain ⟨rv171, _, ⟨T171, L171, k171, n171⟩, -, X171, ⟨Lc171, hQ171, l171, y171, z171⟩, st171⟩ := Jvm.LawKit.callS X170 hx (y := (⟨"java/lang/String", "valueOf", "(C)Ljava/lang/String;"⟩ : MethodName)) hown (mvT hZ (hw _ (own_mi 44 rfl))) (mvT hZ (hw _ (own_mi 45 rfl))) (mvT hZ (hw _ (own_mi 4 rfl))) (mvT hZ (hw _ (own_mi 46 rfl))) (by decide) (backOf (W := 0) (rmVal l Z a0 hw [] (wc) (G1) T142.heap n0 Zn171 (rwc) (O2) (P5) F172) hZ (hw _ (own_mi 46 rfl)) (hw _ (own_mi 4 rfl)) (by decide) (by decide)) (g := (mkF m 283 #[.val (.long l0), .second, .val (.int i1), .val (.int i2), .val (.int i3), .val (.int (3 : Int32)), .val (.int c0), .val (.int c1), .val (.int c2), .val (.int c3), .val (.ref b125), .val (.int ((3 : Int32) - (1 : Int32))), .val (.int bd), .unset, .unset] [(.int wc)])) rfl (by rw [hml]; rfl) (argsL := [(.int wc)]) (rest := []) (lenOf own_pd_28C29Ljava2flang2fString3b rfl) rfl (by show 2 * 0 + _ ≤ _; exact Nat.le_of_eq rfl) (hb hby at_283) (fun _ _ => ⟨rfl, eh170, (by decide : 4 + 2 ≤ _), (by decide : 19 + 5 ≤ _)⟩)
        dsimp only [Pt.U, Pt.locs, Pt.cells, Pt.slots] at X171 l171 y171 z171 st171 hQ171
        subst l171 y171 z171
        obtain ⟨xw, tw, kw, rfl, Nq171, Kq171, G0_171, G1_171, G2_171, G3_171, G4_171, G5_171, G6_171, G7_171⟩ := hQ171
        have N171 := Fr.app N170 Nq171
        have sz173 : T142.heap.size ≤ T171.heap.size := Kq171.1
        have cr173 : CHr Z consts_1 s.vm T142.heap s.vm T171.heap := CHr.keep Kq171 sf0 CR150.1
        have CR173 := CR150.trans cr173
        have sf174 : Safe Z consts_1 s.vm T171.heap xw := Safe.keep Kq171 sf0 CR150.1 (Safe.new (by omega))
        have sf175 : Safe Z consts_1 s.vm T171.heap tw := Safe.keep Kq171 sf0 CR150.1 (Safe.new (by omega))
        have lt176 : @LT.lt Nat _ xw T171.heap.size := G4_171.lt
        have lt177 : @LT.lt Nat _ tw T171.heap.size := G7_171.lt
        refine own_go st171 ?_
        show own_Rn p e below _ (T171.setTop (mkF m 286 #[.val (.long l0), .second, .val (.int i1), .val (.int i2), .val (.int i3), .val (.int (3 : Int32)), .val (.int c0), .val (.int c1), .val (.int c2), .val (.int c3), .val (.ref b125), .val (.int ((3 : Int32) - (1 : Int32))), .val (.int bd), .unset, .unset] [(.ref xw)]))
        refine own_go (fun tq kq => XS.astore X171.here hx rfl (hb hby at_286) rfl rfl (l' := #[.val (.long l0), .second, .val (.int i1), .val (.int i2), .val (.int i3), .val (.int (3 : Int32)), .val (.int c0), .val (.int c1), .val (.int c2), .val (.int c3), .val (.ref b125), .val (.int ((3 : Int32) - (1 : Int32))), .val (.int bd), .val (.ref xw), .unset]) rfl kq) ?_
        show own_Rn p e below _ (T171.setTop (mkF m 288 #[.val (.long l0), .second, .val (.int i1), .val (.int i2), .val (.int i3), .val (.int (3 : Int32)), .val (.int c0), .val (.int c1), .val (.int c2), .val (.int c3), .val (.ref b125), .val (.int ((3 : Int32) - (1 : Int32))), .val (.int bd), .val (.ref xw), .unset] []))
        refine own_go (fun tq kq => XS.aload X171.here hx rfl (hb hby at_288) rfl rfl kq) ?_
        show own_Rn p e below _ (T171.setTop (mkF m 290 #[.val (.long l0), .second, .val (.int i1), .val (.int i2), .val (.int i3), .val (.int (3 : Int32)), .val (.int c0), .val (.int c1), .val (.int c2), .val (.int c3), .val (.ref b125), .val (.int ((3 : Int32) - (1 : Int32))), .val (.int bd), .val (.ref xw), .unset] [(.ref xw)]))
        refine own_go (fun tq kq => XS.iload X171.here hx rfl (hb hby at_290) rfl kq) ?_
        show own_Rn p e below _ (T171.setTop (mkF m 292 #[.val (.long l0), .second, .val (.int i1), .val (.int i2), .val (.int i3), .val (.int (3 : Int32)), .val (.int c0), .val (.int c1), .val (.int c2), .val (.int c3), .val (.ref b125), .val (.int ((3 : Int32) - (1 : Int32))), .val (.int bd), .val (.ref xw), .unset] [(.int bd), (.ref xw)]))
        refine own_go (fun tq kq => XS.aload X171.here hx rfl (hb hby at_292) rfl rfl kq) ?_
        show own_Rn p e below _ (T171.setTop (mkF m 294 #[.val (.long l0), .second, .val (.int i1), .val (.int i2), .val (.int i3), .val (.int (3 : Int32)), .val (.int c0), .val (.int c1), .val (.int c2), .val (.int c3), .val (.ref b125), .val (.int ((3 : Int32) - (1 : Int32))), .val (.int bd), .val (.ref xw), .unset] [(.ref b125), (.int bd), (.ref xw)]))
        have hcp : own_cp ([c0, c1, c2] : List Int32) = 2 := by rw [own_cp, own_p3, hp0, hp1]; rfl
        have hmx : ¬ bd < Int32.ofNat (own_cp ([c0, c1, c2] : List Int32)) := by rw [hcp]; have h := R_170; rwa [show ((3 : Int32) - (1 : Int32)) = Int32.ofNat 2 by decide] at h
        have Zn178 : n0 ≤ T171.heap.size := by omega
        have F179 : Exa Z T171.heap b125 "java/lang/String" := ((F143.keep Kq142).keep Kq171)
        have F180 : Fld Z T171.heap b125 "java/lang/String" "value" "[B" (.ref tt) := (G2_142.keep Kq171 nin0)
        have F181 : Fld Z T171.heap b125 "java/lang/String" "coder" "B" (.int cd) := (G3_142.keep Kq171 nin0)
        have F182 : Arv Z T171.heap tt kk .byte NN vv (.int 0) := (G4_142.keep Kq171 nin0)
        have F183 : Old Z n0 T171.heap := (F172.keep Kq171 all0)
        obtain ⟨rv178, _, ⟨T178, L178, k178, n178⟩, -, X178, ⟨Lc178, hQ178, l178, y178, z178⟩, st178⟩ := Jvm.LawKit.callS X171 hx (y := (⟨"com/example/cellwise/cellwise/Checks", "atMost", "(Ljava/lang/String;ILjava/lang/String;)Ljava/lang/String;"⟩ : MethodName)) hown (mvT hZ (hw _ (own_mi 58 rfl))) (mvT hZ (hw _ (own_mi 59 rfl))) (mvT hZ (hw _ (own_mi 60 rfl))) (mvT hZ (hw _ (own_mi 61 rfl))) (by decide) (backOf (W := 0) (rmAM l Z a0 hw [] (xw) (bd) (b125) (tt) (kk) (NN) (vv) (cd) (([c0, c1, c2] : List Int32)) (G1) T171.heap n0 Zn178 F179 F180 F181 F182 (RL) (by simp) (hr) (hmx) (OAD) (OHI) (OLO) (O2) (P5) F183) hZ (hw _ (own_mi 61 rfl)) (hw _ (own_mi 60 rfl)) (by decide) (by decide)) (g := (mkF m 294 #[.val (.long l0), .second, .val (.int i1), .val (.int i2), .val (.int i3), .val (.int (3 : Int32)), .val (.int c0), .val (.int c1), .val (.int c2), .val (.int c3), .val (.ref b125), .val (.int ((3 : Int32) - (1 : Int32))), .val (.int bd), .val (.ref xw), .unset] [(.ref b125), (.int bd), (.ref xw)])) rfl (by rw [hml]; rfl) (argsL := [(.ref xw), (.int bd), (.ref b125)]) (rest := []) (lenOf own_pd_28Ljava2flang2fString3bILjava2flang2fString3b29Ljava2flang2fString3b rfl) rfl (by show 2 * 0 + _ ≤ _; exact Nat.le_of_eq rfl) (hb hby at_294) (fun _ _ => ⟨rfl, rfl, (by decide : 6 + 0 ≤ _), (by decide : 24 + 0 ≤ _)⟩)
        dsimp only [Pt.U, Pt.locs, Pt.cells, Pt.slots] at X178 l178 y178 z178 st178 hQ178
        subst l178 y178 z178
        obtain ⟨rfl, Nq178, eh178⟩ := hQ178
        have N178 := Fr.app N171 Nq178
        refine own_go st178 ?_
        show own_Rn p e below _ (T178.setTop (mkF m 297 #[.val (.long l0), .second, .val (.int i1), .val (.int i2), .val (.int i3), .val (.int (3 : Int32)), .val (.int c0), .val (.int c1), .val (.int c2), .val (.int c3), .val (.ref b125), .val (.int ((3 : Int32) - (1 : Int32))), .val (.int bd), .val (.ref xw), .unset] [(.ref b125)]))
        refine own_go (fun tq kq => XS.astore X178.here hx rfl (hb hby at_297) rfl rfl (l' := #[.val (.long l0), .second, .val (.int i1), .val (.int i2), .val (.int i3), .val (.int (3 : Int32)), .val (.int c0), .val (.int c1), .val (.int c2), .val (.int c3), .val (.ref b125), .val (.int ((3 : Int32) - (1 : Int32))), .val (.int bd), .val (.ref xw), .val (.ref b125)]) rfl kq) ?_
        show own_Rn p e below _ (T178.setTop (mkF m 299 #[.val (.long l0), .second, .val (.int i1), .val (.int i2), .val (.int i3), .val (.int (3 : Int32)), .val (.int c0), .val (.int c1), .val (.int c2), .val (.int c3), .val (.ref b125), .val (.int ((3 : Int32) - (1 : Int32))), .val (.int bd), .val (.ref xw), .val (.ref b125)] []))
        refine own_go (fun tq kq => XS.aload X178.here hx rfl (hb hby at_299) rfl rfl kq) ?_
        show own_Rn p e below _ (T178.setTop (mkF m 301 #[.val (.long l0), .second, .val (.int i1), .val (.int i2), .val (.int i3), .val (.int (3 : Int32)), .val (.int c0), .val (.int c1), .val (.int c2), .val (.int c3), .val (.ref b125), .val (.int ((3 : Int32) - (1 : Int32))), .val (.int bd), .val (.ref xw), .val (.ref b125)] [(.ref b125)]))
        refine own_go (fun tq kq => XS.ifnullNo X178.here hx rfl (hb hby at_301) rfl kq) ?_
        show own_Rn p e below _ (T178.setTop (mkF m 304 #[.val (.long l0), .second, .val (.int i1), .val (.int i2), .val (.int i3), .val (.int (3 : Int32)), .val (.int c0), .val (.int c1), .val (.int c2), .val (.int c3), .val (.ref b125), .val (.int ((3 : Int32) - (1 : Int32))), .val (.int bd), .val (.ref xw), .val (.ref b125)] []))
        refine own_go (fun tq kq => XS.aload X178.here hx rfl (hb hby at_304) rfl rfl kq) ?_
        show own_Rn p e below _ (T178.setTop (mkF m 306 #[.val (.long l0), .second, .val (.int i1), .val (.int i2), .val (.int i3), .val (.int (3 : Int32)), .val (.int c0), .val (.int c1), .val (.int c2), .val (.int c3), .val (.ref b125), .val (.int ((3 : Int32) - (1 : Int32))), .val (.int bd), .val (.ref xw), .val (.ref b125)] [(.ref b125)]))
        refine own_go (fun tq kq => XS.aload X178.here hx rfl (hb hby at_306) rfl rfl kq) ?_
        show own_Rn p e below _ (T178.setTop (mkF m 308 #[.val (.long l0), .second, .val (.int i1), .val (.int i2), .val (.int i3), .val (.int (3 : Int32)), .val (.int c0), .val (.int c1), .val (.int c2), .val (.int c3), .val (.ref b125), .val (.int ((3 : Int32) - (1 : Int32))), .val (.int bd), .val (.ref xw), .val (.ref b125)] [(.ref b125), (.ref b125)]))
        have Zn184 : n0 ≤ T171.heap.size := by omega
        obtain ⟨cq184, kq184, qa184, qb184, qc184⟩ := isOf hZ eh178 F179
        obtain ⟨rv184, _, ⟨T184, L184, k184, n184⟩, -, X184, ⟨Lc184, hQ184, l184, y184, z184⟩, st184⟩ := X178.virtualBack hx (y := (⟨"java/lang/String", "equals", "(Ljava/lang/Object;)Z"⟩ : MethodName)) (z := (⟨"java/lang/String", "equals", "(Ljava/lang/Object;)Z"⟩ : MethodName)) hown (mvT hZ (hw _ (own_mi 91 rfl))) (mvT hZ (hw _ (own_mi 92 rfl))) (notFace_of_selects (args := #[]) (mvT hZ (hw _ (own_mi 94 rfl)))) (mvT hZ (hw _ (own_mi 94 rfl))) (mvT hZ (hw _ (own_mi 93 rfl))) (by decide) (backOf (W := 0) (rmEqS l Z a0 hw [] (b125) T171.heap n0 Zn184 ) hZ (hw _ (own_mi 95 rfl)) (hw _ (own_mi 4 rfl)) (by decide) (by decide)) qa184 qc184 (g := (mkF m 308 #[.val (.long l0), .second, .val (.int i1), .val (.int i2), .val (.int i3), .val (.int (3 : Int32)), .val (.int c0), .val (.int c1), .val (.int c2), .val (.int c3), .val (.ref b125), .val (.int ((3 : Int32) - (1 : Int32))), .val (.int bd), .val (.ref xw), .val (.ref b125)] [(.ref b125), (.ref b125)])) rfl (by rw [hml]; rfl) (Steps.refl _) (argsL := [(.ref b125)]) (rest := []) (lenOf own_pd_28Ljava2flang2fObject3b29Z rfl) rfl (by show 2 * 0 + _ ≤ _; exact Nat.le_of_eq rfl) (hb hby at_308) (fun _ _ => ⟨rfl, eh178, (by decide : 6 + 0 ≤ _), (by decide : 24 + 0 ≤ _)⟩)
        dsimp only [Pt.U, Pt.locs, Pt.cells, Pt.slots] at X184 l184 y184 z184 st184 hQ184
        subst l184 y184 z184
        obtain ⟨rfl, Nq184, eh184⟩ := hQ184
        have N184 := Fr.app N178 Nq184
        refine own_go (fun tq kq => st184.trans kq) ?_
        show own_Rn p e below _ (T184.setTop (mkF m 311 #[.val (.long l0), .second, .val (.int i1), .val (.int i2), .val (.int i3), .val (.int (3 : Int32)), .val (.int c0), .val (.int c1), .val (.int c2), .val (.int c3), .val (.ref b125), .val (.int ((3 : Int32) - (1 : Int32))), .val (.int bd), .val (.ref xw), .val (.ref b125)] [(.int (1 : Int32))]))
        refine own_go (fun tq kq => XS.ifNo X184.here hx rfl (hb hby at_311) rfl ((if0 _ _).trans (feq ((by decide : ¬ ((1 : Int32) = (0 : Int32))) : ¬ ((1 : Int32) = (0 : Int32)))).1) kq) ?_
        show own_Rn p e below _ (T184.setTop (mkF m 314 #[.val (.long l0), .second, .val (.int i1), .val (.int i2), .val (.int i3), .val (.int (3 : Int32)), .val (.int c0), .val (.int c1), .val (.int c2), .val (.int c3), .val (.ref b125), .val (.int ((3 : Int32) - (1 : Int32))), .val (.int bd), .val (.ref xw), .val (.ref b125)] []))
        refine own_go (fun tq kq => XS.iconst X184.here hx rfl (hb hby at_314) kq) ?_
        show own_Rn p e below _ (T184.setTop (mkF m 315 #[.val (.long l0), .second, .val (.int i1), .val (.int i2), .val (.int i3), .val (.int (3 : Int32)), .val (.int c0), .val (.int c1), .val (.int c2), .val (.int c3), .val (.ref b125), .val (.int ((3 : Int32) - (1 : Int32))), .val (.int bd), .val (.ref xw), .val (.ref b125)] [(.int (1 : Int32))]))
        refine own_go (fun tq kq => XS.goto X184.here hx rfl (pc0 := 315) (pc' := 319) rfl (hb hby at_315) (by decide) (by decide) kq) ?_
        show own_Rn p e below _ (T184.setTop (mkF m 319 #[.val (.long l0), .second, .val (.int i1), .val (.int i2), .val (.int i3), .val (.int (3 : Int32)), .val (.int c0), .val (.int c1), .val (.int c2), .val (.int c3), .val (.ref b125), .val (.int ((3 : Int32) - (1 : Int32))), .val (.int bd), .val (.ref xw), .val (.ref b125)] [(.int (1 : Int32))]))
        exact own_retS X184 hS0 (by rw [eh184]; omega) (v := some (.int (nar .boolean (1 : Int32)))) (fun h => by rw [Bd.returns] at h; cases h) (fun fs hr => retN X184 hx (t := .boolean) Bd.returns (by simp) (hb hby at_319) hr) (by rw [eh184]; exact ⟨rfl, N184⟩) (by rw [hh, eh184]; exact CR173.trans (CHv.at X184 hZ hEL CR173.1)) (by decide) (by decide)
    · skip
      rw [if_neg hA0]
      show own_Rn p e below _ (T153.setTop (mkF m 215 #[.val (.long l0), .second, .val (.int i1), .val (.int i2), .val (.int i3), .val (.int (3 : Int32)), .val (.int c0), .val (.int c1), .val (.int c2), .val (.int c3), .val (.ref b125), .val (.int (3 : Int32)), .unset, .unset, .unset] [(.int (0 : Int32))]))
      have hp0 : own_pr c0 c1 = 0 := if_neg hA0
      refine own_go (fun tq kq => XS.ifYes X153.here hx rfl (pc0 := 215) (pc' := 224) rfl (hb hby at_215) rfl ((if0 _ _).trans (teq ((by decide : (0 : Int32) = (0 : Int32)) : (0 : Int32) = (0 : Int32))).1) (by decide) (by decide) kq) ?_
      show own_Rn p e below _ (T153.setTop (mkF m 224 #[.val (.long l0), .second, .val (.int i1), .val (.int i2), .val (.int i3), .val (.int (3 : Int32)), .val (.int c0), .val (.int c1), .val (.int c2), .val (.int c3), .val (.ref b125), .val (.int (3 : Int32)), .unset, .unset, .unset] []))
      refine own_go (fun tq kq => XS.iload X153.here hx rfl (hb hby at_224) rfl kq) ?_
      show own_Rn p e below _ (T153.setTop (mkF m 226 #[.val (.long l0), .second, .val (.int i1), .val (.int i2), .val (.int i3), .val (.int (3 : Int32)), .val (.int c0), .val (.int c1), .val (.int c2), .val (.int c3), .val (.ref b125), .val (.int (3 : Int32)), .unset, .unset, .unset] [(.int (3 : Int32))]))
      refine own_go (fun tq kq => XS.iconst X153.here hx rfl (hb hby at_226) kq) ?_
      show own_Rn p e below _ (T153.setTop (mkF m 227 #[.val (.long l0), .second, .val (.int i1), .val (.int i2), .val (.int i3), .val (.int (3 : Int32)), .val (.int c0), .val (.int c1), .val (.int c2), .val (.int c3), .val (.ref b125), .val (.int (3 : Int32)), .unset, .unset, .unset] [(.int (3 : Int32)), (.int (3 : Int32))]))
      refine own_go (fun tq kq => XS.icmpNo X153.here hx rfl (hb hby at_227) rfl (flt (by decide : ¬ ((3 : Int32) < (3 : Int32)))).1 kq) ?_
      show own_Rn p e below _ (T153.setTop (mkF m 230 #[.val (.long l0), .second, .val (.int i1), .val (.int i2), .val (.int i3), .val (.int (3 : Int32)), .val (.int c0), .val (.int c1), .val (.int c2), .val (.int c3), .val (.ref b125), .val (.int (3 : Int32)), .unset, .unset, .unset] []))
      refine own_go (fun tq kq => XS.iload X153.here hx rfl (hb hby at_230) rfl kq) ?_
      show own_Rn p e below _ (T153.setTop (mkF m 232 #[.val (.long l0), .second, .val (.int i1), .val (.int i2), .val (.int i3), .val (.int (3 : Int32)), .val (.int c0), .val (.int c1), .val (.int c2), .val (.int c3), .val (.ref b125), .val (.int (3 : Int32)), .unset, .unset, .unset] [(.int c1)]))
      refine own_go (fun tq kq => XS.iload X153.here hx rfl (hb hby at_232) rfl kq) ?_
      show own_Rn p e below _ (T153.setTop (mkF m 234 #[.val (.long l0), .second, .val (.int i1), .val (.int i2), .val (.int i3), .val (.int (3 : Int32)), .val (.int c0), .val (.int c1), .val (.int c2), .val (.int c3), .val (.ref b125), .val (.int (3 : Int32)), .unset, .unset, .unset] [(.int c2), (.int c1)]))
      have Zn185 : n0 ≤ T142.heap.size := by omega
      obtain ⟨rv185, _, ⟨T185, L185, k185, n185⟩, -, X185, ⟨Lc185, hQ185, l185, y185, z185⟩, st185⟩ := Jvm.LawKit.callS X153 hx (y := (⟨"com/example/cellwise/cellwise/ChecksAtMostPinLaw", "pair", "(CC)Z"⟩ : MethodName)) hown (mvT hZ (hw _ (own_mi 32 rfl))) (mvT hZ (hw _ (own_mi 33 rfl))) (mvT hZ (hw _ (own_mi 34 rfl))) (mvT hZ (hw _ (own_mi 35 rfl))) (by decide) (backOf (W := 0) (rmPair l Z a0 hw [] (c1) (c2) T142.heap n0 Zn185 ) hZ (hw _ (own_mi 35 rfl)) (hw _ (own_mi 34 rfl)) (by decide) (by decide)) (g := (mkF m 234 #[.val (.long l0), .second, .val (.int i1), .val (.int i2), .val (.int i3), .val (.int (3 : Int32)), .val (.int c0), .val (.int c1), .val (.int c2), .val (.int c3), .val (.ref b125), .val (.int (3 : Int32)), .unset, .unset, .unset] [(.int c2), (.int c1)])) rfl (by rw [hml]; rfl) (argsL := [(.int c1), (.int c2)]) (rest := []) (lenOf own_pd_28CC29Z rfl) rfl (by show 2 * 0 + _ ≤ _; exact Nat.le_of_eq rfl) (hb hby at_234) (fun _ _ => ⟨rfl, eh153, (by decide : 4 + 0 ≤ _), (by decide : 19 + 0 ≤ _)⟩)
      dsimp only [Pt.U, Pt.locs, Pt.cells, Pt.slots] at X185 l185 y185 z185 st185 hQ185
      subst l185 y185 z185
      obtain ⟨rfl, Nq185, eh185⟩ := hQ185
      have N185 := Fr.app N153 Nq185
      refine own_go st185 ?_
      show own_Rn p e below _ (T185.setTop (mkF m 237 #[.val (.long l0), .second, .val (.int i1), .val (.int i2), .val (.int i3), .val (.int (3 : Int32)), .val (.int c0), .val (.int c1), .val (.int c2), .val (.int c3), .val (.ref b125), .val (.int (3 : Int32)), .unset, .unset, .unset] [(.int (if own_isHi c1 ∧ own_isLo c2 then (1 : Int32) else 0))]))
      by_cases hA1 : own_isHi c1 ∧ own_isLo c2
      · skip
        rw [if_pos hA1]
        show own_Rn p e below _ (T185.setTop (mkF m 237 #[.val (.long l0), .second, .val (.int i1), .val (.int i2), .val (.int i3), .val (.int (3 : Int32)), .val (.int c0), .val (.int c1), .val (.int c2), .val (.int c3), .val (.ref b125), .val (.int (3 : Int32)), .unset, .unset, .unset] [(.int (1 : Int32))]))
        have hp1 : own_pr c1 c2 = 1 := if_pos hA1
        refine own_go (fun tq kq => XS.ifNo X185.here hx rfl (hb hby at_237) rfl ((if0 _ _).trans (feq ((by decide : ¬ ((1 : Int32) = (0 : Int32))) : ¬ ((1 : Int32) = (0 : Int32)))).1) kq) ?_
        show own_Rn p e below _ (T185.setTop (mkF m 240 #[.val (.long l0), .second, .val (.int i1), .val (.int i2), .val (.int i3), .val (.int (3 : Int32)), .val (.int c0), .val (.int c1), .val (.int c2), .val (.int c3), .val (.ref b125), .val (.int (3 : Int32)), .unset, .unset, .unset] []))
        refine own_go (fun tq kq => XS.iload X185.here hx rfl (hb hby at_240) rfl kq) ?_
        show own_Rn p e below _ (T185.setTop (mkF m 242 #[.val (.long l0), .second, .val (.int i1), .val (.int i2), .val (.int i3), .val (.int (3 : Int32)), .val (.int c0), .val (.int c1), .val (.int c2), .val (.int c3), .val (.ref b125), .val (.int (3 : Int32)), .unset, .unset, .unset] [(.int (3 : Int32))]))
        refine own_go (fun tq kq => XS.iconst X185.here hx rfl (hb hby at_242) kq) ?_
        show own_Rn p e below _ (T185.setTop (mkF m 243 #[.val (.long l0), .second, .val (.int i1), .val (.int i2), .val (.int i3), .val (.int (3 : Int32)), .val (.int c0), .val (.int c1), .val (.int c2), .val (.int c3), .val (.ref b125), .val (.int (3 : Int32)), .unset, .unset, .unset] [(.int (1 : Int32)), (.int (3 : Int32))]))
        refine own_go (fun tq kq => XS.isub X185.here hx rfl (hb hby at_243) rfl kq) ?_
        show own_Rn p e below _ (T185.setTop (mkF m 244 #[.val (.long l0), .second, .val (.int i1), .val (.int i2), .val (.int i3), .val (.int (3 : Int32)), .val (.int c0), .val (.int c1), .val (.int c2), .val (.int c3), .val (.ref b125), .val (.int (3 : Int32)), .unset, .unset, .unset] [(.int ((3 : Int32) - (1 : Int32)))]))
        refine own_go (fun tq kq => XS.istore X185.here hx rfl (hb hby at_244) rfl (l' := #[.val (.long l0), .second, .val (.int i1), .val (.int i2), .val (.int i3), .val (.int (3 : Int32)), .val (.int c0), .val (.int c1), .val (.int c2), .val (.int c3), .val (.ref b125), .val (.int ((3 : Int32) - (1 : Int32))), .unset, .unset, .unset]) rfl kq) ?_
        show own_Rn p e below _ (T185.setTop (mkF m 246 #[.val (.long l0), .second, .val (.int i1), .val (.int i2), .val (.int i3), .val (.int (3 : Int32)), .val (.int c0), .val (.int c1), .val (.int c2), .val (.int c3), .val (.ref b125), .val (.int ((3 : Int32) - (1 : Int32))), .unset, .unset, .unset] []))
        refine own_go (fun tq kq => XS.iload X185.here hx rfl (hb hby at_246) rfl kq) ?_
        show own_Rn p e below _ (T185.setTop (mkF m 248 #[.val (.long l0), .second, .val (.int i1), .val (.int i2), .val (.int i3), .val (.int (3 : Int32)), .val (.int c0), .val (.int c1), .val (.int c2), .val (.int c3), .val (.ref b125), .val (.int ((3 : Int32) - (1 : Int32))), .unset, .unset, .unset] [(.int (3 : Int32))]))
        refine own_go (fun tq kq => XS.iconst X185.here hx rfl (hb hby at_248) kq) ?_
        show own_Rn p e below _ (T185.setTop (mkF m 249 #[.val (.long l0), .second, .val (.int i1), .val (.int i2), .val (.int i3), .val (.int (3 : Int32)), .val (.int c0), .val (.int c1), .val (.int c2), .val (.int c3), .val (.ref b125), .val (.int ((3 : Int32) - (1 : Int32))), .unset, .unset, .unset] [(.int (4 : Int32)), (.int (3 : Int32))]))
        refine own_go (fun tq kq => XS.icmpYes X185.here hx rfl (pc0 := 249) (pc' := 268) rfl (hb hby at_249) rfl (tlt (by decide : (3 : Int32) < (4 : Int32))).1 (by decide) (by decide) kq) ?_
        show own_Rn p e below _ (T185.setTop (mkF m 268 #[.val (.long l0), .second, .val (.int i1), .val (.int i2), .val (.int i3), .val (.int (3 : Int32)), .val (.int c0), .val (.int c1), .val (.int c2), .val (.int c3), .val (.ref b125), .val (.int ((3 : Int32) - (1 : Int32))), .unset, .unset, .unset] []))
        refine own_go (fun tq kq => XS.iloadN X185.here hx rfl (hb hby at_268) rfl kq) ?_
        show own_Rn p e below _ (T185.setTop (mkF m 269 #[.val (.long l0), .second, .val (.int i1), .val (.int i2), .val (.int i3), .val (.int (3 : Int32)), .val (.int c0), .val (.int c1), .val (.int c2), .val (.int c3), .val (.ref b125), .val (.int ((3 : Int32) - (1 : Int32))), .unset, .unset, .unset] [(.int i2)]))
        refine own_go (fun tq kq => XS.iload X185.here hx rfl (hb hby at_269) rfl kq) ?_
        show own_Rn p e below _ (T185.setTop (mkF m 271 #[.val (.long l0), .second, .val (.int i1), .val (.int i2), .val (.int i3), .val (.int (3 : Int32)), .val (.int c0), .val (.int c1), .val (.int c2), .val (.int c3), .val (.ref b125), .val (.int ((3 : Int32) - (1 : Int32))), .unset, .unset, .unset] [(.int ((3 : Int32) - (1 : Int32))), (.int i2)]))
        have Zn186 : n0 ≤ T142.heap.size := by omega
        obtain ⟨rv186, _, ⟨T186, L186, k186, n186⟩, -, X186, ⟨Lc186, hQ186, l186, y186, z186⟩, st186⟩ := Jvm.LawKit.callS X185 hx (y := (⟨"java/lang/Math", "max", "(II)I"⟩ : MethodName)) hown (mvT hZ (hw _ (own_mi 40 rfl))) (mvT hZ (hw _ (own_mi 41 rfl))) (mvT hZ (hw _ (own_mi 42 rfl))) (mvT hZ (hw _ (own_mi 43 rfl))) (by decide) (backOf (W := 0) (rmMax l Z a0 hw [] (i2) (((3 : Int32) - (1 : Int32))) T142.heap n0 Zn186 ) hZ (hw _ (own_mi 43 rfl)) (hw _ (own_mi 42 rfl)) (by decide) (by decide)) (g := (mkF m 271 #[.val (.long l0), .second, .val (.int i1), .val (.int i2), .val (.int i3), .val (.int (3 : Int32)), .val (.int c0), .val (.int c1), .val (.int c2), .val (.int c3), .val (.ref b125), .val (.int ((3 : Int32) - (1 : Int32))), .unset, .unset, .unset] [(.int ((3 : Int32) - (1 : Int32))), (.int i2)])) rfl (by rw [hml]; rfl) (argsL := [(.int i2), (.int ((3 : Int32) - (1 : Int32)))]) (rest := []) (lenOf own_pd_28II29I rfl) rfl (by show 2 * 0 + _ ≤ _; exact Nat.le_of_eq rfl) (hb hby at_271) (fun _ _ => ⟨rfl, eh185, (by decide : 4 + 0 ≤ _), (by decide : 19 + 0 ≤ _)⟩)
        dsimp only [Pt.U, Pt.locs, Pt.cells, Pt.slots] at X186 l186 y186 z186 st186 hQ186
        subst l186 y186 z186
        obtain ⟨bd, rfl, Nq186, eh186, R_186⟩ := hQ186
        have N186 := Fr.app N185 Nq186
        refine own_go st186 ?_
        show own_Rn p e below _ (T186.setTop (mkF m 274 #[.val (.long l0), .second, .val (.int i1), .val (.int i2), .val (.int i3), .val (.int (3 : Int32)), .val (.int c0), .val (.int c1), .val (.int c2), .val (.int c3), .val (.ref b125), .val (.int ((3 : Int32) - (1 : Int32))), .unset, .unset, .unset] [(.int bd)]))
        refine own_go (fun tq kq => XS.istore X186.here hx rfl (hb hby at_274) rfl (l' := #[.val (.long l0), .second, .val (.int i1), .val (.int i2), .val (.int i3), .val (.int (3 : Int32)), .val (.int c0), .val (.int c1), .val (.int c2), .val (.int c3), .val (.ref b125), .val (.int ((3 : Int32) - (1 : Int32))), .val (.int bd), .unset, .unset]) rfl kq) ?_
        show own_Rn p e below _ (T186.setTop (mkF m 276 #[.val (.long l0), .second, .val (.int i1), .val (.int i2), .val (.int i3), .val (.int (3 : Int32)), .val (.int c0), .val (.int c1), .val (.int c2), .val (.int c3), .val (.ref b125), .val (.int ((3 : Int32) - (1 : Int32))), .val (.int bd), .unset, .unset] []))
        refine own_go (fun tq kq => XS.iload X186.here hx rfl (hb hby at_276) rfl kq) ?_
        show own_Rn p e below _ (T186.setTop (mkF m 278 #[.val (.long l0), .second, .val (.int i1), .val (.int i2), .val (.int i3), .val (.int (3 : Int32)), .val (.int c0), .val (.int c1), .val (.int c2), .val (.int c3), .val (.ref b125), .val (.int ((3 : Int32) - (1 : Int32))), .val (.int bd), .unset, .unset] [(.int i3)]))
        refine own_go (fun tq kq => XS.sipush X186.here hx rfl (hb hby at_278) kq) ?_
        show own_Rn p e below _ (T186.setTop (mkF m 281 #[.val (.long l0), .second, .val (.int i1), .val (.int i2), .val (.int i3), .val (.int (3 : Int32)), .val (.int c0), .val (.int c1), .val (.int c2), .val (.int c3), .val (.ref b125), .val (.int ((3 : Int32) - (1 : Int32))), .val (.int bd), .unset, .unset] [(.int (255 : Int32)), (.int i3)]))
        refine own_go (fun tq kq => XS.iand X186.here hx rfl (hb hby at_281) rfl kq) ?_
        show own_Rn p e below _ (T186.setTop (mkF m 282 #[.val (.long l0), .second, .val (.int i1), .val (.int i2), .val (.int i3), .val (.int (3 : Int32)), .val (.int c0), .val (.int c1), .val (.int c2), .val (.int c3), .val (.ref b125), .val (.int ((3 : Int32) - (1 : Int32))), .val (.int bd), .unset, .unset] [(.int (i3 &&& (255 : Int32)))]))
        refine own_go (fun tq kq => XS.i2c X186.here hx rfl (hb hby at_282) rfl kq) ?_
        show own_Rn p e below _ (T186.setTop (mkF m 283 #[.val (.long l0), .second, .val (.int i1), .val (.int i2), .val (.int i3), .val (.int (3 : Int32)), .val (.int c0), .val (.int c1), .val (.int c2), .val (.int c3), .val (.ref b125), .val (.int ((3 : Int32) - (1 : Int32))), .val (.int bd), .unset, .unset] [(.int ((i3 &&& (255 : Int32)).toUInt32.toUInt16.toUInt32.toInt32))]))
        obtain ⟨wc, hwc⟩ : ∃ z : Int32, z = ((i3 &&& (255 : Int32)).toUInt32.toUInt16.toUInt32.toInt32) := ⟨_, rfl⟩
        rw [← hwc]
        show own_Rn p e below _ (T186.setTop (mkF m 283 #[.val (.long l0), .second, .val (.int i1), .val (.int i2), .val (.int i3), .val (.int (3 : Int32)), .val (.int c0), .val (.int c1), .val (.int c2), .val (.int c3), .val (.ref b125), .val (.int ((3 : Int32) - (1 : Int32))), .val (.int bd), .unset, .unset] [(.int wc)]))
        have rwc : ¬ wc < 0 ∧ ¬ (255 : Int32) < wc := by rw [hwc]; exact own_chr_rng _
        have Zn187 : n0 ≤ T142.heap.size := by omega
        have F188 : Old Z n0 T142.heap := (F147.keep Kq142 (allS gn125 all0))
        obtain ⟨rv187, _, ⟨T187, L187, k187, n187⟩, -, X187, ⟨Lc187, hQ187, l187, y187, z187⟩, st187⟩ := Jvm.LawKit.callS X186 hx (y := (⟨"java/lang/String", "valueOf", "(C)Ljava/lang/String;"⟩ : MethodName)) hown (mvT hZ (hw _ (own_mi 44 rfl))) (mvT hZ (hw _ (own_mi 45 rfl))) (mvT hZ (hw _ (own_mi 4 rfl))) (mvT hZ (hw _ (own_mi 46 rfl))) (by decide) (backOf (W := 0) (rmVal l Z a0 hw [] (wc) (G1) T142.heap n0 Zn187 (rwc) (O2) (P5) F188) hZ (hw _ (own_mi 46 rfl)) (hw _ (own_mi 4 rfl)) (by decide) (by decide)) (g := (mkF m 283 #[.val (.long l0), .second, .val (.int i1), .val (.int i2), .val (.int i3), .val (.int (3 : Int32)), .val (.int c0), .val (.int c1), .val (.int c2), .val (.int c3), .val (.ref b125), .val (.int ((3 : Int32) - (1 : Int32))), .val (.int bd), .unset, .unset] [(.int wc)])) rfl (by rw [hml]; rfl) (argsL := [(.int wc)]) (rest := []) (lenOf own_pd_28C29Ljava2flang2fString3b rfl) rfl (by show 2 * 0 + _ ≤ _; exact Nat.le_of_eq rfl) (hb hby at_283) (fun _ _ => ⟨rfl, eh186, (by decide : 4 + 2 ≤ _), (by decide : 19 + 5 ≤ _)⟩)
        dsimp only [Pt.U, Pt.locs, Pt.cells, Pt.slots] at X187 l187 y187 z187 st187 hQ187
        subst l187 y187 z187
        obtain ⟨xw, tw, kw, rfl, Nq187, Kq187, G0_187, G1_187, G2_187, G3_187, G4_187, G5_187, G6_187, G7_187⟩ := hQ187
        have N187 := Fr.app N186 Nq187
        have sz189 : T142.heap.size ≤ T187.heap.size := Kq187.1
        have cr189 : CHr Z consts_1 s.vm T142.heap s.vm T187.heap := CHr.keep Kq187 sf0 CR150.1
        have CR189 := CR150.trans cr189
        have sf190 : Safe Z consts_1 s.vm T187.heap xw := Safe.keep Kq187 sf0 CR150.1 (Safe.new (by omega))
        have sf191 : Safe Z consts_1 s.vm T187.heap tw := Safe.keep Kq187 sf0 CR150.1 (Safe.new (by omega))
        have lt192 : @LT.lt Nat _ xw T187.heap.size := G4_187.lt
        have lt193 : @LT.lt Nat _ tw T187.heap.size := G7_187.lt
        refine own_go st187 ?_
        show own_Rn p e below _ (T187.setTop (mkF m 286 #[.val (.long l0), .second, .val (.int i1), .val (.int i2), .val (.int i3), .val (.int (3 : Int32)), .val (.int c0), .val (.int c1), .val (.int c2), .val (.int c3), .val (.ref b125), .val (.int ((3 : Int32) - (1 : Int32))), .val (.int bd), .unset, .unset] [(.ref xw)]))
        refine own_go (fun tq kq => XS.astore X187.here hx rfl (hb hby at_286) rfl rfl (l' := #[.val (.long l0), .second, .val (.int i1), .val (.int i2), .val (.int i3), .val (.int (3 : Int32)), .val (.int c0), .val (.int c1), .val (.int c2), .val (.int c3), .val (.ref b125), .val (.int ((3 : Int32) - (1 : Int32))), .val (.int bd), .val (.ref xw), .unset]) rfl kq) ?_
        show own_Rn p e below _ (T187.setTop (mkF m 288 #[.val (.long l0), .second, .val (.int i1), .val (.int i2), .val (.int i3), .val (.int (3 : Int32)), .val (.int c0), .val (.int c1), .val (.int c2), .val (.int c3), .val (.ref b125), .val (.int ((3 : Int32) - (1 : Int32))), .val (.int bd), .val (.ref xw), .unset] []))
        refine own_go (fun tq kq => XS.aload X187.here hx rfl (hb hby at_288) rfl rfl kq) ?_
        show own_Rn p e below _ (T187.setTop (mkF m 290 #[.val (.long l0), .second, .val (.int i1), .val (.int i2), .val (.int i3), .val (.int (3 : Int32)), .val (.int c0), .val (.int c1), .val (.int c2), .val (.int c3), .val (.ref b125), .val (.int ((3 : Int32) - (1 : Int32))), .val (.int bd), .val (.ref xw), .unset] [(.ref xw)]))
        refine own_go (fun tq kq => XS.iload X187.here hx rfl (hb hby at_290) rfl kq) ?_
        show own_Rn p e below _ (T187.setTop (mkF m 292 #[.val (.long l0), .second, .val (.int i1), .val (.int i2), .val (.int i3), .val (.int (3 : Int32)), .val (.int c0), .val (.int c1), .val (.int c2), .val (.int c3), .val (.ref b125), .val (.int ((3 : Int32) - (1 : Int32))), .val (.int bd), .val (.ref xw), .unset] [(.int bd), (.ref xw)]))
        refine own_go (fun tq kq => XS.aload X187.here hx rfl (hb hby at_292) rfl rfl kq) ?_
        show own_Rn p e below _ (T187.setTop (mkF m 294 #[.val (.long l0), .second, .val (.int i1), .val (.int i2), .val (.int i3), .val (.int (3 : Int32)), .val (.int c0), .val (.int c1), .val (.int c2), .val (.int c3), .val (.ref b125), .val (.int ((3 : Int32) - (1 : Int32))), .val (.int bd), .val (.ref xw), .unset] [(.ref b125), (.int bd), (.ref xw)]))
        have hcp : own_cp ([c0, c1, c2] : List Int32) = 2 := by rw [own_cp, own_p3, hp0, hp1]; rfl
        have hmx : ¬ bd < Int32.ofNat (own_cp ([c0, c1, c2] : List Int32)) := by rw [hcp]; have h := R_186; rwa [show ((3 : Int32) - (1 : Int32)) = Int32.ofNat 2 by decide] at h
        have Zn194 : n0 ≤ T187.heap.size := by omega
        have F195 : Exa Z T187.heap b125 "java/lang/String" := ((F143.keep Kq142).keep Kq187)
        have F196 : Fld Z T187.heap b125 "java/lang/String" "value" "[B" (.ref tt) := (G2_142.keep Kq187 nin0)
        have F197 : Fld Z T187.heap b125 "java/lang/String" "coder" "B" (.int cd) := (G3_142.keep Kq187 nin0)
        have F198 : Arv Z T187.heap tt kk .byte NN vv (.int 0) := (G4_142.keep Kq187 nin0)
        have F199 : Old Z n0 T187.heap := (F188.keep Kq187 all0)
        obtain ⟨rv194, _, ⟨T194, L194, k194, n194⟩, -, X194, ⟨Lc194, hQ194, l194, y194, z194⟩, st194⟩ := Jvm.LawKit.callS X187 hx (y := (⟨"com/example/cellwise/cellwise/Checks", "atMost", "(Ljava/lang/String;ILjava/lang/String;)Ljava/lang/String;"⟩ : MethodName)) hown (mvT hZ (hw _ (own_mi 58 rfl))) (mvT hZ (hw _ (own_mi 59 rfl))) (mvT hZ (hw _ (own_mi 60 rfl))) (mvT hZ (hw _ (own_mi 61 rfl))) (by decide) (backOf (W := 0) (rmAM l Z a0 hw [] (xw) (bd) (b125) (tt) (kk) (NN) (vv) (cd) (([c0, c1, c2] : List Int32)) (G1) T187.heap n0 Zn194 F195 F196 F197 F198 (RL) (by simp) (hr) (hmx) (OAD) (OHI) (OLO) (O2) (P5) F199) hZ (hw _ (own_mi 61 rfl)) (hw _ (own_mi 60 rfl)) (by decide) (by decide)) (g := (mkF m 294 #[.val (.long l0), .second, .val (.int i1), .val (.int i2), .val (.int i3), .val (.int (3 : Int32)), .val (.int c0), .val (.int c1), .val (.int c2), .val (.int c3), .val (.ref b125), .val (.int ((3 : Int32) - (1 : Int32))), .val (.int bd), .val (.ref xw), .unset] [(.ref b125), (.int bd), (.ref xw)])) rfl (by rw [hml]; rfl) (argsL := [(.ref xw), (.int bd), (.ref b125)]) (rest := []) (lenOf own_pd_28Ljava2flang2fString3bILjava2flang2fString3b29Ljava2flang2fString3b rfl) rfl (by show 2 * 0 + _ ≤ _; exact Nat.le_of_eq rfl) (hb hby at_294) (fun _ _ => ⟨rfl, rfl, (by decide : 6 + 0 ≤ _), (by decide : 24 + 0 ≤ _)⟩)
        dsimp only [Pt.U, Pt.locs, Pt.cells, Pt.slots] at X194 l194 y194 z194 st194 hQ194
        subst l194 y194 z194
        obtain ⟨rfl, Nq194, eh194⟩ := hQ194
        have N194 := Fr.app N187 Nq194
        refine own_go st194 ?_
        show own_Rn p e below _ (T194.setTop (mkF m 297 #[.val (.long l0), .second, .val (.int i1), .val (.int i2), .val (.int i3), .val (.int (3 : Int32)), .val (.int c0), .val (.int c1), .val (.int c2), .val (.int c3), .val (.ref b125), .val (.int ((3 : Int32) - (1 : Int32))), .val (.int bd), .val (.ref xw), .unset] [(.ref b125)]))
        refine own_go (fun tq kq => XS.astore X194.here hx rfl (hb hby at_297) rfl rfl (l' := #[.val (.long l0), .second, .val (.int i1), .val (.int i2), .val (.int i3), .val (.int (3 : Int32)), .val (.int c0), .val (.int c1), .val (.int c2), .val (.int c3), .val (.ref b125), .val (.int ((3 : Int32) - (1 : Int32))), .val (.int bd), .val (.ref xw), .val (.ref b125)]) rfl kq) ?_
        show own_Rn p e below _ (T194.setTop (mkF m 299 #[.val (.long l0), .second, .val (.int i1), .val (.int i2), .val (.int i3), .val (.int (3 : Int32)), .val (.int c0), .val (.int c1), .val (.int c2), .val (.int c3), .val (.ref b125), .val (.int ((3 : Int32) - (1 : Int32))), .val (.int bd), .val (.ref xw), .val (.ref b125)] []))
        refine own_go (fun tq kq => XS.aload X194.here hx rfl (hb hby at_299) rfl rfl kq) ?_
        show own_Rn p e below _ (T194.setTop (mkF m 301 #[.val (.long l0), .second, .val (.int i1), .val (.int i2), .val (.int i3), .val (.int (3 : Int32)), .val (.int c0), .val (.int c1), .val (.int c2), .val (.int c3), .val (.ref b125), .val (.int ((3 : Int32) - (1 : Int32))), .val (.int bd), .val (.ref xw), .val (.ref b125)] [(.ref b125)]))
        refine own_go (fun tq kq => XS.ifnullNo X194.here hx rfl (hb hby at_301) rfl kq) ?_
        show own_Rn p e below _ (T194.setTop (mkF m 304 #[.val (.long l0), .second, .val (.int i1), .val (.int i2), .val (.int i3), .val (.int (3 : Int32)), .val (.int c0), .val (.int c1), .val (.int c2), .val (.int c3), .val (.ref b125), .val (.int ((3 : Int32) - (1 : Int32))), .val (.int bd), .val (.ref xw), .val (.ref b125)] []))
        refine own_go (fun tq kq => XS.aload X194.here hx rfl (hb hby at_304) rfl rfl kq) ?_
        show own_Rn p e below _ (T194.setTop (mkF m 306 #[.val (.long l0), .second, .val (.int i1), .val (.int i2), .val (.int i3), .val (.int (3 : Int32)), .val (.int c0), .val (.int c1), .val (.int c2), .val (.int c3), .val (.ref b125), .val (.int ((3 : Int32) - (1 : Int32))), .val (.int bd), .val (.ref xw), .val (.ref b125)] [(.ref b125)]))
        refine own_go (fun tq kq => XS.aload X194.here hx rfl (hb hby at_306) rfl rfl kq) ?_
        show own_Rn p e below _ (T194.setTop (mkF m 308 #[.val (.long l0), .second, .val (.int i1), .val (.int i2), .val (.int i3), .val (.int (3 : Int32)), .val (.int c0), .val (.int c1), .val (.int c2), .val (.int c3), .val (.ref b125), .val (.int ((3 : Int32) - (1 : Int32))), .val (.int bd), .val (.ref xw), .val (.ref b125)] [(.ref b125), (.ref b125)]))
        have Zn200 : n0 ≤ T187.heap.size := by omega
        obtain ⟨cq200, kq200, qa200, qb200, qc200⟩ := isOf hZ eh194 F195
        obtain ⟨rv200, _, ⟨T200, L200, k200, n200⟩, -, X200, ⟨Lc200, hQ200, l200, y200, z200⟩, st200⟩ := X194.virtualBack hx (y := (⟨"java/lang/String", "equals", "(Ljava/lang/Object;)Z"⟩ : MethodName)) (z := (⟨"java/lang/String", "equals", "(Ljava/lang/Object;)Z"⟩ : MethodName)) hown (mvT hZ (hw _ (own_mi 91 rfl))) (mvT hZ (hw _ (own_mi 92 rfl))) (notFace_of_selects (args := #[]) (mvT hZ (hw _ (own_mi 94 rfl)))) (mvT hZ (hw _ (own_mi 94 rfl))) (mvT hZ (hw _ (own_mi 93 rfl))) (by decide) (backOf (W := 0) (rmEqS l Z a0 hw [] (b125) T187.heap n0 Zn200 ) hZ (hw _ (own_mi 95 rfl)) (hw _ (own_mi 4 rfl)) (by decide) (by decide)) qa200 qc200 (g := (mkF m 308 #[.val (.long l0), .second, .val (.int i1), .val (.int i2), .val (.int i3), .val (.int (3 : Int32)), .val (.int c0), .val (.int c1), .val (.int c2), .val (.int c3), .val (.ref b125), .val (.int ((3 : Int32) - (1 : Int32))), .val (.int bd), .val (.ref xw), .val (.ref b125)] [(.ref b125), (.ref b125)])) rfl (by rw [hml]; rfl) (Steps.refl _) (argsL := [(.ref b125)]) (rest := []) (lenOf own_pd_28Ljava2flang2fObject3b29Z rfl) rfl (by show 2 * 0 + _ ≤ _; exact Nat.le_of_eq rfl) (hb hby at_308) (fun _ _ => ⟨rfl, eh194, (by decide : 6 + 0 ≤ _), (by decide : 24 + 0 ≤ _)⟩)
        dsimp only [Pt.U, Pt.locs, Pt.cells, Pt.slots] at X200 l200 y200 z200 st200 hQ200
        subst l200 y200 z200
        obtain ⟨rfl, Nq200, eh200⟩ := hQ200
        have N200 := Fr.app N194 Nq200
        refine own_go (fun tq kq => st200.trans kq) ?_
        show own_Rn p e below _ (T200.setTop (mkF m 311 #[.val (.long l0), .second, .val (.int i1), .val (.int i2), .val (.int i3), .val (.int (3 : Int32)), .val (.int c0), .val (.int c1), .val (.int c2), .val (.int c3), .val (.ref b125), .val (.int ((3 : Int32) - (1 : Int32))), .val (.int bd), .val (.ref xw), .val (.ref b125)] [(.int (1 : Int32))]))
        refine own_go (fun tq kq => XS.ifNo X200.here hx rfl (hb hby at_311) rfl ((if0 _ _).trans (feq ((by decide : ¬ ((1 : Int32) = (0 : Int32))) : ¬ ((1 : Int32) = (0 : Int32)))).1) kq) ?_
        show own_Rn p e below _ (T200.setTop (mkF m 314 #[.val (.long l0), .second, .val (.int i1), .val (.int i2), .val (.int i3), .val (.int (3 : Int32)), .val (.int c0), .val (.int c1), .val (.int c2), .val (.int c3), .val (.ref b125), .val (.int ((3 : Int32) - (1 : Int32))), .val (.int bd), .val (.ref xw), .val (.ref b125)] []))
        refine own_go (fun tq kq => XS.iconst X200.here hx rfl (hb hby at_314) kq) ?_
        show own_Rn p e below _ (T200.setTop (mkF m 315 #[.val (.long l0), .second, .val (.int i1), .val (.int i2), .val (.int i3), .val (.int (3 : Int32)), .val (.int c0), .val (.int c1), .val (.int c2), .val (.int c3), .val (.ref b125), .val (.int ((3 : Int32) - (1 : Int32))), .val (.int bd), .val (.ref xw), .val (.ref b125)] [(.int (1 : Int32))]))
        refine own_go (fun tq kq => XS.goto X200.here hx rfl (pc0 := 315) (pc' := 319) rfl (hb hby at_315) (by decide) (by decide) kq) ?_
        show own_Rn p e below _ (T200.setTop (mkF m 319 #[.val (.long l0), .second, .val (.int i1), .val (.int i2), .val (.int i3), .val (.int (3 : Int32)), .val (.int c0), .val (.int c1), .val (.int c2), .val (.int c3), .val (.ref b125), .val (.int ((3 : Int32) - (1 : Int32))), .val (.int bd), .val (.ref xw), .val (.ref b125)] [(.int (1 : Int32))]))
        exact own_retS X200 hS0 (by rw [eh200]; omega) (v := some (.int (nar .boolean (1 : Int32)))) (fun h => by rw [Bd.returns] at h; cases h) (fun fs hr => retN X200 hx (t := .boolean) Bd.returns (by simp) (hb hby at_319) hr) (by rw [eh200]; exact ⟨rfl, N200⟩) (by rw [hh, eh200]; exact CR189.trans (CHv.at X200 hZ hEL CR189.1)) (by decide) (by decide)
      · skip
        rw [if_neg hA1]
        show own_Rn p e below _ (T185.setTop (mkF m 237 #[.val (.long l0), .second, .val (.int i1), .val (.int i2), .val (.int i3), .val (.int (3 : Int32)), .val (.int c0), .val (.int c1), .val (.int c2), .val (.int c3), .val (.ref b125), .val (.int (3 : Int32)), .unset, .unset, .unset] [(.int (0 : Int32))]))
        have hp1 : own_pr c1 c2 = 0 := if_neg hA1
        refine own_go (fun tq kq => XS.ifYes X185.here hx rfl (pc0 := 237) (pc' := 246) rfl (hb hby at_237) rfl ((if0 _ _).trans (teq ((by decide : (0 : Int32) = (0 : Int32)) : (0 : Int32) = (0 : Int32))).1) (by decide) (by decide) kq) ?_
        show own_Rn p e below _ (T185.setTop (mkF m 246 #[.val (.long l0), .second, .val (.int i1), .val (.int i2), .val (.int i3), .val (.int (3 : Int32)), .val (.int c0), .val (.int c1), .val (.int c2), .val (.int c3), .val (.ref b125), .val (.int (3 : Int32)), .unset, .unset, .unset] []))
        refine own_go (fun tq kq => XS.iload X185.here hx rfl (hb hby at_246) rfl kq) ?_
        show own_Rn p e below _ (T185.setTop (mkF m 248 #[.val (.long l0), .second, .val (.int i1), .val (.int i2), .val (.int i3), .val (.int (3 : Int32)), .val (.int c0), .val (.int c1), .val (.int c2), .val (.int c3), .val (.ref b125), .val (.int (3 : Int32)), .unset, .unset, .unset] [(.int (3 : Int32))]))
        refine own_go (fun tq kq => XS.iconst X185.here hx rfl (hb hby at_248) kq) ?_
        show own_Rn p e below _ (T185.setTop (mkF m 249 #[.val (.long l0), .second, .val (.int i1), .val (.int i2), .val (.int i3), .val (.int (3 : Int32)), .val (.int c0), .val (.int c1), .val (.int c2), .val (.int c3), .val (.ref b125), .val (.int (3 : Int32)), .unset, .unset, .unset] [(.int (4 : Int32)), (.int (3 : Int32))]))
        refine own_go (fun tq kq => XS.icmpYes X185.here hx rfl (pc0 := 249) (pc' := 268) rfl (hb hby at_249) rfl (tlt (by decide : (3 : Int32) < (4 : Int32))).1 (by decide) (by decide) kq) ?_
        show own_Rn p e below _ (T185.setTop (mkF m 268 #[.val (.long l0), .second, .val (.int i1), .val (.int i2), .val (.int i3), .val (.int (3 : Int32)), .val (.int c0), .val (.int c1), .val (.int c2), .val (.int c3), .val (.ref b125), .val (.int (3 : Int32)), .unset, .unset, .unset] []))
        refine own_go (fun tq kq => XS.iloadN X185.here hx rfl (hb hby at_268) rfl kq) ?_
        show own_Rn p e below _ (T185.setTop (mkF m 269 #[.val (.long l0), .second, .val (.int i1), .val (.int i2), .val (.int i3), .val (.int (3 : Int32)), .val (.int c0), .val (.int c1), .val (.int c2), .val (.int c3), .val (.ref b125), .val (.int (3 : Int32)), .unset, .unset, .unset] [(.int i2)]))
        refine own_go (fun tq kq => XS.iload X185.here hx rfl (hb hby at_269) rfl kq) ?_
        show own_Rn p e below _ (T185.setTop (mkF m 271 #[.val (.long l0), .second, .val (.int i1), .val (.int i2), .val (.int i3), .val (.int (3 : Int32)), .val (.int c0), .val (.int c1), .val (.int c2), .val (.int c3), .val (.ref b125), .val (.int (3 : Int32)), .unset, .unset, .unset] [(.int (3 : Int32)), (.int i2)]))
        have Zn201 : n0 ≤ T142.heap.size := by omega
        obtain ⟨rv201, _, ⟨T201, L201, k201, n201⟩, -, X201, ⟨Lc201, hQ201, l201, y201, z201⟩, st201⟩ := Jvm.LawKit.callS X185 hx (y := (⟨"java/lang/Math", "max", "(II)I"⟩ : MethodName)) hown (mvT hZ (hw _ (own_mi 40 rfl))) (mvT hZ (hw _ (own_mi 41 rfl))) (mvT hZ (hw _ (own_mi 42 rfl))) (mvT hZ (hw _ (own_mi 43 rfl))) (by decide) (backOf (W := 0) (rmMax l Z a0 hw [] (i2) ((3 : Int32)) T142.heap n0 Zn201 ) hZ (hw _ (own_mi 43 rfl)) (hw _ (own_mi 42 rfl)) (by decide) (by decide)) (g := (mkF m 271 #[.val (.long l0), .second, .val (.int i1), .val (.int i2), .val (.int i3), .val (.int (3 : Int32)), .val (.int c0), .val (.int c1), .val (.int c2), .val (.int c3), .val (.ref b125), .val (.int (3 : Int32)), .unset, .unset, .unset] [(.int (3 : Int32)), (.int i2)])) rfl (by rw [hml]; rfl) (argsL := [(.int i2), (.int (3 : Int32))]) (rest := []) (lenOf own_pd_28II29I rfl) rfl (by show 2 * 0 + _ ≤ _; exact Nat.le_of_eq rfl) (hb hby at_271) (fun _ _ => ⟨rfl, eh185, (by decide : 4 + 0 ≤ _), (by decide : 19 + 0 ≤ _)⟩)
        dsimp only [Pt.U, Pt.locs, Pt.cells, Pt.slots] at X201 l201 y201 z201 st201 hQ201
        subst l201 y201 z201
        obtain ⟨bd, rfl, Nq201, eh201, R_201⟩ := hQ201
        have N201 := Fr.app N185 Nq201
        refine own_go st201 ?_
        show own_Rn p e below _ (T201.setTop (mkF m 274 #[.val (.long l0), .second, .val (.int i1), .val (.int i2), .val (.int i3), .val (.int (3 : Int32)), .val (.int c0), .val (.int c1), .val (.int c2), .val (.int c3), .val (.ref b125), .val (.int (3 : Int32)), .unset, .unset, .unset] [(.int bd)]))
        refine own_go (fun tq kq => XS.istore X201.here hx rfl (hb hby at_274) rfl (l' := #[.val (.long l0), .second, .val (.int i1), .val (.int i2), .val (.int i3), .val (.int (3 : Int32)), .val (.int c0), .val (.int c1), .val (.int c2), .val (.int c3), .val (.ref b125), .val (.int (3 : Int32)), .val (.int bd), .unset, .unset]) rfl kq) ?_
        show own_Rn p e below _ (T201.setTop (mkF m 276 #[.val (.long l0), .second, .val (.int i1), .val (.int i2), .val (.int i3), .val (.int (3 : Int32)), .val (.int c0), .val (.int c1), .val (.int c2), .val (.int c3), .val (.ref b125), .val (.int (3 : Int32)), .val (.int bd), .unset, .unset] []))
        refine own_go (fun tq kq => XS.iload X201.here hx rfl (hb hby at_276) rfl kq) ?_
        show own_Rn p e below _ (T201.setTop (mkF m 278 #[.val (.long l0), .second, .val (.int i1), .val (.int i2), .val (.int i3), .val (.int (3 : Int32)), .val (.int c0), .val (.int c1), .val (.int c2), .val (.int c3), .val (.ref b125), .val (.int (3 : Int32)), .val (.int bd), .unset, .unset] [(.int i3)]))
        refine own_go (fun tq kq => XS.sipush X201.here hx rfl (hb hby at_278) kq) ?_
        show own_Rn p e below _ (T201.setTop (mkF m 281 #[.val (.long l0), .second, .val (.int i1), .val (.int i2), .val (.int i3), .val (.int (3 : Int32)), .val (.int c0), .val (.int c1), .val (.int c2), .val (.int c3), .val (.ref b125), .val (.int (3 : Int32)), .val (.int bd), .unset, .unset] [(.int (255 : Int32)), (.int i3)]))
        refine own_go (fun tq kq => XS.iand X201.here hx rfl (hb hby at_281) rfl kq) ?_
        show own_Rn p e below _ (T201.setTop (mkF m 282 #[.val (.long l0), .second, .val (.int i1), .val (.int i2), .val (.int i3), .val (.int (3 : Int32)), .val (.int c0), .val (.int c1), .val (.int c2), .val (.int c3), .val (.ref b125), .val (.int (3 : Int32)), .val (.int bd), .unset, .unset] [(.int (i3 &&& (255 : Int32)))]))
        refine own_go (fun tq kq => XS.i2c X201.here hx rfl (hb hby at_282) rfl kq) ?_
        show own_Rn p e below _ (T201.setTop (mkF m 283 #[.val (.long l0), .second, .val (.int i1), .val (.int i2), .val (.int i3), .val (.int (3 : Int32)), .val (.int c0), .val (.int c1), .val (.int c2), .val (.int c3), .val (.ref b125), .val (.int (3 : Int32)), .val (.int bd), .unset, .unset] [(.int ((i3 &&& (255 : Int32)).toUInt32.toUInt16.toUInt32.toInt32))]))
        obtain ⟨wc, hwc⟩ : ∃ z : Int32, z = ((i3 &&& (255 : Int32)).toUInt32.toUInt16.toUInt32.toInt32) := ⟨_, rfl⟩
        rw [← hwc]
        show own_Rn p e below _ (T201.setTop (mkF m 283 #[.val (.long l0), .second, .val (.int i1), .val (.int i2), .val (.int i3), .val (.int (3 : Int32)), .val (.int c0), .val (.int c1), .val (.int c2), .val (.int c3), .val (.ref b125), .val (.int (3 : Int32)), .val (.int bd), .unset, .unset] [(.int wc)]))
        have rwc : ¬ wc < 0 ∧ ¬ (255 : Int32) < wc := by rw [hwc]; exact own_chr_rng _
        have Zn202 : n0 ≤ T142.heap.size := by omega
        have F203 : Old Z n0 T142.heap := (F147.keep Kq142 (allS gn125 all0))
        obtain ⟨rv202, _, ⟨T202, L202, k202, n202⟩, -, X202, ⟨Lc202, hQ202, l202, y202, z202⟩, st202⟩ := Jvm.LawKit.callS X201 hx (y := (⟨"java/lang/String", "valueOf", "(C)Ljava/lang/String;"⟩ : MethodName)) hown (mvT hZ (hw _ (own_mi 44 rfl))) (mvT hZ (hw _ (own_mi 45 rfl))) (mvT hZ (hw _ (own_mi 4 rfl))) (mvT hZ (hw _ (own_mi 46 rfl))) (by decide) (backOf (W := 0) (rmVal l Z a0 hw [] (wc) (G1) T142.heap n0 Zn202 (rwc) (O2) (P5) F203) hZ (hw _ (own_mi 46 rfl)) (hw _ (own_mi 4 rfl)) (by decide) (by decide)) (g := (mkF m 283 #[.val (.long l0), .second, .val (.int i1), .val (.int i2), .val (.int i3), .val (.int (3 : Int32)), .val (.int c0), .val (.int c1), .val (.int c2), .val (.int c3), .val (.ref b125), .val (.int (3 : Int32)), .val (.int bd), .unset, .unset] [(.int wc)])) rfl (by rw [hml]; rfl) (argsL := [(.int wc)]) (rest := []) (lenOf own_pd_28C29Ljava2flang2fString3b rfl) rfl (by show 2 * 0 + _ ≤ _; exact Nat.le_of_eq rfl) (hb hby at_283) (fun _ _ => ⟨rfl, eh201, (by decide : 4 + 2 ≤ _), (by decide : 19 + 5 ≤ _)⟩)
        dsimp only [Pt.U, Pt.locs, Pt.cells, Pt.slots] at X202 l202 y202 z202 st202 hQ202
        subst l202 y202 z202
        obtain ⟨xw, tw, kw, rfl, Nq202, Kq202, G0_202, G1_202, G2_202, G3_202, G4_202, G5_202, G6_202, G7_202⟩ := hQ202
        have N202 := Fr.app N201 Nq202
        have sz204 : T142.heap.size ≤ T202.heap.size := Kq202.1
        have cr204 : CHr Z consts_1 s.vm T142.heap s.vm T202.heap := CHr.keep Kq202 sf0 CR150.1
        have CR204 := CR150.trans cr204
        have sf205 : Safe Z consts_1 s.vm T202.heap xw := Safe.keep Kq202 sf0 CR150.1 (Safe.new (by omega))
        have sf206 : Safe Z consts_1 s.vm T202.heap tw := Safe.keep Kq202 sf0 CR150.1 (Safe.new (by omega))
        have lt207 : @LT.lt Nat _ xw T202.heap.size := G4_202.lt
        have lt208 : @LT.lt Nat _ tw T202.heap.size := G7_202.lt
        refine own_go st202 ?_
        show own_Rn p e below _ (T202.setTop (mkF m 286 #[.val (.long l0), .second, .val (.int i1), .val (.int i2), .val (.int i3), .val (.int (3 : Int32)), .val (.int c0), .val (.int c1), .val (.int c2), .val (.int c3), .val (.ref b125), .val (.int (3 : Int32)), .val (.int bd), .unset, .unset] [(.ref xw)]))
        refine own_go (fun tq kq => XS.astore X202.here hx rfl (hb hby at_286) rfl rfl (l' := #[.val (.long l0), .second, .val (.int i1), .val (.int i2), .val (.int i3), .val (.int (3 : Int32)), .val (.int c0), .val (.int c1), .val (.int c2), .val (.int c3), .val (.ref b125), .val (.int (3 : Int32)), .val (.int bd), .val (.ref xw), .unset]) rfl kq) ?_
        show own_Rn p e below _ (T202.setTop (mkF m 288 #[.val (.long l0), .second, .val (.int i1), .val (.int i2), .val (.int i3), .val (.int (3 : Int32)), .val (.int c0), .val (.int c1), .val (.int c2), .val (.int c3), .val (.ref b125), .val (.int (3 : Int32)), .val (.int bd), .val (.ref xw), .unset] []))
        refine own_go (fun tq kq => XS.aload X202.here hx rfl (hb hby at_288) rfl rfl kq) ?_
        show own_Rn p e below _ (T202.setTop (mkF m 290 #[.val (.long l0), .second, .val (.int i1), .val (.int i2), .val (.int i3), .val (.int (3 : Int32)), .val (.int c0), .val (.int c1), .val (.int c2), .val (.int c3), .val (.ref b125), .val (.int (3 : Int32)), .val (.int bd), .val (.ref xw), .unset] [(.ref xw)]))
        refine own_go (fun tq kq => XS.iload X202.here hx rfl (hb hby at_290) rfl kq) ?_
        show own_Rn p e below _ (T202.setTop (mkF m 292 #[.val (.long l0), .second, .val (.int i1), .val (.int i2), .val (.int i3), .val (.int (3 : Int32)), .val (.int c0), .val (.int c1), .val (.int c2), .val (.int c3), .val (.ref b125), .val (.int (3 : Int32)), .val (.int bd), .val (.ref xw), .unset] [(.int bd), (.ref xw)]))
        refine own_go (fun tq kq => XS.aload X202.here hx rfl (hb hby at_292) rfl rfl kq) ?_
        show own_Rn p e below _ (T202.setTop (mkF m 294 #[.val (.long l0), .second, .val (.int i1), .val (.int i2), .val (.int i3), .val (.int (3 : Int32)), .val (.int c0), .val (.int c1), .val (.int c2), .val (.int c3), .val (.ref b125), .val (.int (3 : Int32)), .val (.int bd), .val (.ref xw), .unset] [(.ref b125), (.int bd), (.ref xw)]))
        have hcp : own_cp ([c0, c1, c2] : List Int32) = 3 := by rw [own_cp, own_p3, hp0, hp1]; rfl
        have hmx : ¬ bd < Int32.ofNat (own_cp ([c0, c1, c2] : List Int32)) := by rw [hcp]; have h := R_201; rwa [show (3 : Int32) = Int32.ofNat 3 by decide] at h
        have Zn209 : n0 ≤ T202.heap.size := by omega
        have F210 : Exa Z T202.heap b125 "java/lang/String" := ((F143.keep Kq142).keep Kq202)
        have F211 : Fld Z T202.heap b125 "java/lang/String" "value" "[B" (.ref tt) := (G2_142.keep Kq202 nin0)
        have F212 : Fld Z T202.heap b125 "java/lang/String" "coder" "B" (.int cd) := (G3_142.keep Kq202 nin0)
        have F213 : Arv Z T202.heap tt kk .byte NN vv (.int 0) := (G4_142.keep Kq202 nin0)
        have F214 : Old Z n0 T202.heap := (F203.keep Kq202 all0)
        obtain ⟨rv209, _, ⟨T209, L209, k209, n209⟩, -, X209, ⟨Lc209, hQ209, l209, y209, z209⟩, st209⟩ := Jvm.LawKit.callS X202 hx (y := (⟨"com/example/cellwise/cellwise/Checks", "atMost", "(Ljava/lang/String;ILjava/lang/String;)Ljava/lang/String;"⟩ : MethodName)) hown (mvT hZ (hw _ (own_mi 58 rfl))) (mvT hZ (hw _ (own_mi 59 rfl))) (mvT hZ (hw _ (own_mi 60 rfl))) (mvT hZ (hw _ (own_mi 61 rfl))) (by decide) (backOf (W := 0) (rmAM l Z a0 hw [] (xw) (bd) (b125) (tt) (kk) (NN) (vv) (cd) (([c0, c1, c2] : List Int32)) (G1) T202.heap n0 Zn209 F210 F211 F212 F213 (RL) (by simp) (hr) (hmx) (OAD) (OHI) (OLO) (O2) (P5) F214) hZ (hw _ (own_mi 61 rfl)) (hw _ (own_mi 60 rfl)) (by decide) (by decide)) (g := (mkF m 294 #[.val (.long l0), .second, .val (.int i1), .val (.int i2), .val (.int i3), .val (.int (3 : Int32)), .val (.int c0), .val (.int c1), .val (.int c2), .val (.int c3), .val (.ref b125), .val (.int (3 : Int32)), .val (.int bd), .val (.ref xw), .unset] [(.ref b125), (.int bd), (.ref xw)])) rfl (by rw [hml]; rfl) (argsL := [(.ref xw), (.int bd), (.ref b125)]) (rest := []) (lenOf own_pd_28Ljava2flang2fString3bILjava2flang2fString3b29Ljava2flang2fString3b rfl) rfl (by show 2 * 0 + _ ≤ _; exact Nat.le_of_eq rfl) (hb hby at_294) (fun _ _ => ⟨rfl, rfl, (by decide : 6 + 0 ≤ _), (by decide : 24 + 0 ≤ _)⟩)
        dsimp only [Pt.U, Pt.locs, Pt.cells, Pt.slots] at X209 l209 y209 z209 st209 hQ209
        subst l209 y209 z209
        obtain ⟨rfl, Nq209, eh209⟩ := hQ209
        have N209 := Fr.app N202 Nq209
        refine own_go st209 ?_
        show own_Rn p e below _ (T209.setTop (mkF m 297 #[.val (.long l0), .second, .val (.int i1), .val (.int i2), .val (.int i3), .val (.int (3 : Int32)), .val (.int c0), .val (.int c1), .val (.int c2), .val (.int c3), .val (.ref b125), .val (.int (3 : Int32)), .val (.int bd), .val (.ref xw), .unset] [(.ref b125)]))
        refine own_go (fun tq kq => XS.astore X209.here hx rfl (hb hby at_297) rfl rfl (l' := #[.val (.long l0), .second, .val (.int i1), .val (.int i2), .val (.int i3), .val (.int (3 : Int32)), .val (.int c0), .val (.int c1), .val (.int c2), .val (.int c3), .val (.ref b125), .val (.int (3 : Int32)), .val (.int bd), .val (.ref xw), .val (.ref b125)]) rfl kq) ?_
        show own_Rn p e below _ (T209.setTop (mkF m 299 #[.val (.long l0), .second, .val (.int i1), .val (.int i2), .val (.int i3), .val (.int (3 : Int32)), .val (.int c0), .val (.int c1), .val (.int c2), .val (.int c3), .val (.ref b125), .val (.int (3 : Int32)), .val (.int bd), .val (.ref xw), .val (.ref b125)] []))
        refine own_go (fun tq kq => XS.aload X209.here hx rfl (hb hby at_299) rfl rfl kq) ?_
        show own_Rn p e below _ (T209.setTop (mkF m 301 #[.val (.long l0), .second, .val (.int i1), .val (.int i2), .val (.int i3), .val (.int (3 : Int32)), .val (.int c0), .val (.int c1), .val (.int c2), .val (.int c3), .val (.ref b125), .val (.int (3 : Int32)), .val (.int bd), .val (.ref xw), .val (.ref b125)] [(.ref b125)]))
        refine own_go (fun tq kq => XS.ifnullNo X209.here hx rfl (hb hby at_301) rfl kq) ?_
        show own_Rn p e below _ (T209.setTop (mkF m 304 #[.val (.long l0), .second, .val (.int i1), .val (.int i2), .val (.int i3), .val (.int (3 : Int32)), .val (.int c0), .val (.int c1), .val (.int c2), .val (.int c3), .val (.ref b125), .val (.int (3 : Int32)), .val (.int bd), .val (.ref xw), .val (.ref b125)] []))
        refine own_go (fun tq kq => XS.aload X209.here hx rfl (hb hby at_304) rfl rfl kq) ?_
        show own_Rn p e below _ (T209.setTop (mkF m 306 #[.val (.long l0), .second, .val (.int i1), .val (.int i2), .val (.int i3), .val (.int (3 : Int32)), .val (.int c0), .val (.int c1), .val (.int c2), .val (.int c3), .val (.ref b125), .val (.int (3 : Int32)), .val (.int bd), .val (.ref xw), .val (.ref b125)] [(.ref b125)]))
        refine own_go (fun tq kq => XS.aload X209.here hx rfl (hb hby at_306) rfl rfl kq) ?_
        show own_Rn p e below _ (T209.setTop (mkF m 308 #[.val (.long l0), .second, .val (.int i1), .val (.int i2), .val (.int i3), .val (.int (3 : Int32)), .val (.int c0), .val (.int c1), .val (.int c2), .val (.int c3), .val (.ref b125), .val (.int (3 : Int32)), .val (.int bd), .val (.ref xw), .val (.ref b125)] [(.ref b125), (.ref b125)]))
        have Zn215 : n0 ≤ T202.heap.size := by omega
        obtain ⟨cq215, kq215, qa215, qb215, qc215⟩ := isOf hZ eh209 F210
        obtain ⟨rv215, _, ⟨T215, L215, k215, n215⟩, -, X215, ⟨Lc215, hQ215, l215, y215, z215⟩, st215⟩ := X209.virtualBack hx (y := (⟨"java/lang/String", "equals", "(Ljava/lang/Object;)Z"⟩ : MethodName)) (z := (⟨"java/lang/String", "equals", "(Ljava/lang/Object;)Z"⟩ : MethodName)) hown (mvT hZ (hw _ (own_mi 91 rfl))) (mvT hZ (hw _ (own_mi 92 rfl))) (notFace_of_selects (args := #[]) (mvT hZ (hw _ (own_mi 94 rfl)))) (mvT hZ (hw _ (own_mi 94 rfl))) (mvT hZ (hw _ (own_mi 93 rfl))) (by decide) (backOf (W := 0) (rmEqS l Z a0 hw [] (b125) T202.heap n0 Zn215 ) hZ (hw _ (own_mi 95 rfl)) (hw _ (own_mi 4 rfl)) (by decide) (by decide)) qa215 qc215 (g := (mkF m 308 #[.val (.long l0), .second, .val (.int i1), .val (.int i2), .val (.int i3), .val (.int (3 : Int32)), .val (.int c0), .val (.int c1), .val (.int c2), .val (.int c3), .val (.ref b125), .val (.int (3 : Int32)), .val (.int bd), .val (.ref xw), .val (.ref b125)] [(.ref b125), (.ref b125)])) rfl (by rw [hml]; rfl) (Steps.refl _) (argsL := [(.ref b125)]) (rest := []) (lenOf own_pd_28Ljava2flang2fObject3b29Z rfl) rfl (by show 2 * 0 + _ ≤ _; exact Nat.le_of_eq rfl) (hb hby at_308) (fun _ _ => ⟨rfl, eh209, (by decide : 6 + 0 ≤ _), (by decide : 24 + 0 ≤ _)⟩)
        dsimp only [Pt.U, Pt.locs, Pt.cells, Pt.slots] at X215 l215 y215 z215 st215 hQ215
        subst l215 y215 z215
        obtain ⟨rfl, Nq215, eh215⟩ := hQ215
        have N215 := Fr.app N209 Nq215
        refine own_go (fun tq kq => st215.trans kq) ?_
        show own_Rn p e below _ (T215.setTop (mkF m 311 #[.val (.long l0), .second, .val (.int i1), .val (.int i2), .val (.int i3), .val (.int (3 : Int32)), .val (.int c0), .val (.int c1), .val (.int c2), .val (.int c3), .val (.ref b125), .val (.int (3 : Int32)), .val (.int bd), .val (.ref xw), .val (.ref b125)] [(.int (1 : Int32))]))
        refine own_go (fun tq kq => XS.ifNo X215.here hx rfl (hb hby at_311) rfl ((if0 _ _).trans (feq ((by decide : ¬ ((1 : Int32) = (0 : Int32))) : ¬ ((1 : Int32) = (0 : Int32)))).1) kq) ?_
        show own_Rn p e below _ (T215.setTop (mkF m 314 #[.val (.long l0), .second, .val (.int i1), .val (.int i2), .val (.int i3), .val (.int (3 : Int32)), .val (.int c0), .val (.int c1), .val (.int c2), .val (.int c3), .val (.ref b125), .val (.int (3 : Int32)), .val (.int bd), .val (.ref xw), .val (.ref b125)] []))
        refine own_go (fun tq kq => XS.iconst X215.here hx rfl (hb hby at_314) kq) ?_
        show own_Rn p e below _ (T215.setTop (mkF m 315 #[.val (.long l0), .second, .val (.int i1), .val (.int i2), .val (.int i3), .val (.int (3 : Int32)), .val (.int c0), .val (.int c1), .val (.int c2), .val (.int c3), .val (.ref b125), .val (.int (3 : Int32)), .val (.int bd), .val (.ref xw), .val (.ref b125)] [(.int (1 : Int32))]))
        refine own_go (fun tq kq => XS.goto X215.here hx rfl (pc0 := 315) (pc' := 319) rfl (hb hby at_315) (by decide) (by decide) kq) ?_
        show own_Rn p e below _ (T215.setTop (mkF m 319 #[.val (.long l0), .second, .val (.int i1), .val (.int i2), .val (.int i3), .val (.int (3 : Int32)), .val (.int c0), .val (.int c1), .val (.int c2), .val (.int c3), .val (.ref b125), .val (.int (3 : Int32)), .val (.int bd), .val (.ref xw), .val (.ref b125)] [(.int (1 : Int32))]))
        exact own_retS X215 hS0 (by rw [eh215]; omega) (v := some (.int (nar .boolean (1 : Int32)))) (fun h => by rw [Bd.returns] at h; cases h) (fun fs hr => retN X215 hx (t := .boolean) Bd.returns (by simp) (hb hby at_319) hr) (by rw [eh215]; exact ⟨rfl, N215⟩) (by rw [hh, eh215]; exact CR204.trans (CHv.at X215 hZ hEL CR204.1)) (by decide) (by decide)
  · skip
    show own_Rn p e below _ (s₁.setTop (mkF m 53 #[.val (.long l0), .second, .val (.int i1), .val (.int i2), .val (.int i3), .val (.int (4 : Int32)), .val (.int c0), .val (.int c1), .val (.int c2), .val (.int c3), .unset, .unset, .unset, .unset, .unset] []))
    refine own_go (fun tq kq => XS.iload X0.here hx rfl (hb hby at_53) rfl kq) ?_
    show own_Rn p e below _ (s₁.setTop (mkF m 55 #[.val (.long l0), .second, .val (.int i1), .val (.int i2), .val (.int i3), .val (.int (4 : Int32)), .val (.int c0), .val (.int c1), .val (.int c2), .val (.int c3), .unset, .unset, .unset, .unset, .unset] [(.int (4 : Int32))]))
    have hr : ∀ c ∈ ([c0, c1, c2, c3] : List Int32), ¬ c < 0 ∧ ¬ (65535 : Int32) < c := by
      intro c hc
      simp only [List.mem_cons, List.not_mem_nil, or_false] at hc
      rcases hc with rfl | rfl | rfl | rfl
      · exact rc0
      · exact rc1
      · exact rc2
      · exact rc3
    refine own_go (fun tq kq => XS.ifYes X0.here hx rfl (pc0 := 55) (pc' := 73) rfl (hb hby at_55) rfl ((if0 _ _).trans (feq (by decide : ¬ ((4 : Int32) = (0 : Int32)))).2) (by decide) (by decide) kq) ?_
    show own_Rn p e below _ (s₁.setTop (mkF m 73 #[.val (.long l0), .second, .val (.int i1), .val (.int i2), .val (.int i3), .val (.int (4 : Int32)), .val (.int c0), .val (.int c1), .val (.int c2), .val (.int c3), .unset, .unset, .unset, .unset, .unset] []))
    refine own_go (fun tq kq => XS.iload X0.here hx rfl (hb hby at_73) rfl kq) ?_
    show own_Rn p e below _ (s₁.setTop (mkF m 75 #[.val (.long l0), .second, .val (.int i1), .val (.int i2), .val (.int i3), .val (.int (4 : Int32)), .val (.int c0), .val (.int c1), .val (.int c2), .val (.int c3), .unset, .unset, .unset, .unset, .unset] [(.int (4 : Int32))]))
    refine own_go (fun tq kq => XS.iconst X0.here hx rfl (hb hby at_75) kq) ?_
    show own_Rn p e below _ (s₁.setTop (mkF m 76 #[.val (.long l0), .second, .val (.int i1), .val (.int i2), .val (.int i3), .val (.int (4 : Int32)), .val (.int c0), .val (.int c1), .val (.int c2), .val (.int c3), .unset, .unset, .unset, .unset, .unset] [(.int (1 : Int32)), (.int (4 : Int32))]))
    refine own_go (fun tq kq => XS.icmpYes X0.here hx rfl (pc0 := 76) (pc' := 99) rfl (hb hby at_76) rfl (feq (by decide : ¬ ((4 : Int32) = (1 : Int32)))).2 (by decide) (by decide) kq) ?_
    show own_Rn p e below _ (s₁.setTop (mkF m 99 #[.val (.long l0), .second, .val (.int i1), .val (.int i2), .val (.int i3), .val (.int (4 : Int32)), .val (.int c0), .val (.int c1), .val (.int c2), .val (.int c3), .unset, .unset, .unset, .unset, .unset] []))
    refine own_go (fun tq kq => XS.iload X0.here hx rfl (hb hby at_99) rfl kq) ?_
    show own_Rn p e below _ (s₁.setTop (mkF m 101 #[.val (.long l0), .second, .val (.int i1), .val (.int i2), .val (.int i3), .val (.int (4 : Int32)), .val (.int c0), .val (.int c1), .val (.int c2), .val (.int c3), .unset, .unset, .unset, .unset, .unset] [(.int (4 : Int32))]))
    refine own_go (fun tq kq => XS.iconst X0.here hx rfl (hb hby at_101) kq) ?_
    show own_Rn p e below _ (s₁.setTop (mkF m 102 #[.val (.long l0), .second, .val (.int i1), .val (.int i2), .val (.int i3), .val (.int (4 : Int32)), .val (.int c0), .val (.int c1), .val (.int c2), .val (.int c3), .unset, .unset, .unset, .unset, .unset] [(.int (2 : Int32)), (.int (4 : Int32))]))
    refine own_go (fun tq kq => XS.icmpYes X0.here hx rfl (pc0 := 102) (pc' := 130) rfl (hb hby at_102) rfl (feq (by decide : ¬ ((4 : Int32) = (2 : Int32)))).2 (by decide) (by decide) kq) ?_
    show own_Rn p e below _ (s₁.setTop (mkF m 130 #[.val (.long l0), .second, .val (.int i1), .val (.int i2), .val (.int i3), .val (.int (4 : Int32)), .val (.int c0), .val (.int c1), .val (.int c2), .val (.int c3), .unset, .unset, .unset, .unset, .unset] []))
    refine own_go (fun tq kq => XS.iload X0.here hx rfl (hb hby at_130) rfl kq) ?_
    show own_Rn p e below _ (s₁.setTop (mkF m 132 #[.val (.long l0), .second, .val (.int i1), .val (.int i2), .val (.int i3), .val (.int (4 : Int32)), .val (.int c0), .val (.int c1), .val (.int c2), .val (.int c3), .unset, .unset, .unset, .unset, .unset] [(.int (4 : Int32))]))
    refine own_go (fun tq kq => XS.iconst X0.here hx rfl (hb hby at_132) kq) ?_
    show own_Rn p e below _ (s₁.setTop (mkF m 133 #[.val (.long l0), .second, .val (.int i1), .val (.int i2), .val (.int i3), .val (.int (4 : Int32)), .val (.int c0), .val (.int c1), .val (.int c2), .val (.int c3), .unset, .unset, .unset, .unset, .unset] [(.int (3 : Int32)), (.int (4 : Int32))]))
    refine own_go (fun tq kq => XS.icmpYes X0.here hx rfl (pc0 := 133) (pc' := 166) rfl (hb hby at_133) rfl (feq (by decide : ¬ ((4 : Int32) = (3 : Int32)))).2 (by decide) (by decide) kq) ?_
    show own_Rn p e below _ (s₁.setTop (mkF m 166 #[.val (.long l0), .second, .val (.int i1), .val (.int i2), .val (.int i3), .val (.int (4 : Int32)), .val (.int c0), .val (.int c1), .val (.int c2), .val (.int c3), .unset, .unset, .unset, .unset, .unset] []))
    obtain ⟨T216, h216, X216, e216, E216, A216, D216, -, st216⟩ := newO X0 hx hZ hown (hw _ (own_mi 2 rfl)) (hw _ (own_mi 3 rfl)) (hw _ (own_mi 4 rfl)) e0 (g := (mkF m 166 #[.val (.long l0), .second, .val (.int i1), .val (.int i2), .val (.int i3), .val (.int (4 : Int32)), .val (.int c0), .val (.int c1), .val (.int c2), .val (.int c3), .unset, .unset, .unset, .unset, .unset] [])) rfl (hb hby at_166) (by decide) (by decide)
    obtain ⟨b216, g216⟩ : ∃ z, z = h0.size := ⟨_, rfl⟩
    rw [← g216] at A216 D216 st216
    refine own_go st216 ?_
    have sz217 : h0.size ≤ h216.size := E216.1
    have cr217 : CHr Z consts_1 s.vm h0 s.vm h216 := CHr.ext E216 CR0.1
    have CR217 := CR0.trans cr217
    have sf218 : Safe Z consts_1 s.vm h216 b216 := Safe.ext E216 CR0.1 (Safe.new (by omega))
    have lt219 : @LT.lt Nat _ b216 h216.size := A216.lt
    have gn216 : n0 ≤ b216 := by omega
    have D216_coder : Fld Z h216 b216 "java/lang/String" "coder" "B" (.int (0 : Int32)) := D216 (Or.inr (hw _ (own_mi 29 rfl))) (ty := .byte) own_fd_B
    have D216_value : Fld Z h216 b216 "java/lang/String" "value" "[B" .null := D216 (Or.inr (hw _ (own_mi 31 rfl))) (ty := (.array .byte)) own_fd_5bB
    show own_Rn p e below _ (T216.setTop (mkF m 169 #[.val (.long l0), .second, .val (.int i1), .val (.int i2), .val (.int i3), .val (.int (4 : Int32)), .val (.int c0), .val (.int c1), .val (.int c2), .val (.int c3), .unset, .unset, .unset, .unset, .unset] [(.ref b216)]))
    refine own_go (fun tq kq => XS.dup X216.here hx rfl (hb hby at_169) rfl rfl kq) ?_
    show own_Rn p e below _ (T216.setTop (mkF m 170 #[.val (.long l0), .second, .val (.int i1), .val (.int i2), .val (.int i3), .val (.int (4 : Int32)), .val (.int c0), .val (.int c1), .val (.int c2), .val (.int c3), .unset, .unset, .unset, .unset, .unset] [(.ref b216), (.ref b216)]))
    refine own_go (fun tq kq => XS.iconst X216.here hx rfl (hb hby at_170) kq) ?_
    show own_Rn p e below _ (T216.setTop (mkF m 171 #[.val (.long l0), .second, .val (.int i1), .val (.int i2), .val (.int i3), .val (.int (4 : Int32)), .val (.int c0), .val (.int c1), .val (.int c2), .val (.int c3), .unset, .unset, .unset, .unset, .unset] [(.int (4 : Int32)), (.ref b216), (.ref b216)]))
    obtain ⟨T221, h221, k221, X221, e221, E221, A221, st221⟩ := newP X216 hx hZ (hw _ (own_mi 5 rfl)) e216 (g := (mkF m 171 #[.val (.long l0), .second, .val (.int i1), .val (.int i2), .val (.int i3), .val (.int (4 : Int32)), .val (.int c0), .val (.int c1), .val (.int c2), .val (.int c3), .unset, .unset, .unset, .unset, .unset] [(.int (4 : Int32)), (.ref b216), (.ref b216)])) rfl (hb hby at_171) rfl (by decide) (cap := 4) (by decide) (by decide) (by decide) (by decide)
    obtain ⟨b221, g221⟩ : ∃ z, z = h216.size := ⟨_, rfl⟩
    rw [← g221] at A221 st221
    refine own_go st221 ?_
    have sz222 : h216.size ≤ h221.size := E221.1
    have cr222 : CHr Z consts_1 s.vm h216 s.vm h221 := CHr.ext E221 CR217.1
    have CR222 := CR217.trans cr222
    have gn221 : n0 ≤ b221 := by omega
    have V221 : Arv Z h221 b221 k221 .char (4 : Int32) [(.int (0 : Int32)), (.int (0 : Int32)), (.int (0 : Int32)), (.int (0 : Int32))] (.int (0 : Int32)) := (Arv.new A221 (by decide)).pad (pad_rep [] _ 4)
    have lt223 : @LT.lt Nat _ b221 h221.size := V221.lt
    show own_Rn p e below _ (T221.setTop (mkF m 173 #[.val (.long l0), .second, .val (.int i1), .val (.int i2), .val (.int i3), .val (.int (4 : Int32)), .val (.int c0), .val (.int c1), .val (.int c2), .val (.int c3), .unset, .unset, .unset, .unset, .unset] [(.ref b221), (.ref b216), (.ref b216)]))
    refine own_go (fun tq kq => XS.dup X221.here hx rfl (hb hby at_173) rfl rfl kq) ?_
    show own_Rn p e below _ (T221.setTop (mkF m 174 #[.val (.long l0), .second, .val (.int i1), .val (.int i2), .val (.int i3), .val (.int (4 : Int32)), .val (.int c0), .val (.int c1), .val (.int c2), .val (.int c3), .unset, .unset, .unset, .unset, .unset] [(.ref b221), (.ref b221), (.ref b216), (.ref b216)]))
    refine own_go (fun tq kq => XS.iconst X221.here hx rfl (hb hby at_174) kq) ?_
    show own_Rn p e below _ (T221.setTop (mkF m 175 #[.val (.long l0), .second, .val (.int i1), .val (.int i2), .val (.int i3), .val (.int (4 : Int32)), .val (.int c0), .val (.int c1), .val (.int c2), .val (.int c3), .unset, .unset, .unset, .unset, .unset] [(.int (0 : Int32)), (.ref b221), (.ref b221), (.ref b216), (.ref b216)]))
    refine own_go (fun tq kq => XS.iload X221.here hx rfl (hb hby at_175) rfl kq) ?_
    show own_Rn p e below _ (T221.setTop (mkF m 177 #[.val (.long l0), .second, .val (.int i1), .val (.int i2), .val (.int i3), .val (.int (4 : Int32)), .val (.int c0), .val (.int c1), .val (.int c2), .val (.int c3), .unset, .unset, .unset, .unset, .unset] [(.int c0), (.int (0 : Int32)), (.ref b221), (.ref b221), (.ref b216), (.ref b216)]))
    obtain ⟨cl224, Ar224, q224, Sz224, Nn224, Hs224, G224⟩ := id V221
    obtain ⟨T224, h224, X224, e224, W224, st224⟩ := stC X221 hx hZ e221 Ar224 (j := (0 : Int32)) (inb_of Sz224 ⟨by decide, by decide⟩) (g := (mkF m 177 #[.val (.long l0), .second, .val (.int i1), .val (.int i2), .val (.int i3), .val (.int (4 : Int32)), .val (.int c0), .val (.int c1), .val (.int c2), .val (.int c3), .unset, .unset, .unset, .unset, .unset] [(.int c0), (.int (0 : Int32)), (.ref b221), (.ref b221), (.ref b216), (.ref b216)])) rfl rfl (hb hby at_177)
    rw [nc0] at W224
    refine own_go st224 ?_
    have V224 : Arv Z h224 b221 k221 .char (4 : Int32) [(.int c0), (.int (0 : Int32)), (.int (0 : Int32)), (.int (0 : Int32))] (.int (0 : Int32)) := Arv.set Ar224 q224 Sz224 Nn224 Hs224 G224 (by rw [← nc0]; exact fits_nar_char _) W224 0 rfl (Nat.le_of_ble_eq_true rfl)
    have N224 := Fr.snoc X224 N0 gn221
    have sf225 : Safe Z consts_1 s.vm h221 b221 := Safe.arv hZ.alike V221 (by decide)
    have sz226 : h221.size ≤ h224.size := Nat.le_of_eq (Wr.size W224).symm
    have cr226 : CHr Z consts_1 s.vm h221 s.vm h224 := CHr.wr W224 sf225 CR222.1
    have CR226 := CR222.trans cr226
    show own_Rn p e below _ (T224.setTop (mkF m 178 #[.val (.long l0), .second, .val (.int i1), .val (.int i2), .val (.int i3), .val (.int (4 : Int32)), .val (.int c0), .val (.int c1), .val (.int c2), .val (.int c3), .unset, .unset, .unset, .unset, .unset] [(.ref b221), (.ref b216), (.ref b216)]))
    refine own_go (fun tq kq => XS.dup X224.here hx rfl (hb hby at_178) rfl rfl kq) ?_
    show own_Rn p e below _ (T224.setTop (mkF m 179 #[.val (.long l0), .second, .val (.int i1), .val (.int i2), .val (.int i3), .val (.int (4 : Int32)), .val (.int c0), .val (.int c1), .val (.int c2), .val (.int c3), .unset, .unset, .unset, .unset, .unset] [(.ref b221), (.ref b221), (.ref b216), (.ref b216)]))
    refine own_go (fun tq kq => XS.iconst X224.here hx rfl (hb hby at_179) kq) ?_
    show own_Rn p e below _ (T224.setTop (mkF m 180 #[.val (.long l0), .second, .val (.int i1), .val (.int i2), .val (.int i3), .val (.int (4 : Int32)), .val (.int c0), .val (.int c1), .val (.int c2), .val (.int c3), .unset, .unset, .unset, .unset, .unset] [(.int (1 : Int32)), (.ref b221), (.ref b221), (.ref b216), (.ref b216)]))
    refine own_go (fun tq kq => XS.iload X224.here hx rfl (hb hby at_180) rfl kq) ?_
    show own_Rn p e below _ (T224.setTop (mkF m 182 #[.val (.long l0), .second, .val (.int i1), .val (.int i2), .val (.int i3), .val (.int (4 : Int32)), .val (.int c0), .val (.int c1), .val (.int c2), .val (.int c3), .unset, .unset, .unset, .unset, .unset] [(.int c1), (.int (1 : Int32)), (.ref b221), (.ref b221), (.ref b216), (.ref b216)]))
    obtain ⟨cl227, Ar227, q227, Sz227, Nn227, Hs227, G227⟩ := id V224
    obtain ⟨T227, h227, X227, e227, W227, st227⟩ := stC X224 hx hZ e224 Ar227 (j := (1 : Int32)) (inb_of Sz227 ⟨by decide, by decide⟩) (g := (mkF m 182 #[.val (.long l0), .second, .val (.int i1), .val (.int i2), .val (.int i3), .val (.int (4 : Int32)), .val (.int c0), .val (.int c1), .val (.int c2), .val (.int c3), .unset, .unset, .unset, .unset, .unset] [(.int c1), (.int (1 : Int32)), (.ref b221), (.ref b221), (.ref b216), (.ref b216)])) rfl rfl (hb hby at_182)
    rw [nc1] at W227
    refine own_go st227 ?_
    have V227 : Arv Z h227 b221 k221 .char (4 : Int32) [(.int c0), (.int c1), (.int (0 : Int32)), (.int (0 : Int32))] (.int (0 : Int32)) := Arv.set Ar227 q227 Sz227 Nn227 Hs227 G227 (by rw [← nc1]; exact fits_nar_char _) W227 1 rfl (Nat.le_of_ble_eq_true rfl)
    have N227 := Fr.snoc X227 N224 gn221
    have sf228 : Safe Z consts_1 s.vm h224 b221 := Safe.arv hZ.alike V224 (by decide)
    have sz229 : h224.size ≤ h227.size := Nat.le_of_eq (Wr.size W227).symm
    have cr229 : CHr Z consts_1 s.vm h224 s.vm h227 := CHr.wr W227 sf228 CR226.1
    have CR229 := CR226.trans cr229
    show own_Rn p e below _ (T227.setTop (mkF m 183 #[.val (.long l0), .second, .val (.int i1), .val (.int i2), .val (.int i3), .val (.int (4 : Int32)), .val (.int c0), .val (.int c1), .val (.int c2), .val (.int c3), .unset, .unset, .unset, .unset, .unset] [(.ref b221), (.ref b216), (.ref b216)]))
    refine own_go (fun tq kq => XS.dup X227.here hx rfl (hb hby at_183) rfl rfl kq) ?_
    show own_Rn p e below _ (T227.setTop (mkF m 184 #[.val (.long l0), .second, .val (.int i1), .val (.int i2), .val (.int i3), .val (.int (4 : Int32)), .val (.int c0), .val (.int c1), .val (.int c2), .val (.int c3), .unset, .unset, .unset, .unset, .unset] [(.ref b221), (.ref b221), (.ref b216), (.ref b216)]))
    refine own_go (fun tq kq => XS.iconst X227.here hx rfl (hb hby at_184) kq) ?_
    show own_Rn p e below _ (T227.setTop (mkF m 185 #[.val (.long l0), .second, .val (.int i1), .val (.int i2), .val (.int i3), .val (.int (4 : Int32)), .val (.int c0), .val (.int c1), .val (.int c2), .val (.int c3), .unset, .unset, .unset, .unset, .unset] [(.int (2 : Int32)), (.ref b221), (.ref b221), (.ref b216), (.ref b216)]))
    refine own_go (fun tq kq => XS.iload X227.here hx rfl (hb hby at_185) rfl kq) ?_
    show own_Rn p e below _ (T227.setTop (mkF m 187 #[.val (.long l0), .second, .val (.int i1), .val (.int i2), .val (.int i3), .val (.int (4 : Int32)), .val (.int c0), .val (.int c1), .val (.int c2), .val (.int c3), .unset, .unset, .unset, .unset, .unset] [(.int c2), (.int (2 : Int32)), (.ref b221), (.ref b221), (.ref b216), (.ref b216)]))
    obtain ⟨cl230, Ar230, q230, Sz230, Nn230, Hs230, G230⟩ := id V227
    obtain ⟨T230, h230, X230, e230, W230, st230⟩ := stC X227 hx hZ e227 Ar230 (j := (2 : Int32)) (inb_of Sz230 ⟨by decide, by decide⟩) (g := (mkF m 187 #[.val (.long l0), .second, .val (.int i1), .val (.int i2), .val (.int i3), .val (.int (4 : Int32)), .val (.int c0), .val (.int c1), .val (.int c2), .val (.int c3), .unset, .unset, .unset, .unset, .unset] [(.int c2), (.int (2 : Int32)), (.ref b221), (.ref b221), (.ref b216), (.ref b216)])) rfl rfl (hb hby at_187)
    rw [nc2] at W230
    refine own_go st230 ?_
    have V230 : Arv Z h230 b221 k221 .char (4 : Int32) [(.int c0), (.int c1), (.int c2), (.int (0 : Int32))] (.int (0 : Int32)) := Arv.set Ar230 q230 Sz230 Nn230 Hs230 G230 (by rw [← nc2]; exact fits_nar_char _) W230 2 rfl (Nat.le_of_ble_eq_true rfl)
    have N230 := Fr.snoc X230 N227 gn221
    have sf231 : Safe Z consts_1 s.vm h227 b221 := Safe.arv hZ.alike V227 (by decide)
    have sz232 : h227.size ≤ h230.size := Nat.le_of_eq (Wr.size W230).symm
    have cr232 : CHr Z consts_1 s.vm h227 s.vm h230 := CHr.wr W230 sf231 CR229.1
    have CR232 := CR229.trans cr232
    show own_Rn p e below _ (T230.setTop (mkF m 188 #[.val (.long l0), .second, .val (.int i1), .val (.int i2), .val (.int i3), .val (.int (4 : Int32)), .val (.int c0), .val (.int c1), .val (.int c2), .val (.int c3), .unset, .unset, .unset, .unset, .unset] [(.ref b221), (.ref b216), (.ref b216)]))
    refine own_go (fun tq kq => XS.dup X230.here hx rfl (hb hby at_188) rfl rfl kq) ?_
    show own_Rn p e below _ (T230.setTop (mkF m 189 #[.val (.long l0), .second, .val (.int i1), .val (.int i2), .val (.int i3), .val (.int (4 : Int32)), .val (.int c0), .val (.int c1), .val (.int c2), .val (.int c3), .unset, .unset, .unset, .unset, .unset] [(.ref b221), (.ref b221), (.ref b216), (.ref b216)]))
    refine own_go (fun tq kq => XS.iconst X230.here hx rfl (hb hby at_189) kq) ?_
    show own_Rn p e below _ (T230.setTop (mkF m 190 #[.val (.long l0), .second, .val (.int i1), .val (.int i2), .val (.int i3), .val (.int (4 : Int32)), .val (.int c0), .val (.int c1), .val (.int c2), .val (.int c3), .unset, .unset, .unset, .unset, .unset] [(.int (3 : Int32)), (.ref b221), (.ref b221), (.ref b216), (.ref b216)]))
    refine own_go (fun tq kq => XS.iload X230.here hx rfl (hb hby at_190) rfl kq) ?_
    show own_Rn p e below _ (T230.setTop (mkF m 192 #[.val (.long l0), .second, .val (.int i1), .val (.int i2), .val (.int i3), .val (.int (4 : Int32)), .val (.int c0), .val (.int c1), .val (.int c2), .val (.int c3), .unset, .unset, .unset, .unset, .unset] [(.int c3), (.int (3 : Int32)), (.ref b221), (.ref b221), (.ref b216), (.ref b216)]))
    obtain ⟨cl233, Ar233, q233, Sz233, Nn233, Hs233, G233⟩ := id V230
    obtain ⟨T233, h233, X233, e233, W233, st233⟩ := stC X230 hx hZ e230 Ar233 (j := (3 : Int32)) (inb_of Sz233 ⟨by decide, by decide⟩) (g := (mkF m 192 #[.val (.long l0), .second, .val (.int i1), .val (.int i2), .val (.int i3), .val (.int (4 : Int32)), .val (.int c0), .val (.int c1), .val (.int c2), .val (.int c3), .unset, .unset, .unset, .unset, .unset] [(.int c3), (.int (3 : Int32)), (.ref b221), (.ref b221), (.ref b216), (.ref b216)])) rfl rfl (hb hby at_192)
    rw [nc3] at W233
    refine own_go st233 ?_
    have V233 : Arv Z h233 b221 k221 .char (4 : Int32) [(.int c0), (.int c1), (.int c2), (.int c3)] (.int (0 : Int32)) := Arv.set Ar233 q233 Sz233 Nn233 Hs233 G233 (by rw [← nc3]; exact fits_nar_char _) W233 3 rfl (Nat.le_of_ble_eq_true rfl)
    have N233 := Fr.snoc X233 N230 gn221
    have sf234 : Safe Z consts_1 s.vm h230 b221 := Safe.arv hZ.alike V230 (by decide)
    have sz235 : h230.size ≤ h233.size := Nat.le_of_eq (Wr.size W233).symm
    have cr235 : CHr Z consts_1 s.vm h230 s.vm h233 := CHr.wr W233 sf234 CR232.1
    have CR235 := CR232.trans cr235
    show own_Rn p e below _ (T233.setTop (mkF m 193 #[.val (.long l0), .second, .val (.int i1), .val (.int i2), .val (.int i3), .val (.int (4 : Int32)), .val (.int c0), .val (.int c1), .val (.int c2), .val (.int c3), .unset, .unset, .unset, .unset, .unset] [(.ref b221), (.ref b216), (.ref b216)]))
    have Zn236 : n0 ≤ h233.size := by omega
    have F237 : Exa Z h233 b216 "java/lang/String" := (((((A216.ext E221).wr W224).wr W227).wr W230).wr W233)
    have ne238 : b216 ≠ b221 := own_nea (by omega)
    have F239 : Fld Z h233 b216 "java/lang/String" "value" "[B" .null := (((((D216_value.ext E221).other W224 (Or.inl ne238)).other W227 (Or.inl ne238)).other W230 (Or.inl ne238)).other W233 (Or.inl ne238))
    have F240 : Fld Z h233 b216 "java/lang/String" "coder" "B" (.int (0 : Int32)) := (((((D216_coder.ext E221).other W224 (Or.inl ne238)).other W227 (Or.inl ne238)).other W230 (Or.inl ne238)).other W233 (Or.inl ne238))
    have F241 : Old Z n0 h233 := ((((((X00.ext E216).ext E221).wr W224 gn221).wr W227 gn221).wr W230 gn221).wr W233 gn221)
    obtain ⟨rv236, _, ⟨T236, L236, k236, n236⟩, -, X236, ⟨Lc236, hQ236, l236, y236, z236⟩, st236⟩ := X233.specialBack hx (y := (⟨"java/lang/String", "<init>", "([C)V"⟩ : MethodName)) rfl hown (mvT hZ (hw _ (own_mi 6 rfl))) (mvT hZ (hw _ (own_mi 7 rfl))) (mvT hZ (hw _ (own_mi 8 rfl))) (by decide) (backOf (W := 1) (rmI1 l Z a0 hw [] (b216) (b221) (k221) (([c0, c1, c2, c3] : List Int32)) ((.int (0 : Int32))) (G1) h233 n0 Zn236 F237 F239 F240 gn216 V233 (by simp) (by simp) (hr) (OAD) (OHI) (OLO) (O2) (P5) F241) hZ (hw _ (own_mi 8 rfl)) (hw _ (own_mi 4 rfl)) (by decide) (by decide)) (g := (mkF m 193 #[.val (.long l0), .second, .val (.int i1), .val (.int i2), .val (.int i3), .val (.int (4 : Int32)), .val (.int c0), .val (.int c1), .val (.int c2), .val (.int c3), .unset, .unset, .unset, .unset, .unset] [(.ref b221), (.ref b216), (.ref b216)])) rfl (by rw [hml]; rfl) (Steps.refl _) (a := b216) (argsL := [(.ref b221)]) (rest := [(.ref b216)]) (lenOf own_pd_285bC29V rfl) rfl (by show 2 * 0 + _ ≤ _; exact Nat.le_of_eq rfl) (hb hby at_193) (fun _ _ => ⟨rfl, e233, (by decide : 2 + 2 ≤ _), (by decide : 8 + 12 ≤ _)⟩)
    dsimp only [Pt.U, Pt.locs, Pt.cells, Pt.slots] at X236 l236 y236 z236 st236 hQ236
    subst l236 y236 z236
    obtain ⟨tt, kk, NN, vv, cd, rfl, Nq236, Kq236, G0_236, G1_236, G2_236, G3_236, G4_236, RL_236⟩ := hQ236
    have N236 := Fr.app N233 Nq236
    have sf243 : Safe Z consts_1 s.vm h233 b216 := (CHr.safe cr235 (show @LT.lt Nat _ _ _ by omega) (CHr.safe cr232 (show @LT.lt Nat _ _ _ by omega) (CHr.safe cr229 (show @LT.lt Nat _ _ _ by omega) (CHr.safe cr226 (show @LT.lt Nat _ _ _ by omega) (CHr.safe cr222 (show @LT.lt Nat _ _ _ by omega) sf218)))))
    have sz244 : h233.size ≤ T236.heap.size := Kq236.1
    have cr244 : CHr Z consts_1 s.vm h233 s.vm T236.heap := CHr.keep Kq236 (sfS sf243 sf0) CR235.1
    have CR244 := CR235.trans cr244
    have sf245 : Safe Z consts_1 s.vm T236.heap tt := Safe.keep Kq236 (sfS sf243 sf0) CR235.1 (Safe.new (by omega))
    have lt246 : @LT.lt Nat _ tt T236.heap.size := G4_236.lt
    refine own_go (fun tq kq => st236.trans kq) ?_
    show own_Rn p e below _ (T236.setTop (mkF m 196 #[.val (.long l0), .second, .val (.int i1), .val (.int i2), .val (.int i3), .val (.int (4 : Int32)), .val (.int c0), .val (.int c1), .val (.int c2), .val (.int c3), .unset, .unset, .unset, .unset, .unset] [(.ref b216)]))
    have RL : (cd = 0 ∧ NN = Int32.ofNat ([c0, c1, c2, c3] : List Int32).length ∧ vv = own_bs ([c0, c1, c2, c3] : List Int32) ∧ ∀ c ∈ ([c0, c1, c2, c3] : List Int32), ¬ (255 : Int32) < c) ∨ (cd = 1 ∧ NN = Int32.ofNat (2 * ([c0, c1, c2, c3] : List Int32).length) ∧ vv = own_u16 ([c0, c1, c2, c3] : List Int32) ∧ 0 < ([c0, c1, c2, c3] : List Int32).length) := by rcases RL_236 with h | ⟨h1, h2, h3⟩; exact Or.inl h; exact Or.inr ⟨h1, h2, h3, by simp⟩
    refine own_go (fun tq kq => XS.astore X236.here hx rfl (hb hby at_196) rfl rfl (l' := #[.val (.long l0), .second, .val (.int i1), .val (.int i2), .val (.int i3), .val (.int (4 : Int32)), .val (.int c0), .val (.int c1), .val (.int c2), .val (.int c3), .val (.ref b216), .unset, .unset, .unset, .unset]) rfl kq) ?_
    show own_Rn p e below _ (T236.setTop (mkF m 198 #[.val (.long l0), .second, .val (.int i1), .val (.int i2), .val (.int i3), .val (.int (4 : Int32)), .val (.int c0), .val (.int c1), .val (.int c2), .val (.int c3), .val (.ref b216), .unset, .unset, .unset, .unset] []))
    refine own_go (fun tq kq => XS.iload X236.here hx rfl (hb hby at_198) rfl kq) ?_
    show own_Rn p e below _ (T236.setTop (mkF m 200 #[.val (.long l0), .second, .val (.int i1), .val (.int i2), .val (.int i3), .val (.int (4 : Int32)), .val (.int c0), .val (.int c1), .val (.int c2), .val (.int c3), .val (.ref b216), .unset, .unset, .unset, .unset] [(.int (4 : Int32))]))
    refine own_go (fun tq kq => XS.istore X236.here hx rfl (hb hby at_200) rfl (l' := #[.val (.long l0), .second, .val (.int i1), .val (.int i2), .val (.int i3), .val (.int (4 : Int32)), .val (.int c0), .val (.int c1), .val (.int c2), .val (.int c3), .val (.ref b216), .val (.int (4 : Int32)), .unset, .unset, .unset]) rfl kq) ?_
    show own_Rn p e below _ (T236.setTop (mkF m 202 #[.val (.long l0), .second, .val (.int i1), .val (.int i2), .val (.int i3), .val (.int (4 : Int32)), .val (.int c0), .val (.int c1), .val (.int c2), .val (.int c3), .val (.ref b216), .val (.int (4 : Int32)), .unset, .unset, .unset] []))
    refine own_go (fun tq kq => XS.iload X236.here hx rfl (hb hby at_202) rfl kq) ?_
    show own_Rn p e below _ (T236.setTop (mkF m 204 #[.val (.long l0), .second, .val (.int i1), .val (.int i2), .val (.int i3), .val (.int (4 : Int32)), .val (.int c0), .val (.int c1), .val (.int c2), .val (.int c3), .val (.ref b216), .val (.int (4 : Int32)), .unset, .unset, .unset] [(.int (4 : Int32))]))
    refine own_go (fun tq kq => XS.iconst X236.here hx rfl (hb hby at_204) kq) ?_
    show own_Rn p e below _ (T236.setTop (mkF m 205 #[.val (.long l0), .second, .val (.int i1), .val (.int i2), .val (.int i3), .val (.int (4 : Int32)), .val (.int c0), .val (.int c1), .val (.int c2), .val (.int c3), .val (.ref b216), .val (.int (4 : Int32)), .unset, .unset, .unset] [(.int (2 : Int32)), (.int (4 : Int32))]))
    refine own_go (fun tq kq => XS.icmpNo X236.here hx rfl (hb hby at_205) rfl (flt (by decide : ¬ ((4 : Int32) < (2 : Int32)))).1 kq) ?_
    show own_Rn p e below _ (T236.setTop (mkF m 208 #[.val (.long l0), .second, .val (.int i1), .val (.int i2), .val (.int i3), .val (.int (4 : Int32)), .val (.int c0), .val (.int c1), .val (.int c2), .val (.int c3), .val (.ref b216), .val (.int (4 : Int32)), .unset, .unset, .unset] []))
    refine own_go (fun tq kq => XS.iload X236.here hx rfl (hb hby at_208) rfl kq) ?_
    show own_Rn p e below _ (T236.setTop (mkF m 210 #[.val (.long l0), .second, .val (.int i1), .val (.int i2), .val (.int i3), .val (.int (4 : Int32)), .val (.int c0), .val (.int c1), .val (.int c2), .val (.int c3), .val (.ref b216), .val (.int (4 : Int32)), .unset, .unset, .unset] [(.int c0)]))
    refine own_go (fun tq kq => XS.iload X236.here hx rfl (hb hby at_210) rfl kq) ?_
    show own_Rn p e below _ (T236.setTop (mkF m 212 #[.val (.long l0), .second, .val (.int i1), .val (.int i2), .val (.int i3), .val (.int (4 : Int32)), .val (.int c0), .val (.int c1), .val (.int c2), .val (.int c3), .val (.ref b216), .val (.int (4 : Int32)), .unset, .unset, .unset] [(.int c1), (.int c0)]))
    have Zn247 : n0 ≤ T236.heap.size := by omega
    obtain ⟨rv247, _, ⟨T247, L247, k247, n247⟩, -, X247, ⟨Lc247, hQ247, l247, y247, z247⟩, st247⟩ := Jvm.LawKit.callS X236 hx (y := (⟨"com/example/cellwise/cellwise/ChecksAtMostPinLaw", "pair", "(CC)Z"⟩ : MethodName)) hown (mvT hZ (hw _ (own_mi 32 rfl))) (mvT hZ (hw _ (own_mi 33 rfl))) (mvT hZ (hw _ (own_mi 34 rfl))) (mvT hZ (hw _ (own_mi 35 rfl))) (by decide) (backOf (W := 0) (rmPair l Z a0 hw [] (c0) (c1) T236.heap n0 Zn247 ) hZ (hw _ (own_mi 35 rfl)) (hw _ (own_mi 34 rfl)) (by decide) (by decide)) (g := (mkF m 212 #[.val (.long l0), .second, .val (.int i1), .val (.int i2), .val (.int i3), .val (.int (4 : Int32)), .val (.int c0), .val (.int c1), .val (.int c2), .val (.int c3), .val (.ref b216), .val (.int (4 : Int32)), .unset, .unset, .unset] [(.int c1), (.int c0)])) rfl (by rw [hml]; rfl) (argsL := [(.int c0), (.int c1)]) (rest := []) (lenOf own_pd_28CC29Z rfl) rfl (by show 2 * 0 + _ ≤ _; exact Nat.le_of_eq rfl) (hb hby at_212) (fun _ _ => ⟨rfl, rfl, (by decide : 4 + 0 ≤ _), (by decide : 20 + 0 ≤ _)⟩)
    dsimp only [Pt.U, Pt.locs, Pt.cells, Pt.slots] at X247 l247 y247 z247 st247 hQ247
    subst l247 y247 z247
    obtain ⟨rfl, Nq247, eh247⟩ := hQ247
    have N247 := Fr.app N236 Nq247
    refine own_go st247 ?_
    show own_Rn p e below _ (T247.setTop (mkF m 215 #[.val (.long l0), .second, .val (.int i1), .val (.int i2), .val (.int i3), .val (.int (4 : Int32)), .val (.int c0), .val (.int c1), .val (.int c2), .val (.int c3), .val (.ref b216), .val (.int (4 : Int32)), .unset, .unset, .unset] [(.int (if own_isHi c0 ∧ own_isLo c1 then (1 : Int32) else 0))]))
    by_cases hA0 : own_isHi c0 ∧ own_isLo c1
    · skip
      rw [if_pos hA0]
      show own_Rn p e below _ (T247.setTop (mkF m 215 #[.val (.long l0), .second, .val (.int i1), .val (.int i2), .val (.int i3), .val (.int (4 : Int32)), .val (.int c0), .val (.int c1), .val (.int c2), .val (.int c3), .val (.ref b216), .val (.int (4 : Int32)), .unset, .unset, .unset] [(.int (1 : Int32))]))
      have hp0 : own_pr c0 c1 = 1 := if_pos hA0
      refine own_go (fun tq kq => XS.ifNo X247.here hx rfl (hb hby at_215) rfl ((if0 _ _).trans (feq ((by decide : ¬ ((1 : Int32) = (0 : Int32))) : ¬ ((1 : Int32) = (0 : Int32)))).1) kq) ?_
      show own_Rn p e below _ (T247.setTop (mkF m 218 #[.val (.long l0), .second, .val (.int i1), .val (.int i2), .val (.int i3), .val (.int (4 : Int32)), .val (.int c0), .val (.int c1), .val (.int c2), .val (.int c3), .val (.ref b216), .val (.int (4 : Int32)), .unset, .unset, .unset] []))
      refine own_go (fun tq kq => XS.iload X247.here hx rfl (hb hby at_218) rfl kq) ?_
      show own_Rn p e below _ (T247.setTop (mkF m 220 #[.val (.long l0), .second, .val (.int i1), .val (.int i2), .val (.int i3), .val (.int (4 : Int32)), .val (.int c0), .val (.int c1), .val (.int c2), .val (.int c3), .val (.ref b216), .val (.int (4 : Int32)), .unset, .unset, .unset] [(.int (4 : Int32))]))
      refine own_go (fun tq kq => XS.iconst X247.here hx rfl (hb hby at_220) kq) ?_
      show own_Rn p e below _ (T247.setTop (mkF m 221 #[.val (.long l0), .second, .val (.int i1), .val (.int i2), .val (.int i3), .val (.int (4 : Int32)), .val (.int c0), .val (.int c1), .val (.int c2), .val (.int c3), .val (.ref b216), .val (.int (4 : Int32)), .unset, .unset, .unset] [(.int (1 : Int32)), (.int (4 : Int32))]))
      refine own_go (fun tq kq => XS.isub X247.here hx rfl (hb hby at_221) rfl kq) ?_
      show own_Rn p e below _ (T247.setTop (mkF m 222 #[.val (.long l0), .second, .val (.int i1), .val (.int i2), .val (.int i3), .val (.int (4 : Int32)), .val (.int c0), .val (.int c1), .val (.int c2), .val (.int c3), .val (.ref b216), .val (.int (4 : Int32)), .unset, .unset, .unset] [(.int ((4 : Int32) - (1 : Int32)))]))
      refine own_go (fun tq kq => XS.istore X247.here hx rfl (hb hby at_222) rfl (l' := #[.val (.long l0), .second, .val (.int i1), .val (.int i2), .val (.int i3), .val (.int (4 : Int32)), .val (.int c0), .val (.int c1), .val (.int c2), .val (.int c3), .val (.ref b216), .val (.int ((4 : Int32) - (1 : Int32))), .unset, .unset, .unset]) rfl kq) ?_
      show own_Rn p e below _ (T247.setTop (mkF m 224 #[.val (.long l0), .second, .val (.int i1), .val (.int i2), .val (.int i3), .val (.int (4 : Int32)), .val (.int c0), .val (.int c1), .val (.int c2), .val (.int c3), .val (.ref b216), .val (.int ((4 : Int32) - (1 : Int32))), .unset, .unset, .unset] []))
      refine own_go (fun tq kq => XS.iload X247.here hx rfl (hb hby at_224) rfl kq) ?_
      show own_Rn p e below _ (T247.setTop (mkF m 226 #[.val (.long l0), .second, .val (.int i1), .val (.int i2), .val (.int i3), .val (.int (4 : Int32)), .val (.int c0), .val (.int c1), .val (.int c2), .val (.int c3), .val (.ref b216), .val (.int ((4 : Int32) - (1 : Int32))), .unset, .unset, .unset] [(.int (4 : Int32))]))
      refine own_go (fun tq kq => XS.iconst X247.here hx rfl (hb hby at_226) kq) ?_
      show own_Rn p e below _ (T247.setTop (mkF m 227 #[.val (.long l0), .second, .val (.int i1), .val (.int i2), .val (.int i3), .val (.int (4 : Int32)), .val (.int c0), .val (.int c1), .val (.int c2), .val (.int c3), .val (.ref b216), .val (.int ((4 : Int32) - (1 : Int32))), .unset, .unset, .unset] [(.int (3 : Int32)), (.int (4 : Int32))]))
      refine own_go (fun tq kq => XS.icmpNo X247.here hx rfl (hb hby at_227) rfl (flt (by decide : ¬ ((4 : Int32) < (3 : Int32)))).1 kq) ?_
      show own_Rn p e below _ (T247.setTop (mkF m 230 #[.val (.long l0), .second, .val (.int i1), .val (.int i2), .val (.int i3), .val (.int (4 : Int32)), .val (.int c0), .val (.int c1), .val (.int c2), .val (.int c3), .val (.ref b216), .val (.int ((4 : Int32) - (1 : Int32))), .unset, .unset, .unset] []))
      refine own_go (fun tq kq => XS.iload X247.here hx rfl (hb hby at_230) rfl kq) ?_
      show own_Rn p e below _ (T247.setTop (mkF m 232 #[.val (.long l0), .second, .val (.int i1), .val (.int i2), .val (.int i3), .val (.int (4 : Int32)), .val (.int c0), .val (.int c1), .val (.int c2), .val (.int c3), .val (.ref b216), .val (.int ((4 : Int32) - (1 : Int32))), .unset, .unset, .unset] [(.int c1)]))
      refine own_go (fun tq kq => XS.iload X247.here hx rfl (hb hby at_232) rfl kq) ?_
      show own_Rn p e below _ (T247.setTop (mkF m 234 #[.val (.long l0), .second, .val (.int i1), .val (.int i2), .val (.int i3), .val (.int (4 : Int32)), .val (.int c0), .val (.int c1), .val (.int c2), .val (.int c3), .val (.ref b216), .val (.int ((4 : Int32) - (1 : Int32))), .unset, .unset, .unset] [(.int c2), (.int c1)]))
      have Zn248 : n0 ≤ T236.heap.size := by omega
      obtain ⟨rv248, _, ⟨T248, L248, k248, n248⟩, -, X248, ⟨Lc248, hQ248, l248, y248, z248⟩, st248⟩ := Jvm.LawKit.callS X247 hx (y := (⟨"com/example/cellwise/cellwise/ChecksAtMostPinLaw", "pair", "(CC)Z"⟩ : MethodName)) hown (mvT hZ (hw _ (own_mi 32 rfl))) (mvT hZ (hw _ (own_mi 33 rfl))) (mvT hZ (hw _ (own_mi 34 rfl))) (mvT hZ (hw _ (own_mi 35 rfl))) (by decide) (backOf (W := 0) (rmPair l Z a0 hw [] (c1) (c2) T236.heap n0 Zn248 ) hZ (hw _ (own_mi 35 rfl)) (hw _ (own_mi 34 rfl)) (by decide) (by decide)) (g := (mkF m 234 #[.val (.long l0), .second, .val (.int i1), .val (.int i2), .val (.int i3), .val (.int (4 : Int32)), .val (.int c0), .val (.int c1), .val (.int c2), .val (.int c3), .val (.ref b216), .val (.int ((4 : Int32) - (1 : Int32))), .unset, .unset, .unset] [(.int c2), (.int c1)])) rfl (by rw [hml]; rfl) (argsL := [(.int c1), (.int c2)]) (rest := []) (lenOf own_pd_28CC29Z rfl) rfl (by show 2 * 0 + _ ≤ _; exact Nat.le_of_eq rfl) (hb hby at_234) (fun _ _ => ⟨rfl, eh247, (by decide : 4 + 0 ≤ _), (by decide : 20 + 0 ≤ _)⟩)
      dsimp only [Pt.U, Pt.locs, Pt.cells, Pt.slots] at X248 l248 y248 z248 st248 hQ248
      subst l248 y248 z248
      obtain ⟨rfl, Nq248, eh248⟩ := hQ248
      have N248 := Fr.app N247 Nq248
      refine own_go st248 ?_
      show own_Rn p e below _ (T248.setTop (mkF m 237 #[.val (.long l0), .second, .val (.int i1), .val (.int i2), .val (.int i3), .val (.int (4 : Int32)), .val (.int c0), .val (.int c1), .val (.int c2), .val (.int c3), .val (.ref b216), .val (.int ((4 : Int32) - (1 : Int32))), .unset, .unset, .unset] [(.int (if own_isHi c1 ∧ own_isLo c2 then (1 : Int32) else 0))]))
      by_cases hA1 : own_isHi c1 ∧ own_isLo c2
      · skip
        rw [if_pos hA1]
        show own_Rn p e below _ (T248.setTop (mkF m 237 #[.val (.long l0), .second, .val (.int i1), .val (.int i2), .val (.int i3), .val (.int (4 : Int32)), .val (.int c0), .val (.int c1), .val (.int c2), .val (.int c3), .val (.ref b216), .val (.int ((4 : Int32) - (1 : Int32))), .unset, .unset, .unset] [(.int (1 : Int32))]))
        have hp1 : own_pr c1 c2 = 1 := if_pos hA1
        refine own_go (fun tq kq => XS.ifNo X248.here hx rfl (hb hby at_237) rfl ((if0 _ _).trans (feq ((by decide : ¬ ((1 : Int32) = (0 : Int32))) : ¬ ((1 : Int32) = (0 : Int32)))).1) kq) ?_
        show own_Rn p e below _ (T248.setTop (mkF m 240 #[.val (.long l0), .second, .val (.int i1), .val (.int i2), .val (.int i3), .val (.int (4 : Int32)), .val (.int c0), .val (.int c1), .val (.int c2), .val (.int c3), .val (.ref b216), .val (.int ((4 : Int32) - (1 : Int32))), .unset, .unset, .unset] []))
        refine own_go (fun tq kq => XS.iload X248.here hx rfl (hb hby at_240) rfl kq) ?_
        show own_Rn p e below _ (T248.setTop (mkF m 242 #[.val (.long l0), .second, .val (.int i1), .val (.int i2), .val (.int i3), .val (.int (4 : Int32)), .val (.int c0), .val (.int c1), .val (.int c2), .val (.int c3), .val (.ref b216), .val (.int ((4 : Int32) - (1 : Int32))), .unset, .unset, .unset] [(.int ((4 : Int32) - (1 : Int32)))]))
        refine own_go (fun tq kq => XS.iconst X248.here hx rfl (hb hby at_242) kq) ?_
        show own_Rn p e below _ (T248.setTop (mkF m 243 #[.val (.long l0), .second, .val (.int i1), .val (.int i2), .val (.int i3), .val (.int (4 : Int32)), .val (.int c0), .val (.int c1), .val (.int c2), .val (.int c3), .val (.ref b216), .val (.int ((4 : Int32) - (1 : Int32))), .unset, .unset, .unset] [(.int (1 : Int32)), (.int ((4 : Int32) - (1 : Int32)))]))
        refine own_go (fun tq kq => XS.isub X248.here hx rfl (hb hby at_243) rfl kq) ?_
        show own_Rn p e below _ (T248.setTop (mkF m 244 #[.val (.long l0), .second, .val (.int i1), .val (.int i2), .val (.int i3), .val (.int (4 : Int32)), .val (.int c0), .val (.int c1), .val (.int c2), .val (.int c3), .val (.ref b216), .val (.int ((4 : Int32) - (1 : Int32))), .unset, .unset, .unset] [(.int (((4 : Int32) - (1 : Int32)) - (1 : Int32)))]))
        refine own_go (fun tq kq => XS.istore X248.here hx rfl (hb hby at_244) rfl (l' := #[.val (.long l0), .second, .val (.int i1), .val (.int i2), .val (.int i3), .val (.int (4 : Int32)), .val (.int c0), .val (.int c1), .val (.int c2), .val (.int c3), .val (.ref b216), .val (.int (((4 : Int32) - (1 : Int32)) - (1 : Int32))), .unset, .unset, .unset]) rfl kq) ?_
        show own_Rn p e below _ (T248.setTop (mkF m 246 #[.val (.long l0), .second, .val (.int i1), .val (.int i2), .val (.int i3), .val (.int (4 : Int32)), .val (.int c0), .val (.int c1), .val (.int c2), .val (.int c3), .val (.ref b216), .val (.int (((4 : Int32) - (1 : Int32)) - (1 : Int32))), .unset, .unset, .unset] []))
        refine own_go (fun tq kq => XS.iload X248.here hx rfl (hb hby at_246) rfl kq) ?_
        show own_Rn p e below _ (T248.setTop (mkF m 248 #[.val (.long l0), .second, .val (.int i1), .val (.int i2), .val (.int i3), .val (.int (4 : Int32)), .val (.int c0), .val (.int c1), .val (.int c2), .val (.int c3), .val (.ref b216), .val (.int (((4 : Int32) - (1 : Int32)) - (1 : Int32))), .unset, .unset, .unset] [(.int (4 : Int32))]))
        refine own_go (fun tq kq => XS.iconst X248.here hx rfl (hb hby at_248) kq) ?_
        show own_Rn p e below _ (T248.setTop (mkF m 249 #[.val (.long l0), .second, .val (.int i1), .val (.int i2), .val (.int i3), .val (.int (4 : Int32)), .val (.int c0), .val (.int c1), .val (.int c2), .val (.int c3), .val (.ref b216), .val (.int (((4 : Int32) - (1 : Int32)) - (1 : Int32))), .unset, .unset, .unset] [(.int (4 : Int32)), (.int (4 : Int32))]))
        refine own_go (fun tq kq => XS.icmpNo X248.here hx rfl (hb hby at_249) rfl (flt (by decide : ¬ ((4 : Int32) < (4 : Int32)))).1 kq) ?_
        show own_Rn p e below _ (T248.setTop (mkF m 252 #[.val (.long l0), .second, .val (.int i1), .val (.int i2), .val (.int i3), .val (.int (4 : Int32)), .val (.int c0), .val (.int c1), .val (.int c2), .val (.int c3), .val (.ref b216), .val (.int (((4 : Int32) - (1 : Int32)) - (1 : Int32))), .unset, .unset, .unset] []))
        refine own_go (fun tq kq => XS.iload X248.here hx rfl (hb hby at_252) rfl kq) ?_
        show own_Rn p e below _ (T248.setTop (mkF m 254 #[.val (.long l0), .second, .val (.int i1), .val (.int i2), .val (.int i3), .val (.int (4 : Int32)), .val (.int c0), .val (.int c1), .val (.int c2), .val (.int c3), .val (.ref b216), .val (.int (((4 : Int32) - (1 : Int32)) - (1 : Int32))), .unset, .unset, .unset] [(.int c2)]))
        refine own_go (fun tq kq => XS.iload X248.here hx rfl (hb hby at_254) rfl kq) ?_
        show own_Rn p e below _ (T248.setTop (mkF m 256 #[.val (.long l0), .second, .val (.int i1), .val (.int i2), .val (.int i3), .val (.int (4 : Int32)), .val (.int c0), .val (.int c1), .val (.int c2), .val (.int c3), .val (.ref b216), .val (.int (((4 : Int32) - (1 : Int32)) - (1 : Int32))), .unset, .unset, .unset] [(.int c3), (.int c2)]))
        have Zn249 : n0 ≤ T236.heap.size := by omega
        obtain ⟨rv249, _, ⟨T249, L249, k249, n249⟩, -, X249, ⟨Lc249, hQ249, l249, y249, z249⟩, st249⟩ := Jvm.LawKit.callS X248 hx (y := (⟨"com/example/cellwise/cellwise/ChecksAtMostPinLaw", "pair", "(CC)Z"⟩ : MethodName)) hown (mvT hZ (hw _ (own_mi 32 rfl))) (mvT hZ (hw _ (own_mi 33 rfl))) (mvT hZ (hw _ (own_mi 34 rfl))) (mvT hZ (hw _ (own_mi 35 rfl))) (by decide) (backOf (W := 0) (rmPair l Z a0 hw [] (c2) (c3) T236.heap n0 Zn249 ) hZ (hw _ (own_mi 35 rfl)) (hw _ (own_mi 34 rfl)) (by decide) (by decide)) (g := (mkF m 256 #[.val (.long l0), .second, .val (.int i1), .val (.int i2), .val (.int i3), .val (.int (4 : Int32)), .val (.int c0), .val (.int c1), .val (.int c2), .val (.int c3), .val (.ref b216), .val (.int (((4 : Int32) - (1 : Int32)) - (1 : Int32))), .unset, .unset, .unset] [(.int c3), (.int c2)])) rfl (by rw [hml]; rfl) (argsL := [(.int c2), (.int c3)]) (rest := []) (lenOf own_pd_28CC29Z rfl) rfl (by show 2 * 0 + _ ≤ _; exact Nat.le_of_eq rfl) (hb hby at_256) (fun _ _ => ⟨rfl, eh248, (by decide : 4 + 0 ≤ _), (by decide : 20 + 0 ≤ _)⟩)
        dsimp only [Pt.U, Pt.locs, Pt.cells, Pt.slots] at X249 l249 y249 z249 st249 hQ249
        subst l249 y249 z249
        obtain ⟨rfl, Nq249, eh249⟩ := hQ249
        have N249 := Fr.app N248 Nq249
        refine own_go st249 ?_
        show own_Rn p e below _ (T249.setTop (mkF m 259 #[.val (.long l0), .second, .val (.int i1), .val (.int i2), .val (.int i3), .val (.int (4 : Int32)), .val (.int c0), .val (.int c1), .val (.int c2), .val (.int c3), .val (.ref b216), .val (.int (((4 : Int32) - (1 : Int32)) - (1 : Int32))), .unset, .unset, .unset] [(.int (if own_isHi c2 ∧ own_isLo c3 then (1 : Int32) else 0))]))
        by_cases hA2 : own_isHi c2 ∧ own_isLo c3
        · skip
          rw [if_pos hA2]
          show own_Rn p e below _ (T249.setTop (mkF m 259 #[.val (.long l0), .second, .val (.int i1), .val (.int i2), .val (.int i3), .val (.int (4 : Int32)), .val (.int c0), .val (.int c1), .val (.int c2), .val (.int c3), .val (.ref b216), .val (.int (((4 : Int32) - (1 : Int32)) - (1 : Int32))), .unset, .unset, .unset] [(.int (1 : Int32))]))
          have hp2 : own_pr c2 c3 = 1 := if_pos hA2
          refine own_go (fun tq kq => XS.ifNo X249.here hx rfl (hb hby at_259) rfl ((if0 _ _).trans (feq ((by decide : ¬ ((1 : Int32) = (0 : Int32))) : ¬ ((1 : Int32) = (0 : Int32)))).1) kq) ?_
          show own_Rn p e below _ (T249.setTop (mkF m 262 #[.val (.long l0), .second, .val (.int i1), .val (.int i2), .val (.int i3), .val (.int (4 : Int32)), .val (.int c0), .val (.int c1), .val (.int c2), .val (.int c3), .val (.ref b216), .val (.int (((4 : Int32) - (1 : Int32)) - (1 : Int32))), .unset, .unset, .unset] []))
          refine own_go (fun tq kq => XS.iload X249.here hx rfl (hb hby at_262) rfl kq) ?_
          show own_Rn p e below _ (T249.setTop (mkF m 264 #[.val (.long l0), .second, .val (.int i1), .val (.int i2), .val (.int i3), .val (.int (4 : Int32)), .val (.int c0), .val (.int c1), .val (.int c2), .val (.int c3), .val (.ref b216), .val (.int (((4 : Int32) - (1 : Int32)) - (1 : Int32))), .unset, .unset, .unset] [(.int (((4 : Int32) - (1 : Int32)) - (1 : Int32)))]))
          refine own_go (fun tq kq => XS.iconst X249.here hx rfl (hb hby at_264) kq) ?_
          show own_Rn p e below _ (T249.setTop (mkF m 265 #[.val (.long l0), .second, .val (.int i1), .val (.int i2), .val (.int i3), .val (.int (4 : Int32)), .val (.int c0), .val (.int c1), .val (.int c2), .val (.int c3), .val (.ref b216), .val (.int (((4 : Int32) - (1 : Int32)) - (1 : Int32))), .unset, .unset, .unset] [(.int (1 : Int32)), (.int (((4 : Int32) - (1 : Int32)) - (1 : Int32)))]))
          refine own_go (fun tq kq => XS.isub X249.here hx rfl (hb hby at_265) rfl kq) ?_
          show own_Rn p e below _ (T249.setTop (mkF m 266 #[.val (.long l0), .second, .val (.int i1), .val (.int i2), .val (.int i3), .val (.int (4 : Int32)), .val (.int c0), .val (.int c1), .val (.int c2), .val (.int c3), .val (.ref b216), .val (.int (((4 : Int32) - (1 : Int32)) - (1 : Int32))), .unset, .unset, .unset] [(.int ((((4 : Int32) - (1 : Int32)) - (1 : Int32)) - (1 : Int32)))]))
          refine own_go (fun tq kq => XS.istore X249.here hx rfl (hb hby at_266) rfl (l' := #[.val (.long l0), .second, .val (.int i1), .val (.int i2), .val (.int i3), .val (.int (4 : Int32)), .val (.int c0), .val (.int c1), .val (.int c2), .val (.int c3), .val (.ref b216), .val (.int ((((4 : Int32) - (1 : Int32)) - (1 : Int32)) - (1 : Int32))), .unset, .unset, .unset]) rfl kq) ?_
          show own_Rn p e below _ (T249.setTop (mkF m 268 #[.val (.long l0), .second, .val (.int i1), .val (.int i2), .val (.int i3), .val (.int (4 : Int32)), .val (.int c0), .val (.int c1), .val (.int c2), .val (.int c3), .val (.ref b216), .val (.int ((((4 : Int32) - (1 : Int32)) - (1 : Int32)) - (1 : Int32))), .unset, .unset, .unset] []))
          refine own_go (fun tq kq => XS.iloadN X249.here hx rfl (hb hby at_268) rfl kq) ?_
          show own_Rn p e below _ (T249.setTop (mkF m 269 #[.val (.long l0), .second, .val (.int i1), .val (.int i2), .val (.int i3), .val (.int (4 : Int32)), .val (.int c0), .val (.int c1), .val (.int c2), .val (.int c3), .val (.ref b216), .val (.int ((((4 : Int32) - (1 : Int32)) - (1 : Int32)) - (1 : Int32))), .unset, .unset, .unset] [(.int i2)]))
          refine own_go (fun tq kq => XS.iload X249.here hx rfl (hb hby at_269) rfl kq) ?_
          show own_Rn p e below _ (T249.setTop (mkF m 271 #[.val (.long l0), .second, .val (.int i1), .val (.int i2), .val (.int i3), .val (.int (4 : Int32)), .val (.int c0), .val (.int c1), .val (.int c2), .val (.int c3), .val (.ref b216), .val (.int ((((4 : Int32) - (1 : Int32)) - (1 : Int32)) - (1 : Int32))), .unset, .unset, .unset] [(.int ((((4 : Int32) - (1 : Int32)) - (1 : Int32)) - (1 : Int32))), (.int i2)]))
          have Zn250 : n0 ≤ T236.heap.size := by omega
          obtain ⟨rv250, _, ⟨T250, L250, k250, n250⟩, -, X250, ⟨Lc250, hQ250, l250, y250, z250⟩, st250⟩ := Jvm.LawKit.callS X249 hx (y := (⟨"java/lang/Math", "max", "(II)I"⟩ : MethodName)) hown (mvT hZ (hw _ (own_mi 40 rfl))) (mvT hZ (hw _ (own_mi 41 rfl))) (mvT hZ (hw _ (own_mi 42 rfl))) (mvT hZ (hw _ (own_mi 43 rfl))) (by decide) (backOf (W := 0) (rmMax l Z a0 hw [] (i2) (((((4 : Int32) - (1 : Int32)) - (1 : Int32)) - (1 : Int32))) T236.heap n0 Zn250 ) hZ (hw _ (own_mi 43 rfl)) (hw _ (own_mi 42 rfl)) (by decide) (by decide)) (g := (mkF m 271 #[.val (.long l0), .second, .val (.int i1), .val (.int i2), .val (.int i3), .val (.int (4 : Int32)), .val (.int c0), .val (.int c1), .val (.int c2), .val (.int c3), .val (.ref b216), .val (.int ((((4 : Int32) - (1 : Int32)) - (1 : Int32)) - (1 : Int32))), .unset, .unset, .unset] [(.int ((((4 : Int32) - (1 : Int32)) - (1 : Int32)) - (1 : Int32))), (.int i2)])) rfl (by rw [hml]; rfl) (argsL := [(.int i2), (.int ((((4 : Int32) - (1 : Int32)) - (1 : Int32)) - (1 : Int32)))]) (rest := []) (lenOf own_pd_28II29I rfl) rfl (by show 2 * 0 + _ ≤ _; exact Nat.le_of_eq rfl) (hb hby at_271) (fun _ _ => ⟨rfl, eh249, (by decide : 4 + 0 ≤ _), (by decide : 20 + 0 ≤ _)⟩)
          dsimp only [Pt.U, Pt.locs, Pt.cells, Pt.slots] at X250 l250 y250 z250 st250 hQ250
          subst l250 y250 z250
          obtain ⟨bd, rfl, Nq250, eh250, R_250⟩ := hQ250
          have N250 := Fr.app N249 Nq250
          refine own_go st250 ?_
          show own_Rn p e below _ (T250.setTop (mkF m 274 #[.val (.long l0), .second, .val (.int i1), .val (.int i2), .val (.int i3), .val (.int (4 : Int32)), .val (.int c0), .val (.int c1), .val (.int c2), .val (.int c3), .val (.ref b216), .val (.int ((((4 : Int32) - (1 : Int32)) - (1 : Int32)) - (1 : Int32))), .unset, .unset, .unset] [(.int bd)]))
          refine own_go (fun tq kq => XS.istore X250.here hx rfl (hb hby at_274) rfl (l' := #[.val (.long l0), .second, .val (.int i1), .val (.int i2), .val (.int i3), .val (.int (4 : Int32)), .val (.int c0), .val (.int c1), .val (.int c2), .val (.int c3), .val (.ref b216), .val (.int ((((4 : Int32) - (1 : Int32)) - (1 : Int32)) - (1 : Int32))), .val (.int bd), .unset, .unset]) rfl kq) ?_
          show own_Rn p e below _ (T250.setTop (mkF m 276 #[.val (.long l0), .second, .val (.int i1), .val (.int i2), .val (.int i3), .val (.int (4 : Int32)), .val (.int c0), .val (.int c1), .val (.int c2), .val (.int c3), .val (.ref b216), .val (.int ((((4 : Int32) - (1 : Int32)) - (1 : Int32)) - (1 : Int32))), .val (.int bd), .unset, .unset] []))
          refine own_go (fun tq kq => XS.iload X250.here hx rfl (hb hby at_276) rfl kq) ?_
          show own_Rn p e below _ (T250.setTop (mkF m 278 #[.val (.long l0), .second, .val (.int i1), .val (.int i2), .val (.int i3), .val (.int (4 : Int32)), .val (.int c0), .val (.int c1), .val (.int c2), .val (.int c3), .val (.ref b216), .val (.int ((((4 : Int32) - (1 : Int32)) - (1 : Int32)) - (1 : Int32))), .val (.int bd), .unset, .unset] [(.int i3)]))
          refine own_go (fun tq kq => XS.sipush X250.here hx rfl (hb hby at_278) kq) ?_
          show own_Rn p e below _ (T250.setTop (mkF m 281 #[.val (.long l0), .second, .val (.int i1), .val (.int i2), .val (.int i3), .val (.int (4 : Int32)), .val (.int c0), .val (.int c1), .val (.int c2), .val (.int c3), .val (.ref b216), .val (.int ((((4 : Int32) - (1 : Int32)) - (1 : Int32)) - (1 : Int32))), .val (.int bd), .unset, .unset] [(.int (255 : Int32)), (.int i3)]))
          refine own_go (fun tq kq => XS.iand X250.here hx rfl (hb hby at_281) rfl kq) ?_
          show own_Rn p e below _ (T250.setTop (mkF m 282 #[.val (.long l0), .second, .val (.int i1), .val (.int i2), .val (.int i3), .val (.int (4 : Int32)), .val (.int c0), .val (.int c1), .val (.int c2), .val (.int c3), .val (.ref b216), .val (.int ((((4 : Int32) - (1 : Int32)) - (1 : Int32)) - (1 : Int32))), .val (.int bd), .unset, .unset] [(.int (i3 &&& (255 : Int32)))]))
          refine own_go (fun tq kq => XS.i2c X250.here hx rfl (hb hby at_282) rfl kq) ?_
          show own_Rn p e below _ (T250.setTop (mkF m 283 #[.val (.long l0), .second, .val (.int i1), .val (.int i2), .val (.int i3), .val (.int (4 : Int32)), .val (.int c0), .val (.int c1), .val (.int c2), .val (.int c3), .val (.ref b216), .val (.int ((((4 : Int32) - (1 : Int32)) - (1 : Int32)) - (1 : Int32))), .val (.int bd), .unset, .unset] [(.int ((i3 &&& (255 : Int32)).toUInt32.toUInt16.toUInt32.toInt32))]))
          obtain ⟨wc, hwc⟩ : ∃ z : Int32, z = ((i3 &&& (255 : Int32)).toUInt32.toUInt16.toUInt32.toInt32) := ⟨_, rfl⟩
          rw [← hwc]
          show own_Rn p e below _ (T250.setTop (mkF m 283 #[.val (.long l0), .second, .val (.int i1), .val (.int i2), .val (.int i3), .val (.int (4 : Int32)), .val (.int c0), .val (.int c1), .val (.int c2), .val (.int c3), .val (.ref b216), .val (.int ((((4 : Int32) - (1 : Int32)) - (1 : Int32)) - (1 : Int32))), .val (.int bd), .unset, .unset] [(.int wc)]))
          have rwc : ¬ wc < 0 ∧ ¬ (255 : Int32) < wc := by rw [hwc]; exact own_chr_rng _
          have Zn251 : n0 ≤ T236.heap.size := by omega
          have F252 : Old Z n0 T236.heap := (F241.keep Kq236 (allS gn216 all0))
          obtain ⟨rv251, _, ⟨T251, L251, k251, n251⟩, -, X251, ⟨Lc251, hQ251, l251, y251, z251⟩, st251⟩ := Jvm.LawKit.callS X250 hx (y := (⟨"java/lang/String", "valueOf", "(C)Ljava/lang/String;"⟩ : MethodName)) hown (mvT hZ (hw _ (own_mi 44 rfl))) (mvT hZ (hw _ (own_mi 45 rfl))) (mvT hZ (hw _ (own_mi 4 rfl))) (mvT hZ (hw _ (own_mi 46 rfl))) (by decide) (backOf (W := 0) (rmVal l Z a0 hw [] (wc) (G1) T236.heap n0 Zn251 (rwc) (O2) (P5) F252) hZ (hw _ (own_mi 46 rfl)) (hw _ (own_mi 4 rfl)) (by decide) (by decide)) (g := (mkF m 283 #[.val (.long l0), .second, .val (.int i1), .val (.int i2), .val (.int i3), .val (.int (4 : Int32)), .val (.int c0), .val (.int c1), .val (.int c2), .val (.int c3), .val (.ref b216), .val (.int ((((4 : Int32) - (1 : Int32)) - (1 : Int32)) - (1 : Int32))), .val (.int bd), .unset, .unset] [(.int wc)])) rfl (by rw [hml]; rfl) (argsL := [(.int wc)]) (rest := []) (lenOf own_pd_28C29Ljava2flang2fString3b rfl) rfl (by show 2 * 0 + _ ≤ _; exact Nat.le_of_eq rfl) (hb hby at_283) (fun _ _ => ⟨rfl, eh250, (by decide : 4 + 2 ≤ _), (by decide : 20 + 5 ≤ _)⟩)
          dsimp only [Pt.U, Pt.locs, Pt.cells, Pt.slots] at X251 l251 y251 z251 st251 hQ251
          subst l251 y251 z251
          obtain ⟨xw, tw, kw, rfl, Nq251, Kq251, G0_251, G1_251, G2_251, G3_251, G4_251, G5_251, G6_251, G7_251⟩ := hQ251
          have N251 := Fr.app N250 Nq251
          have sz253 : T236.heap.size ≤ T251.heap.size := Kq251.1
          have cr253 : CHr Z consts_1 s.vm T236.heap s.vm T251.heap := CHr.keep Kq251 sf0 CR244.1
          have CR253 := CR244.trans cr253
          have sf254 : Safe Z consts_1 s.vm T251.heap xw := Safe.keep Kq251 sf0 CR244.1 (Safe.new (by omega))
          have sf255 : Safe Z consts_1 s.vm T251.heap tw := Safe.keep Kq251 sf0 CR244.1 (Safe.new (by omega))
          have lt256 : @LT.lt Nat _ xw T251.heap.size := G4_251.lt
          have lt257 : @LT.lt Nat _ tw T251.heap.size := G7_251.lt
          refine own_go st251 ?_
          show own_Rn p e below _ (T251.setTop (mkF m 286 #[.val (.long l0), .second, .val (.int i1), .val (.int i2), .val (.int i3), .val (.int (4 : Int32)), .val (.int c0), .val (.int c1), .val (.int c2), .val (.int c3), .val (.ref b216), .val (.int ((((4 : Int32) - (1 : Int32)) - (1 : Int32)) - (1 : Int32))), .val (.int bd), .unset, .unset] [(.ref xw)]))
          refine own_go (fun tq kq => XS.astore X251.here hx rfl (hb hby at_286) rfl rfl (l' := #[.val (.long l0), .second, .val (.int i1), .val (.int i2), .val (.int i3), .val (.int (4 : Int32)), .val (.int c0), .val (.int c1), .val (.int c2), .val (.int c3), .val (.ref b216), .val (.int ((((4 : Int32) - (1 : Int32)) - (1 : Int32)) - (1 : Int32))), .val (.int bd), .val (.ref xw), .unset]) rfl kq) ?_
          show own_Rn p e below _ (T251.setTop (mkF m 288 #[.val (.long l0), .second, .val (.int i1), .val (.int i2), .val (.int i3), .val (.int (4 : Int32)), .val (.int c0), .val (.int c1), .val (.int c2), .val (.int c3), .val (.ref b216), .val (.int ((((4 : Int32) - (1 : Int32)) - (1 : Int32)) - (1 : Int32))), .val (.int bd), .val (.ref xw), .unset] []))
          refine own_go (fun tq kq => XS.aload X251.here hx rfl (hb hby at_288) rfl rfl kq) ?_
          show own_Rn p e below _ (T251.setTop (mkF m 290 #[.val (.long l0), .second, .val (.int i1), .val (.int i2), .val (.int i3), .val (.int (4 : Int32)), .val (.int c0), .val (.int c1), .val (.int c2), .val (.int c3), .val (.ref b216), .val (.int ((((4 : Int32) - (1 : Int32)) - (1 : Int32)) - (1 : Int32))), .val (.int bd), .val (.ref xw), .unset] [(.ref xw)]))
          refine own_go (fun tq kq => XS.iload X251.here hx rfl (hb hby at_290) rfl kq) ?_
          show own_Rn p e below _ (T251.setTop (mkF m 292 #[.val (.long l0), .second, .val (.int i1), .val (.int i2), .val (.int i3), .val (.int (4 : Int32)), .val (.int c0), .val (.int c1), .val (.int c2), .val (.int c3), .val (.ref b216), .val (.int ((((4 : Int32) - (1 : Int32)) - (1 : Int32)) - (1 : Int32))), .val (.int bd), .val (.ref xw), .unset] [(.int bd), (.ref xw)]))
          refine own_go (fun tq kq => XS.aload X251.here hx rfl (hb hby at_292) rfl rfl kq) ?_
          show own_Rn p e below _ (T251.setTop (mkF m 294 #[.val (.long l0), .second, .val (.int i1), .val (.int i2), .val (.int i3), .val (.int (4 : Int32)), .val (.int c0), .val (.int c1), .val (.int c2), .val (.int c3), .val (.ref b216), .val (.int ((((4 : Int32) - (1 : Int32)) - (1 : Int32)) - (1 : Int32))), .val (.int bd), .val (.ref xw), .unset] [(.ref b216), (.int bd), (.ref xw)]))
          have hcp : own_cp ([c0, c1, c2, c3] : List Int32) = 1 := by rw [own_cp, own_p4, hp0, hp1, hp2]; rfl
          have hmx : ¬ bd < Int32.ofNat (own_cp ([c0, c1, c2, c3] : List Int32)) := by rw [hcp]; have h := R_250; rwa [show ((((4 : Int32) - (1 : Int32)) - (1 : Int32)) - (1 : Int32)) = Int32.ofNat 1 by decide] at h
          have Zn258 : n0 ≤ T251.heap.size := by omega
          have F259 : Exa Z T251.heap b216 "java/lang/String" := ((F237.keep Kq236).keep Kq251)
          have F260 : Fld Z T251.heap b216 "java/lang/String" "value" "[B" (.ref tt) := (G2_236.keep Kq251 nin0)
          have F261 : Fld Z T251.heap b216 "java/lang/String" "coder" "B" (.int cd) := (G3_236.keep Kq251 nin0)
          have F262 : Arv Z T251.heap tt kk .byte NN vv (.int 0) := (G4_236.keep Kq251 nin0)
          have F263 : Old Z n0 T251.heap := (F252.keep Kq251 all0)
          obtain ⟨rv258, _, ⟨T258, L258, k258, n258⟩, -, X258, ⟨Lc258, hQ258, l258, y258, z258⟩, st258⟩ := Jvm.LawKit.callS X251 hx (y := (⟨"com/example/cellwise/cellwise/Checks", "atMost", "(Ljava/lang/String;ILjava/lang/String;)Ljava/lang/String;"⟩ : MethodName)) hown (mvT hZ (hw _ (own_mi 58 rfl))) (mvT hZ (hw _ (own_mi 59 rfl))) (mvT hZ (hw _ (own_mi 60 rfl))) (mvT hZ (hw _ (own_mi 61 rfl))) (by decide) (backOf (W := 0) (rmAM l Z a0 hw [] (xw) (bd) (b216) (tt) (kk) (NN) (vv) (cd) (([c0, c1, c2, c3] : List Int32)) (G1) T251.heap n0 Zn258 F259 F260 F261 F262 (RL) (by simp) (hr) (hmx) (OAD) (OHI) (OLO) (O2) (P5) F263) hZ (hw _ (own_mi 61 rfl)) (hw _ (own_mi 60 rfl)) (by decide) (by decide)) (g := (mkF m 294 #[.val (.long l0), .second, .val (.int i1), .val (.int i2), .val (.int i3), .val (.int (4 : Int32)), .val (.int c0), .val (.int c1), .val (.int c2), .val (.int c3), .val (.ref b216), .val (.int ((((4 : Int32) - (1 : Int32)) - (1 : Int32)) - (1 : Int32))), .val (.int bd), .val (.ref xw), .unset] [(.ref b216), (.int bd), (.ref xw)])) rfl (by rw [hml]; rfl) (argsL := [(.ref xw), (.int bd), (.ref b216)]) (rest := []) (lenOf own_pd_28Ljava2flang2fString3bILjava2flang2fString3b29Ljava2flang2fString3b rfl) rfl (by show 2 * 0 + _ ≤ _; exact Nat.le_of_eq rfl) (hb hby at_294) (fun _ _ => ⟨rfl, rfl, (by decide : 6 + 0 ≤ _), (by decide : 25 + 0 ≤ _)⟩)
          dsimp only [Pt.U, Pt.locs, Pt.cells, Pt.slots] at X258 l258 y258 z258 st258 hQ258
          subst l258 y258 z258
          obtain ⟨rfl, Nq258, eh258⟩ := hQ258
          have N258 := Fr.app N251 Nq258
          refine own_go st258 ?_
          show own_Rn p e below _ (T258.setTop (mkF m 297 #[.val (.long l0), .second, .val (.int i1), .val (.int i2), .val (.int i3), .val (.int (4 : Int32)), .val (.int c0), .val (.int c1), .val (.int c2), .val (.int c3), .val (.ref b216), .val (.int ((((4 : Int32) - (1 : Int32)) - (1 : Int32)) - (1 : Int32))), .val (.int bd), .val (.ref xw), .unset] [(.ref b216)]))
          refine own_go (fun tq kq => XS.astore X258.here hx rfl (hb hby at_297) rfl rfl (l' := #[.val (.long l0), .second, .val (.int i1), .val (.int i2), .val (.int i3), .val (.int (4 : Int32)), .val (.int c0), .val (.int c1), .val (.int c2), .val (.int c3), .val (.ref b216), .val (.int ((((4 : Int32) - (1 : Int32)) - (1 : Int32)) - (1 : Int32))), .val (.int bd), .val (.ref xw), .val (.ref b216)]) rfl kq) ?_
          show own_Rn p e below _ (T258.setTop (mkF m 299 #[.val (.long l0), .second, .val (.int i1), .val (.int i2), .val (.int i3), .val (.int (4 : Int32)), .val (.int c0), .val (.int c1), .val (.int c2), .val (.int c3), .val (.ref b216), .val (.int ((((4 : Int32) - (1 : Int32)) - (1 : Int32)) - (1 : Int32))), .val (.int bd), .val (.ref xw), .val (.ref b216)] []))
          refine own_go (fun tq kq => XS.aload X258.here hx rfl (hb hby at_299) rfl rfl kq) ?_
          show own_Rn p e below _ (T258.setTop (mkF m 301 #[.val (.long l0), .second, .val (.int i1), .val (.int i2), .val (.int i3), .val (.int (4 : Int32)), .val (.int c0), .val (.int c1), .val (.int c2), .val (.int c3), .val (.ref b216), .val (.int ((((4 : Int32) - (1 : Int32)) - (1 : Int32)) - (1 : Int32))), .val (.int bd), .val (.ref xw), .val (.ref b216)] [(.ref b216)]))
          refine own_go (fun tq kq => XS.ifnullNo X258.here hx rfl (hb hby at_301) rfl kq) ?_
          show own_Rn p e below _ (T258.setTop (mkF m 304 #[.val (.long l0), .second, .val (.int i1), .val (.int i2), .val (.int i3), .val (.int (4 : Int32)), .val (.int c0), .val (.int c1), .val (.int c2), .val (.int c3), .val (.ref b216), .val (.int ((((4 : Int32) - (1 : Int32)) - (1 : Int32)) - (1 : Int32))), .val (.int bd), .val (.ref xw), .val (.ref b216)] []))
          refine own_go (fun tq kq => XS.aload X258.here hx rfl (hb hby at_304) rfl rfl kq) ?_
          show own_Rn p e below _ (T258.setTop (mkF m 306 #[.val (.long l0), .second, .val (.int i1), .val (.int i2), .val (.int i3), .val (.int (4 : Int32)), .val (.int c0), .val (.int c1), .val (.int c2), .val (.int c3), .val (.ref b216), .val (.int ((((4 : Int32) - (1 : Int32)) - (1 : Int32)) - (1 : Int32))), .val (.int bd), .val (.ref xw), .val (.ref b216)] [(.ref b216)]))
          refine own_go (fun tq kq => XS.aload X258.here hx rfl (hb hby at_306) rfl rfl kq) ?_
          show own_Rn p e below _ (T258.setTop (mkF m 308 #[.val (.long l0), .second, .val (.int i1), .val (.int i2), .val (.int i3), .val (.int (4 : Int32)), .val (.int c0), .val (.int c1), .val (.int c2), .val (.int c3), .val (.ref b216), .val (.int ((((4 : Int32) - (1 : Int32)) - (1 : Int32)) - (1 : Int32))), .val (.int bd), .val (.ref xw), .val (.ref b216)] [(.ref b216), (.ref b216)]))
          have Zn264 : n0 ≤ T251.heap.size := by omega
          obtain ⟨cq264, kq264, qa264, qb264, qc264⟩ := isOf hZ eh258 F259
          obtain ⟨rv264, _, ⟨T264, L264, k264, n264⟩, -, X264, ⟨Lc264, hQ264, l264, y264, z264⟩, st264⟩ := X258.virtualBack hx (y := (⟨"java/lang/String", "equals", "(Ljava/lang/Object;)Z"⟩ : MethodName)) (z := (⟨"java/lang/String", "equals", "(Ljava/lang/Object;)Z"⟩ : MethodName)) hown (mvT hZ (hw _ (own_mi 91 rfl))) (mvT hZ (hw _ (own_mi 92 rfl))) (notFace_of_selects (args := #[]) (mvT hZ (hw _ (own_mi 94 rfl)))) (mvT hZ (hw _ (own_mi 94 rfl))) (mvT hZ (hw _ (own_mi 93 rfl))) (by decide) (backOf (W := 0) (rmEqS l Z a0 hw [] (b216) T251.heap n0 Zn264 ) hZ (hw _ (own_mi 95 rfl)) (hw _ (own_mi 4 rfl)) (by decide) (by decide)) qa264 qc264 (g := (mkF m 308 #[.val (.long l0), .second, .val (.int i1), .val (.int i2), .val (.int i3), .val (.int (4 : Int32)), .val (.int c0), .val (.int c1), .val (.int c2), .val (.int c3), .val (.ref b216), .val (.int ((((4 : Int32) - (1 : Int32)) - (1 : Int32)) - (1 : Int32))), .val (.int bd), .val (.ref xw), .val (.ref b216)] [(.ref b216), (.ref b216)])) rfl (by rw [hml]; rfl) (Steps.refl _) (argsL := [(.ref b216)]) (rest := []) (lenOf own_pd_28Ljava2flang2fObject3b29Z rfl) rfl (by show 2 * 0 + _ ≤ _; exact Nat.le_of_eq rfl) (hb hby at_308) (fun _ _ => ⟨rfl, eh258, (by decide : 6 + 0 ≤ _), (by decide : 25 + 0 ≤ _)⟩)
          dsimp only [Pt.U, Pt.locs, Pt.cells, Pt.slots] at X264 l264 y264 z264 st264 hQ264
          subst l264 y264 z264
          obtain ⟨rfl, Nq264, eh264⟩ := hQ264
          have N264 := Fr.app N258 Nq264
          refine own_go (fun tq kq => st264.trans kq) ?_
          show own_Rn p e below _ (T264.setTop (mkF m 311 #[.val (.long l0), .second, .val (.int i1), .val (.int i2), .val (.int i3), .val (.int (4 : Int32)), .val (.int c0), .val (.int c1), .val (.int c2), .val (.int c3), .val (.ref b216), .val (.int ((((4 : Int32) - (1 : Int32)) - (1 : Int32)) - (1 : Int32))), .val (.int bd), .val (.ref xw), .val (.ref b216)] [(.int (1 : Int32))]))
          refine own_go (fun tq kq => XS.ifNo X264.here hx rfl (hb hby at_311) rfl ((if0 _ _).trans (feq ((by decide : ¬ ((1 : Int32) = (0 : Int32))) : ¬ ((1 : Int32) = (0 : Int32)))).1) kq) ?_
          show own_Rn p e below _ (T264.setTop (mkF m 314 #[.val (.long l0), .second, .val (.int i1), .val (.int i2), .val (.int i3), .val (.int (4 : Int32)), .val (.int c0), .val (.int c1), .val (.int c2), .val (.int c3), .val (.ref b216), .val (.int ((((4 : Int32) - (1 : Int32)) - (1 : Int32)) - (1 : Int32))), .val (.int bd), .val (.ref xw), .val (.ref b216)] []))
          refine own_go (fun tq kq => XS.iconst X264.here hx rfl (hb hby at_314) kq) ?_
          show own_Rn p e below _ (T264.setTop (mkF m 315 #[.val (.long l0), .second, .val (.int i1), .val (.int i2), .val (.int i3), .val (.int (4 : Int32)), .val (.int c0), .val (.int c1), .val (.int c2), .val (.int c3), .val (.ref b216), .val (.int ((((4 : Int32) - (1 : Int32)) - (1 : Int32)) - (1 : Int32))), .val (.int bd), .val (.ref xw), .val (.ref b216)] [(.int (1 : Int32))]))
          refine own_go (fun tq kq => XS.goto X264.here hx rfl (pc0 := 315) (pc' := 319) rfl (hb hby at_315) (by decide) (by decide) kq) ?_
          show own_Rn p e below _ (T264.setTop (mkF m 319 #[.val (.long l0), .second, .val (.int i1), .val (.int i2), .val (.int i3), .val (.int (4 : Int32)), .val (.int c0), .val (.int c1), .val (.int c2), .val (.int c3), .val (.ref b216), .val (.int ((((4 : Int32) - (1 : Int32)) - (1 : Int32)) - (1 : Int32))), .val (.int bd), .val (.ref xw), .val (.ref b216)] [(.int (1 : Int32))]))
          exact own_retS X264 hS0 (by rw [eh264]; omega) (v := some (.int (nar .boolean (1 : Int32)))) (fun h => by rw [Bd.returns] at h; cases h) (fun fs hr => retN X264 hx (t := .boolean) Bd.returns (by simp) (hb hby at_319) hr) (by rw [eh264]; exact ⟨rfl, N264⟩) (by rw [hh, eh264]; exact CR253.trans (CHv.at X264 hZ hEL CR253.1)) (by decide) (by decide)
        · skip
          rw [if_neg hA2]
          show own_Rn p e below _ (T249.setTop (mkF m 259 #[.val (.long l0), .second, .val (.int i1), .val (.int i2), .val (.int i3), .val (.int (4 : Int32)), .val (.int c0), .val (.int c1), .val (.int c2), .val (.int c3), .val (.ref b216), .val (.int (((4 : Int32) - (1 : Int32)) - (1 : Int32))), .unset, .unset, .unset] [(.int (0 : Int32))]))
          have hp2 : own_pr c2 c3 = 0 := if_neg hA2
          refine own_go (fun tq kq => XS.ifYes X249.here hx rfl (pc0 := 259) (pc' := 268) rfl (hb hby at_259) rfl ((if0 _ _).trans (teq ((by decide : (0 : Int32) = (0 : Int32)) : (0 : Int32) = (0 : Int32))).1) (by decide) (by decide) kq) ?_
          show own_Rn p e below _ (T249.setTop (mkF m 268 #[.val (.long l0), .second, .val (.int i1), .val (.int i2), .val (.int i3), .val (.int (4 : Int32)), .val (.int c0), .val (.int c1), .val (.int c2), .val (.int c3), .val (.ref b216), .val (.int (((4 : Int32) - (1 : Int32)) - (1 : Int32))), .unset, .unset, .unset] []))
          refine own_go (fun tq kq => XS.iloadN X249.here hx rfl (hb hby at_268) rfl kq) ?_
          show own_Rn p e below _ (T249.setTop (mkF m 269 #[.val (.long l0), .second, .val (.int i1), .val (.int i2), .val (.int i3), .val (.int (4 : Int32)), .val (.int c0), .val (.int c1), .val (.int c2), .val (.int c3), .val (.ref b216), .val (.int (((4 : Int32) - (1 : Int32)) - (1 : Int32))), .unset, .unset, .unset] [(.int i2)]))
          refine own_go (fun tq kq => XS.iload X249.here hx rfl (hb hby at_269) rfl kq) ?_
          show own_Rn p e below _ (T249.setTop (mkF m 271 #[.val (.long l0), .second, .val (.int i1), .val (.int i2), .val (.int i3), .val (.int (4 : Int32)), .val (.int c0), .val (.int c1), .val (.int c2), .val (.int c3), .val (.ref b216), .val (.int (((4 : Int32) - (1 : Int32)) - (1 : Int32))), .unset, .unset, .unset] [(.int (((4 : Int32) - (1 : Int32)) - (1 : Int32))), (.int i2)]))
          have Zn265 : n0 ≤ T236.heap.size := by omega
          obtain ⟨rv265, _, ⟨T265, L265, k265, n265⟩, -, X265, ⟨Lc265, hQ265, l265, y265, z265⟩, st265⟩ := Jvm.LawKit.callS X249 hx (y := (⟨"java/lang/Math", "max", "(II)I"⟩ : MethodName)) hown (mvT hZ (hw _ (own_mi 40 rfl))) (mvT hZ (hw _ (own_mi 41 rfl))) (mvT hZ (hw _ (own_mi 42 rfl))) (mvT hZ (hw _ (own_mi 43 rfl))) (by decide) (backOf (W := 0) (rmMax l Z a0 hw [] (i2) ((((4 : Int32) - (1 : Int32)) - (1 : Int32))) T236.heap n0 Zn265 ) hZ (hw _ (own_mi 43 rfl)) (hw _ (own_mi 42 rfl)) (by decide) (by decide)) (g := (mkF m 271 #[.val (.long l0), .second, .val (.int i1), .val (.int i2), .val (.int i3), .val (.int (4 : Int32)), .val (.int c0), .val (.int c1), .val (.int c2), .val (.int c3), .val (.ref b216), .val (.int (((4 : Int32) - (1 : Int32)) - (1 : Int32))), .unset, .unset, .unset] [(.int (((4 : Int32) - (1 : Int32)) - (1 : Int32))), (.int i2)])) rfl (by rw [hml]; rfl) (argsL := [(.int i2), (.int (((4 : Int32) - (1 : Int32)) - (1 : Int32)))]) (rest := []) (lenOf own_pd_28II29I rfl) rfl (by show 2 * 0 + _ ≤ _; exact Nat.le_of_eq rfl) (hb hby at_271) (fun _ _ => ⟨rfl, eh249, (by decide : 4 + 0 ≤ _), (by decide : 20 + 0 ≤ _)⟩)
          dsimp only [Pt.U, Pt.locs, Pt.cells, Pt.slots] at X265 l265 y265 z265 st265 hQ265
          subst l265 y265 z265
          obtain ⟨bd, rfl, Nq265, eh265, R_265⟩ := hQ265
          have N265 := Fr.app N249 Nq265
          refine own_go st265 ?_
          show own_Rn p e below _ (T265.setTop (mkF m 274 #[.val (.long l0), .second, .val (.int i1), .val (.int i2), .val (.int i3), .val (.int (4 : Int32)), .val (.int c0), .val (.int c1), .val (.int c2), .val (.int c3), .val (.ref b216), .val (.int (((4 : Int32) - (1 : Int32)) - (1 : Int32))), .unset, .unset, .unset] [(.int bd)]))
          refine own_go (fun tq kq => XS.istore X265.here hx rfl (hb hby at_274) rfl (l' := #[.val (.long l0), .second, .val (.int i1), .val (.int i2), .val (.int i3), .val (.int (4 : Int32)), .val (.int c0), .val (.int c1), .val (.int c2), .val (.int c3), .val (.ref b216), .val (.int (((4 : Int32) - (1 : Int32)) - (1 : Int32))), .val (.int bd), .unset, .unset]) rfl kq) ?_
          show own_Rn p e below _ (T265.setTop (mkF m 276 #[.val (.long l0), .second, .val (.int i1), .val (.int i2), .val (.int i3), .val (.int (4 : Int32)), .val (.int c0), .val (.int c1), .val (.int c2), .val (.int c3), .val (.ref b216), .val (.int (((4 : Int32) - (1 : Int32)) - (1 : Int32))), .val (.int bd), .unset, .unset] []))
          refine own_go (fun tq kq => XS.iload X265.here hx rfl (hb hby at_276) rfl kq) ?_
          show own_Rn p e below _ (T265.setTop (mkF m 278 #[.val (.long l0), .second, .val (.int i1), .val (.int i2), .val (.int i3), .val (.int (4 : Int32)), .val (.int c0), .val (.int c1), .val (.int c2), .val (.int c3), .val (.ref b216), .val (.int (((4 : Int32) - (1 : Int32)) - (1 : Int32))), .val (.int bd), .unset, .unset] [(.int i3)]))
          refine own_go (fun tq kq => XS.sipush X265.here hx rfl (hb hby at_278) kq) ?_
          show own_Rn p e below _ (T265.setTop (mkF m 281 #[.val (.long l0), .second, .val (.int i1), .val (.int i2), .val (.int i3), .val (.int (4 : Int32)), .val (.int c0), .val (.int c1), .val (.int c2), .val (.int c3), .val (.ref b216), .val (.int (((4 : Int32) - (1 : Int32)) - (1 : Int32))), .val (.int bd), .unset, .unset] [(.int (255 : Int32)), (.int i3)]))
          refine own_go (fun tq kq => XS.iand X265.here hx rfl (hb hby at_281) rfl kq) ?_
          show own_Rn p e below _ (T265.setTop (mkF m 282 #[.val (.long l0), .second, .val (.int i1), .val (.int i2), .val (.int i3), .val (.int (4 : Int32)), .val (.int c0), .val (.int c1), .val (.int c2), .val (.int c3), .val (.ref b216), .val (.int (((4 : Int32) - (1 : Int32)) - (1 : Int32))), .val (.int bd), .unset, .unset] [(.int (i3 &&& (255 : Int32)))]))
          refine own_go (fun tq kq => XS.i2c X265.here hx rfl (hb hby at_282) rfl kq) ?_
          show own_Rn p e below _ (T265.setTop (mkF m 283 #[.val (.long l0), .second, .val (.int i1), .val (.int i2), .val (.int i3), .val (.int (4 : Int32)), .val (.int c0), .val (.int c1), .val (.int c2), .val (.int c3), .val (.ref b216), .val (.int (((4 : Int32) - (1 : Int32)) - (1 : Int32))), .val (.int bd), .unset, .unset] [(.int ((i3 &&& (255 : Int32)).toUInt32.toUInt16.toUInt32.toInt32))]))
          obtain ⟨wc, hwc⟩ : ∃ z : Int32, z = ((i3 &&& (255 : Int32)).toUInt32.toUInt16.toUInt32.toInt32) := ⟨_, rfl⟩
          rw [← hwc]
          show own_Rn p e below _ (T265.setTop (mkF m 283 #[.val (.long l0), .second, .val (.int i1), .val (.int i2), .val (.int i3), .val (.int (4 : Int32)), .val (.int c0), .val (.int c1), .val (.int c2), .val (.int c3), .val (.ref b216), .val (.int (((4 : Int32) - (1 : Int32)) - (1 : Int32))), .val (.int bd), .unset, .unset] [(.int wc)]))
          have rwc : ¬ wc < 0 ∧ ¬ (255 : Int32) < wc := by rw [hwc]; exact own_chr_rng _
          have Zn266 : n0 ≤ T236.heap.size := by omega
          have F267 : Old Z n0 T236.heap := (F241.keep Kq236 (allS gn216 all0))
          obtain ⟨rv266, _, ⟨T266, L266, k266, n266⟩, -, X266, ⟨Lc266, hQ266, l266, y266, z266⟩, st266⟩ := Jvm.LawKit.callS X265 hx (y := (⟨"java/lang/String", "valueOf", "(C)Ljava/lang/String;"⟩ : MethodName)) hown (mvT hZ (hw _ (own_mi 44 rfl))) (mvT hZ (hw _ (own_mi 45 rfl))) (mvT hZ (hw _ (own_mi 4 rfl))) (mvT hZ (hw _ (own_mi 46 rfl))) (by decide) (backOf (W := 0) (rmVal l Z a0 hw [] (wc) (G1) T236.heap n0 Zn266 (rwc) (O2) (P5) F267) hZ (hw _ (own_mi 46 rfl)) (hw _ (own_mi 4 rfl)) (by decide) (by decide)) (g := (mkF m 283 #[.val (.long l0), .second, .val (.int i1), .val (.int i2), .val (.int i3), .val (.int (4 : Int32)), .val (.int c0), .val (.int c1), .val (.int c2), .val (.int c3), .val (.ref b216), .val (.int (((4 : Int32) - (1 : Int32)) - (1 : Int32))), .val (.int bd), .unset, .unset] [(.int wc)])) rfl (by rw [hml]; rfl) (argsL := [(.int wc)]) (rest := []) (lenOf own_pd_28C29Ljava2flang2fString3b rfl) rfl (by show 2 * 0 + _ ≤ _; exact Nat.le_of_eq rfl) (hb hby at_283) (fun _ _ => ⟨rfl, eh265, (by decide : 4 + 2 ≤ _), (by decide : 20 + 5 ≤ _)⟩)
          dsimp only [Pt.U, Pt.locs, Pt.cells, Pt.slots] at X266 l266 y266 z266 st266 hQ266
          subst l266 y266 z266
          obtain ⟨xw, tw, kw, rfl, Nq266, Kq266, G0_266, G1_266, G2_266, G3_266, G4_266, G5_266, G6_266, G7_266⟩ := hQ266
          have N266 := Fr.app N265 Nq266
          have sz268 : T236.heap.size ≤ T266.heap.size := Kq266.1
          have cr268 : CHr Z consts_1 s.vm T236.heap s.vm T266.heap := CHr.keep Kq266 sf0 CR244.1
          have CR268 := CR244.trans cr268
          have sf269 : Safe Z consts_1 s.vm T266.heap xw := Safe.keep Kq266 sf0 CR244.1 (Safe.new (by omega))
          have sf270 : Safe Z consts_1 s.vm T266.heap tw := Safe.keep Kq266 sf0 CR244.1 (Safe.new (by omega))
          have lt271 : @LT.lt Nat _ xw T266.heap.size := G4_266.lt
          have lt272 : @LT.lt Nat _ tw T266.heap.size := G7_266.lt
          refine own_go st266 ?_
          show own_Rn p e below _ (T266.setTop (mkF m 286 #[.val (.long l0), .second, .val (.int i1), .val (.int i2), .val (.int i3), .val (.int (4 : Int32)), .val (.int c0), .val (.int c1), .val (.int c2), .val (.int c3), .val (.ref b216), .val (.int (((4 : Int32) - (1 : Int32)) - (1 : Int32))), .val (.int bd), .unset, .unset] [(.ref xw)]))
          refine own_go (fun tq kq => XS.astore X266.here hx rfl (hb hby at_286) rfl rfl (l' := #[.val (.long l0), .second, .val (.int i1), .val (.int i2), .val (.int i3), .val (.int (4 : Int32)), .val (.int c0), .val (.int c1), .val (.int c2), .val (.int c3), .val (.ref b216), .val (.int (((4 : Int32) - (1 : Int32)) - (1 : Int32))), .val (.int bd), .val (.ref xw), .unset]) rfl kq) ?_
          show own_Rn p e below _ (T266.setTop (mkF m 288 #[.val (.long l0), .second, .val (.int i1), .val (.int i2), .val (.int i3), .val (.int (4 : Int32)), .val (.int c0), .val (.int c1), .val (.int c2), .val (.int c3), .val (.ref b216), .val (.int (((4 : Int32) - (1 : Int32)) - (1 : Int32))), .val (.int bd), .val (.ref xw), .unset] []))
          refine own_go (fun tq kq => XS.aload X266.here hx rfl (hb hby at_288) rfl rfl kq) ?_
          show own_Rn p e below _ (T266.setTop (mkF m 290 #[.val (.long l0), .second, .val (.int i1), .val (.int i2), .val (.int i3), .val (.int (4 : Int32)), .val (.int c0), .val (.int c1), .val (.int c2), .val (.int c3), .val (.ref b216), .val (.int (((4 : Int32) - (1 : Int32)) - (1 : Int32))), .val (.int bd), .val (.ref xw), .unset] [(.ref xw)]))
          refine own_go (fun tq kq => XS.iload X266.here hx rfl (hb hby at_290) rfl kq) ?_
          show own_Rn p e below _ (T266.setTop (mkF m 292 #[.val (.long l0), .second, .val (.int i1), .val (.int i2), .val (.int i3), .val (.int (4 : Int32)), .val (.int c0), .val (.int c1), .val (.int c2), .val (.int c3), .val (.ref b216), .val (.int (((4 : Int32) - (1 : Int32)) - (1 : Int32))), .val (.int bd), .val (.ref xw), .unset] [(.int bd), (.ref xw)]))
          refine own_go (fun tq kq => XS.aload X266.here hx rfl (hb hby at_292) rfl rfl kq) ?_
          show own_Rn p e below _ (T266.setTop (mkF m 294 #[.val (.long l0), .second, .val (.int i1), .val (.int i2), .val (.int i3), .val (.int (4 : Int32)), .val (.int c0), .val (.int c1), .val (.int c2), .val (.int c3), .val (.ref b216), .val (.int (((4 : Int32) - (1 : Int32)) - (1 : Int32))), .val (.int bd), .val (.ref xw), .unset] [(.ref b216), (.int bd), (.ref xw)]))
          have hcp : own_cp ([c0, c1, c2, c3] : List Int32) = 2 := by rw [own_cp, own_p4, hp0, hp1, hp2]; rfl
          have hmx : ¬ bd < Int32.ofNat (own_cp ([c0, c1, c2, c3] : List Int32)) := by rw [hcp]; have h := R_265; rwa [show (((4 : Int32) - (1 : Int32)) - (1 : Int32)) = Int32.ofNat 2 by decide] at h
          have Zn273 : n0 ≤ T266.heap.size := by omega
          have F274 : Exa Z T266.heap b216 "java/lang/String" := ((F237.keep Kq236).keep Kq266)
          have F275 : Fld Z T266.heap b216 "java/lang/String" "value" "[B" (.ref tt) := (G2_236.keep Kq266 nin0)
          have F276 : Fld Z T266.heap b216 "java/lang/String" "coder" "B" (.int cd) := (G3_236.keep Kq266 nin0)
          have F277 : Arv Z T266.heap tt kk .byte NN vv (.int 0) := (G4_236.keep Kq266 nin0)
          have F278 : Old Z n0 T266.heap := (F267.keep Kq266 all0)
          obtain ⟨rv273, _, ⟨T273, L273, k273, n273⟩, -, X273, ⟨Lc273, hQ273, l273, y273, z273⟩, st273⟩ := Jvm.LawKit.callS X266 hx (y := (⟨"com/example/cellwise/cellwise/Checks", "atMost", "(Ljava/lang/String;ILjava/lang/String;)Ljava/lang/String;"⟩ : MethodName)) hown (mvT hZ (hw _ (own_mi 58 rfl))) (mvT hZ (hw _ (own_mi 59 rfl))) (mvT hZ (hw _ (own_mi 60 rfl))) (mvT hZ (hw _ (own_mi 61 rfl))) (by decide) (backOf (W := 0) (rmAM l Z a0 hw [] (xw) (bd) (b216) (tt) (kk) (NN) (vv) (cd) (([c0, c1, c2, c3] : List Int32)) (G1) T266.heap n0 Zn273 F274 F275 F276 F277 (RL) (by simp) (hr) (hmx) (OAD) (OHI) (OLO) (O2) (P5) F278) hZ (hw _ (own_mi 61 rfl)) (hw _ (own_mi 60 rfl)) (by decide) (by decide)) (g := (mkF m 294 #[.val (.long l0), .second, .val (.int i1), .val (.int i2), .val (.int i3), .val (.int (4 : Int32)), .val (.int c0), .val (.int c1), .val (.int c2), .val (.int c3), .val (.ref b216), .val (.int (((4 : Int32) - (1 : Int32)) - (1 : Int32))), .val (.int bd), .val (.ref xw), .unset] [(.ref b216), (.int bd), (.ref xw)])) rfl (by rw [hml]; rfl) (argsL := [(.ref xw), (.int bd), (.ref b216)]) (rest := []) (lenOf own_pd_28Ljava2flang2fString3bILjava2flang2fString3b29Ljava2flang2fString3b rfl) rfl (by show 2 * 0 + _ ≤ _; exact Nat.le_of_eq rfl) (hb hby at_294) (fun _ _ => ⟨rfl, rfl, (by decide : 6 + 0 ≤ _), (by decide : 25 + 0 ≤ _)⟩)
          dsimp only [Pt.U, Pt.locs, Pt.cells, Pt.slots] at X273 l273 y273 z273 st273 hQ273
          subst l273 y273 z273
          obtain ⟨rfl, Nq273, eh273⟩ := hQ273
          have N273 := Fr.app N266 Nq273
          refine own_go st273 ?_
          show own_Rn p e below _ (T273.setTop (mkF m 297 #[.val (.long l0), .second, .val (.int i1), .val (.int i2), .val (.int i3), .val (.int (4 : Int32)), .val (.int c0), .val (.int c1), .val (.int c2), .val (.int c3), .val (.ref b216), .val (.int (((4 : Int32) - (1 : Int32)) - (1 : Int32))), .val (.int bd), .val (.ref xw), .unset] [(.ref b216)]))
          refine own_go (fun tq kq => XS.astore X273.here hx rfl (hb hby at_297) rfl rfl (l' := #[.val (.long l0), .second, .val (.int i1), .val (.int i2), .val (.int i3), .val (.int (4 : Int32)), .val (.int c0), .val (.int c1), .val (.int c2), .val (.int c3), .val (.ref b216), .val (.int (((4 : Int32) - (1 : Int32)) - (1 : Int32))), .val (.int bd), .val (.ref xw), .val (.ref b216)]) rfl kq) ?_
          show own_Rn p e below _ (T273.setTop (mkF m 299 #[.val (.long l0), .second, .val (.int i1), .val (.int i2), .val (.int i3), .val (.int (4 : Int32)), .val (.int c0), .val (.int c1), .val (.int c2), .val (.int c3), .val (.ref b216), .val (.int (((4 : Int32) - (1 : Int32)) - (1 : Int32))), .val (.int bd), .val (.ref xw), .val (.ref b216)] []))
          refine own_go (fun tq kq => XS.aload X273.here hx rfl (hb hby at_299) rfl rfl kq) ?_
          show own_Rn p e below _ (T273.setTop (mkF m 301 #[.val (.long l0), .second, .val (.int i1), .val (.int i2), .val (.int i3), .val (.int (4 : Int32)), .val (.int c0), .val (.int c1), .val (.int c2), .val (.int c3), .val (.ref b216), .val (.int (((4 : Int32) - (1 : Int32)) - (1 : Int32))), .val (.int bd), .val (.ref xw), .val (.ref b216)] [(.ref b216)]))
          refine own_go (fun tq kq => XS.ifnullNo X273.here hx rfl (hb hby at_301) rfl kq) ?_
          show own_Rn p e below _ (T273.setTop (mkF m 304 #[.val (.long l0), .second, .val (.int i1), .val (.int i2), .val (.int i3), .val (.int (4 : Int32)), .val (.int c0), .val (.int c1), .val (.int c2), .val (.int c3), .val (.ref b216), .val (.int (((4 : Int32) - (1 : Int32)) - (1 : Int32))), .val (.int bd), .val (.ref xw), .val (.ref b216)] []))
          refine own_go (fun tq kq => XS.aload X273.here hx rfl (hb hby at_304) rfl rfl kq) ?_
          show own_Rn p e below _ (T273.setTop (mkF m 306 #[.val (.long l0), .second, .val (.int i1), .val (.int i2), .val (.int i3), .val (.int (4 : Int32)), .val (.int c0), .val (.int c1), .val (.int c2), .val (.int c3), .val (.ref b216), .val (.int (((4 : Int32) - (1 : Int32)) - (1 : Int32))), .val (.int bd), .val (.ref xw), .val (.ref b216)] [(.ref b216)]))
          refine own_go (fun tq kq => XS.aload X273.here hx rfl (hb hby at_306) rfl rfl kq) ?_
          show own_Rn p e below _ (T273.setTop (mkF m 308 #[.val (.long l0), .second, .val (.int i1), .val (.int i2), .val (.int i3), .val (.int (4 : Int32)), .val (.int c0), .val (.int c1), .val (.int c2), .val (.int c3), .val (.ref b216), .val (.int (((4 : Int32) - (1 : Int32)) - (1 : Int32))), .val (.int bd), .val (.ref xw), .val (.ref b216)] [(.ref b216), (.ref b216)]))
          have Zn279 : n0 ≤ T266.heap.size := by omega
          obtain ⟨cq279, kq279, qa279, qb279, qc279⟩ := isOf hZ eh273 F274
          obtain ⟨rv279, _, ⟨T279, L279, k279, n279⟩, -, X279, ⟨Lc279, hQ279, l279, y279, z279⟩, st279⟩ := X273.virtualBack hx (y := (⟨"java/lang/String", "equals", "(Ljava/lang/Object;)Z"⟩ : MethodName)) (z := (⟨"java/lang/String", "equals", "(Ljava/lang/Object;)Z"⟩ : MethodName)) hown (mvT hZ (hw _ (own_mi 91 rfl))) (mvT hZ (hw _ (own_mi 92 rfl))) (notFace_of_selects (args := #[]) (mvT hZ (hw _ (own_mi 94 rfl)))) (mvT hZ (hw _ (own_mi 94 rfl))) (mvT hZ (hw _ (own_mi 93 rfl))) (by decide) (backOf (W := 0) (rmEqS l Z a0 hw [] (b216) T266.heap n0 Zn279 ) hZ (hw _ (own_mi 95 rfl)) (hw _ (own_mi 4 rfl)) (by decide) (by decide)) qa279 qc279 (g := (mkF m 308 #[.val (.long l0), .second, .val (.int i1), .val (.int i2), .val (.int i3), .val (.int (4 : Int32)), .val (.int c0), .val (.int c1), .val (.int c2), .val (.int c3), .val (.ref b216), .val (.int (((4 : Int32) - (1 : Int32)) - (1 : Int32))), .val (.int bd), .val (.ref xw), .val (.ref b216)] [(.ref b216), (.ref b216)])) rfl (by rw [hml]; rfl) (Steps.refl _) (argsL := [(.ref b216)]) (rest := []) (lenOf own_pd_28Ljava2flang2fObject3b29Z rfl) rfl (by show 2 * 0 + _ ≤ _; exact Nat.le_of_eq rfl) (hb hby at_308) (fun _ _ => ⟨rfl, eh273, (by decide : 6 + 0 ≤ _), (by decide : 25 + 0 ≤ _)⟩)
          dsimp only [Pt.U, Pt.locs, Pt.cells, Pt.slots] at X279 l279 y279 z279 st279 hQ279
          subst l279 y279 z279
          obtain ⟨rfl, Nq279, eh279⟩ := hQ279
          have N279 := Fr.app N273 Nq279
          refine own_go (fun tq kq => st279.trans kq) ?_
          show own_Rn p e below _ (T279.setTop (mkF m 311 #[.val (.long l0), .second, .val (.int i1), .val (.int i2), .val (.int i3), .val (.int (4 : Int32)), .val (.int c0), .val (.int c1), .val (.int c2), .val (.int c3), .val (.ref b216), .val (.int (((4 : Int32) - (1 : Int32)) - (1 : Int32))), .val (.int bd), .val (.ref xw), .val (.ref b216)] [(.int (1 : Int32))]))
          refine own_go (fun tq kq => XS.ifNo X279.here hx rfl (hb hby at_311) rfl ((if0 _ _).trans (feq ((by decide : ¬ ((1 : Int32) = (0 : Int32))) : ¬ ((1 : Int32) = (0 : Int32)))).1) kq) ?_
          show own_Rn p e below _ (T279.setTop (mkF m 314 #[.val (.long l0), .second, .val (.int i1), .val (.int i2), .val (.int i3), .val (.int (4 : Int32)), .val (.int c0), .val (.int c1), .val (.int c2), .val (.int c3), .val (.ref b216), .val (.int (((4 : Int32) - (1 : Int32)) - (1 : Int32))), .val (.int bd), .val (.ref xw), .val (.ref b216)] []))
          refine own_go (fun tq kq => XS.iconst X279.here hx rfl (hb hby at_314) kq) ?_
          show own_Rn p e below _ (T279.setTop (mkF m 315 #[.val (.long l0), .second, .val (.int i1), .val (.int i2), .val (.int i3), .val (.int (4 : Int32)), .val (.int c0), .val (.int c1), .val (.int c2), .val (.int c3), .val (.ref b216), .val (.int (((4 : Int32) - (1 : Int32)) - (1 : Int32))), .val (.int bd), .val (.ref xw), .val (.ref b216)] [(.int (1 : Int32))]))
          refine own_go (fun tq kq => XS.goto X279.here hx rfl (pc0 := 315) (pc' := 319) rfl (hb hby at_315) (by decide) (by decide) kq) ?_
          show own_Rn p e below _ (T279.setTop (mkF m 319 #[.val (.long l0), .second, .val (.int i1), .val (.int i2), .val (.int i3), .val (.int (4 : Int32)), .val (.int c0), .val (.int c1), .val (.int c2), .val (.int c3), .val (.ref b216), .val (.int (((4 : Int32) - (1 : Int32)) - (1 : Int32))), .val (.int bd), .val (.ref xw), .val (.ref b216)] [(.int (1 : Int32))]))
          exact own_retS X279 hS0 (by rw [eh279]; omega) (v := some (.int (nar .boolean (1 : Int32)))) (fun h => by rw [Bd.returns] at h; cases h) (fun fs hr => retN X279 hx (t := .boolean) Bd.returns (by simp) (hb hby at_319) hr) (by rw [eh279]; exact ⟨rfl, N279⟩) (by rw [hh, eh279]; exact CR268.trans (CHv.at X279 hZ hEL CR268.1)) (by decide) (by decide)
      · skip
        rw [if_neg hA1]
        show own_Rn p e below _ (T248.setTop (mkF m 237 #[.val (.long l0), .second, .val (.int i1), .val (.int i2), .val (.int i3), .val (.int (4 : Int32)), .val (.int c0), .val (.int c1), .val (.int c2), .val (.int c3), .val (.ref b216), .val (.int ((4 : Int32) - (1 : Int32))), .unset, .unset, .unset] [(.int (0 : Int32))]))
        have hp1 : own_pr c1 c2 = 0 := if_neg hA1
        refine own_go (fun tq kq => XS.ifYes X248.here hx rfl (pc0 := 237) (pc' := 246) rfl (hb hby at_237) rfl ((if0 _ _).trans (teq ((by decide : (0 : Int32) = (0 : Int32)) : (0 : Int32) = (0 : Int32))).1) (by decide) (by decide) kq) ?_
        show own_Rn p e below _ (T248.setTop (mkF m 246 #[.val (.long l0), .second, .val (.int i1), .val (.int i2), .val (.int i3), .val (.int (4 : Int32)), .val (.int c0), .val (.int c1), .val (.int c2), .val (.int c3), .val (.ref b216), .val (.int ((4 : Int32) - (1 : Int32))), .unset, .unset, .unset] []))
        refine own_go (fun tq kq => XS.iload X248.here hx rfl (hb hby at_246) rfl kq) ?_
        show own_Rn p e below _ (T248.setTop (mkF m 248 #[.val (.long l0), .second, .val (.int i1), .val (.int i2), .val (.int i3), .val (.int (4 : Int32)), .val (.int c0), .val (.int c1), .val (.int c2), .val (.int c3), .val (.ref b216), .val (.int ((4 : Int32) - (1 : Int32))), .unset, .unset, .unset] [(.int (4 : Int32))]))
        refine own_go (fun tq kq => XS.iconst X248.here hx rfl (hb hby at_248) kq) ?_
        show own_Rn p e below _ (T248.setTop (mkF m 249 #[.val (.long l0), .second, .val (.int i1), .val (.int i2), .val (.int i3), .val (.int (4 : Int32)), .val (.int c0), .val (.int c1), .val (.int c2), .val (.int c3), .val (.ref b216), .val (.int ((4 : Int32) - (1 : Int32))), .unset, .unset, .unset] [(.int (4 : Int32)), (.int (4 : Int32))]))
        refine own_go (fun tq kq => XS.icmpNo X248.here hx rfl (hb hby at_249) rfl (flt (by decide : ¬ ((4 : Int32) < (4 : Int32)))).1 kq) ?_
        show own_Rn p e below _ (T248.setTop (mkF m 252 #[.val (.long l0), .second, .val (.int i1), .val (.int i2), .val (.int i3), .val (.int (4 : Int32)), .val (.int c0), .val (.int c1), .val (.int c2), .val (.int c3), .val (.ref b216), .val (.int ((4 : Int32) - (1 : Int32))), .unset, .unset, .unset] []))
        refine own_go (fun tq kq => XS.iload X248.here hx rfl (hb hby at_252) rfl kq) ?_
        show own_Rn p e below _ (T248.setTop (mkF m 254 #[.val (.long l0), .second, .val (.int i1), .val (.int i2), .val (.int i3), .val (.int (4 : Int32)), .val (.int c0), .val (.int c1), .val (.int c2), .val (.int c3), .val (.ref b216), .val (.int ((4 : Int32) - (1 : Int32))), .unset, .unset, .unset] [(.int c2)]))
        refine own_go (fun tq kq => XS.iload X248.here hx rfl (hb hby at_254) rfl kq) ?_
        show own_Rn p e below _ (T248.setTop (mkF m 256 #[.val (.long l0), .second, .val (.int i1), .val (.int i2), .val (.int i3), .val (.int (4 : Int32)), .val (.int c0), .val (.int c1), .val (.int c2), .val (.int c3), .val (.ref b216), .val (.int ((4 : Int32) - (1 : Int32))), .unset, .unset, .unset] [(.int c3), (.int c2)]))
        have Zn280 : n0 ≤ T236.heap.size := by omega
        obtain ⟨rv280, _, ⟨T280, L280, k280, n280⟩, -, X280, ⟨Lc280, hQ280, l280, y280, z280⟩, st280⟩ := Jvm.LawKit.callS X248 hx (y := (⟨"com/example/cellwise/cellwise/ChecksAtMostPinLaw", "pair", "(CC)Z"⟩ : MethodName)) hown (mvT hZ (hw _ (own_mi 32 rfl))) (mvT hZ (hw _ (own_mi 33 rfl))) (mvT hZ (hw _ (own_mi 34 rfl))) (mvT hZ (hw _ (own_mi 35 rfl))) (by decide) (backOf (W := 0) (rmPair l Z a0 hw [] (c2) (c3) T236.heap n0 Zn280 ) hZ (hw _ (own_mi 35 rfl)) (hw _ (own_mi 34 rfl)) (by decide) (by decide)) (g := (mkF m 256 #[.val (.long l0), .second, .val (.int i1), .val (.int i2), .val (.int i3), .val (.int (4 : Int32)), .val (.int c0), .val (.int c1), .val (.int c2), .val (.int c3), .val (.ref b216), .val (.int ((4 : Int32) - (1 : Int32))), .unset, .unset, .unset] [(.int c3), (.int c2)])) rfl (by rw [hml]; rfl) (argsL := [(.int c2), (.int c3)]) (rest := []) (lenOf own_pd_28CC29Z rfl) rfl (by show 2 * 0 + _ ≤ _; exact Nat.le_of_eq rfl) (hb hby at_256) (fun _ _ => ⟨rfl, eh248, (by decide : 4 + 0 ≤ _), (by decide : 20 + 0 ≤ _)⟩)
        dsimp only [Pt.U, Pt.locs, Pt.cells, Pt.slots] at X280 l280 y280 z280 st280 hQ280
        subst l280 y280 z280
        obtain ⟨rfl, Nq280, eh280⟩ := hQ280
        have N280 := Fr.app N248 Nq280
        refine own_go st280 ?_
        show own_Rn p e below _ (T280.setTop (mkF m 259 #[.val (.long l0), .second, .val (.int i1), .val (.int i2), .val (.int i3), .val (.int (4 : Int32)), .val (.int c0), .val (.int c1), .val (.int c2), .val (.int c3), .val (.ref b216), .val (.int ((4 : Int32) - (1 : Int32))), .unset, .unset, .unset] [(.int (if own_isHi c2 ∧ own_isLo c3 then (1 : Int32) else 0))]))
        by_cases hA2 : own_isHi c2 ∧ own_isLo c3
        · skip
          rw [if_pos hA2]
          show own_Rn p e below _ (T280.setTop (mkF m 259 #[.val (.long l0), .second, .val (.int i1), .val (.int i2), .val (.int i3), .val (.int (4 : Int32)), .val (.int c0), .val (.int c1), .val (.int c2), .val (.int c3), .val (.ref b216), .val (.int ((4 : Int32) - (1 : Int32))), .unset, .unset, .unset] [(.int (1 : Int32))]))
          have hp2 : own_pr c2 c3 = 1 := if_pos hA2
          refine own_go (fun tq kq => XS.ifNo X280.here hx rfl (hb hby at_259) rfl ((if0 _ _).trans (feq ((by decide : ¬ ((1 : Int32) = (0 : Int32))) : ¬ ((1 : Int32) = (0 : Int32)))).1) kq) ?_
          show own_Rn p e below _ (T280.setTop (mkF m 262 #[.val (.long l0), .second, .val (.int i1), .val (.int i2), .val (.int i3), .val (.int (4 : Int32)), .val (.int c0), .val (.int c1), .val (.int c2), .val (.int c3), .val (.ref b216), .val (.int ((4 : Int32) - (1 : Int32))), .unset, .unset, .unset] []))
          refine own_go (fun tq kq => XS.iload X280.here hx rfl (hb hby at_262) rfl kq) ?_
          show own_Rn p e below _ (T280.setTop (mkF m 264 #[.val (.long l0), .second, .val (.int i1), .val (.int i2), .val (.int i3), .val (.int (4 : Int32)), .val (.int c0), .val (.int c1), .val (.int c2), .val (.int c3), .val (.ref b216), .val (.int ((4 : Int32) - (1 : Int32))), .unset, .unset, .unset] [(.int ((4 : Int32) - (1 : Int32)))]))
          refine own_go (fun tq kq => XS.iconst X280.here hx rfl (hb hby at_264) kq) ?_
          show own_Rn p e below _ (T280.setTop (mkF m 265 #[.val (.long l0), .second, .val (.int i1), .val (.int i2), .val (.int i3), .val (.int (4 : Int32)), .val (.int c0), .val (.int c1), .val (.int c2), .val (.int c3), .val (.ref b216), .val (.int ((4 : Int32) - (1 : Int32))), .unset, .unset, .unset] [(.int (1 : Int32)), (.int ((4 : Int32) - (1 : Int32)))]))
          refine own_go (fun tq kq => XS.isub X280.here hx rfl (hb hby at_265) rfl kq) ?_
          show own_Rn p e below _ (T280.setTop (mkF m 266 #[.val (.long l0), .second, .val (.int i1), .val (.int i2), .val (.int i3), .val (.int (4 : Int32)), .val (.int c0), .val (.int c1), .val (.int c2), .val (.int c3), .val (.ref b216), .val (.int ((4 : Int32) - (1 : Int32))), .unset, .unset, .unset] [(.int (((4 : Int32) - (1 : Int32)) - (1 : Int32)))]))
          refine own_go (fun tq kq => XS.istore X280.here hx rfl (hb hby at_266) rfl (l' := #[.val (.long l0), .second, .val (.int i1), .val (.int i2), .val (.int i3), .val (.int (4 : Int32)), .val (.int c0), .val (.int c1), .val (.int c2), .val (.int c3), .val (.ref b216), .val (.int (((4 : Int32) - (1 : Int32)) - (1 : Int32))), .unset, .unset, .unset]) rfl kq) ?_
          show own_Rn p e below _ (T280.setTop (mkF m 268 #[.val (.long l0), .second, .val (.int i1), .val (.int i2), .val (.int i3), .val (.int (4 : Int32)), .val (.int c0), .val (.int c1), .val (.int c2), .val (.int c3), .val (.ref b216), .val (.int (((4 : Int32) - (1 : Int32)) - (1 : Int32))), .unset, .unset, .unset] []))
          refine own_go (fun tq kq => XS.iloadN X280.here hx rfl (hb hby at_268) rfl kq) ?_
          show own_Rn p e below _ (T280.setTop (mkF m 269 #[.val (.long l0), .second, .val (.int i1), .val (.int i2), .val (.int i3), .val (.int (4 : Int32)), .val (.int c0), .val (.int c1), .val (.int c2), .val (.int c3), .val (.ref b216), .val (.int (((4 : Int32) - (1 : Int32)) - (1 : Int32))), .unset, .unset, .unset] [(.int i2)]))
          refine own_go (fun tq kq => XS.iload X280.here hx rfl (hb hby at_269) rfl kq) ?_
          show own_Rn p e below _ (T280.setTop (mkF m 271 #[.val (.long l0), .second, .val (.int i1), .val (.int i2), .val (.int i3), .val (.int (4 : Int32)), .val (.int c0), .val (.int c1), .val (.int c2), .val (.int c3), .val (.ref b216), .val (.int (((4 : Int32) - (1 : Int32)) - (1 : Int32))), .unset, .unset, .unset] [(.int (((4 : Int32) - (1 : Int32)) - (1 : Int32))), (.int i2)]))
          have Zn281 : n0 ≤ T236.heap.size := by omega
          obtain ⟨rv281, _, ⟨T281, L281, k281, n281⟩, -, X281, ⟨Lc281, hQ281, l281, y281, z281⟩, st281⟩ := Jvm.LawKit.callS X280 hx (y := (⟨"java/lang/Math", "max", "(II)I"⟩ : MethodName)) hown (mvT hZ (hw _ (own_mi 40 rfl))) (mvT hZ (hw _ (own_mi 41 rfl))) (mvT hZ (hw _ (own_mi 42 rfl))) (mvT hZ (hw _ (own_mi 43 rfl))) (by decide) (backOf (W := 0) (rmMax l Z a0 hw [] (i2) ((((4 : Int32) - (1 : Int32)) - (1 : Int32))) T236.heap n0 Zn281 ) hZ (hw _ (own_mi 43 rfl)) (hw _ (own_mi 42 rfl)) (by decide) (by decide)) (g := (mkF m 271 #[.val (.long l0), .second, .val (.int i1), .val (.int i2), .val (.int i3), .val (.int (4 : Int32)), .val (.int c0), .val (.int c1), .val (.int c2), .val (.int c3), .val (.ref b216), .val (.int (((4 : Int32) - (1 : Int32)) - (1 : Int32))), .unset, .unset, .unset] [(.int (((4 : Int32) - (1 : Int32)) - (1 : Int32))), (.int i2)])) rfl (by rw [hml]; rfl) (argsL := [(.int i2), (.int (((4 : Int32) - (1 : Int32)) - (1 : Int32)))]) (rest := []) (lenOf own_pd_28II29I rfl) rfl (by show 2 * 0 + _ ≤ _; exact Nat.le_of_eq rfl) (hb hby at_271) (fun _ _ => ⟨rfl, eh280, (by decide : 4 + 0 ≤ _), (by decide : 20 + 0 ≤ _)⟩)
          dsimp only [Pt.U, Pt.locs, Pt.cells, Pt.slots] at X281 l281 y281 z281 st281 hQ281
          subst l281 y281 z281
          obtain ⟨bd, rfl, Nq281, eh281, R_281⟩ := hQ281
          have N281 := Fr.app N280 Nq281
          refine own_go st281 ?_
          show own_Rn p e below _ (T281.setTop (mkF m 274 #[.val (.long l0), .second, .val (.int i1), .val (.int i2), .val (.int i3), .val (.int (4 : Int32)), .val (.int c0), .val (.int c1), .val (.int c2), .val (.int c3), .val (.ref b216), .val (.int (((4 : Int32) - (1 : Int32)) - (1 : Int32))), .unset, .unset, .unset] [(.int bd)]))
          refine own_go (fun tq kq => XS.istore X281.here hx rfl (hb hby at_274) rfl (l' := #[.val (.long l0), .second, .val (.int i1), .val (.int i2), .val (.int i3), .val (.int (4 : Int32)), .val (.int c0), .val (.int c1), .val (.int c2), .val (.int c3), .val (.ref b216), .val (.int (((4 : Int32) - (1 : Int32)) - (1 : Int32))), .val (.int bd), .unset, .unset]) rfl kq) ?_
          show own_Rn p e below _ (T281.setTop (mkF m 276 #[.val (.long l0), .second, .val (.int i1), .val (.int i2), .val (.int i3), .val (.int (4 : Int32)), .val (.int c0), .val (.int c1), .val (.int c2), .val (.int c3), .val (.ref b216), .val (.int (((4 : Int32) - (1 : Int32)) - (1 : Int32))), .val (.int bd), .unset, .unset] []))
          refine own_go (fun tq kq => XS.iload X281.here hx rfl (hb hby at_276) rfl kq) ?_
          show own_Rn p e below _ (T281.setTop (mkF m 278 #[.val (.long l0), .second, .val (.int i1), .val (.int i2), .val (.int i3), .val (.int (4 : Int32)), .val (.int c0), .val (.int c1), .val (.int c2), .val (.int c3), .val (.ref b216), .val (.int (((4 : Int32) - (1 : Int32)) - (1 : Int32))), .val (.int bd), .unset, .unset] [(.int i3)]))
          refine own_go (fun tq kq => XS.sipush X281.here hx rfl (hb hby at_278) kq) ?_
          show own_Rn p e below _ (T281.setTop (mkF m 281 #[.val (.long l0), .second, .val (.int i1), .val (.int i2), .val (.int i3), .val (.int (4 : Int32)), .val (.int c0), .val (.int c1), .val (.int c2), .val (.int c3), .val (.ref b216), .val (.int (((4 : Int32) - (1 : Int32)) - (1 : Int32))), .val (.int bd), .unset, .unset] [(.int (255 : Int32)), (.int i3)]))
          refine own_go (fun tq kq => XS.iand X281.here hx rfl (hb hby at_281) rfl kq) ?_
          show own_Rn p e below _ (T281.setTop (mkF m 282 #[.val (.long l0), .second, .val (.int i1), .val (.int i2), .val (.int i3), .val (.int (4 : Int32)), .val (.int c0), .val (.int c1), .val (.int c2), .val (.int c3), .val (.ref b216), .val (.int (((4 : Int32) - (1 : Int32)) - (1 : Int32))), .val (.int bd), .unset, .unset] [(.int (i3 &&& (255 : Int32)))]))
          refine own_go (fun tq kq => XS.i2c X281.here hx rfl (hb hby at_282) rfl kq) ?_
          show own_Rn p e below _ (T281.setTop (mkF m 283 #[.val (.long l0), .second, .val (.int i1), .val (.int i2), .val (.int i3), .val (.int (4 : Int32)), .val (.int c0), .val (.int c1), .val (.int c2), .val (.int c3), .val (.ref b216), .val (.int (((4 : Int32) - (1 : Int32)) - (1 : Int32))), .val (.int bd), .unset, .unset] [(.int ((i3 &&& (255 : Int32)).toUInt32.toUInt16.toUInt32.toInt32))]))
          obtain ⟨wc, hwc⟩ : ∃ z : Int32, z = ((i3 &&& (255 : Int32)).toUInt32.toUInt16.toUInt32.toInt32) := ⟨_, rfl⟩
          rw [← hwc]
          show own_Rn p e below _ (T281.setTop (mkF m 283 #[.val (.long l0), .second, .val (.int i1), .val (.int i2), .val (.int i3), .val (.int (4 : Int32)), .val (.int c0), .val (.int c1), .val (.int c2), .val (.int c3), .val (.ref b216), .val (.int (((4 : Int32) - (1 : Int32)) - (1 : Int32))), .val (.int bd), .unset, .unset] [(.int wc)]))
          have rwc : ¬ wc < 0 ∧ ¬ (255 : Int32) < wc := by rw [hwc]; exact own_chr_rng _
          have Zn282 : n0 ≤ T236.heap.size := by omega
          have F283 : Old Z n0 T236.heap := (F241.keep Kq236 (allS gn216 all0))
          obtain ⟨rv282, _, ⟨T282, L282, k282, n282⟩, -, X282, ⟨Lc282, hQ282, l282, y282, z282⟩, st282⟩ := Jvm.LawKit.callS X281 hx (y := (⟨"java/lang/String", "valueOf", "(C)Ljava/lang/String;"⟩ : MethodName)) hown (mvT hZ (hw _ (own_mi 44 rfl))) (mvT hZ (hw _ (own_mi 45 rfl))) (mvT hZ (hw _ (own_mi 4 rfl))) (mvT hZ (hw _ (own_mi 46 rfl))) (by decide) (backOf (W := 0) (rmVal l Z a0 hw [] (wc) (G1) T236.heap n0 Zn282 (rwc) (O2) (P5) F283) hZ (hw _ (own_mi 46 rfl)) (hw _ (own_mi 4 rfl)) (by decide) (by decide)) (g := (mkF m 283 #[.val (.long l0), .second, .val (.int i1), .val (.int i2), .val (.int i3), .val (.int (4 : Int32)), .val (.int c0), .val (.int c1), .val (.int c2), .val (.int c3), .val (.ref b216), .val (.int (((4 : Int32) - (1 : Int32)) - (1 : Int32))), .val (.int bd), .unset, .unset] [(.int wc)])) rfl (by rw [hml]; rfl) (argsL := [(.int wc)]) (rest := []) (lenOf own_pd_28C29Ljava2flang2fString3b rfl) rfl (by show 2 * 0 + _ ≤ _; exact Nat.le_of_eq rfl) (hb hby at_283) (fun _ _ => ⟨rfl, eh281, (by decide : 4 + 2 ≤ _), (by decide : 20 + 5 ≤ _)⟩)
          dsimp only [Pt.U, Pt.locs, Pt.cells, Pt.slots] at X282 l282 y282 z282 st282 hQ282
          subst l282 y282 z282
          obtain ⟨xw, tw, kw, rfl, Nq282, Kq282, G0_282, G1_282, G2_282, G3_282, G4_282, G5_282, G6_282, G7_282⟩ := hQ282
          have N282 := Fr.app N281 Nq282
          have sz284 : T236.heap.size ≤ T282.heap.size := Kq282.1
          have cr284 : CHr Z consts_1 s.vm T236.heap s.vm T282.heap := CHr.keep Kq282 sf0 CR244.1
          have CR284 := CR244.trans cr284
          have sf285 : Safe Z consts_1 s.vm T282.heap xw := Safe.keep Kq282 sf0 CR244.1 (Safe.new (by omega))
          have sf286 : Safe Z consts_1 s.vm T282.heap tw := Safe.keep Kq282 sf0 CR244.1 (Safe.new (by omega))
          have lt287 : @LT.lt Nat _ xw T282.heap.size := G4_282.lt
          have lt288 : @LT.lt Nat _ tw T282.heap.size := G7_282.lt
          refine own_go st282 ?_
          show own_Rn p e below _ (T282.setTop (mkF m 286 #[.val (.long l0), .second, .val (.int i1), .val (.int i2), .val (.int i3), .val (.int (4 : Int32)), .val (.int c0), .val (.int c1), .val (.int c2), .val (.int c3), .val (.ref b216), .val (.int (((4 : Int32) - (1 : Int32)) - (1 : Int32))), .val (.int bd), .unset, .unset] [(.ref xw)]))
          refine own_go (fun tq kq => XS.astore X282.here hx rfl (hb hby at_286) rfl rfl (l' := #[.val (.long l0), .second, .val (.int i1), .val (.int i2), .val (.int i3), .val (.int (4 : Int32)), .val (.int c0), .val (.int c1), .val (.int c2), .val (.int c3), .val (.ref b216), .val (.int (((4 : Int32) - (1 : Int32)) - (1 : Int32))), .val (.int bd), .val (.ref xw), .unset]) rfl kq) ?_
          show own_Rn p e below _ (T282.setTop (mkF m 288 #[.val (.long l0), .second, .val (.int i1), .val (.int i2), .val (.int i3), .val (.int (4 : Int32)), .val (.int c0), .val (.int c1), .val (.int c2), .val (.int c3), .val (.ref b216), .val (.int (((4 : Int32) - (1 : Int32)) - (1 : Int32))), .val (.int bd), .val (.ref xw), .unset] []))
          refine own_go (fun tq kq => XS.aload X282.here hx rfl (hb hby at_288) rfl rfl kq) ?_
          show own_Rn p e below _ (T282.setTop (mkF m 290 #[.val (.long l0), .second, .val (.int i1), .val (.int i2), .val (.int i3), .val (.int (4 : Int32)), .val (.int c0), .val (.int c1), .val (.int c2), .val (.int c3), .val (.ref b216), .val (.int (((4 : Int32) - (1 : Int32)) - (1 : Int32))), .val (.int bd), .val (.ref xw), .unset] [(.ref xw)]))
          refine own_go (fun tq kq => XS.iload X282.here hx rfl (hb hby at_290) rfl kq) ?_
          show own_Rn p e below _ (T282.setTop (mkF m 292 #[.val (.long l0), .second, .val (.int i1), .val (.int i2), .val (.int i3), .val (.int (4 : Int32)), .val (.int c0), .val (.int c1), .val (.int c2), .val (.int c3), .val (.ref b216), .val (.int (((4 : Int32) - (1 : Int32)) - (1 : Int32))), .val (.int bd), .val (.ref xw), .unset] [(.int bd), (.ref xw)]))
          refine own_go (fun tq kq => XS.aload X282.here hx rfl (hb hby at_292) rfl rfl kq) ?_
          show own_Rn p e below _ (T282.setTop (mkF m 294 #[.val (.long l0), .second, .val (.int i1), .val (.int i2), .val (.int i3), .val (.int (4 : Int32)), .val (.int c0), .val (.int c1), .val (.int c2), .val (.int c3), .val (.ref b216), .val (.int (((4 : Int32) - (1 : Int32)) - (1 : Int32))), .val (.int bd), .val (.ref xw), .unset] [(.ref b216), (.int bd), (.ref xw)]))
          have hcp : own_cp ([c0, c1, c2, c3] : List Int32) = 2 := by rw [own_cp, own_p4, hp0, hp1, hp2]; rfl
          have hmx : ¬ bd < Int32.ofNat (own_cp ([c0, c1, c2, c3] : List Int32)) := by rw [hcp]; have h := R_281; rwa [show (((4 : Int32) - (1 : Int32)) - (1 : Int32)) = Int32.ofNat 2 by decide] at h
          have Zn289 : n0 ≤ T282.heap.size := by omega
          have F290 : Exa Z T282.heap b216 "java/lang/String" := ((F237.keep Kq236).keep Kq282)
          have F291 : Fld Z T282.heap b216 "java/lang/String" "value" "[B" (.ref tt) := (G2_236.keep Kq282 nin0)
          have F292 : Fld Z T282.heap b216 "java/lang/String" "coder" "B" (.int cd) := (G3_236.keep Kq282 nin0)
          have F293 : Arv Z T282.heap tt kk .byte NN vv (.int 0) := (G4_236.keep Kq282 nin0)
          have F294 : Old Z n0 T282.heap := (F283.keep Kq282 all0)
          obtain ⟨rv289, _, ⟨T289, L289, k289, n289⟩, -, X289, ⟨Lc289, hQ289, l289, y289, z289⟩, st289⟩ := Jvm.LawKit.callS X282 hx (y := (⟨"com/example/cellwise/cellwise/Checks", "atMost", "(Ljava/lang/String;ILjava/lang/String;)Ljava/lang/String;"⟩ : MethodName)) hown (mvT hZ (hw _ (own_mi 58 rfl))) (mvT hZ (hw _ (own_mi 59 rfl))) (mvT hZ (hw _ (own_mi 60 rfl))) (mvT hZ (hw _ (own_mi 61 rfl))) (by decide) (backOf (W := 0) (rmAM l Z a0 hw [] (xw) (bd) (b216) (tt) (kk) (NN) (vv) (cd) (([c0, c1, c2, c3] : List Int32)) (G1) T282.heap n0 Zn289 F290 F291 F292 F293 (RL) (by simp) (hr) (hmx) (OAD) (OHI) (OLO) (O2) (P5) F294) hZ (hw _ (own_mi 61 rfl)) (hw _ (own_mi 60 rfl)) (by decide) (by decide)) (g := (mkF m 294 #[.val (.long l0), .second, .val (.int i1), .val (.int i2), .val (.int i3), .val (.int (4 : Int32)), .val (.int c0), .val (.int c1), .val (.int c2), .val (.int c3), .val (.ref b216), .val (.int (((4 : Int32) - (1 : Int32)) - (1 : Int32))), .val (.int bd), .val (.ref xw), .unset] [(.ref b216), (.int bd), (.ref xw)])) rfl (by rw [hml]; rfl) (argsL := [(.ref xw), (.int bd), (.ref b216)]) (rest := []) (lenOf own_pd_28Ljava2flang2fString3bILjava2flang2fString3b29Ljava2flang2fString3b rfl) rfl (by show 2 * 0 + _ ≤ _; exact Nat.le_of_eq rfl) (hb hby at_294) (fun _ _ => ⟨rfl, rfl, (by decide : 6 + 0 ≤ _), (by decide : 25 + 0 ≤ _)⟩)
          dsimp only [Pt.U, Pt.locs, Pt.cells, Pt.slots] at X289 l289 y289 z289 st289 hQ289
          subst l289 y289 z289
          obtain ⟨rfl, Nq289, eh289⟩ := hQ289
          have N289 := Fr.app N282 Nq289
          refine own_go st289 ?_
          show own_Rn p e below _ (T289.setTop (mkF m 297 #[.val (.long l0), .second, .val (.int i1), .val (.int i2), .val (.int i3), .val (.int (4 : Int32)), .val (.int c0), .val (.int c1), .val (.int c2), .val (.int c3), .val (.ref b216), .val (.int (((4 : Int32) - (1 : Int32)) - (1 : Int32))), .val (.int bd), .val (.ref xw), .unset] [(.ref b216)]))
          refine own_go (fun tq kq => XS.astore X289.here hx rfl (hb hby at_297) rfl rfl (l' := #[.val (.long l0), .second, .val (.int i1), .val (.int i2), .val (.int i3), .val (.int (4 : Int32)), .val (.int c0), .val (.int c1), .val (.int c2), .val (.int c3), .val (.ref b216), .val (.int (((4 : Int32) - (1 : Int32)) - (1 : Int32))), .val (.int bd), .val (.ref xw), .val (.ref b216)]) rfl kq) ?_
          show own_Rn p e below _ (T289.setTop (mkF m 299 #[.val (.long l0), .second, .val (.int i1), .val (.int i2), .val (.int i3), .val (.int (4 : Int32)), .val (.int c0), .val (.int c1), .val (.int c2), .val (.int c3), .val (.ref b216), .val (.int (((4 : Int32) - (1 : Int32)) - (1 : Int32))), .val (.int bd), .val (.ref xw), .val (.ref b216)] []))
          refine own_go (fun tq kq => XS.aload X289.here hx rfl (hb hby at_299) rfl rfl kq) ?_
          show own_Rn p e below _ (T289.setTop (mkF m 301 #[.val (.long l0), .second, .val (.int i1), .val (.int i2), .val (.int i3), .val (.int (4 : Int32)), .val (.int c0), .val (.int c1), .val (.int c2), .val (.int c3), .val (.ref b216), .val (.int (((4 : Int32) - (1 : Int32)) - (1 : Int32))), .val (.int bd), .val (.ref xw), .val (.ref b216)] [(.ref b216)]))
          refine own_go (fun tq kq => XS.ifnullNo X289.here hx rfl (hb hby at_301) rfl kq) ?_
          show own_Rn p e below _ (T289.setTop (mkF m 304 #[.val (.long l0), .second, .val (.int i1), .val (.int i2), .val (.int i3), .val (.int (4 : Int32)), .val (.int c0), .val (.int c1), .val (.int c2), .val (.int c3), .val (.ref b216), .val (.int (((4 : Int32) - (1 : Int32)) - (1 : Int32))), .val (.int bd), .val (.ref xw), .val (.ref b216)] []))
          refine own_go (fun tq kq => XS.aload X289.here hx rfl (hb hby at_304) rfl rfl kq) ?_
          show own_Rn p e below _ (T289.setTop (mkF m 306 #[.val (.long l0), .second, .val (.int i1), .val (.int i2), .val (.int i3), .val (.int (4 : Int32)), .val (.int c0), .val (.int c1), .val (.int c2), .val (.int c3), .val (.ref b216), .val (.int (((4 : Int32) - (1 : Int32)) - (1 : Int32))), .val (.int bd), .val (.ref xw), .val (.ref b216)] [(.ref b216)]))
          refine own_go (fun tq kq => XS.aload X289.here hx rfl (hb hby at_306) rfl rfl kq) ?_
          show own_Rn p e below _ (T289.setTop (mkF m 308 #[.val (.long l0), .second, .val (.int i1), .val (.int i2), .val (.int i3), .val (.int (4 : Int32)), .val (.int c0), .val (.int c1), .val (.int c2), .val (.int c3), .val (.ref b216), .val (.int (((4 : Int32) - (1 : Int32)) - (1 : Int32))), .val (.int bd), .val (.ref xw), .val (.ref b216)] [(.ref b216), (.ref b216)]))
          have Zn295 : n0 ≤ T282.heap.size := by omega
          obtain ⟨cq295, kq295, qa295, qb295, qc295⟩ := isOf hZ eh289 F290
          obtain ⟨rv295, _, ⟨T295, L295, k295, n295⟩, -, X295, ⟨Lc295, hQ295, l295, y295, z295⟩, st295⟩ := X289.virtualBack hx (y := (⟨"java/lang/String", "equals", "(Ljava/lang/Object;)Z"⟩ : MethodName)) (z := (⟨"java/lang/String", "equals", "(Ljava/lang/Object;)Z"⟩ : MethodName)) hown (mvT hZ (hw _ (own_mi 91 rfl))) (mvT hZ (hw _ (own_mi 92 rfl))) (notFace_of_selects (args := #[]) (mvT hZ (hw _ (own_mi 94 rfl)))) (mvT hZ (hw _ (own_mi 94 rfl))) (mvT hZ (hw _ (own_mi 93 rfl))) (by decide) (backOf (W := 0) (rmEqS l Z a0 hw [] (b216) T282.heap n0 Zn295 ) hZ (hw _ (own_mi 95 rfl)) (hw _ (own_mi 4 rfl)) (by decide) (by decide)) qa295 qc295 (g := (mkF m 308 #[.val (.long l0), .second, .val (.int i1), .val (.int i2), .val (.int i3), .val (.int (4 : Int32)), .val (.int c0), .val (.int c1), .val (.int c2), .val (.int c3), .val (.ref b216), .val (.int (((4 : Int32) - (1 : Int32)) - (1 : Int32))), .val (.int bd), .val (.ref xw), .val (.ref b216)] [(.ref b216), (.ref b216)])) rfl (by rw [hml]; rfl) (Steps.refl _) (argsL := [(.ref b216)]) (rest := []) (lenOf own_pd_28Ljava2flang2fObject3b29Z rfl) rfl (by show 2 * 0 + _ ≤ _; exact Nat.le_of_eq rfl) (hb hby at_308) (fun _ _ => ⟨rfl, eh289, (by decide : 6 + 0 ≤ _), (by decide : 25 + 0 ≤ _)⟩)
          dsimp only [Pt.U, Pt.locs, Pt.cells, Pt.slots] at X295 l295 y295 z295 st295 hQ295
          subst l295 y295 z295
          obtain ⟨rfl, Nq295, eh295⟩ := hQ295
          have N295 := Fr.app N289 Nq295
          refine own_go (fun tq kq => st295.trans kq) ?_
          show own_Rn p e below _ (T295.setTop (mkF m 311 #[.val (.long l0), .second, .val (.int i1), .val (.int i2), .val (.int i3), .val (.int (4 : Int32)), .val (.int c0), .val (.int c1), .val (.int c2), .val (.int c3), .val (.ref b216), .val (.int (((4 : Int32) - (1 : Int32)) - (1 : Int32))), .val (.int bd), .val (.ref xw), .val (.ref b216)] [(.int (1 : Int32))]))
          refine own_go (fun tq kq => XS.ifNo X295.here hx rfl (hb hby at_311) rfl ((if0 _ _).trans (feq ((by decide : ¬ ((1 : Int32) = (0 : Int32))) : ¬ ((1 : Int32) = (0 : Int32)))).1) kq) ?_
          show own_Rn p e below _ (T295.setTop (mkF m 314 #[.val (.long l0), .second, .val (.int i1), .val (.int i2), .val (.int i3), .val (.int (4 : Int32)), .val (.int c0), .val (.int c1), .val (.int c2), .val (.int c3), .val (.ref b216), .val (.int (((4 : Int32) - (1 : Int32)) - (1 : Int32))), .val (.int bd), .val (.ref xw), .val (.ref b216)] []))
          refine own_go (fun tq kq => XS.iconst X295.here hx rfl (hb hby at_314) kq) ?_
          show own_Rn p e below _ (T295.setTop (mkF m 315 #[.val (.long l0), .second, .val (.int i1), .val (.int i2), .val (.int i3), .val (.int (4 : Int32)), .val (.int c0), .val (.int c1), .val (.int c2), .val (.int c3), .val (.ref b216), .val (.int (((4 : Int32) - (1 : Int32)) - (1 : Int32))), .val (.int bd), .val (.ref xw), .val (.ref b216)] [(.int (1 : Int32))]))
          refine own_go (fun tq kq => XS.goto X295.here hx rfl (pc0 := 315) (pc' := 319) rfl (hb hby at_315) (by decide) (by decide) kq) ?_
          show own_Rn p e below _ (T295.setTop (mkF m 319 #[.val (.long l0), .second, .val (.int i1), .val (.int i2), .val (.int i3), .val (.int (4 : Int32)), .val (.int c0), .val (.int c1), .val (.int c2), .val (.int c3), .val (.ref b216), .val (.int (((4 : Int32) - (1 : Int32)) - (1 : Int32))), .val (.int bd), .val (.ref xw), .val (.ref b216)] [(.int (1 : Int32))]))
          exact own_retS X295 hS0 (by rw [eh295]; omega) (v := some (.int (nar .boolean (1 : Int32)))) (fun h => by rw [Bd.returns] at h; cases h) (fun fs hr => retN X295 hx (t := .boolean) Bd.returns (by simp) (hb hby at_319) hr) (by rw [eh295]; exact ⟨rfl, N295⟩) (by rw [hh, eh295]; exact CR284.trans (CHv.at X295 hZ hEL CR284.1)) (by decide) (by decide)
        · skip
          rw [if_neg hA2]
          show own_Rn p e below _ (T280.setTop (mkF m 259 #[.val (.long l0), .second, .val (.int i1), .val (.int i2), .val (.int i3), .val (.int (4 : Int32)), .val (.int c0), .val (.int c1), .val (.int c2), .val (.int c3), .val (.ref b216), .val (.int ((4 : Int32) - (1 : Int32))), .unset, .unset, .unset] [(.int (0 : Int32))]))
          have hp2 : own_pr c2 c3 = 0 := if_neg hA2
          refine own_go (fun tq kq => XS.ifYes X280.here hx rfl (pc0 := 259) (pc' := 268) rfl (hb hby at_259) rfl ((if0 _ _).trans (teq ((by decide : (0 : Int32) = (0 : Int32)) : (0 : Int32) = (0 : Int32))).1) (by decide) (by decide) kq) ?_
          show own_Rn p e below _ (T280.setTop (mkF m 268 #[.val (.long l0), .second, .val (.int i1), .val (.int i2), .val (.int i3), .val (.int (4 : Int32)), .val (.int c0), .val (.int c1), .val (.int c2), .val (.int c3), .val (.ref b216), .val (.int ((4 : Int32) - (1 : Int32))), .unset, .unset, .unset] []))
          refine own_go (fun tq kq => XS.iloadN X280.here hx rfl (hb hby at_268) rfl kq) ?_
          show own_Rn p e below _ (T280.setTop (mkF m 269 #[.val (.long l0), .second, .val (.int i1), .val (.int i2), .val (.int i3), .val (.int (4 : Int32)), .val (.int c0), .val (.int c1), .val (.int c2), .val (.int c3), .val (.ref b216), .val (.int ((4 : Int32) - (1 : Int32))), .unset, .unset, .unset] [(.int i2)]))
          refine own_go (fun tq kq => XS.iload X280.here hx rfl (hb hby at_269) rfl kq) ?_
          show own_Rn p e below _ (T280.setTop (mkF m 271 #[.val (.long l0), .second, .val (.int i1), .val (.int i2), .val (.int i3), .val (.int (4 : Int32)), .val (.int c0), .val (.int c1), .val (.int c2), .val (.int c3), .val (.ref b216), .val (.int ((4 : Int32) - (1 : Int32))), .unset, .unset, .unset] [(.int ((4 : Int32) - (1 : Int32))), (.int i2)]))
          have Zn296 : n0 ≤ T236.heap.size := by omega
          obtain ⟨rv296, _, ⟨T296, L296, k296, n296⟩, -, X296, ⟨Lc296, hQ296, l296, y296, z296⟩, st296⟩ := Jvm.LawKit.callS X280 hx (y := (⟨"java/lang/Math", "max", "(II)I"⟩ : MethodName)) hown (mvT hZ (hw _ (own_mi 40 rfl))) (mvT hZ (hw _ (own_mi 41 rfl))) (mvT hZ (hw _ (own_mi 42 rfl))) (mvT hZ (hw _ (own_mi 43 rfl))) (by decide) (backOf (W := 0) (rmMax l Z a0 hw [] (i2) (((4 : Int32) - (1 : Int32))) T236.heap n0 Zn296 ) hZ (hw _ (own_mi 43 rfl)) (hw _ (own_mi 42 rfl)) (by decide) (by decide)) (g := (mkF m 271 #[.val (.long l0), .second, .val (.int i1), .val (.int i2), .val (.int i3), .val (.int (4 : Int32)), .val (.int c0), .val (.int c1), .val (.int c2), .val (.int c3), .val (.ref b216), .val (.int ((4 : Int32) - (1 : Int32))), .unset, .unset, .unset] [(.int ((4 : Int32) - (1 : Int32))), (.int i2)])) rfl (by rw [hml]; rfl) (argsL := [(.int i2), (.int ((4 : Int32) - (1 : Int32)))]) (rest := []) (lenOf own_pd_28II29I rfl) rfl (by show 2 * 0 + _ ≤ _; exact Nat.le_of_eq rfl) (hb hby at_271) (fun _ _ => ⟨rfl, eh280, (by decide : 4 + 0 ≤ _), (by decide : 20 + 0 ≤ _)⟩)
          dsimp only [Pt.U, Pt.locs, Pt.cells, Pt.slots] at X296 l296 y296 z296 st296 hQ296
          subst l296 y296 z296
          obtain ⟨bd, rfl, Nq296, eh296, R_296⟩ := hQ296
          have N296 := Fr.app N280 Nq296
          refine own_go st296 ?_
          show own_Rn p e below _ (T296.setTop (mkF m 274 #[.val (.long l0), .second, .val (.int i1), .val (.int i2), .val (.int i3), .val (.int (4 : Int32)), .val (.int c0), .val (.int c1), .val (.int c2), .val (.int c3), .val (.ref b216), .val (.int ((4 : Int32) - (1 : Int32))), .unset, .unset, .unset] [(.int bd)]))
          refine own_go (fun tq kq => XS.istore X296.here hx rfl (hb hby at_274) rfl (l' := #[.val (.long l0), .second, .val (.int i1), .val (.int i2), .val (.int i3), .val (.int (4 : Int32)), .val (.int c0), .val (.int c1), .val (.int c2), .val (.int c3), .val (.ref b216), .val (.int ((4 : Int32) - (1 : Int32))), .val (.int bd), .unset, .unset]) rfl kq) ?_
          show own_Rn p e below _ (T296.setTop (mkF m 276 #[.val (.long l0), .second, .val (.int i1), .val (.int i2), .val (.int i3), .val (.int (4 : Int32)), .val (.int c0), .val (.int c1), .val (.int c2), .val (.int c3), .val (.ref b216), .val (.int ((4 : Int32) - (1 : Int32))), .val (.int bd), .unset, .unset] []))
          refine own_go (fun tq kq => XS.iload X296.here hx rfl (hb hby at_276) rfl kq) ?_
          show own_Rn p e below _ (T296.setTop (mkF m 278 #[.val (.long l0), .second, .val (.int i1), .val (.int i2), .val (.int i3), .val (.int (4 : Int32)), .val (.int c0), .val (.int c1), .val (.int c2), .val (.int c3), .val (.ref b216), .val (.int ((4 : Int32) - (1 : Int32))), .val (.int bd), .unset, .unset] [(.int i3)]))
          refine own_go (fun tq kq => XS.sipush X296.here hx rfl (hb hby at_278) kq) ?_
          show own_Rn p e below _ (T296.setTop (mkF m 281 #[.val (.long l0), .second, .val (.int i1), .val (.int i2), .val (.int i3), .val (.int (4 : Int32)), .val (.int c0), .val (.int c1), .val (.int c2), .val (.int c3), .val (.ref b216), .val (.int ((4 : Int32) - (1 : Int32))), .val (.int bd), .unset, .unset] [(.int (255 : Int32)), (.int i3)]))
          refine own_go (fun tq kq => XS.iand X296.here hx rfl (hb hby at_281) rfl kq) ?_
          show own_Rn p e below _ (T296.setTop (mkF m 282 #[.val (.long l0), .second, .val (.int i1), .val (.int i2), .val (.int i3), .val (.int (4 : Int32)), .val (.int c0), .val (.int c1), .val (.int c2), .val (.int c3), .val (.ref b216), .val (.int ((4 : Int32) - (1 : Int32))), .val (.int bd), .unset, .unset] [(.int (i3 &&& (255 : Int32)))]))
          refine own_go (fun tq kq => XS.i2c X296.here hx rfl (hb hby at_282) rfl kq) ?_
          show own_Rn p e below _ (T296.setTop (mkF m 283 #[.val (.long l0), .second, .val (.int i1), .val (.int i2), .val (.int i3), .val (.int (4 : Int32)), .val (.int c0), .val (.int c1), .val (.int c2), .val (.int c3), .val (.ref b216), .val (.int ((4 : Int32) - (1 : Int32))), .val (.int bd), .unset, .unset] [(.int ((i3 &&& (255 : Int32)).toUInt32.toUInt16.toUInt32.toInt32))]))
          obtain ⟨wc, hwc⟩ : ∃ z : Int32, z = ((i3 &&& (255 : Int32)).toUInt32.toUInt16.toUInt32.toInt32) := ⟨_, rfl⟩
          rw [← hwc]
          show own_Rn p e below _ (T296.setTop (mkF m 283 #[.val (.long l0), .second, .val (.int i1), .val (.int i2), .val (.int i3), .val (.int (4 : Int32)), .val (.int c0), .val (.int c1), .val (.int c2), .val (.int c3), .val (.ref b216), .val (.int ((4 : Int32) - (1 : Int32))), .val (.int bd), .unset, .unset] [(.int wc)]))
          have rwc : ¬ wc < 0 ∧ ¬ (255 : Int32) < wc := by rw [hwc]; exact own_chr_rng _
          have Zn297 : n0 ≤ T236.heap.size := by omega
          have F298 : Old Z n0 T236.heap := (F241.keep Kq236 (allS gn216 all0))
          obtain ⟨rv297, _, ⟨T297, L297, k297, n297⟩, -, X297, ⟨Lc297, hQ297, l297, y297, z297⟩, st297⟩ := Jvm.LawKit.callS X296 hx (y := (⟨"java/lang/String", "valueOf", "(C)Ljava/lang/String;"⟩ : MethodName)) hown (mvT hZ (hw _ (own_mi 44 rfl))) (mvT hZ (hw _ (own_mi 45 rfl))) (mvT hZ (hw _ (own_mi 4 rfl))) (mvT hZ (hw _ (own_mi 46 rfl))) (by decide) (backOf (W := 0) (rmVal l Z a0 hw [] (wc) (G1) T236.heap n0 Zn297 (rwc) (O2) (P5) F298) hZ (hw _ (own_mi 46 rfl)) (hw _ (own_mi 4 rfl)) (by decide) (by decide)) (g := (mkF m 283 #[.val (.long l0), .second, .val (.int i1), .val (.int i2), .val (.int i3), .val (.int (4 : Int32)), .val (.int c0), .val (.int c1), .val (.int c2), .val (.int c3), .val (.ref b216), .val (.int ((4 : Int32) - (1 : Int32))), .val (.int bd), .unset, .unset] [(.int wc)])) rfl (by rw [hml]; rfl) (argsL := [(.int wc)]) (rest := []) (lenOf own_pd_28C29Ljava2flang2fString3b rfl) rfl (by show 2 * 0 + _ ≤ _; exact Nat.le_of_eq rfl) (hb hby at_283) (fun _ _ => ⟨rfl, eh296, (by decide : 4 + 2 ≤ _), (by decide : 20 + 5 ≤ _)⟩)
          dsimp only [Pt.U, Pt.locs, Pt.cells, Pt.slots] at X297 l297 y297 z297 st297 hQ297
          subst l297 y297 z297
          obtain ⟨xw, tw, kw, rfl, Nq297, Kq297, G0_297, G1_297, G2_297, G3_297, G4_297, G5_297, G6_297, G7_297⟩ := hQ297
          have N297 := Fr.app N296 Nq297
          have sz299 : T236.heap.size ≤ T297.heap.size := Kq297.1
          have cr299 : CHr Z consts_1 s.vm T236.heap s.vm T297.heap := CHr.keep Kq297 sf0 CR244.1
          have CR299 := CR244.trans cr299
          have sf300 : Safe Z consts_1 s.vm T297.heap xw := Safe.keep Kq297 sf0 CR244.1 (Safe.new (by omega))
          have sf301 : Safe Z consts_1 s.vm T297.heap tw := Safe.keep Kq297 sf0 CR244.1 (Safe.new (by omega))
          have lt302 : @LT.lt Nat _ xw T297.heap.size := G4_297.lt
          have lt303 : @LT.lt Nat _ tw T297.heap.size := G7_297.lt
          refine own_go st297 ?_
          show own_Rn p e below _ (T297.setTop (mkF m 286 #[.val (.long l0), .second, .val (.int i1), .val (.int i2), .val (.int i3), .val (.int (4 : Int32)), .val (.int c0), .val (.int c1), .val (.int c2), .val (.int c3), .val (.ref b216), .val (.int ((4 : Int32) - (1 : Int32))), .val (.int bd), .unset, .unset] [(.ref xw)]))
          refine own_go (fun tq kq => XS.astore X297.here hx rfl (hb hby at_286) rfl rfl (l' := #[.val (.long l0), .second, .val (.int i1), .val (.int i2), .val (.int i3), .val (.int (4 : Int32)), .val (.int c0), .val (.int c1), .val (.int c2), .val (.int c3), .val (.ref b216), .val (.int ((4 : Int32) - (1 : Int32))), .val (.int bd), .val (.ref xw), .unset]) rfl kq) ?_
          show own_Rn p e below _ (T297.setTop (mkF m 288 #[.val (.long l0), .second, .val (.int i1), .val (.int i2), .val (.int i3), .val (.int (4 : Int32)), .val (.int c0), .val (.int c1), .val (.int c2), .val (.int c3), .val (.ref b216), .val (.int ((4 : Int32) - (1 : Int32))), .val (.int bd), .val (.ref xw), .unset] []))
          refine own_go (fun tq kq => XS.aload X297.here hx rfl (hb hby at_288) rfl rfl kq) ?_
          show own_Rn p e below _ (T297.setTop (mkF m 290 #[.val (.long l0), .second, .val (.int i1), .val (.int i2), .val (.int i3), .val (.int (4 : Int32)), .val (.int c0), .val (.int c1), .val (.int c2), .val (.int c3), .val (.ref b216), .val (.int ((4 : Int32) - (1 : Int32))), .val (.int bd), .val (.ref xw), .unset] [(.ref xw)]))
          refine own_go (fun tq kq => XS.iload X297.here hx rfl (hb hby at_290) rfl kq) ?_
          show own_Rn p e below _ (T297.setTop (mkF m 292 #[.val (.long l0), .second, .val (.int i1), .val (.int i2), .val (.int i3), .val (.int (4 : Int32)), .val (.int c0), .val (.int c1), .val (.int c2), .val (.int c3), .val (.ref b216), .val (.int ((4 : Int32) - (1 : Int32))), .val (.int bd), .val (.ref xw), .unset] [(.int bd), (.ref xw)]))
          refine own_go (fun tq kq => XS.aload X297.here hx rfl (hb hby at_292) rfl rfl kq) ?_
          show own_Rn p e below _ (T297.setTop (mkF m 294 #[.val (.long l0), .second, .val (.int i1), .val (.int i2), .val (.int i3), .val (.int (4 : Int32)), .val (.int c0), .val (.int c1), .val (.int c2), .val (.int c3), .val (.ref b216), .val (.int ((4 : Int32) - (1 : Int32))), .val (.int bd), .val (.ref xw), .unset] [(.ref b216), (.int bd), (.ref xw)]))
          have hcp : own_cp ([c0, c1, c2, c3] : List Int32) = 3 := by rw [own_cp, own_p4, hp0, hp1, hp2]; rfl
          have hmx : ¬ bd < Int32.ofNat (own_cp ([c0, c1, c2, c3] : List Int32)) := by rw [hcp]; have h := R_296; rwa [show ((4 : Int32) - (1 : Int32)) = Int32.ofNat 3 by decide] at h
          have Zn304 : n0 ≤ T297.heap.size := by omega
          have F305 : Exa Z T297.heap b216 "java/lang/String" := ((F237.keep Kq236).keep Kq297)
          have F306 : Fld Z T297.heap b216 "java/lang/String" "value" "[B" (.ref tt) := (G2_236.keep Kq297 nin0)
          have F307 : Fld Z T297.heap b216 "java/lang/String" "coder" "B" (.int cd) := (G3_236.keep Kq297 nin0)
          have F308 : Arv Z T297.heap tt kk .byte NN vv (.int 0) := (G4_236.keep Kq297 nin0)
          have F309 : Old Z n0 T297.heap := (F298.keep Kq297 all0)
          obtain ⟨rv304, _, ⟨T304, L304, k304, n304⟩, -, X304, ⟨Lc304, hQ304, l304, y304, z304⟩, st304⟩ := Jvm.LawKit.callS X297 hx (y := (⟨"com/example/cellwise/cellwise/Checks", "atMost", "(Ljava/lang/String;ILjava/lang/String;)Ljava/lang/String;"⟩ : MethodName)) hown (mvT hZ (hw _ (own_mi 58 rfl))) (mvT hZ (hw _ (own_mi 59 rfl))) (mvT hZ (hw _ (own_mi 60 rfl))) (mvT hZ (hw _ (own_mi 61 rfl))) (by decide) (backOf (W := 0) (rmAM l Z a0 hw [] (xw) (bd) (b216) (tt) (kk) (NN) (vv) (cd) (([c0, c1, c2, c3] : List Int32)) (G1) T297.heap n0 Zn304 F305 F306 F307 F308 (RL) (by simp) (hr) (hmx) (OAD) (OHI) (OLO) (O2) (P5) F309) hZ (hw _ (own_mi 61 rfl)) (hw _ (own_mi 60 rfl)) (by decide) (by decide)) (g := (mkF m 294 #[.val (.long l0), .second, .val (.int i1), .val (.int i2), .val (.int i3), .val (.int (4 : Int32)), .val (.int c0), .val (.int c1), .val (.int c2), .val (.int c3), .val (.ref b216), .val (.int ((4 : Int32) - (1 : Int32))), .val (.int bd), .val (.ref xw), .unset] [(.ref b216), (.int bd), (.ref xw)])) rfl (by rw [hml]; rfl) (argsL := [(.ref xw), (.int bd), (.ref b216)]) (rest := []) (lenOf own_pd_28Ljava2flang2fString3bILjava2flang2fString3b29Ljava2flang2fString3b rfl) rfl (by show 2 * 0 + _ ≤ _; exact Nat.le_of_eq rfl) (hb hby at_294) (fun _ _ => ⟨rfl, rfl, (by decide : 6 + 0 ≤ _), (by decide : 25 + 0 ≤ _)⟩)
          dsimp only [Pt.U, Pt.locs, Pt.cells, Pt.slots] at X304 l304 y304 z304 st304 hQ304
          subst l304 y304 z304
          obtain ⟨rfl, Nq304, eh304⟩ := hQ304
          have N304 := Fr.app N297 Nq304
          refine own_go st304 ?_
          show own_Rn p e below _ (T304.setTop (mkF m 297 #[.val (.long l0), .second, .val (.int i1), .val (.int i2), .val (.int i3), .val (.int (4 : Int32)), .val (.int c0), .val (.int c1), .val (.int c2), .val (.int c3), .val (.ref b216), .val (.int ((4 : Int32) - (1 : Int32))), .val (.int bd), .val (.ref xw), .unset] [(.ref b216)]))
          refine own_go (fun tq kq => XS.astore X304.here hx rfl (hb hby at_297) rfl rfl (l' := #[.val (.long l0), .second, .val (.int i1), .val (.int i2), .val (.int i3), .val (.int (4 : Int32)), .val (.int c0), .val (.int c1), .val (.int c2), .val (.int c3), .val (.ref b216), .val (.int ((4 : Int32) - (1 : Int32))), .val (.int bd), .val (.ref xw), .val (.ref b216)]) rfl kq) ?_
          show own_Rn p e below _ (T304.setTop (mkF m 299 #[.val (.long l0), .second, .val (.int i1), .val (.int i2), .val (.int i3), .val (.int (4 : Int32)), .val (.int c0), .val (.int c1), .val (.int c2), .val (.int c3), .val (.ref b216), .val (.int ((4 : Int32) - (1 : Int32))), .val (.int bd), .val (.ref xw), .val (.ref b216)] []))
          refine own_go (fun tq kq => XS.aload X304.here hx rfl (hb hby at_299) rfl rfl kq) ?_
          show own_Rn p e below _ (T304.setTop (mkF m 301 #[.val (.long l0), .second, .val (.int i1), .val (.int i2), .val (.int i3), .val (.int (4 : Int32)), .val (.int c0), .val (.int c1), .val (.int c2), .val (.int c3), .val (.ref b216), .val (.int ((4 : Int32) - (1 : Int32))), .val (.int bd), .val (.ref xw), .val (.ref b216)] [(.ref b216)]))
          refine own_go (fun tq kq => XS.ifnullNo X304.here hx rfl (hb hby at_301) rfl kq) ?_
          show own_Rn p e below _ (T304.setTop (mkF m 304 #[.val (.long l0), .second, .val (.int i1), .val (.int i2), .val (.int i3), .val (.int (4 : Int32)), .val (.int c0), .val (.int c1), .val (.int c2), .val (.int c3), .val (.ref b216), .val (.int ((4 : Int32) - (1 : Int32))), .val (.int bd), .val (.ref xw), .val (.ref b216)] []))
          refine own_go (fun tq kq => XS.aload X304.here hx rfl (hb hby at_304) rfl rfl kq) ?_
          show own_Rn p e below _ (T304.setTop (mkF m 306 #[.val (.long l0), .second, .val (.int i1), .val (.int i2), .val (.int i3), .val (.int (4 : Int32)), .val (.int c0), .val (.int c1), .val (.int c2), .val (.int c3), .val (.ref b216), .val (.int ((4 : Int32) - (1 : Int32))), .val (.int bd), .val (.ref xw), .val (.ref b216)] [(.ref b216)]))
          refine own_go (fun tq kq => XS.aload X304.here hx rfl (hb hby at_306) rfl rfl kq) ?_
          show own_Rn p e below _ (T304.setTop (mkF m 308 #[.val (.long l0), .second, .val (.int i1), .val (.int i2), .val (.int i3), .val (.int (4 : Int32)), .val (.int c0), .val (.int c1), .val (.int c2), .val (.int c3), .val (.ref b216), .val (.int ((4 : Int32) - (1 : Int32))), .val (.int bd), .val (.ref xw), .val (.ref b216)] [(.ref b216), (.ref b216)]))
          have Zn310 : n0 ≤ T297.heap.size := by omega
          obtain ⟨cq310, kq310, qa310, qb310, qc310⟩ := isOf hZ eh304 F305
          obtain ⟨rv310, _, ⟨T310, L310, k310, n310⟩, -, X310, ⟨Lc310, hQ310, l310, y310, z310⟩, st310⟩ := X304.virtualBack hx (y := (⟨"java/lang/String", "equals", "(Ljava/lang/Object;)Z"⟩ : MethodName)) (z := (⟨"java/lang/String", "equals", "(Ljava/lang/Object;)Z"⟩ : MethodName)) hown (mvT hZ (hw _ (own_mi 91 rfl))) (mvT hZ (hw _ (own_mi 92 rfl))) (notFace_of_selects (args := #[]) (mvT hZ (hw _ (own_mi 94 rfl)))) (mvT hZ (hw _ (own_mi 94 rfl))) (mvT hZ (hw _ (own_mi 93 rfl))) (by decide) (backOf (W := 0) (rmEqS l Z a0 hw [] (b216) T297.heap n0 Zn310 ) hZ (hw _ (own_mi 95 rfl)) (hw _ (own_mi 4 rfl)) (by decide) (by decide)) qa310 qc310 (g := (mkF m 308 #[.val (.long l0), .second, .val (.int i1), .val (.int i2), .val (.int i3), .val (.int (4 : Int32)), .val (.int c0), .val (.int c1), .val (.int c2), .val (.int c3), .val (.ref b216), .val (.int ((4 : Int32) - (1 : Int32))), .val (.int bd), .val (.ref xw), .val (.ref b216)] [(.ref b216), (.ref b216)])) rfl (by rw [hml]; rfl) (Steps.refl _) (argsL := [(.ref b216)]) (rest := []) (lenOf own_pd_28Ljava2flang2fObject3b29Z rfl) rfl (by show 2 * 0 + _ ≤ _; exact Nat.le_of_eq rfl) (hb hby at_308) (fun _ _ => ⟨rfl, eh304, (by decide : 6 + 0 ≤ _), (by decide : 25 + 0 ≤ _)⟩)
          dsimp only [Pt.U, Pt.locs, Pt.cells, Pt.slots] at X310 l310 y310 z310 st310 hQ310
          subst l310 y310 z310
          obtain ⟨rfl, Nq310, eh310⟩ := hQ310
          have N310 := Fr.app N304 Nq310
          refine own_go (fun tq kq => st310.trans kq) ?_
          show own_Rn p e below _ (T310.setTop (mkF m 311 #[.val (.long l0), .second, .val (.int i1), .val (.int i2), .val (.int i3), .val (.int (4 : Int32)), .val (.int c0), .val (.int c1), .val (.int c2), .val (.int c3), .val (.ref b216), .val (.int ((4 : Int32) - (1 : Int32))), .val (.int bd), .val (.ref xw), .val (.ref b216)] [(.int (1 : Int32))]))
          refine own_go (fun tq kq => XS.ifNo X310.here hx rfl (hb hby at_311) rfl ((if0 _ _).trans (feq ((by decide : ¬ ((1 : Int32) = (0 : Int32))) : ¬ ((1 : Int32) = (0 : Int32)))).1) kq) ?_
          show own_Rn p e below _ (T310.setTop (mkF m 314 #[.val (.long l0), .second, .val (.int i1), .val (.int i2), .val (.int i3), .val (.int (4 : Int32)), .val (.int c0), .val (.int c1), .val (.int c2), .val (.int c3), .val (.ref b216), .val (.int ((4 : Int32) - (1 : Int32))), .val (.int bd), .val (.ref xw), .val (.ref b216)] []))
          refine own_go (fun tq kq => XS.iconst X310.here hx rfl (hb hby at_314) kq) ?_
          show own_Rn p e below _ (T310.setTop (mkF m 315 #[.val (.long l0), .second, .val (.int i1), .val (.int i2), .val (.int i3), .val (.int (4 : Int32)), .val (.int c0), .val (.int c1), .val (.int c2), .val (.int c3), .val (.ref b216), .val (.int ((4 : Int32) - (1 : Int32))), .val (.int bd), .val (.ref xw), .val (.ref b216)] [(.int (1 : Int32))]))
          refine own_go (fun tq kq => XS.goto X310.here hx rfl (pc0 := 315) (pc' := 319) rfl (hb hby at_315) (by decide) (by decide) kq) ?_
          show own_Rn p e below _ (T310.setTop (mkF m 319 #[.val (.long l0), .second, .val (.int i1), .val (.int i2), .val (.int i3), .val (.int (4 : Int32)), .val (.int c0), .val (.int c1), .val (.int c2), .val (.int c3), .val (.ref b216), .val (.int ((4 : Int32) - (1 : Int32))), .val (.int bd), .val (.ref xw), .val (.ref b216)] [(.int (1 : Int32))]))
          exact own_retS X310 hS0 (by rw [eh310]; omega) (v := some (.int (nar .boolean (1 : Int32)))) (fun h => by rw [Bd.returns] at h; cases h) (fun fs hr => retN X310 hx (t := .boolean) Bd.returns (by simp) (hb hby at_319) hr) (by rw [eh310]; exact ⟨rfl, N310⟩) (by rw [hh, eh310]; exact CR299.trans (CHv.at X310 hZ hEL CR299.1)) (by decide) (by decide)
    · skip
      rw [if_neg hA0]
      show own_Rn p e below _ (T247.setTop (mkF m 215 #[.val (.long l0), .second, .val (.int i1), .val (.int i2), .val (.int i3), .val (.int (4 : Int32)), .val (.int c0), .val (.int c1), .val (.int c2), .val (.int c3), .val (.ref b216), .val (.int (4 : Int32)), .unset, .unset, .unset] [(.int (0 : Int32))]))
      have hp0 : own_pr c0 c1 = 0 := if_neg hA0
      refine own_go (fun tq kq => XS.ifYes X247.here hx rfl (pc0 := 215) (pc' := 224) rfl (hb hby at_215) rfl ((if0 _ _).trans (teq ((by decide : (0 : Int32) = (0 : Int32)) : (0 : Int32) = (0 : Int32))).1) (by decide) (by decide) kq) ?_
      show own_Rn p e below _ (T247.setTop (mkF m 224 #[.val (.long l0), .second, .val (.int i1), .val (.int i2), .val (.int i3), .val (.int (4 : Int32)), .val (.int c0), .val (.int c1), .val (.int c2), .val (.int c3), .val (.ref b216), .val (.int (4 : Int32)), .unset, .unset, .unset] []))
      refine own_go (fun tq kq => XS.iload X247.here hx rfl (hb hby at_224) rfl kq) ?_
      show own_Rn p e below _ (T247.setTop (mkF m 226 #[.val (.long l0), .second, .val (.int i1), .val (.int i2), .val (.int i3), .val (.int (4 : Int32)), .val (.int c0), .val (.int c1), .val (.int c2), .val (.int c3), .val (.ref b216), .val (.int (4 : Int32)), .unset, .unset, .unset] [(.int (4 : Int32))]))
      refine own_go (fun tq kq => XS.iconst X247.here hx rfl (hb hby at_226) kq) ?_
      show own_Rn p e below _ (T247.setTop (mkF m 227 #[.val (.long l0), .second, .val (.int i1), .val (.int i2), .val (.int i3), .val (.int (4 : Int32)), .val (.int c0), .val (.int c1), .val (.int c2), .val (.int c3), .val (.ref b216), .val (.int (4 : Int32)), .unset, .unset, .unset] [(.int (3 : Int32)), (.int (4 : Int32))]))
      refine own_go (fun tq kq => XS.icmpNo X247.here hx rfl (hb hby at_227) rfl (flt (by decide : ¬ ((4 : Int32) < (3 : Int32)))).1 kq) ?_
      show own_Rn p e below _ (T247.setTop (mkF m 230 #[.val (.long l0), .second, .val (.int i1), .val (.int i2), .val (.int i3), .val (.int (4 : Int32)), .val (.int c0), .val (.int c1), .val (.int c2), .val (.int c3), .val (.ref b216), .val (.int (4 : Int32)), .unset, .unset, .unset] []))
      refine own_go (fun tq kq => XS.iload X247.here hx rfl (hb hby at_230) rfl kq) ?_
      show own_Rn p e below _ (T247.setTop (mkF m 232 #[.val (.long l0), .second, .val (.int i1), .val (.int i2), .val (.int i3), .val (.int (4 : Int32)), .val (.int c0), .val (.int c1), .val (.int c2), .val (.int c3), .val (.ref b216), .val (.int (4 : Int32)), .unset, .unset, .unset] [(.int c1)]))
      refine own_go (fun tq kq => XS.iload X247.here hx rfl (hb hby at_232) rfl kq) ?_
      show own_Rn p e below _ (T247.setTop (mkF m 234 #[.val (.long l0), .second, .val (.int i1), .val (.int i2), .val (.int i3), .val (.int (4 : Int32)), .val (.int c0), .val (.int c1), .val (.int c2), .val (.int c3), .val (.ref b216), .val (.int (4 : Int32)), .unset, .unset, .unset] [(.int c2), (.int c1)]))
      have Zn311 : n0 ≤ T236.heap.size := by omega
      obtain ⟨rv311, _, ⟨T311, L311, k311, n311⟩, -, X311, ⟨Lc311, hQ311, l311, y311, z311⟩, st311⟩ := Jvm.LawKit.callS X247 hx (y := (⟨"com/example/cellwise/cellwise/ChecksAtMostPinLaw", "pair", "(CC)Z"⟩ : MethodName)) hown (mvT hZ (hw _ (own_mi 32 rfl))) (mvT hZ (hw _ (own_mi 33 rfl))) (mvT hZ (hw _ (own_mi 34 rfl))) (mvT hZ (hw _ (own_mi 35 rfl))) (by decide) (backOf (W := 0) (rmPair l Z a0 hw [] (c1) (c2) T236.heap n0 Zn311 ) hZ (hw _ (own_mi 35 rfl)) (hw _ (own_mi 34 rfl)) (by decide) (by decide)) (g := (mkF m 234 #[.val (.long l0), .second, .val (.int i1), .val (.int i2), .val (.int i3), .val (.int (4 : Int32)), .val (.int c0), .val (.int c1), .val (.int c2), .val (.int c3), .val (.ref b216), .val (.int (4 : Int32)), .unset, .unset, .unset] [(.int c2), (.int c1)])) rfl (by rw [hml]; rfl) (argsL := [(.int c1), (.int c2)]) (rest := []) (lenOf own_pd_28CC29Z rfl) rfl (by show 2 * 0 + _ ≤ _; exact Nat.le_of_eq rfl) (hb hby at_234) (fun _ _ => ⟨rfl, eh247, (by decide : 4 + 0 ≤ _), (by decide : 20 + 0 ≤ _)⟩)
      dsimp only [Pt.U, Pt.locs, Pt.cells, Pt.slots] at X311 l311 y311 z311 st311 hQ311
      subst l311 y311 z311
      obtain ⟨rfl, Nq311, eh311⟩ := hQ311
      have N311 := Fr.app N247 Nq311
      refine own_go st311 ?_
      show own_Rn p e below _ (T311.setTop (mkF m 237 #[.val (.long l0), .second, .val (.int i1), .val (.int i2), .val (.int i3), .val (.int (4 : Int32)), .val (.int c0), .val (.int c1), .val (.int c2), .val (.int c3), .val (.ref b216), .val (.int (4 : Int32)), .unset, .unset, .unset] [(.int (if own_isHi c1 ∧ own_isLo c2 then (1 : Int32) else 0))]))
      by_cases hA1 : own_isHi c1 ∧ own_isLo c2
      · skip
        rw [if_pos hA1]
        show own_Rn p e below _ (T311.setTop (mkF m 237 #[.val (.long l0), .second, .val (.int i1), .val (.int i2), .val (.int i3), .val (.int (4 : Int32)), .val (.int c0), .val (.int c1), .val (.int c2), .val (.int c3), .val (.ref b216), .val (.int (4 : Int32)), .unset, .unset, .unset] [(.int (1 : Int32))]))
        have hp1 : own_pr c1 c2 = 1 := if_pos hA1
        refine own_go (fun tq kq => XS.ifNo X311.here hx rfl (hb hby at_237) rfl ((if0 _ _).trans (feq ((by decide : ¬ ((1 : Int32) = (0 : Int32))) : ¬ ((1 : Int32) = (0 : Int32)))).1) kq) ?_
        show own_Rn p e below _ (T311.setTop (mkF m 240 #[.val (.long l0), .second, .val (.int i1), .val (.int i2), .val (.int i3), .val (.int (4 : Int32)), .val (.int c0), .val (.int c1), .val (.int c2), .val (.int c3), .val (.ref b216), .val (.int (4 : Int32)), .unset, .unset, .unset] []))
        refine own_go (fun tq kq => XS.iload X311.here hx rfl (hb hby at_240) rfl kq) ?_
        show own_Rn p e below _ (T311.setTop (mkF m 242 #[.val (.long l0), .second, .val (.int i1), .val (.int i2), .val (.int i3), .val (.int (4 : Int32)), .val (.int c0), .val (.int c1), .val (.int c2), .val (.int c3), .val (.ref b216), .val (.int (4 : Int32)), .unset, .unset, .unset] [(.int (4 : Int32))]))
        refine own_go (fun tq kq => XS.iconst X311.here hx rfl (hb hby at_242) kq) ?_
        show own_Rn p e below _ (T311.setTop (mkF m 243 #[.val (.long l0), .second, .val (.int i1), .val (.int i2), .val (.int i3), .val (.int (4 : Int32)), .val (.int c0), .val (.int c1), .val (.int c2), .val (.int c3), .val (.ref b216), .val (.int (4 : Int32)), .unset, .unset, .unset] [(.int (1 : Int32)), (.int (4 : Int32))]))
        refine own_go (fun tq kq => XS.isub X311.here hx rfl (hb hby at_243) rfl kq) ?_
        show own_Rn p e below _ (T311.setTop (mkF m 244 #[.val (.long l0), .second, .val (.int i1), .val (.int i2), .val (.int i3), .val (.int (4 : Int32)), .val (.int c0), .val (.int c1), .val (.int c2), .val (.int c3), .val (.ref b216), .val (.int (4 : Int32)), .unset, .unset, .unset] [(.int ((4 : Int32) - (1 : Int32)))]))
        refine own_go (fun tq kq => XS.istore X311.here hx rfl (hb hby at_244) rfl (l' := #[.val (.long l0), .second, .val (.int i1), .val (.int i2), .val (.int i3), .val (.int (4 : Int32)), .val (.int c0), .val (.int c1), .val (.int c2), .val (.int c3), .val (.ref b216), .val (.int ((4 : Int32) - (1 : Int32))), .unset, .unset, .unset]) rfl kq) ?_
        show own_Rn p e below _ (T311.setTop (mkF m 246 #[.val (.long l0), .second, .val (.int i1), .val (.int i2), .val (.int i3), .val (.int (4 : Int32)), .val (.int c0), .val (.int c1), .val (.int c2), .val (.int c3), .val (.ref b216), .val (.int ((4 : Int32) - (1 : Int32))), .unset, .unset, .unset] []))
        refine own_go (fun tq kq => XS.iload X311.here hx rfl (hb hby at_246) rfl kq) ?_
        show own_Rn p e below _ (T311.setTop (mkF m 248 #[.val (.long l0), .second, .val (.int i1), .val (.int i2), .val (.int i3), .val (.int (4 : Int32)), .val (.int c0), .val (.int c1), .val (.int c2), .val (.int c3), .val (.ref b216), .val (.int ((4 : Int32) - (1 : Int32))), .unset, .unset, .unset] [(.int (4 : Int32))]))
        refine own_go (fun tq kq => XS.iconst X311.here hx rfl (hb hby at_248) kq) ?_
        show own_Rn p e below _ (T311.setTop (mkF m 249 #[.val (.long l0), .second, .val (.int i1), .val (.int i2), .val (.int i3), .val (.int (4 : Int32)), .val (.int c0), .val (.int c1), .val (.int c2), .val (.int c3), .val (.ref b216), .val (.int ((4 : Int32) - (1 : Int32))), .unset, .unset, .unset] [(.int (4 : Int32)), (.int (4 : Int32))]))
        refine own_go (fun tq kq => XS.icmpNo X311.here hx rfl (hb hby at_249) rfl (flt (by decide : ¬ ((4 : Int32) < (4 : Int32)))).1 kq) ?_
        show own_Rn p e below _ (T311.setTop (mkF m 252 #[.val (.long l0), .second, .val (.int i1), .val (.int i2), .val (.int i3), .val (.int (4 : Int32)), .val (.int c0), .val (.int c1), .val (.int c2), .val (.int c3), .val (.ref b216), .val (.int ((4 : Int32) - (1 : Int32))), .unset, .unset, .unset] []))
        refine own_go (fun tq kq => XS.iload X311.here hx rfl (hb hby at_252) rfl kq) ?_
        show own_Rn p e below _ (T311.setTop (mkF m 254 #[.val (.long l0), .second, .val (.int i1), .val (.int i2), .val (.int i3), .val (.int (4 : Int32)), .val (.int c0), .val (.int c1), .val (.int c2), .val (.int c3), .val (.ref b216), .val (.int ((4 : Int32) - (1 : Int32))), .unset, .unset, .unset] [(.int c2)]))
        refine own_go (fun tq kq => XS.iload X311.here hx rfl (hb hby at_254) rfl kq) ?_
        show own_Rn p e below _ (T311.setTop (mkF m 256 #[.val (.long l0), .second, .val (.int i1), .val (.int i2), .val (.int i3), .val (.int (4 : Int32)), .val (.int c0), .val (.int c1), .val (.int c2), .val (.int c3), .val (.ref b216), .val (.int ((4 : Int32) - (1 : Int32))), .unset, .unset, .unset] [(.int c3), (.int c2)]))
        have Zn312 : n0 ≤ T236.heap.size := by omega
        obtain ⟨rv312, _, ⟨T312, L312, k312, n312⟩, -, X312, ⟨Lc312, hQ312, l312, y312, z312⟩, st312⟩ := Jvm.LawKit.callS X311 hx (y := (⟨"com/example/cellwise/cellwise/ChecksAtMostPinLaw", "pair", "(CC)Z"⟩ : MethodName)) hown (mvT hZ (hw _ (own_mi 32 rfl))) (mvT hZ (hw _ (own_mi 33 rfl))) (mvT hZ (hw _ (own_mi 34 rfl))) (mvT hZ (hw _ (own_mi 35 rfl))) (by decide) (backOf (W := 0) (rmPair l Z a0 hw [] (c2) (c3) T236.heap n0 Zn312 ) hZ (hw _ (own_mi 35 rfl)) (hw _ (own_mi 34 rfl)) (by decide) (by decide)) (g := (mkF m 256 #[.val (.long l0), .second, .val (.int i1), .val (.int i2), .val (.int i3), .val (.int (4 : Int32)), .val (.int c0), .val (.int c1), .val (.int c2), .val (.int c3), .val (.ref b216), .val (.int ((4 : Int32) - (1 : Int32))), .unset, .unset, .unset] [(.int c3), (.int c2)])) rfl (by rw [hml]; rfl) (argsL := [(.int c2), (.int c3)]) (rest := []) (lenOf own_pd_28CC29Z rfl) rfl (by show 2 * 0 + _ ≤ _; exact Nat.le_of_eq rfl) (hb hby at_256) (fun _ _ => ⟨rfl, eh311, (by decide : 4 + 0 ≤ _), (by decide : 20 + 0 ≤ _)⟩)
        dsimp only [Pt.U, Pt.locs, Pt.cells, Pt.slots] at X312 l312 y312 z312 st312 hQ312
        subst l312 y312 z312
        obtain ⟨rfl, Nq312, eh312⟩ := hQ312
        have N312 := Fr.app N311 Nq312
        refine own_go st312 ?_
        show own_Rn p e below _ (T312.setTop (mkF m 259 #[.val (.long l0), .second, .val (.int i1), .val (.int i2), .val (.int i3), .val (.int (4 : Int32)), .val (.int c0), .val (.int c1), .val (.int c2), .val (.int c3), .val (.ref b216), .val (.int ((4 : Int32) - (1 : Int32))), .unset, .unset, .unset] [(.int (if own_isHi c2 ∧ own_isLo c3 then (1 : Int32) else 0))]))
        by_cases hA2 : own_isHi c2 ∧ own_isLo c3
        · skip
          rw [if_pos hA2]
          show own_Rn p e below _ (T312.setTop (mkF m 259 #[.val (.long l0), .second, .val (.int i1), .val (.int i2), .val (.int i3), .val (.int (4 : Int32)), .val (.int c0), .val (.int c1), .val (.int c2), .val (.int c3), .val (.ref b216), .val (.int ((4 : Int32) - (1 : Int32))), .unset, .unset, .unset] [(.int (1 : Int32))]))
          have hp2 : own_pr c2 c3 = 1 := if_pos hA2
          refine own_go (fun tq kq => XS.ifNo X312.here hx rfl (hb hby at_259) rfl ((if0 _ _).trans (feq ((by decide : ¬ ((1 : Int32) = (0 : Int32))) : ¬ ((1 : Int32) = (0 : Int32)))).1) kq) ?_
          show own_Rn p e below _ (T312.setTop (mkF m 262 #[.val (.long l0), .second, .val (.int i1), .val (.int i2), .val (.int i3), .val (.int (4 : Int32)), .val (.int c0), .val (.int c1), .val (.int c2), .val (.int c3), .val (.ref b216), .val (.int ((4 : Int32) - (1 : Int32))), .unset, .unset, .unset] []))
          refine own_go (fun tq kq => XS.iload X312.here hx rfl (hb hby at_262) rfl kq) ?_
          show own_Rn p e below _ (T312.setTop (mkF m 264 #[.val (.long l0), .second, .val (.int i1), .val (.int i2), .val (.int i3), .val (.int (4 : Int32)), .val (.int c0), .val (.int c1), .val (.int c2), .val (.int c3), .val (.ref b216), .val (.int ((4 : Int32) - (1 : Int32))), .unset, .unset, .unset] [(.int ((4 : Int32) - (1 : Int32)))]))
          refine own_go (fun tq kq => XS.iconst X312.here hx rfl (hb hby at_264) kq) ?_
          show own_Rn p e below _ (T312.setTop (mkF m 265 #[.val (.long l0), .second, .val (.int i1), .val (.int i2), .val (.int i3), .val (.int (4 : Int32)), .val (.int c0), .val (.int c1), .val (.int c2), .val (.int c3), .val (.ref b216), .val (.int ((4 : Int32) - (1 : Int32))), .unset, .unset, .unset] [(.int (1 : Int32)), (.int ((4 : Int32) - (1 : Int32)))]))
          refine own_go (fun tq kq => XS.isub X312.here hx rfl (hb hby at_265) rfl kq) ?_
          show own_Rn p e below _ (T312.setTop (mkF m 266 #[.val (.long l0), .second, .val (.int i1), .val (.int i2), .val (.int i3), .val (.int (4 : Int32)), .val (.int c0), .val (.int c1), .val (.int c2), .val (.int c3), .val (.ref b216), .val (.int ((4 : Int32) - (1 : Int32))), .unset, .unset, .unset] [(.int (((4 : Int32) - (1 : Int32)) - (1 : Int32)))]))
          refine own_go (fun tq kq => XS.istore X312.here hx rfl (hb hby at_266) rfl (l' := #[.val (.long l0), .second, .val (.int i1), .val (.int i2), .val (.int i3), .val (.int (4 : Int32)), .val (.int c0), .val (.int c1), .val (.int c2), .val (.int c3), .val (.ref b216), .val (.int (((4 : Int32) - (1 : Int32)) - (1 : Int32))), .unset, .unset, .unset]) rfl kq) ?_
          show own_Rn p e below _ (T312.setTop (mkF m 268 #[.val (.long l0), .second, .val (.int i1), .val (.int i2), .val (.int i3), .val (.int (4 : Int32)), .val (.int c0), .val (.int c1), .val (.int c2), .val (.int c3), .val (.ref b216), .val (.int (((4 : Int32) - (1 : Int32)) - (1 : Int32))), .unset, .unset, .unset] []))
          refine own_go (fun tq kq => XS.iloadN X312.here hx rfl (hb hby at_268) rfl kq) ?_
          show own_Rn p e below _ (T312.setTop (mkF m 269 #[.val (.long l0), .second, .val (.int i1), .val (.int i2), .val (.int i3), .val (.int (4 : Int32)), .val (.int c0), .val (.int c1), .val (.int c2), .val (.int c3), .val (.ref b216), .val (.int (((4 : Int32) - (1 : Int32)) - (1 : Int32))), .unset, .unset, .unset] [(.int i2)]))
          refine own_go (fun tq kq => XS.iload X312.here hx rfl (hb hby at_269) rfl kq) ?_
          show own_Rn p e below _ (T312.setTop (mkF m 271 #[.val (.long l0), .second, .val (.int i1), .val (.int i2), .val (.int i3), .val (.int (4 : Int32)), .val (.int c0), .val (.int c1), .val (.int c2), .val (.int c3), .val (.ref b216), .val (.int (((4 : Int32) - (1 : Int32)) - (1 : Int32))), .unset, .unset, .unset] [(.int (((4 : Int32) - (1 : Int32)) - (1 : Int32))), (.int i2)]))
          have Zn313 : n0 ≤ T236.heap.size := by omega
          obtain ⟨rv313, _, ⟨T313, L313, k313, n313⟩, -, X313, ⟨Lc313, hQ313, l313, y313, z313⟩, st313⟩ := Jvm.LawKit.callS X312 hx (y := (⟨"java/lang/Math", "max", "(II)I"⟩ : MethodName)) hown (mvT hZ (hw _ (own_mi 40 rfl))) (mvT hZ (hw _ (own_mi 41 rfl))) (mvT hZ (hw _ (own_mi 42 rfl))) (mvT hZ (hw _ (own_mi 43 rfl))) (by decide) (backOf (W := 0) (rmMax l Z a0 hw [] (i2) ((((4 : Int32) - (1 : Int32)) - (1 : Int32))) T236.heap n0 Zn313 ) hZ (hw _ (own_mi 43 rfl)) (hw _ (own_mi 42 rfl)) (by decide) (by decide)) (g := (mkF m 271 #[.val (.long l0), .second, .val (.int i1), .val (.int i2), .val (.int i3), .val (.int (4 : Int32)), .val (.int c0), .val (.int c1), .val (.int c2), .val (.int c3), .val (.ref b216), .val (.int (((4 : Int32) - (1 : Int32)) - (1 : Int32))), .unset, .unset, .unset] [(.int (((4 : Int32) - (1 : Int32)) - (1 : Int32))), (.int i2)])) rfl (by rw [hml]; rfl) (argsL := [(.int i2), (.int (((4 : Int32) - (1 : Int32)) - (1 : Int32)))]) (rest := []) (lenOf own_pd_28II29I rfl) rfl (by show 2 * 0 + _ ≤ _; exact Nat.le_of_eq rfl) (hb hby at_271) (fun _ _ => ⟨rfl, eh312, (by decide : 4 + 0 ≤ _), (by decide : 20 + 0 ≤ _)⟩)
          dsimp only [Pt.U, Pt.locs, Pt.cells, Pt.slots] at X313 l313 y313 z313 st313 hQ313
          subst l313 y313 z313
          obtain ⟨bd, rfl, Nq313, eh313, R_313⟩ := hQ313
          have N313 := Fr.app N312 Nq313
          refine own_go st313 ?_
          show own_Rn p e below _ (T313.setTop (mkF m 274 #[.val (.long l0), .second, .val (.int i1), .val (.int i2), .val (.int i3), .val (.int (4 : Int32)), .val (.int c0), .val (.int c1), .val (.int c2), .val (.int c3), .val (.ref b216), .val (.int (((4 : Int32) - (1 : Int32)) - (1 : Int32))), .unset, .unset, .unset] [(.int bd)]))
          refine own_go (fun tq kq => XS.istore X313.here hx rfl (hb hby at_274) rfl (l' := #[.val (.long l0), .second, .val (.int i1), .val (.int i2), .val (.int i3), .val (.int (4 : Int32)), .val (.int c0), .val (.int c1), .val (.int c2), .val (.int c3), .val (.ref b216), .val (.int (((4 : Int32) - (1 : Int32)) - (1 : Int32))), .val (.int bd), .unset, .unset]) rfl kq) ?_
          show own_Rn p e below _ (T313.setTop (mkF m 276 #[.val (.long l0), .second, .val (.int i1), .val (.int i2), .val (.int i3), .val (.int (4 : Int32)), .val (.int c0), .val (.int c1), .val (.int c2), .val (.int c3), .val (.ref b216), .val (.int (((4 : Int32) - (1 : Int32)) - (1 : Int32))), .val (.int bd), .unset, .unset] []))
          refine own_go (fun tq kq => XS.iload X313.here hx rfl (hb hby at_276) rfl kq) ?_
          show own_Rn p e below _ (T313.setTop (mkF m 278 #[.val (.long l0), .second, .val (.int i1), .val (.int i2), .val (.int i3), .val (.int (4 : Int32)), .val (.int c0), .val (.int c1), .val (.int c2), .val (.int c3), .val (.ref b216), .val (.int (((4 : Int32) - (1 : Int32)) - (1 : Int32))), .val (.int bd), .unset, .unset] [(.int i3)]))
          refine own_go (fun tq kq => XS.sipush X313.here hx rfl (hb hby at_278) kq) ?_
          show own_Rn p e below _ (T313.setTop (mkF m 281 #[.val (.long l0), .second, .val (.int i1), .val (.int i2), .val (.int i3), .val (.int (4 : Int32)), .val (.int c0), .val (.int c1), .val (.int c2), .val (.int c3), .val (.ref b216), .val (.int (((4 : Int32) - (1 : Int32)) - (1 : Int32))), .val (.int bd), .unset, .unset] [(.int (255 : Int32)), (.int i3)]))
          refine own_go (fun tq kq => XS.iand X313.here hx rfl (hb hby at_281) rfl kq) ?_
          show own_Rn p e below _ (T313.setTop (mkF m 282 #[.val (.long l0), .second, .val (.int i1), .val (.int i2), .val (.int i3), .val (.int (4 : Int32)), .val (.int c0), .val (.int c1), .val (.int c2), .val (.int c3), .val (.ref b216), .val (.int (((4 : Int32) - (1 : Int32)) - (1 : Int32))), .val (.int bd), .unset, .unset] [(.int (i3 &&& (255 : Int32)))]))
          refine own_go (fun tq kq => XS.i2c X313.here hx rfl (hb hby at_282) rfl kq) ?_
          show own_Rn p e below _ (T313.setTop (mkF m 283 #[.val (.long l0), .second, .val (.int i1), .val (.int i2), .val (.int i3), .val (.int (4 : Int32)), .val (.int c0), .val (.int c1), .val (.int c2), .val (.int c3), .val (.ref b216), .val (.int (((4 : Int32) - (1 : Int32)) - (1 : Int32))), .val (.int bd), .unset, .unset] [(.int ((i3 &&& (255 : Int32)).toUInt32.toUInt16.toUInt32.toInt32))]))
          obtain ⟨wc, hwc⟩ : ∃ z : Int32, z = ((i3 &&& (255 : Int32)).toUInt32.toUInt16.toUInt32.toInt32) := ⟨_, rfl⟩
          rw [← hwc]
          show own_Rn p e below _ (T313.setTop (mkF m 283 #[.val (.long l0), .second, .val (.int i1), .val (.int i2), .val (.int i3), .val (.int (4 : Int32)), .val (.int c0), .val (.int c1), .val (.int c2), .val (.int c3), .val (.ref b216), .val (.int (((4 : Int32) - (1 : Int32)) - (1 : Int32))), .val (.int bd), .unset, .unset] [(.int wc)]))
          have rwc : ¬ wc < 0 ∧ ¬ (255 : Int32) < wc := by rw [hwc]; exact own_chr_rng _
          have Zn314 : n0 ≤ T236.heap.size := by omega
          have F315 : Old Z n0 T236.heap := (F241.keep Kq236 (allS gn216 all0))
          obtain ⟨rv314, _, ⟨T314, L314, k314, n314⟩, -, X314, ⟨Lc314, hQ314, l314, y314, z314⟩, st314⟩ := Jvm.LawKit.callS X313 hx (y := (⟨"java/lang/String", "valueOf", "(C)Ljava/lang/String;"⟩ : MethodName)) hown (mvT hZ (hw _ (own_mi 44 rfl))) (mvT hZ (hw _ (own_mi 45 rfl))) (mvT hZ (hw _ (own_mi 4 rfl))) (mvT hZ (hw _ (own_mi 46 rfl))) (by decide) (backOf (W := 0) (rmVal l Z a0 hw [] (wc) (G1) T236.heap n0 Zn314 (rwc) (O2) (P5) F315) hZ (hw _ (own_mi 46 rfl)) (hw _ (own_mi 4 rfl)) (by decide) (by decide)) (g := (mkF m 283 #[.val (.long l0), .second, .val (.int i1), .val (.int i2), .val (.int i3), .val (.int (4 : Int32)), .val (.int c0), .val (.int c1), .val (.int c2), .val (.int c3), .val (.ref b216), .val (.int (((4 : Int32) - (1 : Int32)) - (1 : Int32))), .val (.int bd), .unset, .unset] [(.int wc)])) rfl (by rw [hml]; rfl) (argsL := [(.int wc)]) (rest := []) (lenOf own_pd_28C29Ljava2flang2fString3b rfl) rfl (by show 2 * 0 + _ ≤ _; exact Nat.le_of_eq rfl) (hb hby at_283) (fun _ _ => ⟨rfl, eh313, (by decide : 4 + 2 ≤ _), (by decide : 20 + 5 ≤ _)⟩)
          dsimp only [Pt.U, Pt.locs, Pt.cells, Pt.slots] at X314 l314 y314 z314 st314 hQ314
          subst l314 y314 z314
          obtain ⟨xw, tw, kw, rfl, Nq314, Kq314, G0_314, G1_314, G2_314, G3_314, G4_314, G5_314, G6_314, G7_314⟩ := hQ314
          have N314 := Fr.app N313 Nq314
          have sz316 : T236.heap.size ≤ T314.heap.size := Kq314.1
          have cr316 : CHr Z consts_1 s.vm T236.heap s.vm T314.heap := CHr.keep Kq314 sf0 CR244.1
          have CR316 := CR244.trans cr316
          have sf317 : Safe Z consts_1 s.vm T314.heap xw := Safe.keep Kq314 sf0 CR244.1 (Safe.new (by omega))
          have sf318 : Safe Z consts_1 s.vm T314.heap tw := Safe.keep Kq314 sf0 CR244.1 (Safe.new (by omega))
          have lt319 : @LT.lt Nat _ xw T314.heap.size := G4_314.lt
          have lt320 : @LT.lt Nat _ tw T314.heap.size := G7_314.lt
          refine own_go st314 ?_
          show own_Rn p e below _ (T314.setTop (mkF m 286 #[.val (.long l0), .second, .val (.int i1), .val (.int i2), .val (.int i3), .val (.int (4 : Int32)), .val (.int c0), .val (.int c1), .val (.int c2), .val (.int c3), .val (.ref b216), .val (.int (((4 : Int32) - (1 : Int32)) - (1 : Int32))), .val (.int bd), .unset, .unset] [(.ref xw)]))
          refine own_go (fun tq kq => XS.astore X314.here hx rfl (hb hby at_286) rfl rfl (l' := #[.val (.long l0), .second, .val (.int i1), .val (.int i2), .val (.int i3), .val (.int (4 : Int32)), .val (.int c0), .val (.int c1), .val (.int c2), .val (.int c3), .val (.ref b216), .val (.int (((4 : Int32) - (1 : Int32)) - (1 : Int32))), .val (.int bd), .val (.ref xw), .unset]) rfl kq) ?_
          show own_Rn p e below _ (T314.setTop (mkF m 288 #[.val (.long l0), .second, .val (.int i1), .val (.int i2), .val (.int i3), .val (.int (4 : Int32)), .val (.int c0), .val (.int c1), .val (.int c2), .val (.int c3), .val (.ref b216), .val (.int (((4 : Int32) - (1 : Int32)) - (1 : Int32))), .val (.int bd), .val (.ref xw), .unset] []))
          refine own_go (fun tq kq => XS.aload X314.here hx rfl (hb hby at_288) rfl rfl kq) ?_
          show own_Rn p e below _ (T314.setTop (mkF m 290 #[.val (.long l0), .second, .val (.int i1), .val (.int i2), .val (.int i3), .val (.int (4 : Int32)), .val (.int c0), .val (.int c1), .val (.int c2), .val (.int c3), .val (.ref b216), .val (.int (((4 : Int32) - (1 : Int32)) - (1 : Int32))), .val (.int bd), .val (.ref xw), .unset] [(.ref xw)]))
          refine own_go (fun tq kq => XS.iload X314.here hx rfl (hb hby at_290) rfl kq) ?_
          show own_Rn p e below _ (T314.setTop (mkF m 292 #[.val (.long l0), .second, .val (.int i1), .val (.int i2), .val (.int i3), .val (.int (4 : Int32)), .val (.int c0), .val (.int c1), .val (.int c2), .val (.int c3), .val (.ref b216), .val (.int (((4 : Int32) - (1 : Int32)) - (1 : Int32))), .val (.int bd), .val (.ref xw), .unset] [(.int bd), (.ref xw)]))
          refine own_go (fun tq kq => XS.aload X314.here hx rfl (hb hby at_292) rfl rfl kq) ?_
          show own_Rn p e below _ (T314.setTop (mkF m 294 #[.val (.long l0), .second, .val (.int i1), .val (.int i2), .val (.int i3), .val (.int (4 : Int32)), .val (.int c0), .val (.int c1), .val (.int c2), .val (.int c3), .val (.ref b216), .val (.int (((4 : Int32) - (1 : Int32)) - (1 : Int32))), .val (.int bd), .val (.ref xw), .unset] [(.ref b216), (.int bd), (.ref xw)]))
          have hcp : own_cp ([c0, c1, c2, c3] : List Int32) = 2 := by rw [own_cp, own_p4, hp0, hp1, hp2]; rfl
          have hmx : ¬ bd < Int32.ofNat (own_cp ([c0, c1, c2, c3] : List Int32)) := by rw [hcp]; have h := R_313; rwa [show (((4 : Int32) - (1 : Int32)) - (1 : Int32)) = Int32.ofNat 2 by decide] at h
          have Zn321 : n0 ≤ T314.heap.size := by omega
          have F322 : Exa Z T314.heap b216 "java/lang/String" := ((F237.keep Kq236).keep Kq314)
          have F323 : Fld Z T314.heap b216 "java/lang/String" "value" "[B" (.ref tt) := (G2_236.keep Kq314 nin0)
          have F324 : Fld Z T314.heap b216 "java/lang/String" "coder" "B" (.int cd) := (G3_236.keep Kq314 nin0)
          have F325 : Arv Z T314.heap tt kk .byte NN vv (.int 0) := (G4_236.keep Kq314 nin0)
          have F326 : Old Z n0 T314.heap := (F315.keep Kq314 all0)
          obtain ⟨rv321, _, ⟨T321, L321, k321, n321⟩, -, X321, ⟨Lc321, hQ321, l321, y321, z321⟩, st321⟩ := Jvm.LawKit.callS X314 hx (y := (⟨"com/example/cellwise/cellwise/Checks", "atMost", "(Ljava/lang/String;ILjava/lang/String;)Ljava/lang/String;"⟩ : MethodName)) hown (mvT hZ (hw _ (own_mi 58 rfl))) (mvT hZ (hw _ (own_mi 59 rfl))) (mvT hZ (hw _ (own_mi 60 rfl))) (mvT hZ (hw _ (own_mi 61 rfl))) (by decide) (backOf (W := 0) (rmAM l Z a0 hw [] (xw) (bd) (b216) (tt) (kk) (NN) (vv) (cd) (([c0, c1, c2, c3] : List Int32)) (G1) T314.heap n0 Zn321 F322 F323 F324 F325 (RL) (by simp) (hr) (hmx) (OAD) (OHI) (OLO) (O2) (P5) F326) hZ (hw _ (own_mi 61 rfl)) (hw _ (own_mi 60 rfl)) (by decide) (by decide)) (g := (mkF m 294 #[.val (.long l0), .second, .val (.int i1), .val (.int i2), .val (.int i3), .val (.int (4 : Int32)), .val (.int c0), .val (.int c1), .val (.int c2), .val (.int c3), .val (.ref b216), .val (.int (((4 : Int32) - (1 : Int32)) - (1 : Int32))), .val (.int bd), .val (.ref xw), .unset] [(.ref b216), (.int bd), (.ref xw)])) rfl (by rw [hml]; rfl) (argsL := [(.ref xw), (.int bd), (.ref b216)]) (rest := []) (lenOf own_pd_28Ljava2flang2fString3bILjava2flang2fString3b29Ljava2flang2fString3b rfl) rfl (by show 2 * 0 + _ ≤ _; exact Nat.le_of_eq rfl) (hb hby at_294) (fun _ _ => ⟨rfl, rfl, (by decide : 6 + 0 ≤ _), (by decide : 25 + 0 ≤ _)⟩)
          dsimp only [Pt.U, Pt.locs, Pt.cells, Pt.slots] at X321 l321 y321 z321 st321 hQ321
          subst l321 y321 z321
          obtain ⟨rfl, Nq321, eh321⟩ := hQ321
          have N321 := Fr.app N314 Nq321
          refine own_go st321 ?_
          show own_Rn p e below _ (T321.setTop (mkF m 297 #[.val (.long l0), .second, .val (.int i1), .val (.int i2), .val (.int i3), .val (.int (4 : Int32)), .val (.int c0), .val (.int c1), .val (.int c2), .val (.int c3), .val (.ref b216), .val (.int (((4 : Int32) - (1 : Int32)) - (1 : Int32))), .val (.int bd), .val (.ref xw), .unset] [(.ref b216)]))
          refine own_go (fun tq kq => XS.astore X321.here hx rfl (hb hby at_297) rfl rfl (l' := #[.val (.long l0), .second, .val (.int i1), .val (.int i2), .val (.int i3), .val (.int (4 : Int32)), .val (.int c0), .val (.int c1), .val (.int c2), .val (.int c3), .val (.ref b216), .val (.int (((4 : Int32) - (1 : Int32)) - (1 : Int32))), .val (.int bd), .val (.ref xw), .val (.ref b216)]) rfl kq) ?_
          show own_Rn p e below _ (T321.setTop (mkF m 299 #[.val (.long l0), .second, .val (.int i1), .val (.int i2), .val (.int i3), .val (.int (4 : Int32)), .val (.int c0), .val (.int c1), .val (.int c2), .val (.int c3), .val (.ref b216), .val (.int (((4 : Int32) - (1 : Int32)) - (1 : Int32))), .val (.int bd), .val (.ref xw), .val (.ref b216)] []))
          refine own_go (fun tq kq => XS.aload X321.here hx rfl (hb hby at_299) rfl rfl kq) ?_
          show own_Rn p e below _ (T321.setTop (mkF m 301 #[.val (.long l0), .second, .val (.int i1), .val (.int i2), .val (.int i3), .val (.int (4 : Int32)), .val (.int c0), .val (.int c1), .val (.int c2), .val (.int c3), .val (.ref b216), .val (.int (((4 : Int32) - (1 : Int32)) - (1 : Int32))), .val (.int bd), .val (.ref xw), .val (.ref b216)] [(.ref b216)]))
          refine own_go (fun tq kq => XS.ifnullNo X321.here hx rfl (hb hby at_301) rfl kq) ?_
          show own_Rn p e below _ (T321.setTop (mkF m 304 #[.val (.long l0), .second, .val (.int i1), .val (.int i2), .val (.int i3), .val (.int (4 : Int32)), .val (.int c0), .val (.int c1), .val (.int c2), .val (.int c3), .val (.ref b216), .val (.int (((4 : Int32) - (1 : Int32)) - (1 : Int32))), .val (.int bd), .val (.ref xw), .val (.ref b216)] []))
          refine own_go (fun tq kq => XS.aload X321.here hx rfl (hb hby at_304) rfl rfl kq) ?_
          show own_Rn p e below _ (T321.setTop (mkF m 306 #[.val (.long l0), .second, .val (.int i1), .val (.int i2), .val (.int i3), .val (.int (4 : Int32)), .val (.int c0), .val (.int c1), .val (.int c2), .val (.int c3), .val (.ref b216), .val (.int (((4 : Int32) - (1 : Int32)) - (1 : Int32))), .val (.int bd), .val (.ref xw), .val (.ref b216)] [(.ref b216)]))
          refine own_go (fun tq kq => XS.aload X321.here hx rfl (hb hby at_306) rfl rfl kq) ?_
          show own_Rn p e below _ (T321.setTop (mkF m 308 #[.val (.long l0), .second, .val (.int i1), .val (.int i2), .val (.int i3), .val (.int (4 : Int32)), .val (.int c0), .val (.int c1), .val (.int c2), .val (.int c3), .val (.ref b216), .val (.int (((4 : Int32) - (1 : Int32)) - (1 : Int32))), .val (.int bd), .val (.ref xw), .val (.ref b216)] [(.ref b216), (.ref b216)]))
          have Zn327 : n0 ≤ T314.heap.size := by omega
          obtain ⟨cq327, kq327, qa327, qb327, qc327⟩ := isOf hZ eh321 F322
          obtain ⟨rv327, _, ⟨T327, L327, k327, n327⟩, -, X327, ⟨Lc327, hQ327, l327, y327, z327⟩, st327⟩ := X321.virtualBack hx (y := (⟨"java/lang/String", "equals", "(Ljava/lang/Object;)Z"⟩ : MethodName)) (z := (⟨"java/lang/String", "equals", "(Ljava/lang/Object;)Z"⟩ : MethodName)) hown (mvT hZ (hw _ (own_mi 91 rfl))) (mvT hZ (hw _ (own_mi 92 rfl))) (notFace_of_selects (args := #[]) (mvT hZ (hw _ (own_mi 94 rfl)))) (mvT hZ (hw _ (own_mi 94 rfl))) (mvT hZ (hw _ (own_mi 93 rfl))) (by decide) (backOf (W := 0) (rmEqS l Z a0 hw [] (b216) T314.heap n0 Zn327 ) hZ (hw _ (own_mi 95 rfl)) (hw _ (own_mi 4 rfl)) (by decide) (by decide)) qa327 qc327 (g := (mkF m 308 #[.val (.long l0), .second, .val (.int i1), .val (.int i2), .val (.int i3), .val (.int (4 : Int32)), .val (.int c0), .val (.int c1), .val (.int c2), .val (.int c3), .val (.ref b216), .val (.int (((4 : Int32) - (1 : Int32)) - (1 : Int32))), .val (.int bd), .val (.ref xw), .val (.ref b216)] [(.ref b216), (.ref b216)])) rfl (by rw [hml]; rfl) (Steps.refl _) (argsL := [(.ref b216)]) (rest := []) (lenOf own_pd_28Ljava2flang2fObject3b29Z rfl) rfl (by show 2 * 0 + _ ≤ _; exact Nat.le_of_eq rfl) (hb hby at_308) (fun _ _ => ⟨rfl, eh321, (by decide : 6 + 0 ≤ _), (by decide : 25 + 0 ≤ _)⟩)
          dsimp only [Pt.U, Pt.locs, Pt.cells, Pt.slots] at X327 l327 y327 z327 st327 hQ327
          subst l327 y327 z327
          obtain ⟨rfl, Nq327, eh327⟩ := hQ327
          have N327 := Fr.app N321 Nq327
          refine own_go (fun tq kq => st327.trans kq) ?_
          show own_Rn p e below _ (T327.setTop (mkF m 311 #[.val (.long l0), .second, .val (.int i1), .val (.int i2), .val (.int i3), .val (.int (4 : Int32)), .val (.int c0), .val (.int c1), .val (.int c2), .val (.int c3), .val (.ref b216), .val (.int (((4 : Int32) - (1 : Int32)) - (1 : Int32))), .val (.int bd), .val (.ref xw), .val (.ref b216)] [(.int (1 : Int32))]))
          refine own_go (fun tq kq => XS.ifNo X327.here hx rfl (hb hby at_311) rfl ((if0 _ _).trans (feq ((by decide : ¬ ((1 : Int32) = (0 : Int32))) : ¬ ((1 : Int32) = (0 : Int32)))).1) kq) ?_
          show own_Rn p e below _ (T327.setTop (mkF m 314 #[.val (.long l0), .second, .val (.int i1), .val (.int i2), .val (.int i3), .val (.int (4 : Int32)), .val (.int c0), .val (.int c1), .val (.int c2), .val (.int c3), .val (.ref b216), .val (.int (((4 : Int32) - (1 : Int32)) - (1 : Int32))), .val (.int bd), .val (.ref xw), .val (.ref b216)] []))
          refine own_go (fun tq kq => XS.iconst X327.here hx rfl (hb hby at_314) kq) ?_
          show own_Rn p e below _ (T327.setTop (mkF m 315 #[.val (.long l0), .second, .val (.int i1), .val (.int i2), .val (.int i3), .val (.int (4 : Int32)), .val (.int c0), .val (.int c1), .val (.int c2), .val (.int c3), .val (.ref b216), .val (.int (((4 : Int32) - (1 : Int32)) - (1 : Int32))), .val (.int bd), .val (.ref xw), .val (.ref b216)] [(.int (1 : Int32))]))
          refine own_go (fun tq kq => XS.goto X327.here hx rfl (pc0 := 315) (pc' := 319) rfl (hb hby at_315) (by decide) (by decide) kq) ?_
          show own_Rn p e below _ (T327.setTop (mkF m 319 #[.val (.long l0), .second, .val (.int i1), .val (.int i2), .val (.int i3), .val (.int (4 : Int32)), .val (.int c0), .val (.int c1), .val (.int c2), .val (.int c3), .val (.ref b216), .val (.int (((4 : Int32) - (1 : Int32)) - (1 : Int32))), .val (.int bd), .val (.ref xw), .val (.ref b216)] [(.int (1 : Int32))]))
          exact own_retS X327 hS0 (by rw [eh327]; omega) (v := some (.int (nar .boolean (1 : Int32)))) (fun h => by rw [Bd.returns] at h; cases h) (fun fs hr => retN X327 hx (t := .boolean) Bd.returns (by simp) (hb hby at_319) hr) (by rw [eh327]; exact ⟨rfl, N327⟩) (by rw [hh, eh327]; exact CR316.trans (CHv.at X327 hZ hEL CR316.1)) (by decide) (by decide)
        · skip
          rw [if_neg hA2]
          show own_Rn p e below _ (T312.setTop (mkF m 259 #[.val (.long l0), .second, .val (.int i1), .val (.int i2), .val (.int i3), .val (.int (4 : Int32)), .val (.int c0), .val (.int c1), .val (.int c2), .val (.int c3), .val (.ref b216), .val (.int ((4 : Int32) - (1 : Int32))), .unset, .unset, .unset] [(.int (0 : Int32))]))
          have hp2 : own_pr c2 c3 = 0 := if_neg hA2
          refine own_go (fun tq kq => XS.ifYes X312.here hx rfl (pc0 := 259) (pc' := 268) rfl (hb hby at_259) rfl ((if0 _ _).trans (teq ((by decide : (0 : Int32) = (0 : Int32)) : (0 : Int32) = (0 : Int32))).1) (by decide) (by decide) kq) ?_
          show own_Rn p e below _ (T312.setTop (mkF m 268 #[.val (.long l0), .second, .val (.int i1), .val (.int i2), .val (.int i3), .val (.int (4 : Int32)), .val (.int c0), .val (.int c1), .val (.int c2), .val (.int c3), .val (.ref b216), .val (.int ((4 : Int32) - (1 : Int32))), .unset, .unset, .unset] []))
          refine own_go (fun tq kq => XS.iloadN X312.here hx rfl (hb hby at_268) rfl kq) ?_
          show own_Rn p e below _ (T312.setTop (mkF m 269 #[.val (.long l0), .second, .val (.int i1), .val (.int i2), .val (.int i3), .val (.int (4 : Int32)), .val (.int c0), .val (.int c1), .val (.int c2), .val (.int c3), .val (.ref b216), .val (.int ((4 : Int32) - (1 : Int32))), .unset, .unset, .unset] [(.int i2)]))
          refine own_go (fun tq kq => XS.iload X312.here hx rfl (hb hby at_269) rfl kq) ?_
          show own_Rn p e below _ (T312.setTop (mkF m 271 #[.val (.long l0), .second, .val (.int i1), .val (.int i2), .val (.int i3), .val (.int (4 : Int32)), .val (.int c0), .val (.int c1), .val (.int c2), .val (.int c3), .val (.ref b216), .val (.int ((4 : Int32) - (1 : Int32))), .unset, .unset, .unset] [(.int ((4 : Int32) - (1 : Int32))), (.int i2)]))
          have Zn328 : n0 ≤ T236.heap.size := by omega
          obtain ⟨rv328, _, ⟨T328, L328, k328, n328⟩, -, X328, ⟨Lc328, hQ328, l328, y328, z328⟩, st328⟩ := Jvm.LawKit.callS X312 hx (y := (⟨"java/lang/Math", "max", "(II)I"⟩ : MethodName)) hown (mvT hZ (hw _ (own_mi 40 rfl))) (mvT hZ (hw _ (own_mi 41 rfl))) (mvT hZ (hw _ (own_mi 42 rfl))) (mvT hZ (hw _ (own_mi 43 rfl))) (by decide) (backOf (W := 0) (rmMax l Z a0 hw [] (i2) (((4 : Int32) - (1 : Int32))) T236.heap n0 Zn328 ) hZ (hw _ (own_mi 43 rfl)) (hw _ (own_mi 42 rfl)) (by decide) (by decide)) (g := (mkF m 271 #[.val (.long l0), .second, .val (.int i1), .val (.int i2), .val (.int i3), .val (.int (4 : Int32)), .val (.int c0), .val (.int c1), .val (.int c2), .val (.int c3), .val (.ref b216), .val (.int ((4 : Int32) - (1 : Int32))), .unset, .unset, .unset] [(.int ((4 : Int32) - (1 : Int32))), (.int i2)])) rfl (by rw [hml]; rfl) (argsL := [(.int i2), (.int ((4 : Int32) - (1 : Int32)))]) (rest := []) (lenOf own_pd_28II29I rfl) rfl (by show 2 * 0 + _ ≤ _; exact Nat.le_of_eq rfl) (hb hby at_271) (fun _ _ => ⟨rfl, eh312, (by decide : 4 + 0 ≤ _), (by decide : 20 + 0 ≤ _)⟩)
          dsimp only [Pt.U, Pt.locs, Pt.cells, Pt.slots] at X328 l328 y328 z328 st328 hQ328
          subst l328 y328 z328
          obtain ⟨bd, rfl, Nq328, eh328, R_328⟩ := hQ328
          have N328 := Fr.app N312 Nq328
          refine own_go st328 ?_
          show own_Rn p e below _ (T328.setTop (mkF m 274 #[.val (.long l0), .second, .val (.int i1), .val (.int i2), .val (.int i3), .val (.int (4 : Int32)), .val (.int c0), .val (.int c1), .val (.int c2), .val (.int c3), .val (.ref b216), .val (.int ((4 : Int32) - (1 : Int32))), .unset, .unset, .unset] [(.int bd)]))
          refine own_go (fun tq kq => XS.istore X328.here hx rfl (hb hby at_274) rfl (l' := #[.val (.long l0), .second, .val (.int i1), .val (.int i2), .val (.int i3), .val (.int (4 : Int32)), .val (.int c0), .val (.int c1), .val (.int c2), .val (.int c3), .val (.ref b216), .val (.int ((4 : Int32) - (1 : Int32))), .val (.int bd), .unset, .unset]) rfl kq) ?_
          show own_Rn p e below _ (T328.setTop (mkF m 276 #[.val (.long l0), .second, .val (.int i1), .val (.int i2), .val (.int i3), .val (.int (4 : Int32)), .val (.int c0), .val (.int c1), .val (.int c2), .val (.int c3), .val (.ref b216), .val (.int ((4 : Int32) - (1 : Int32))), .val (.int bd), .unset, .unset] []))
          refine own_go (fun tq kq => XS.iload X328.here hx rfl (hb hby at_276) rfl kq) ?_
          show own_Rn p e below _ (T328.setTop (mkF m 278 #[.val (.long l0), .second, .val (.int i1), .val (.int i2), .val (.int i3), .val (.int (4 : Int32)), .val (.int c0), .val (.int c1), .val (.int c2), .val (.int c3), .val (.ref b216), .val (.int ((4 : Int32) - (1 : Int32))), .val (.int bd), .unset, .unset] [(.int i3)]))
          refine own_go (fun tq kq => XS.sipush X328.here hx rfl (hb hby at_278) kq) ?_
          show own_Rn p e below _ (T328.setTop (mkF m 281 #[.val (.long l0), .second, .val (.int i1), .val (.int i2), .val (.int i3), .val (.int (4 : Int32)), .val (.int c0), .val (.int c1), .val (.int c2), .val (.int c3), .val (.ref b216), .val (.int ((4 : Int32) - (1 : Int32))), .val (.int bd), .unset, .unset] [(.int (255 : Int32)), (.int i3)]))
          refine own_go (fun tq kq => XS.iand X328.here hx rfl (hb hby at_281) rfl kq) ?_
          show own_Rn p e below _ (T328.setTop (mkF m 282 #[.val (.long l0), .second, .val (.int i1), .val (.int i2), .val (.int i3), .val (.int (4 : Int32)), .val (.int c0), .val (.int c1), .val (.int c2), .val (.int c3), .val (.ref b216), .val (.int ((4 : Int32) - (1 : Int32))), .val (.int bd), .unset, .unset] [(.int (i3 &&& (255 : Int32)))]))
          refine own_go (fun tq kq => XS.i2c X328.here hx rfl (hb hby at_282) rfl kq) ?_
          show own_Rn p e below _ (T328.setTop (mkF m 283 #[.val (.long l0), .second, .val (.int i1), .val (.int i2), .val (.int i3), .val (.int (4 : Int32)), .val (.int c0), .val (.int c1), .val (.int c2), .val (.int c3), .val (.ref b216), .val (.int ((4 : Int32) - (1 : Int32))), .val (.int bd), .unset, .unset] [(.int ((i3 &&& (255 : Int32)).toUInt32.toUInt16.toUInt32.toInt32))]))
          obtain ⟨wc, hwc⟩ : ∃ z : Int32, z = ((i3 &&& (255 : Int32)).toUInt32.toUInt16.toUInt32.toInt32) := ⟨_, rfl⟩
          rw [← hwc]
          show own_Rn p e below _ (T328.setTop (mkF m 283 #[.val (.long l0), .second, .val (.int i1), .val (.int i2), .val (.int i3), .val (.int (4 : Int32)), .val (.int c0), .val (.int c1), .val (.int c2), .val (.int c3), .val (.ref b216), .val (.int ((4 : Int32) - (1 : Int32))), .val (.int bd), .unset, .unset] [(.int wc)]))
          have rwc : ¬ wc < 0 ∧ ¬ (255 : Int32) < wc := by rw [hwc]; exact own_chr_rng _
          have Zn329 : n0 ≤ T236.heap.size := by omega
          have F330 : Old Z n0 T236.heap := (F241.keep Kq236 (allS gn216 all0))
          obtain ⟨rv329, _, ⟨T329, L329, k329, n329⟩, -, X329, ⟨Lc329, hQ329, l329, y329, z329⟩, st329⟩ := Jvm.LawKit.callS X328 hx (y := (⟨"java/lang/String", "valueOf", "(C)Ljava/lang/String;"⟩ : MethodName)) hown (mvT hZ (hw _ (own_mi 44 rfl))) (mvT hZ (hw _ (own_mi 45 rfl))) (mvT hZ (hw _ (own_mi 4 rfl))) (mvT hZ (hw _ (own_mi 46 rfl))) (by decide) (backOf (W := 0) (rmVal l Z a0 hw [] (wc) (G1) T236.heap n0 Zn329 (rwc) (O2) (P5) F330) hZ (hw _ (own_mi 46 rfl)) (hw _ (own_mi 4 rfl)) (by decide) (by decide)) (g := (mkF m 283 #[.val (.long l0), .second, .val (.int i1), .val (.int i2), .val (.int i3), .val (.int (4 : Int32)), .val (.int c0), .val (.int c1), .val (.int c2), .val (.int c3), .val (.ref b216), .val (.int ((4 : Int32) - (1 : Int32))), .val (.int bd), .unset, .unset] [(.int wc)])) rfl (by rw [hml]; rfl) (argsL := [(.int wc)]) (rest := []) (lenOf own_pd_28C29Ljava2flang2fString3b rfl) rfl (by show 2 * 0 + _ ≤ _; exact Nat.le_of_eq rfl) (hb hby at_283) (fun _ _ => ⟨rfl, eh328, (by decide : 4 + 2 ≤ _), (by decide : 20 + 5 ≤ _)⟩)
          dsimp only [Pt.U, Pt.locs, Pt.cells, Pt.slots] at X329 l329 y329 z329 st329 hQ329
          subst l329 y329 z329
          obtain ⟨xw, tw, kw, rfl, Nq329, Kq329, G0_329, G1_329, G2_329, G3_329, G4_329, G5_329, G6_329, G7_329⟩ := hQ329
          have N329 := Fr.app N328 Nq329
          have sz331 : T236.heap.size ≤ T329.heap.size := Kq329.1
          have cr331 : CHr Z consts_1 s.vm T236.heap s.vm T329.heap := CHr.keep Kq329 sf0 CR244.1
          have CR331 := CR244.trans cr331
          have sf332 : Safe Z consts_1 s.vm T329.heap xw := Safe.keep Kq329 sf0 CR244.1 (Safe.new (by omega))
          have sf333 : Safe Z consts_1 s.vm T329.heap tw := Safe.keep Kq329 sf0 CR244.1 (Safe.new (by omega))
          have lt334 : @LT.lt Nat _ xw T329.heap.size := G4_329.lt
          have lt335 : @LT.lt Nat _ tw T329.heap.size := G7_329.lt
          refine own_go st329 ?_
          show own_Rn p e below _ (T329.setTop (mkF m 286 #[.val (.long l0), .second, .val (.int i1), .val (.int i2), .val (.int i3), .val (.int (4 : Int32)), .val (.int c0), .val (.int c1), .val (.int c2), .val (.int c3), .val (.ref b216), .val (.int ((4 : Int32) - (1 : Int32))), .val (.int bd), .unset, .unset] [(.ref xw)]))
          refine own_go (fun tq kq => XS.astore X329.here hx rfl (hb hby at_286) rfl rfl (l' := #[.val (.long l0), .second, .val (.int i1), .val (.int i2), .val (.int i3), .val (.int (4 : Int32)), .val (.int c0), .val (.int c1), .val (.int c2), .val (.int c3), .val (.ref b216), .val (.int ((4 : Int32) - (1 : Int32))), .val (.int bd), .val (.ref xw), .unset]) rfl kq) ?_
          show own_Rn p e below _ (T329.setTop (mkF m 288 #[.val (.long l0), .second, .val (.int i1), .val (.int i2), .val (.int i3), .val (.int (4 : Int32)), .val (.int c0), .val (.int c1), .val (.int c2), .val (.int c3), .val (.ref b216), .val (.int ((4 : Int32) - (1 : Int32))), .val (.int bd), .val (.ref xw), .unset] []))
          refine own_go (fun tq kq => XS.aload X329.here hx rfl (hb hby at_288) rfl rfl kq) ?_
          show own_Rn p e below _ (T329.setTop (mkF m 290 #[.val (.long l0), .second, .val (.int i1), .val (.int i2), .val (.int i3), .val (.int (4 : Int32)), .val (.int c0), .val (.int c1), .val (.int c2), .val (.int c3), .val (.ref b216), .val (.int ((4 : Int32) - (1 : Int32))), .val (.int bd), .val (.ref xw), .unset] [(.ref xw)]))
          refine own_go (fun tq kq => XS.iload X329.here hx rfl (hb hby at_290) rfl kq) ?_
          show own_Rn p e below _ (T329.setTop (mkF m 292 #[.val (.long l0), .second, .val (.int i1), .val (.int i2), .val (.int i3), .val (.int (4 : Int32)), .val (.int c0), .val (.int c1), .val (.int c2), .val (.int c3), .val (.ref b216), .val (.int ((4 : Int32) - (1 : Int32))), .val (.int bd), .val (.ref xw), .unset] [(.int bd), (.ref xw)]))
          refine own_go (fun tq kq => XS.aload X329.here hx rfl (hb hby at_292) rfl rfl kq) ?_
          show own_Rn p e below _ (T329.setTop (mkF m 294 #[.val (.long l0), .second, .val (.int i1), .val (.int i2), .val (.int i3), .val (.int (4 : Int32)), .val (.int c0), .val (.int c1), .val (.int c2), .val (.int c3), .val (.ref b216), .val (.int ((4 : Int32) - (1 : Int32))), .val (.int bd), .val (.ref xw), .unset] [(.ref b216), (.int bd), (.ref xw)]))
          have hcp : own_cp ([c0, c1, c2, c3] : List Int32) = 3 := by rw [own_cp, own_p4, hp0, hp1, hp2]; rfl
          have hmx : ¬ bd < Int32.ofNat (own_cp ([c0, c1, c2, c3] : List Int32)) := by rw [hcp]; have h := R_328; rwa [show ((4 : Int32) - (1 : Int32)) = Int32.ofNat 3 by decide] at h
          have Zn336 : n0 ≤ T329.heap.size := by omega
          have F337 : Exa Z T329.heap b216 "java/lang/String" := ((F237.keep Kq236).keep Kq329)
          have F338 : Fld Z T329.heap b216 "java/lang/String" "value" "[B" (.ref tt) := (G2_236.keep Kq329 nin0)
          have F339 : Fld Z T329.heap b216 "java/lang/String" "coder" "B" (.int cd) := (G3_236.keep Kq329 nin0)
          have F340 : Arv Z T329.heap tt kk .byte NN vv (.int 0) := (G4_236.keep Kq329 nin0)
          have F341 : Old Z n0 T329.heap := (F330.keep Kq329 all0)
          obtain ⟨rv336, _, ⟨T336, L336, k336, n336⟩, -, X336, ⟨Lc336, hQ336, l336, y336, z336⟩, st336⟩ := Jvm.LawKit.callS X329 hx (y := (⟨"com/example/cellwise/cellwise/Checks", "atMost", "(Ljava/lang/String;ILjava/lang/String;)Ljava/lang/String;"⟩ : MethodName)) hown (mvT hZ (hw _ (own_mi 58 rfl))) (mvT hZ (hw _ (own_mi 59 rfl))) (mvT hZ (hw _ (own_mi 60 rfl))) (mvT hZ (hw _ (own_mi 61 rfl))) (by decide) (backOf (W := 0) (rmAM l Z a0 hw [] (xw) (bd) (b216) (tt) (kk) (NN) (vv) (cd) (([c0, c1, c2, c3] : List Int32)) (G1) T329.heap n0 Zn336 F337 F338 F339 F340 (RL) (by simp) (hr) (hmx) (OAD) (OHI) (OLO) (O2) (P5) F341) hZ (hw _ (own_mi 61 rfl)) (hw _ (own_mi 60 rfl)) (by decide) (by decide)) (g := (mkF m 294 #[.val (.long l0), .second, .val (.int i1), .val (.int i2), .val (.int i3), .val (.int (4 : Int32)), .val (.int c0), .val (.int c1), .val (.int c2), .val (.int c3), .val (.ref b216), .val (.int ((4 : Int32) - (1 : Int32))), .val (.int bd), .val (.ref xw), .unset] [(.ref b216), (.int bd), (.ref xw)])) rfl (by rw [hml]; rfl) (argsL := [(.ref xw), (.int bd), (.ref b216)]) (rest := []) (lenOf own_pd_28Ljava2flang2fString3bILjava2flang2fString3b29Ljava2flang2fString3b rfl) rfl (by show 2 * 0 + _ ≤ _; exact Nat.le_of_eq rfl) (hb hby at_294) (fun _ _ => ⟨rfl, rfl, (by decide : 6 + 0 ≤ _), (by decide : 25 + 0 ≤ _)⟩)
          dsimp only [Pt.U, Pt.locs, Pt.cells, Pt.slots] at X336 l336 y336 z336 st336 hQ336
          subst l336 y336 z336
          obtain ⟨rfl, Nq336, eh336⟩ := hQ336
          have N336 := Fr.app N329 Nq336
          refine own_go st336 ?_
          show own_Rn p e below _ (T336.setTop (mkF m 297 #[.val (.long l0), .second, .val (.int i1), .val (.int i2), .val (.int i3), .val (.int (4 : Int32)), .val (.int c0), .val (.int c1), .val (.int c2), .val (.int c3), .val (.ref b216), .val (.int ((4 : Int32) - (1 : Int32))), .val (.int bd), .val (.ref xw), .unset] [(.ref b216)]))
          refine own_go (fun tq kq => XS.astore X336.here hx rfl (hb hby at_297) rfl rfl (l' := #[.val (.long l0), .second, .val (.int i1), .val (.int i2), .val (.int i3), .val (.int (4 : Int32)), .val (.int c0), .val (.int c1), .val (.int c2), .val (.int c3), .val (.ref b216), .val (.int ((4 : Int32) - (1 : Int32))), .val (.int bd), .val (.ref xw), .val (.ref b216)]) rfl kq) ?_
          show own_Rn p e below _ (T336.setTop (mkF m 299 #[.val (.long l0), .second, .val (.int i1), .val (.int i2), .val (.int i3), .val (.int (4 : Int32)), .val (.int c0), .val (.int c1), .val (.int c2), .val (.int c3), .val (.ref b216), .val (.int ((4 : Int32) - (1 : Int32))), .val (.int bd), .val (.ref xw), .val (.ref b216)] []))
          refine own_go (fun tq kq => XS.aload X336.here hx rfl (hb hby at_299) rfl rfl kq) ?_
          show own_Rn p e below _ (T336.setTop (mkF m 301 #[.val (.long l0), .second, .val (.int i1), .val (.int i2), .val (.int i3), .val (.int (4 : Int32)), .val (.int c0), .val (.int c1), .val (.int c2), .val (.int c3), .val (.ref b216), .val (.int ((4 : Int32) - (1 : Int32))), .val (.int bd), .val (.ref xw), .val (.ref b216)] [(.ref b216)]))
          refine own_go (fun tq kq => XS.ifnullNo X336.here hx rfl (hb hby at_301) rfl kq) ?_
          show own_Rn p e below _ (T336.setTop (mkF m 304 #[.val (.long l0), .second, .val (.int i1), .val (.int i2), .val (.int i3), .val (.int (4 : Int32)), .val (.int c0), .val (.int c1), .val (.int c2), .val (.int c3), .val (.ref b216), .val (.int ((4 : Int32) - (1 : Int32))), .val (.int bd), .val (.ref xw), .val (.ref b216)] []))
          refine own_go (fun tq kq => XS.aload X336.here hx rfl (hb hby at_304) rfl rfl kq) ?_
          show own_Rn p e below _ (T336.setTop (mkF m 306 #[.val (.long l0), .second, .val (.int i1), .val (.int i2), .val (.int i3), .val (.int (4 : Int32)), .val (.int c0), .val (.int c1), .val (.int c2), .val (.int c3), .val (.ref b216), .val (.int ((4 : Int32) - (1 : Int32))), .val (.int bd), .val (.ref xw), .val (.ref b216)] [(.ref b216)]))
          refine own_go (fun tq kq => XS.aload X336.here hx rfl (hb hby at_306) rfl rfl kq) ?_
          show own_Rn p e below _ (T336.setTop (mkF m 308 #[.val (.long l0), .second, .val (.int i1), .val (.int i2), .val (.int i3), .val (.int (4 : Int32)), .val (.int c0), .val (.int c1), .val (.int c2), .val (.int c3), .val (.ref b216), .val (.int ((4 : Int32) - (1 : Int32))), .val (.int bd), .val (.ref xw), .val (.ref b216)] [(.ref b216), (.ref b216)]))
          have Zn342 : n0 ≤ T329.heap.size := by omega
          obtain ⟨cq342, kq342, qa342, qb342, qc342⟩ := isOf hZ eh336 F337
          obtain ⟨rv342, _, ⟨T342, L342, k342, n342⟩, -, X342, ⟨Lc342, hQ342, l342, y342, z342⟩, st342⟩ := X336.virtualBack hx (y := (⟨"java/lang/String", "equals", "(Ljava/lang/Object;)Z"⟩ : MethodName)) (z := (⟨"java/lang/String", "equals", "(Ljava/lang/Object;)Z"⟩ : MethodName)) hown (mvT hZ (hw _ (own_mi 91 rfl))) (mvT hZ (hw _ (own_mi 92 rfl))) (notFace_of_selects (args := #[]) (mvT hZ (hw _ (own_mi 94 rfl)))) (mvT hZ (hw _ (own_mi 94 rfl))) (mvT hZ (hw _ (own_mi 93 rfl))) (by decide) (backOf (W := 0) (rmEqS l Z a0 hw [] (b216) T329.heap n0 Zn342 ) hZ (hw _ (own_mi 95 rfl)) (hw _ (own_mi 4 rfl)) (by decide) (by decide)) qa342 qc342 (g := (mkF m 308 #[.val (.long l0), .second, .val (.int i1), .val (.int i2), .val (.int i3), .val (.int (4 : Int32)), .val (.int c0), .val (.int c1), .val (.int c2), .val (.int c3), .val (.ref b216), .val (.int ((4 : Int32) - (1 : Int32))), .val (.int bd), .val (.ref xw), .val (.ref b216)] [(.ref b216), (.ref b216)])) rfl (by rw [hml]; rfl) (Steps.refl _) (argsL := [(.ref b216)]) (rest := []) (lenOf own_pd_28Ljava2flang2fObject3b29Z rfl) rfl (by show 2 * 0 + _ ≤ _; exact Nat.le_of_eq rfl) (hb hby at_308) (fun _ _ => ⟨rfl, eh336, (by decide : 6 + 0 ≤ _), (by decide : 25 + 0 ≤ _)⟩)
          dsimp only [Pt.U, Pt.locs, Pt.cells, Pt.slots] at X342 l342 y342 z342 st342 hQ342
          subst l342 y342 z342
          obtain ⟨rfl, Nq342, eh342⟩ := hQ342
          have N342 := Fr.app N336 Nq342
          refine own_go (fun tq kq => st342.trans kq) ?_
          show own_Rn p e below _ (T342.setTop (mkF m 311 #[.val (.long l0), .second, .val (.int i1), .val (.int i2), .val (.int i3), .val (.int (4 : Int32)), .val (.int c0), .val (.int c1), .val (.int c2), .val (.int c3), .val (.ref b216), .val (.int ((4 : Int32) - (1 : Int32))), .val (.int bd), .val (.ref xw), .val (.ref b216)] [(.int (1 : Int32))]))
          refine own_go (fun tq kq => XS.ifNo X342.here hx rfl (hb hby at_311) rfl ((if0 _ _).trans (feq ((by decide : ¬ ((1 : Int32) = (0 : Int32))) : ¬ ((1 : Int32) = (0 : Int32)))).1) kq) ?_
          show own_Rn p e below _ (T342.setTop (mkF m 314 #[.val (.long l0), .second, .val (.int i1), .val (.int i2), .val (.int i3), .val (.int (4 : Int32)), .val (.int c0), .val (.int c1), .val (.int c2), .val (.int c3), .val (.ref b216), .val (.int ((4 : Int32) - (1 : Int32))), .val (.int bd), .val (.ref xw), .val (.ref b216)] []))
          refine own_go (fun tq kq => XS.iconst X342.here hx rfl (hb hby at_314) kq) ?_
          show own_Rn p e below _ (T342.setTop (mkF m 315 #[.val (.long l0), .second, .val (.int i1), .val (.int i2), .val (.int i3), .val (.int (4 : Int32)), .val (.int c0), .val (.int c1), .val (.int c2), .val (.int c3), .val (.ref b216), .val (.int ((4 : Int32) - (1 : Int32))), .val (.int bd), .val (.ref xw), .val (.ref b216)] [(.int (1 : Int32))]))
          refine own_go (fun tq kq => XS.goto X342.here hx rfl (pc0 := 315) (pc' := 319) rfl (hb hby at_315) (by decide) (by decide) kq) ?_
          show own_Rn p e below _ (T342.setTop (mkF m 319 #[.val (.long l0), .second, .val (.int i1), .val (.int i2), .val (.int i3), .val (.int (4 : Int32)), .val (.int c0), .val (.int c1), .val (.int c2), .val (.int c3), .val (.ref b216), .val (.int ((4 : Int32) - (1 : Int32))), .val (.int bd), .val (.ref xw), .val (.ref b216)] [(.int (1 : Int32))]))
          exact own_retS X342 hS0 (by rw [eh342]; omega) (v := some (.int (nar .boolean (1 : Int32)))) (fun h => by rw [Bd.returns] at h; cases h) (fun fs hr => retN X342 hx (t := .boolean) Bd.returns (by simp) (hb hby at_319) hr) (by rw [eh342]; exact ⟨rfl, N342⟩) (by rw [hh, eh342]; exact CR331.trans (CHv.at X342 hZ hEL CR331.1)) (by decide) (by decide)
      · skip
        rw [if_neg hA1]
        show own_Rn p e below _ (T311.setTop (mkF m 237 #[.val (.long l0), .second, .val (.int i1), .val (.int i2), .val (.int i3), .val (.int (4 : Int32)), .val (.int c0), .val (.int c1), .val (.int c2), .val (.int c3), .val (.ref b216), .val (.int (4 : Int32)), .unset, .unset, .unset] [(.int (0 : Int32))]))
        have hp1 : own_pr c1 c2 = 0 := if_neg hA1
        refine own_go (fun tq kq => XS.ifYes X311.here hx rfl (pc0 := 237) (pc' := 246) rfl (hb hby at_237) rfl ((if0 _ _).trans (teq ((by decide : (0 : Int32) = (0 : Int32)) : (0 : Int32) = (0 : Int32))).1) (by decide) (by decide) kq) ?_
        show own_Rn p e below _ (T311.setTop (mkF m 246 #[.val (.long l0), .second, .val (.int i1), .val (.int i2), .val (.int i3), .val (.int (4 : Int32)), .val (.int c0), .val (.int c1), .val (.int c2), .val (.int c3), .val (.ref b216), .val (.int (4 : Int32)), .unset, .unset, .unset] []))
        refine own_go (fun tq kq => XS.iload X311.here hx rfl (hb hby at_246) rfl kq) ?_
        show own_Rn p e below _ (T311.setTop (mkF m 248 #[.val (.long l0), .second, .val (.int i1), .val (.int i2), .val (.int i3), .val (.int (4 : Int32)), .val (.int c0), .val (.int c1), .val (.int c2), .val (.int c3), .val (.ref b216), .val (.int (4 : Int32)), .unset, .unset, .unset] [(.int (4 : Int32))]))
        refine own_go (fun tq kq => XS.iconst X311.here hx rfl (hb hby at_248) kq) ?_
        show own_Rn p e below _ (T311.setTop (mkF m 249 #[.val (.long l0), .second, .val (.int i1), .val (.int i2), .val (.int i3), .val (.int (4 : Int32)), .val (.int c0), .val (.int c1), .val (.int c2), .val (.int c3), .val (.ref b216), .val (.int (4 : Int32)), .unset, .unset, .unset] [(.int (4 : Int32)), (.int (4 : Int32))]))
        refine own_go (fun tq kq => XS.icmpNo X311.here hx rfl (hb hby at_249) rfl (flt (by decide : ¬ ((4 : Int32) < (4 : Int32)))).1 kq) ?_
        show own_Rn p e below _ (T311.setTop (mkF m 252 #[.val (.long l0), .second, .val (.int i1), .val (.int i2), .val (.int i3), .val (.int (4 : Int32)), .val (.int c0), .val (.int c1), .val (.int c2), .val (.int c3), .val (.ref b216), .val (.int (4 : Int32)), .unset, .unset, .unset] []))
        refine own_go (fun tq kq => XS.iload X311.here hx rfl (hb hby at_252) rfl kq) ?_
        show own_Rn p e below _ (T311.setTop (mkF m 254 #[.val (.long l0), .second, .val (.int i1), .val (.int i2), .val (.int i3), .val (.int (4 : Int32)), .val (.int c0), .val (.int c1), .val (.int c2), .val (.int c3), .val (.ref b216), .val (.int (4 : Int32)), .unset, .unset, .unset] [(.int c2)]))
        refine own_go (fun tq kq => XS.iload X311.here hx rfl (hb hby at_254) rfl kq) ?_
        show own_Rn p e below _ (T311.setTop (mkF m 256 #[.val (.long l0), .second, .val (.int i1), .val (.int i2), .val (.int i3), .val (.int (4 : Int32)), .val (.int c0), .val (.int c1), .val (.int c2), .val (.int c3), .val (.ref b216), .val (.int (4 : Int32)), .unset, .unset, .unset] [(.int c3), (.int c2)]))
        have Zn343 : n0 ≤ T236.heap.size := by omega
        obtain ⟨rv343, _, ⟨T343, L343, k343, n343⟩, -, X343, ⟨Lc343, hQ343, l343, y343, z343⟩, st343⟩ := Jvm.LawKit.callS X311 hx (y := (⟨"com/example/cellwise/cellwise/ChecksAtMostPinLaw", "pair", "(CC)Z"⟩ : MethodName)) hown (mvT hZ (hw _ (own_mi 32 rfl))) (mvT hZ (hw _ (own_mi 33 rfl))) (mvT hZ (hw _ (own_mi 34 rfl))) (mvT hZ (hw _ (own_mi 35 rfl))) (by decide) (backOf (W := 0) (rmPair l Z a0 hw [] (c2) (c3) T236.heap n0 Zn343 ) hZ (hw _ (own_mi 35 rfl)) (hw _ (own_mi 34 rfl)) (by decide) (by decide)) (g := (mkF m 256 #[.val (.long l0), .second, .val (.int i1), .val (.int i2), .val (.int i3), .val (.int (4 : Int32)), .val (.int c0), .val (.int c1), .val (.int c2), .val (.int c3), .val (.ref b216), .val (.int (4 : Int32)), .unset, .unset, .unset] [(.int c3), (.int c2)])) rfl (by rw [hml]; rfl) (argsL := [(.int c2), (.int c3)]) (rest := []) (lenOf own_pd_28CC29Z rfl) rfl (by show 2 * 0 + _ ≤ _; exact Nat.le_of_eq rfl) (hb hby at_256) (fun _ _ => ⟨rfl, eh311, (by decide : 4 + 0 ≤ _), (by decide : 20 + 0 ≤ _)⟩)
        dsimp only [Pt.U, Pt.locs, Pt.cells, Pt.slots] at X343 l343 y343 z343 st343 hQ343
        subst l343 y343 z343
        obtain ⟨rfl, Nq343, eh343⟩ := hQ343
        have N343 := Fr.app N311 Nq343
        refine own_go st343 ?_
        show own_Rn p e below _ (T343.setTop (mkF m 259 #[.val (.long l0), .second, .val (.int i1), .val (.int i2), .val (.int i3), .val (.int (4 : Int32)), .val (.int c0), .val (.int c1), .val (.int c2), .val (.int c3), .val (.ref b216), .val (.int (4 : Int32)), .unset, .unset, .unset] [(.int (if own_isHi c2 ∧ own_isLo c3 then (1 : Int32) else 0))]))
        by_cases hA2 : own_isHi c2 ∧ own_isLo c3
        · skip
          rw [if_pos hA2]
          show own_Rn p e below _ (T343.setTop (mkF m 259 #[.val (.long l0), .second, .val (.int i1), .val (.int i2), .val (.int i3), .val (.int (4 : Int32)), .val (.int c0), .val (.int c1), .val (.int c2), .val (.int c3), .val (.ref b216), .val (.int (4 : Int32)), .unset, .unset, .unset] [(.int (1 : Int32))]))
          have hp2 : own_pr c2 c3 = 1 := if_pos hA2
          refine own_go (fun tq kq => XS.ifNo X343.here hx rfl (hb hby at_259) rfl ((if0 _ _).trans (feq ((by decide : ¬ ((1 : Int32) = (0 : Int32))) : ¬ ((1 : Int32) = (0 : Int32)))).1) kq) ?_
          show own_Rn p e below _ (T343.setTop (mkF m 262 #[.val (.long l0), .second, .val (.int i1), .val (.int i2), .val (.int i3), .val (.int (4 : Int32)), .val (.int c0), .val (.int c1), .val (.int c2), .val (.int c3), .val (.ref b216), .val (.int (4 : Int32)), .unset, .unset, .unset] []))
          refine own_go (fun tq kq => XS.iload X343.here hx rfl (hb hby at_262) rfl kq) ?_
          show own_Rn p e below _ (T343.setTop (mkF m 264 #[.val (.long l0), .second, .val (.int i1), .val (.int i2), .val (.int i3), .val (.int (4 : Int32)), .val (.int c0), .val (.int c1), .val (.int c2), .val (.int c3), .val (.ref b216), .val (.int (4 : Int32)), .unset, .unset, .unset] [(.int (4 : Int32))]))
          refine own_go (fun tq kq => XS.iconst X343.here hx rfl (hb hby at_264) kq) ?_
          show own_Rn p e below _ (T343.setTop (mkF m 265 #[.val (.long l0), .second, .val (.int i1), .val (.int i2), .val (.int i3), .val (.int (4 : Int32)), .val (.int c0), .val (.int c1), .val (.int c2), .val (.int c3), .val (.ref b216), .val (.int (4 : Int32)), .unset, .unset, .unset] [(.int (1 : Int32)), (.int (4 : Int32))]))
          refine own_go (fun tq kq => XS.isub X343.here hx rfl (hb hby at_265) rfl kq) ?_
          show own_Rn p e below _ (T343.setTop (mkF m 266 #[.val (.long l0), .second, .val (.int i1), .val (.int i2), .val (.int i3), .val (.int (4 : Int32)), .val (.int c0), .val (.int c1), .val (.int c2), .val (.int c3), .val (.ref b216), .val (.int (4 : Int32)), .unset, .unset, .unset] [(.int ((4 : Int32) - (1 : Int32)))]))
          refine own_go (fun tq kq => XS.istore X343.here hx rfl (hb hby at_266) rfl (l' := #[.val (.long l0), .second, .val (.int i1), .val (.int i2), .val (.int i3), .val (.int (4 : Int32)), .val (.int c0), .val (.int c1), .val (.int c2), .val (.int c3), .val (.ref b216), .val (.int ((4 : Int32) - (1 : Int32))), .unset, .unset, .unset]) rfl kq) ?_
          show own_Rn p e below _ (T343.setTop (mkF m 268 #[.val (.long l0), .second, .val (.int i1), .val (.int i2), .val (.int i3), .val (.int (4 : Int32)), .val (.int c0), .val (.int c1), .val (.int c2), .val (.int c3), .val (.ref b216), .val (.int ((4 : Int32) - (1 : Int32))), .unset, .unset, .unset] []))
          refine own_go (fun tq kq => XS.iloadN X343.here hx rfl (hb hby at_268) rfl kq) ?_
          show own_Rn p e below _ (T343.setTop (mkF m 269 #[.val (.long l0), .second, .val (.int i1), .val (.int i2), .val (.int i3), .val (.int (4 : Int32)), .val (.int c0), .val (.int c1), .val (.int c2), .val (.int c3), .val (.ref b216), .val (.int ((4 : Int32) - (1 : Int32))), .unset, .unset, .unset] [(.int i2)]))
          refine own_go (fun tq kq => XS.iload X343.here hx rfl (hb hby at_269) rfl kq) ?_
          show own_Rn p e below _ (T343.setTop (mkF m 271 #[.val (.long l0), .second, .val (.int i1), .val (.int i2), .val (.int i3), .val (.int (4 : Int32)), .val (.int c0), .val (.int c1), .val (.int c2), .val (.int c3), .val (.ref b216), .val (.int ((4 : Int32) - (1 : Int32))), .unset, .unset, .unset] [(.int ((4 : Int32) - (1 : Int32))), (.int i2)]))
          have Zn344 : n0 ≤ T236.heap.size := by omega
          obtain ⟨rv344, _, ⟨T344, L344, k344, n344⟩, -, X344, ⟨Lc344, hQ344, l344, y344, z344⟩, st344⟩ := Jvm.LawKit.callS X343 hx (y := (⟨"java/lang/Math", "max", "(II)I"⟩ : MethodName)) hown (mvT hZ (hw _ (own_mi 40 rfl))) (mvT hZ (hw _ (own_mi 41 rfl))) (mvT hZ (hw _ (own_mi 42 rfl))) (mvT hZ (hw _ (own_mi 43 rfl))) (by decide) (backOf (W := 0) (rmMax l Z a0 hw [] (i2) (((4 : Int32) - (1 : Int32))) T236.heap n0 Zn344 ) hZ (hw _ (own_mi 43 rfl)) (hw _ (own_mi 42 rfl)) (by decide) (by decide)) (g := (mkF m 271 #[.val (.long l0), .second, .val (.int i1), .val (.int i2), .val (.int i3), .val (.int (4 : Int32)), .val (.int c0), .val (.int c1), .val (.int c2), .val (.int c3), .val (.ref b216), .val (.int ((4 : Int32) - (1 : Int32))), .unset, .unset, .unset] [(.int ((4 : Int32) - (1 : Int32))), (.int i2)])) rfl (by rw [hml]; rfl) (argsL := [(.int i2), (.int ((4 : Int32) - (1 : Int32)))]) (rest := []) (lenOf own_pd_28II29I rfl) rfl (by show 2 * 0 + _ ≤ _; exact Nat.le_of_eq rfl) (hb hby at_271) (fun _ _ => ⟨rfl, eh343, (by decide : 4 + 0 ≤ _), (by decide : 20 + 0 ≤ _)⟩)
          dsimp only [Pt.U, Pt.locs, Pt.cells, Pt.slots] at X344 l344 y344 z344 st344 hQ344
          subst l344 y344 z344
          obtain ⟨bd, rfl, Nq344, eh344, R_344⟩ := hQ344
          have N344 := Fr.app N343 Nq344
          refine own_go st344 ?_
          show own_Rn p e below _ (T344.setTop (mkF m 274 #[.val (.long l0), .second, .val (.int i1), .val (.int i2), .val (.int i3), .val (.int (4 : Int32)), .val (.int c0), .val (.int c1), .val (.int c2), .val (.int c3), .val (.ref b216), .val (.int ((4 : Int32) - (1 : Int32))), .unset, .unset, .unset] [(.int bd)]))
          refine own_go (fun tq kq => XS.istore X344.here hx rfl (hb hby at_274) rfl (l' := #[.val (.long l0), .second, .val (.int i1), .val (.int i2), .val (.int i3), .val (.int (4 : Int32)), .val (.int c0), .val (.int c1), .val (.int c2), .val (.int c3), .val (.ref b216), .val (.int ((4 : Int32) - (1 : Int32))), .val (.int bd), .unset, .unset]) rfl kq) ?_
          show own_Rn p e below _ (T344.setTop (mkF m 276 #[.val (.long l0), .second, .val (.int i1), .val (.int i2), .val (.int i3), .val (.int (4 : Int32)), .val (.int c0), .val (.int c1), .val (.int c2), .val (.int c3), .val (.ref b216), .val (.int ((4 : Int32) - (1 : Int32))), .val (.int bd), .unset, .unset] []))
          refine own_go (fun tq kq => XS.iload X344.here hx rfl (hb hby at_276) rfl kq) ?_
          show own_Rn p e below _ (T344.setTop (mkF m 278 #[.val (.long l0), .second, .val (.int i1), .val (.int i2), .val (.int i3), .val (.int (4 : Int32)), .val (.int c0), .val (.int c1), .val (.int c2), .val (.int c3), .val (.ref b216), .val (.int ((4 : Int32) - (1 : Int32))), .val (.int bd), .unset, .unset] [(.int i3)]))
          refine own_go (fun tq kq => XS.sipush X344.here hx rfl (hb hby at_278) kq) ?_
          show own_Rn p e below _ (T344.setTop (mkF m 281 #[.val (.long l0), .second, .val (.int i1), .val (.int i2), .val (.int i3), .val (.int (4 : Int32)), .val (.int c0), .val (.int c1), .val (.int c2), .val (.int c3), .val (.ref b216), .val (.int ((4 : Int32) - (1 : Int32))), .val (.int bd), .unset, .unset] [(.int (255 : Int32)), (.int i3)]))
          refine own_go (fun tq kq => XS.iand X344.here hx rfl (hb hby at_281) rfl kq) ?_
          show own_Rn p e below _ (T344.setTop (mkF m 282 #[.val (.long l0), .second, .val (.int i1), .val (.int i2), .val (.int i3), .val (.int (4 : Int32)), .val (.int c0), .val (.int c1), .val (.int c2), .val (.int c3), .val (.ref b216), .val (.int ((4 : Int32) - (1 : Int32))), .val (.int bd), .unset, .unset] [(.int (i3 &&& (255 : Int32)))]))
          refine own_go (fun tq kq => XS.i2c X344.here hx rfl (hb hby at_282) rfl kq) ?_
          show own_Rn p e below _ (T344.setTop (mkF m 283 #[.val (.long l0), .second, .val (.int i1), .val (.int i2), .val (.int i3), .val (.int (4 : Int32)), .val (.int c0), .val (.int c1), .val (.int c2), .val (.int c3), .val (.ref b216), .val (.int ((4 : Int32) - (1 : Int32))), .val (.int bd), .unset, .unset] [(.int ((i3 &&& (255 : Int32)).toUInt32.toUInt16.toUInt32.toInt32))]))
          obtain ⟨wc, hwc⟩ : ∃ z : Int32, z = ((i3 &&& (255 : Int32)).toUInt32.toUInt16.toUInt32.toInt32) := ⟨_, rfl⟩
          rw [← hwc]
          show own_Rn p e below _ (T344.setTop (mkF m 283 #[.val (.long l0), .second, .val (.int i1), .val (.int i2), .val (.int i3), .val (.int (4 : Int32)), .val (.int c0), .val (.int c1), .val (.int c2), .val (.int c3), .val (.ref b216), .val (.int ((4 : Int32) - (1 : Int32))), .val (.int bd), .unset, .unset] [(.int wc)]))
          have rwc : ¬ wc < 0 ∧ ¬ (255 : Int32) < wc := by rw [hwc]; exact own_chr_rng _
          have Zn345 : n0 ≤ T236.heap.size := by omega
          have F346 : Old Z n0 T236.heap := (F241.keep Kq236 (allS gn216 all0))
          obtain ⟨rv345, _, ⟨T345, L345, k345, n345⟩, -, X345, ⟨Lc345, hQ345, l345, y345, z345⟩, st345⟩ := Jvm.LawKit.callS X344 hx (y := (⟨"java/lang/String", "valueOf", "(C)Ljava/lang/String;"⟩ : MethodName)) hown (mvT hZ (hw _ (own_mi 44 rfl))) (mvT hZ (hw _ (own_mi 45 rfl))) (mvT hZ (hw _ (own_mi 4 rfl))) (mvT hZ (hw _ (own_mi 46 rfl))) (by decide) (backOf (W := 0) (rmVal l Z a0 hw [] (wc) (G1) T236.heap n0 Zn345 (rwc) (O2) (P5) F346) hZ (hw _ (own_mi 46 rfl)) (hw _ (own_mi 4 rfl)) (by decide) (by decide)) (g := (mkF m 283 #[.val (.long l0), .second, .val (.int i1), .val (.int i2), .val (.int i3), .val (.int (4 : Int32)), .val (.int c0), .val (.int c1), .val (.int c2), .val (.int c3), .val (.ref b216), .val (.int ((4 : Int32) - (1 : Int32))), .val (.int bd), .unset, .unset] [(.int wc)])) rfl (by rw [hml]; rfl) (argsL := [(.int wc)]) (rest := []) (lenOf own_pd_28C29Ljava2flang2fString3b rfl) rfl (by show 2 * 0 + _ ≤ _; exact Nat.le_of_eq rfl) (hb hby at_283) (fun _ _ => ⟨rfl, eh344, (by decide : 4 + 2 ≤ _), (by decide : 20 + 5 ≤ _)⟩)
          dsimp only [Pt.U, Pt.locs, Pt.cells, Pt.slots] at X345 l345 y345 z345 st345 hQ345
          subst l345 y345 z345
          obtain ⟨xw, tw, kw, rfl, Nq345, Kq345, G0_345, G1_345, G2_345, G3_345, G4_345, G5_345, G6_345, G7_345⟩ := hQ345
          have N345 := Fr.app N344 Nq345
          have sz347 : T236.heap.size ≤ T345.heap.size := Kq345.1
          have cr347 : CHr Z consts_1 s.vm T236.heap s.vm T345.heap := CHr.keep Kq345 sf0 CR244.1
          have CR347 := CR244.trans cr347
          have sf348 : Safe Z consts_1 s.vm T345.heap xw := Safe.keep Kq345 sf0 CR244.1 (Safe.new (by omega))
          have sf349 : Safe Z consts_1 s.vm T345.heap tw := Safe.keep Kq345 sf0 CR244.1 (Safe.new (by omega))
          have lt350 : @LT.lt Nat _ xw T345.heap.size := G4_345.lt
          have lt351 : @LT.lt Nat _ tw T345.heap.size := G7_345.lt
          refine own_go st345 ?_
          show own_Rn p e below _ (T345.setTop (mkF m 286 #[.val (.long l0), .second, .val (.int i1), .val (.int i2), .val (.int i3), .val (.int (4 : Int32)), .val (.int c0), .val (.int c1), .val (.int c2), .val (.int c3), .val (.ref b216), .val (.int ((4 : Int32) - (1 : Int32))), .val (.int bd), .unset, .unset] [(.ref xw)]))
          refine own_go (fun tq kq => XS.astore X345.here hx rfl (hb hby at_286) rfl rfl (l' := #[.val (.long l0), .second, .val (.int i1), .val (.int i2), .val (.int i3), .val (.int (4 : Int32)), .val (.int c0), .val (.int c1), .val (.int c2), .val (.int c3), .val (.ref b216), .val (.int ((4 : Int32) - (1 : Int32))), .val (.int bd), .val (.ref xw), .unset]) rfl kq) ?_
          show own_Rn p e below _ (T345.setTop (mkF m 288 #[.val (.long l0), .second, .val (.int i1), .val (.int i2), .val (.int i3), .val (.int (4 : Int32)), .val (.int c0), .val (.int c1), .val (.int c2), .val (.int c3), .val (.ref b216), .val (.int ((4 : Int32) - (1 : Int32))), .val (.int bd), .val (.ref xw), .unset] []))
          refine own_go (fun tq kq => XS.aload X345.here hx rfl (hb hby at_288) rfl rfl kq) ?_
          show own_Rn p e below _ (T345.setTop (mkF m 290 #[.val (.long l0), .second, .val (.int i1), .val (.int i2), .val (.int i3), .val (.int (4 : Int32)), .val (.int c0), .val (.int c1), .val (.int c2), .val (.int c3), .val (.ref b216), .val (.int ((4 : Int32) - (1 : Int32))), .val (.int bd), .val (.ref xw), .unset] [(.ref xw)]))
          refine own_go (fun tq kq => XS.iload X345.here hx rfl (hb hby at_290) rfl kq) ?_
          show own_Rn p e below _ (T345.setTop (mkF m 292 #[.val (.long l0), .second, .val (.int i1), .val (.int i2), .val (.int i3), .val (.int (4 : Int32)), .val (.int c0), .val (.int c1), .val (.int c2), .val (.int c3), .val (.ref b216), .val (.int ((4 : Int32) - (1 : Int32))), .val (.int bd), .val (.ref xw), .unset] [(.int bd), (.ref xw)]))
          refine own_go (fun tq kq => XS.aload X345.here hx rfl (hb hby at_292) rfl rfl kq) ?_
          show own_Rn p e below _ (T345.setTop (mkF m 294 #[.val (.long l0), .second, .val (.int i1), .val (.int i2), .val (.int i3), .val (.int (4 : Int32)), .val (.int c0), .val (.int c1), .val (.int c2), .val (.int c3), .val (.ref b216), .val (.int ((4 : Int32) - (1 : Int32))), .val (.int bd), .val (.ref xw), .unset] [(.ref b216), (.int bd), (.ref xw)]))
          have hcp : own_cp ([c0, c1, c2, c3] : List Int32) = 3 := by rw [own_cp, own_p4, hp0, hp1, hp2]; rfl
          have hmx : ¬ bd < Int32.ofNat (own_cp ([c0, c1, c2, c3] : List Int32)) := by rw [hcp]; have h := R_344; rwa [show ((4 : Int32) - (1 : Int32)) = Int32.ofNat 3 by decide] at h
          have Zn352 : n0 ≤ T345.heap.size := by omega
          have F353 : Exa Z T345.heap b216 "java/lang/String" := ((F237.keep Kq236).keep Kq345)
          have F354 : Fld Z T345.heap b216 "java/lang/String" "value" "[B" (.ref tt) := (G2_236.keep Kq345 nin0)
          have F355 : Fld Z T345.heap b216 "java/lang/String" "coder" "B" (.int cd) := (G3_236.keep Kq345 nin0)
          have F356 : Arv Z T345.heap tt kk .byte NN vv (.int 0) := (G4_236.keep Kq345 nin0)
          have F357 : Old Z n0 T345.heap := (F346.keep Kq345 all0)
          obtain ⟨rv352, _, ⟨T352, L352, k352, n352⟩, -, X352, ⟨Lc352, hQ352, l352, y352, z352⟩, st352⟩ := Jvm.LawKit.callS X345 hx (y := (⟨"com/example/cellwise/cellwise/Checks", "atMost", "(Ljava/lang/String;ILjava/lang/String;)Ljava/lang/String;"⟩ : MethodName)) hown (mvT hZ (hw _ (own_mi 58 rfl))) (mvT hZ (hw _ (own_mi 59 rfl))) (mvT hZ (hw _ (own_mi 60 rfl))) (mvT hZ (hw _ (own_mi 61 rfl))) (by decide) (backOf (W := 0) (rmAM l Z a0 hw [] (xw) (bd) (b216) (tt) (kk) (NN) (vv) (cd) (([c0, c1, c2, c3] : List Int32)) (G1) T345.heap n0 Zn352 F353 F354 F355 F356 (RL) (by simp) (hr) (hmx) (OAD) (OHI) (OLO) (O2) (P5) F357) hZ (hw _ (own_mi 61 rfl)) (hw _ (own_mi 60 rfl)) (by decide) (by decide)) (g := (mkF m 294 #[.val (.long l0), .second, .val (.int i1), .val (.int i2), .val (.int i3), .val (.int (4 : Int32)), .val (.int c0), .val (.int c1), .val (.int c2), .val (.int c3), .val (.ref b216), .val (.int ((4 : Int32) - (1 : Int32))), .val (.int bd), .val (.ref xw), .unset] [(.ref b216), (.int bd), (.ref xw)])) rfl (by rw [hml]; rfl) (argsL := [(.ref xw), (.int bd), (.ref b216)]) (rest := []) (lenOf own_pd_28Ljava2flang2fString3bILjava2flang2fString3b29Ljava2flang2fString3b rfl) rfl (by show 2 * 0 + _ ≤ _; exact Nat.le_of_eq rfl) (hb hby at_294) (fun _ _ => ⟨rfl, rfl, (by decide : 6 + 0 ≤ _), (by decide : 25 + 0 ≤ _)⟩)
          dsimp only [Pt.U, Pt.locs, Pt.cells, Pt.slots] at X352 l352 y352 z352 st352 hQ352
          subst l352 y352 z352
          obtain ⟨rfl, Nq352, eh352⟩ := hQ352
          have N352 := Fr.app N345 Nq352
          refine own_go st352 ?_
          show own_Rn p e below _ (T352.setTop (mkF m 297 #[.val (.long l0), .second, .val (.int i1), .val (.int i2), .val (.int i3), .val (.int (4 : Int32)), .val (.int c0), .val (.int c1), .val (.int c2), .val (.int c3), .val (.ref b216), .val (.int ((4 : Int32) - (1 : Int32))), .val (.int bd), .val (.ref xw), .unset] [(.ref b216)]))
          refine own_go (fun tq kq => XS.astore X352.here hx rfl (hb hby at_297) rfl rfl (l' := #[.val (.long l0), .second, .val (.int i1), .val (.int i2), .val (.int i3), .val (.int (4 : Int32)), .val (.int c0), .val (.int c1), .val (.int c2), .val (.int c3), .val (.ref b216), .val (.int ((4 : Int32) - (1 : Int32))), .val (.int bd), .val (.ref xw), .val (.ref b216)]) rfl kq) ?_
          show own_Rn p e below _ (T352.setTop (mkF m 299 #[.val (.long l0), .second, .val (.int i1), .val (.int i2), .val (.int i3), .val (.int (4 : Int32)), .val (.int c0), .val (.int c1), .val (.int c2), .val (.int c3), .val (.ref b216), .val (.int ((4 : Int32) - (1 : Int32))), .val (.int bd), .val (.ref xw), .val (.ref b216)] []))
          refine own_go (fun tq kq => XS.aload X352.here hx rfl (hb hby at_299) rfl rfl kq) ?_
          show own_Rn p e below _ (T352.setTop (mkF m 301 #[.val (.long l0), .second, .val (.int i1), .val (.int i2), .val (.int i3), .val (.int (4 : Int32)), .val (.int c0), .val (.int c1), .val (.int c2), .val (.int c3), .val (.ref b216), .val (.int ((4 : Int32) - (1 : Int32))), .val (.int bd), .val (.ref xw), .val (.ref b216)] [(.ref b216)]))
          refine own_go (fun tq kq => XS.ifnullNo X352.here hx rfl (hb hby at_301) rfl kq) ?_
          show own_Rn p e below _ (T352.setTop (mkF m 304 #[.val (.long l0), .second, .val (.int i1), .val (.int i2), .val (.int i3), .val (.int (4 : Int32)), .val (.int c0), .val (.int c1), .val (.int c2), .val (.int c3), .val (.ref b216), .val (.int ((4 : Int32) - (1 : Int32))), .val (.int bd), .val (.ref xw), .val (.ref b216)] []))
          refine own_go (fun tq kq => XS.aload X352.here hx rfl (hb hby at_304) rfl rfl kq) ?_
          show own_Rn p e below _ (T352.setTop (mkF m 306 #[.val (.long l0), .second, .val (.int i1), .val (.int i2), .val (.int i3), .val (.int (4 : Int32)), .val (.int c0), .val (.int c1), .val (.int c2), .val (.int c3), .val (.ref b216), .val (.int ((4 : Int32) - (1 : Int32))), .val (.int bd), .val (.ref xw), .val (.ref b216)] [(.ref b216)]))
          refine own_go (fun tq kq => XS.aload X352.here hx rfl (hb hby at_306) rfl rfl kq) ?_
          show own_Rn p e below _ (T352.setTop (mkF m 308 #[.val (.long l0), .second, .val (.int i1), .val (.int i2), .val (.int i3), .val (.int (4 : Int32)), .val (.int c0), .val (.int c1), .val (.int c2), .val (.int c3), .val (.ref b216), .val (.int ((4 : Int32) - (1 : Int32))), .val (.int bd), .val (.ref xw), .val (.ref b216)] [(.ref b216), (.ref b216)]))
          have Zn358 : n0 ≤ T345.heap.size := by omega
          obtain ⟨cq358, kq358, qa358, qb358, qc358⟩ := isOf hZ eh352 F353
          obtain ⟨rv358, _, ⟨T358, L358, k358, n358⟩, -, X358, ⟨Lc358, hQ358, l358, y358, z358⟩, st358⟩ := X352.virtualBack hx (y := (⟨"java/lang/String", "equals", "(Ljava/lang/Object;)Z"⟩ : MethodName)) (z := (⟨"java/lang/String", "equals", "(Ljava/lang/Object;)Z"⟩ : MethodName)) hown (mvT hZ (hw _ (own_mi 91 rfl))) (mvT hZ (hw _ (own_mi 92 rfl))) (notFace_of_selects (args := #[]) (mvT hZ (hw _ (own_mi 94 rfl)))) (mvT hZ (hw _ (own_mi 94 rfl))) (mvT hZ (hw _ (own_mi 93 rfl))) (by decide) (backOf (W := 0) (rmEqS l Z a0 hw [] (b216) T345.heap n0 Zn358 ) hZ (hw _ (own_mi 95 rfl)) (hw _ (own_mi 4 rfl)) (by decide) (by decide)) qa358 qc358 (g := (mkF m 308 #[.val (.long l0), .second, .val (.int i1), .val (.int i2), .val (.int i3), .val (.int (4 : Int32)), .val (.int c0), .val (.int c1), .val (.int c2), .val (.int c3), .val (.ref b216), .val (.int ((4 : Int32) - (1 : Int32))), .val (.int bd), .val (.ref xw), .val (.ref b216)] [(.ref b216), (.ref b216)])) rfl (by rw [hml]; rfl) (Steps.refl _) (argsL := [(.ref b216)]) (rest := []) (lenOf own_pd_28Ljava2flang2fObject3b29Z rfl) rfl (by show 2 * 0 + _ ≤ _; exact Nat.le_of_eq rfl) (hb hby at_308) (fun _ _ => ⟨rfl, eh352, (by decide : 6 + 0 ≤ _), (by decide : 25 + 0 ≤ _)⟩)
          dsimp only [Pt.U, Pt.locs, Pt.cells, Pt.slots] at X358 l358 y358 z358 st358 hQ358
          subst l358 y358 z358
          obtain ⟨rfl, Nq358, eh358⟩ := hQ358
          have N358 := Fr.app N352 Nq358
          refine own_go (fun tq kq => st358.trans kq) ?_
          show own_Rn p e below _ (T358.setTop (mkF m 311 #[.val (.long l0), .second, .val (.int i1), .val (.int i2), .val (.int i3), .val (.int (4 : Int32)), .val (.int c0), .val (.int c1), .val (.int c2), .val (.int c3), .val (.ref b216), .val (.int ((4 : Int32) - (1 : Int32))), .val (.int bd), .val (.ref xw), .val (.ref b216)] [(.int (1 : Int32))]))
          refine own_go (fun tq kq => XS.ifNo X358.here hx rfl (hb hby at_311) rfl ((if0 _ _).trans (feq ((by decide : ¬ ((1 : Int32) = (0 : Int32))) : ¬ ((1 : Int32) = (0 : Int32)))).1) kq) ?_
          show own_Rn p e below _ (T358.setTop (mkF m 314 #[.val (.long l0), .second, .val (.int i1), .val (.int i2), .val (.int i3), .val (.int (4 : Int32)), .val (.int c0), .val (.int c1), .val (.int c2), .val (.int c3), .val (.ref b216), .val (.int ((4 : Int32) - (1 : Int32))), .val (.int bd), .val (.ref xw), .val (.ref b216)] []))
          refine own_go (fun tq kq => XS.iconst X358.here hx rfl (hb hby at_314) kq) ?_
          show own_Rn p e below _ (T358.setTop (mkF m 315 #[.val (.long l0), .second, .val (.int i1), .val (.int i2), .val (.int i3), .val (.int (4 : Int32)), .val (.int c0), .val (.int c1), .val (.int c2), .val (.int c3), .val (.ref b216), .val (.int ((4 : Int32) - (1 : Int32))), .val (.int bd), .val (.ref xw), .val (.ref b216)] [(.int (1 : Int32))]))
          refine own_go (fun tq kq => XS.goto X358.here hx rfl (pc0 := 315) (pc' := 319) rfl (hb hby at_315) (by decide) (by decide) kq) ?_
          show own_Rn p e below _ (T358.setTop (mkF m 319 #[.val (.long l0), .second, .val (.int i1), .val (.int i2), .val (.int i3), .val (.int (4 : Int32)), .val (.int c0), .val (.int c1), .val (.int c2), .val (.int c3), .val (.ref b216), .val (.int ((4 : Int32) - (1 : Int32))), .val (.int bd), .val (.ref xw), .val (.ref b216)] [(.int (1 : Int32))]))
          exact own_retS X358 hS0 (by rw [eh358]; omega) (v := some (.int (nar .boolean (1 : Int32)))) (fun h => by rw [Bd.returns] at h; cases h) (fun fs hr => retN X358 hx (t := .boolean) Bd.returns (by simp) (hb hby at_319) hr) (by rw [eh358]; exact ⟨rfl, N358⟩) (by rw [hh, eh358]; exact CR347.trans (CHv.at X358 hZ hEL CR347.1)) (by decide) (by decide)
        · skip
          rw [if_neg hA2]
          show own_Rn p e below _ (T343.setTop (mkF m 259 #[.val (.long l0), .second, .val (.int i1), .val (.int i2), .val (.int i3), .val (.int (4 : Int32)), .val (.int c0), .val (.int c1), .val (.int c2), .val (.int c3), .val (.ref b216), .val (.int (4 : Int32)), .unset, .unset, .unset] [(.int (0 : Int32))]))
          have hp2 : own_pr c2 c3 = 0 := if_neg hA2
          refine own_go (fun tq kq => XS.ifYes X343.here hx rfl (pc0 := 259) (pc' := 268) rfl (hb hby at_259) rfl ((if0 _ _).trans (teq ((by decide : (0 : Int32) = (0 : Int32)) : (0 : Int32) = (0 : Int32))).1) (by decide) (by decide) kq) ?_
          show own_Rn p e below _ (T343.setTop (mkF m 268 #[.val (.long l0), .second, .val (.int i1), .val (.int i2), .val (.int i3), .val (.int (4 : Int32)), .val (.int c0), .val (.int c1), .val (.int c2), .val (.int c3), .val (.ref b216), .val (.int (4 : Int32)), .unset, .unset, .unset] []))
          refine own_go (fun tq kq => XS.iloadN X343.here hx rfl (hb hby at_268) rfl kq) ?_
          show own_Rn p e below _ (T343.setTop (mkF m 269 #[.val (.long l0), .second, .val (.int i1), .val (.int i2), .val (.int i3), .val (.int (4 : Int32)), .val (.int c0), .val (.int c1), .val (.int c2), .val (.int c3), .val (.ref b216), .val (.int (4 : Int32)), .unset, .unset, .unset] [(.int i2)]))
          refine own_go (fun tq kq => XS.iload X343.here hx rfl (hb hby at_269) rfl kq) ?_
          show own_Rn p e below _ (T343.setTop (mkF m 271 #[.val (.long l0), .second, .val (.int i1), .val (.int i2), .val (.int i3), .val (.int (4 : Int32)), .val (.int c0), .val (.int c1), .val (.int c2), .val (.int c3), .val (.ref b216), .val (.int (4 : Int32)), .unset, .unset, .unset] [(.int (4 : Int32)), (.int i2)]))
          have Zn359 : n0 ≤ T236.heap.size := by omega
          obtain ⟨rv359, _, ⟨T359, L359, k359, n359⟩, -, X359, ⟨Lc359, hQ359, l359, y359, z359⟩, st359⟩ := Jvm.LawKit.callS X343 hx (y := (⟨"java/lang/Math", "max", "(II)I"⟩ : MethodName)) hown (mvT hZ (hw _ (own_mi 40 rfl))) (mvT hZ (hw _ (own_mi 41 rfl))) (mvT hZ (hw _ (own_mi 42 rfl))) (mvT hZ (hw _ (own_mi 43 rfl))) (by decide) (backOf (W := 0) (rmMax l Z a0 hw [] (i2) ((4 : Int32)) T236.heap n0 Zn359 ) hZ (hw _ (own_mi 43 rfl)) (hw _ (own_mi 42 rfl)) (by decide) (by decide)) (g := (mkF m 271 #[.val (.long l0), .second, .val (.int i1), .val (.int i2), .val (.int i3), .val (.int (4 : Int32)), .val (.int c0), .val (.int c1), .val (.int c2), .val (.int c3), .val (.ref b216), .val (.int (4 : Int32)), .unset, .unset, .unset] [(.int (4 : Int32)), (.int i2)])) rfl (by rw [hml]; rfl) (argsL := [(.int i2), (.int (4 : Int32))]) (rest := []) (lenOf own_pd_28II29I rfl) rfl (by show 2 * 0 + _ ≤ _; exact Nat.le_of_eq rfl) (hb hby at_271) (fun _ _ => ⟨rfl, eh343, (by decide : 4 + 0 ≤ _), (by decide : 20 + 0 ≤ _)⟩)
          dsimp only [Pt.U, Pt.locs, Pt.cells, Pt.slots] at X359 l359 y359 z359 st359 hQ359
          subst l359 y359 z359
          obtain ⟨bd, rfl, Nq359, eh359, R_359⟩ := hQ359
          have N359 := Fr.app N343 Nq359
          refine own_go st359 ?_
          show own_Rn p e below _ (T359.setTop (mkF m 274 #[.val (.long l0), .second, .val (.int i1), .val (.int i2), .val (.int i3), .val (.int (4 : Int32)), .val (.int c0), .val (.int c1), .val (.int c2), .val (.int c3), .val (.ref b216), .val (.int (4 : Int32)), .unset, .unset, .unset] [(.int bd)]))
          refine own_go (fun tq kq => XS.istore X359.here hx rfl (hb hby at_274) rfl (l' := #[.val (.long l0), .second, .val (.int i1), .val (.int i2), .val (.int i3), .val (.int (4 : Int32)), .val (.int c0), .val (.int c1), .val (.int c2), .val (.int c3), .val (.ref b216), .val (.int (4 : Int32)), .val (.int bd), .unset, .unset]) rfl kq) ?_
          show own_Rn p e below _ (T359.setTop (mkF m 276 #[.val (.long l0), .second, .val (.int i1), .val (.int i2), .val (.int i3), .val (.int (4 : Int32)), .val (.int c0), .val (.int c1), .val (.int c2), .val (.int c3), .val (.ref b216), .val (.int (4 : Int32)), .val (.int bd), .unset, .unset] []))
          refine own_go (fun tq kq => XS.iload X359.here hx rfl (hb hby at_276) rfl kq) ?_
          show own_Rn p e below _ (T359.setTop (mkF m 278 #[.val (.long l0), .second, .val (.int i1), .val (.int i2), .val (.int i3), .val (.int (4 : Int32)), .val (.int c0), .val (.int c1), .val (.int c2), .val (.int c3), .val (.ref b216), .val (.int (4 : Int32)), .val (.int bd), .unset, .unset] [(.int i3)]))
          refine own_go (fun tq kq => XS.sipush X359.here hx rfl (hb hby at_278) kq) ?_
          show own_Rn p e below _ (T359.setTop (mkF m 281 #[.val (.long l0), .second, .val (.int i1), .val (.int i2), .val (.int i3), .val (.int (4 : Int32)), .val (.int c0), .val (.int c1), .val (.int c2), .val (.int c3), .val (.ref b216), .val (.int (4 : Int32)), .val (.int bd), .unset, .unset] [(.int (255 : Int32)), (.int i3)]))
          refine own_go (fun tq kq => XS.iand X359.here hx rfl (hb hby at_281) rfl kq) ?_
          show own_Rn p e below _ (T359.setTop (mkF m 282 #[.val (.long l0), .second, .val (.int i1), .val (.int i2), .val (.int i3), .val (.int (4 : Int32)), .val (.int c0), .val (.int c1), .val (.int c2), .val (.int c3), .val (.ref b216), .val (.int (4 : Int32)), .val (.int bd), .unset, .unset] [(.int (i3 &&& (255 : Int32)))]))
          refine own_go (fun tq kq => XS.i2c X359.here hx rfl (hb hby at_282) rfl kq) ?_
          show own_Rn p e below _ (T359.setTop (mkF m 283 #[.val (.long l0), .second, .val (.int i1), .val (.int i2), .val (.int i3), .val (.int (4 : Int32)), .val (.int c0), .val (.int c1), .val (.int c2), .val (.int c3), .val (.ref b216), .val (.int (4 : Int32)), .val (.int bd), .unset, .unset] [(.int ((i3 &&& (255 : Int32)).toUInt32.toUInt16.toUInt32.toInt32))]))
          obtain ⟨wc, hwc⟩ : ∃ z : Int32, z = ((i3 &&& (255 : Int32)).toUInt32.toUInt16.toUInt32.toInt32) := ⟨_, rfl⟩
          rw [← hwc]
          show own_Rn p e below _ (T359.setTop (mkF m 283 #[.val (.long l0), .second, .val (.int i1), .val (.int i2), .val (.int i3), .val (.int (4 : Int32)), .val (.int c0), .val (.int c1), .val (.int c2), .val (.int c3), .val (.ref b216), .val (.int (4 : Int32)), .val (.int bd), .unset, .unset] [(.int wc)]))
          have rwc : ¬ wc < 0 ∧ ¬ (255 : Int32) < wc := by rw [hwc]; exact own_chr_rng _
          have Zn360 : n0 ≤ T236.heap.size := by omega
          have F361 : Old Z n0 T236.heap := (F241.keep Kq236 (allS gn216 all0))
          obtain ⟨rv360, _, ⟨T360, L360, k360, n360⟩, -, X360, ⟨Lc360, hQ360, l360, y360, z360⟩, st360⟩ := Jvm.LawKit.callS X359 hx (y := (⟨"java/lang/String", "valueOf", "(C)Ljava/lang/String;"⟩ : MethodName)) hown (mvT hZ (hw _ (own_mi 44 rfl))) (mvT hZ (hw _ (own_mi 45 rfl))) (mvT hZ (hw _ (own_mi 4 rfl))) (mvT hZ (hw _ (own_mi 46 rfl))) (by decide) (backOf (W := 0) (rmVal l Z a0 hw [] (wc) (G1) T236.heap n0 Zn360 (rwc) (O2) (P5) F361) hZ (hw _ (own_mi 46 rfl)) (hw _ (own_mi 4 rfl)) (by decide) (by decide)) (g := (mkF m 283 #[.val (.long l0), .second, .val (.int i1), .val (.int i2), .val (.int i3), .val (.int (4 : Int32)), .val (.int c0), .val (.int c1), .val (.int c2), .val (.int c3), .val (.ref b216), .val (.int (4 : Int32)), .val (.int bd), .unset, .unset] [(.int wc)])) rfl (by rw [hml]; rfl) (argsL := [(.int wc)]) (rest := []) (lenOf own_pd_28C29Ljava2flang2fString3b rfl) rfl (by show 2 * 0 + _ ≤ _; exact Nat.le_of_eq rfl) (hb hby at_283) (fun _ _ => ⟨rfl, eh359, (by decide : 4 + 2 ≤ _), (by decide : 20 + 5 ≤ _)⟩)
          dsimp only [Pt.U, Pt.locs, Pt.cells, Pt.slots] at X360 l360 y360 z360 st360 hQ360
          subst l360 y360 z360
          obtain ⟨xw, tw, kw, rfl, Nq360, Kq360, G0_360, G1_360, G2_360, G3_360, G4_360, G5_360, G6_360, G7_360⟩ := hQ360
          have N360 := Fr.app N359 Nq360
          have sz362 : T236.heap.size ≤ T360.heap.size := Kq360.1
          have cr362 : CHr Z consts_1 s.vm T236.heap s.vm T360.heap := CHr.keep Kq360 sf0 CR244.1
          have CR362 := CR244.trans cr362
          have sf363 : Safe Z consts_1 s.vm T360.heap xw := Safe.keep Kq360 sf0 CR244.1 (Safe.new (by omega))
          have sf364 : Safe Z consts_1 s.vm T360.heap tw := Safe.keep Kq360 sf0 CR244.1 (Safe.new (by omega))
          have lt365 : @LT.lt Nat _ xw T360.heap.size := G4_360.lt
          have lt366 : @LT.lt Nat _ tw T360.heap.size := G7_360.lt
          refine own_go st360 ?_
          show own_Rn p e below _ (T360.setTop (mkF m 286 #[.val (.long l0), .second, .val (.int i1), .val (.int i2), .val (.int i3), .val (.int (4 : Int32)), .val (.int c0), .val (.int c1), .val (.int c2), .val (.int c3), .val (.ref b216), .val (.int (4 : Int32)), .val (.int bd), .unset, .unset] [(.ref xw)]))
          refine own_go (fun tq kq => XS.astore X360.here hx rfl (hb hby at_286) rfl rfl (l' := #[.val (.long l0), .second, .val (.int i1), .val (.int i2), .val (.int i3), .val (.int (4 : Int32)), .val (.int c0), .val (.int c1), .val (.int c2), .val (.int c3), .val (.ref b216), .val (.int (4 : Int32)), .val (.int bd), .val (.ref xw), .unset]) rfl kq) ?_
          show own_Rn p e below _ (T360.setTop (mkF m 288 #[.val (.long l0), .second, .val (.int i1), .val (.int i2), .val (.int i3), .val (.int (4 : Int32)), .val (.int c0), .val (.int c1), .val (.int c2), .val (.int c3), .val (.ref b216), .val (.int (4 : Int32)), .val (.int bd), .val (.ref xw), .unset] []))
          refine own_go (fun tq kq => XS.aload X360.here hx rfl (hb hby at_288) rfl rfl kq) ?_
          show own_Rn p e below _ (T360.setTop (mkF m 290 #[.val (.long l0), .second, .val (.int i1), .val (.int i2), .val (.int i3), .val (.int (4 : Int32)), .val (.int c0), .val (.int c1), .val (.int c2), .val (.int c3), .val (.ref b216), .val (.int (4 : Int32)), .val (.int bd), .val (.ref xw), .unset] [(.ref xw)]))
          refine own_go (fun tq kq => XS.iload X360.here hx rfl (hb hby at_290) rfl kq) ?_
          show own_Rn p e below _ (T360.setTop (mkF m 292 #[.val (.long l0), .second, .val (.int i1), .val (.int i2), .val (.int i3), .val (.int (4 : Int32)), .val (.int c0), .val (.int c1), .val (.int c2), .val (.int c3), .val (.ref b216), .val (.int (4 : Int32)), .val (.int bd), .val (.ref xw), .unset] [(.int bd), (.ref xw)]))
          refine own_go (fun tq kq => XS.aload X360.here hx rfl (hb hby at_292) rfl rfl kq) ?_
          show own_Rn p e below _ (T360.setTop (mkF m 294 #[.val (.long l0), .second, .val (.int i1), .val (.int i2), .val (.int i3), .val (.int (4 : Int32)), .val (.int c0), .val (.int c1), .val (.int c2), .val (.int c3), .val (.ref b216), .val (.int (4 : Int32)), .val (.int bd), .val (.ref xw), .unset] [(.ref b216), (.int bd), (.ref xw)]))
          have hcp : own_cp ([c0, c1, c2, c3] : List Int32) = 4 := by rw [own_cp, own_p4, hp0, hp1, hp2]; rfl
          have hmx : ¬ bd < Int32.ofNat (own_cp ([c0, c1, c2, c3] : List Int32)) := by rw [hcp]; have h := R_359; rwa [show (4 : Int32) = Int32.ofNat 4 by decide] at h
          have Zn367 : n0 ≤ T360.heap.size := by omega
          have F368 : Exa Z T360.heap b216 "java/lang/String" := ((F237.keep Kq236).keep Kq360)
          have F369 : Fld Z T360.heap b216 "java/lang/String" "value" "[B" (.ref tt) := (G2_236.keep Kq360 nin0)
          have F370 : Fld Z T360.heap b216 "java/lang/String" "coder" "B" (.int cd) := (G3_236.keep Kq360 nin0)
          have F371 : Arv Z T360.heap tt kk .byte NN vv (.int 0) := (G4_236.keep Kq360 nin0)
          have F372 : Old Z n0 T360.heap := (F361.keep Kq360 all0)
          obtain ⟨rv367, _, ⟨T367, L367, k367, n367⟩, -, X367, ⟨Lc367, hQ367, l367, y367, z367⟩, st367⟩ := Jvm.LawKit.callS X360 hx (y := (⟨"com/example/cellwise/cellwise/Checks", "atMost", "(Ljava/lang/String;ILjava/lang/String;)Ljava/lang/String;"⟩ : MethodName)) hown (mvT hZ (hw _ (own_mi 58 rfl))) (mvT hZ (hw _ (own_mi 59 rfl))) (mvT hZ (hw _ (own_mi 60 rfl))) (mvT hZ (hw _ (own_mi 61 rfl))) (by decide) (backOf (W := 0) (rmAM l Z a0 hw [] (xw) (bd) (b216) (tt) (kk) (NN) (vv) (cd) (([c0, c1, c2, c3] : List Int32)) (G1) T360.heap n0 Zn367 F368 F369 F370 F371 (RL) (by simp) (hr) (hmx) (OAD) (OHI) (OLO) (O2) (P5) F372) hZ (hw _ (own_mi 61 rfl)) (hw _ (own_mi 60 rfl)) (by decide) (by decide)) (g := (mkF m 294 #[.val (.long l0), .second, .val (.int i1), .val (.int i2), .val (.int i3), .val (.int (4 : Int32)), .val (.int c0), .val (.int c1), .val (.int c2), .val (.int c3), .val (.ref b216), .val (.int (4 : Int32)), .val (.int bd), .val (.ref xw), .unset] [(.ref b216), (.int bd), (.ref xw)])) rfl (by rw [hml]; rfl) (argsL := [(.ref xw), (.int bd), (.ref b216)]) (rest := []) (lenOf own_pd_28Ljava2flang2fString3bILjava2flang2fString3b29Ljava2flang2fString3b rfl) rfl (by show 2 * 0 + _ ≤ _; exact Nat.le_of_eq rfl) (hb hby at_294) (fun _ _ => ⟨rfl, rfl, (by decide : 6 + 0 ≤ _), (by decide : 25 + 0 ≤ _)⟩)
          dsimp only [Pt.U, Pt.locs, Pt.cells, Pt.slots] at X367 l367 y367 z367 st367 hQ367
          subst l367 y367 z367
          obtain ⟨rfl, Nq367, eh367⟩ := hQ367
          have N367 := Fr.app N360 Nq367
          refine own_go st367 ?_
          show own_Rn p e below _ (T367.setTop (mkF m 297 #[.val (.long l0), .second, .val (.int i1), .val (.int i2), .val (.int i3), .val (.int (4 : Int32)), .val (.int c0), .val (.int c1), .val (.int c2), .val (.int c3), .val (.ref b216), .val (.int (4 : Int32)), .val (.int bd), .val (.ref xw), .unset] [(.ref b216)]))
          refine own_go (fun tq kq => XS.astore X367.here hx rfl (hb hby at_297) rfl rfl (l' := #[.val (.long l0), .second, .val (.int i1), .val (.int i2), .val (.int i3), .val (.int (4 : Int32)), .val (.int c0), .val (.int c1), .val (.int c2), .val (.int c3), .val (.ref b216), .val (.int (4 : Int32)), .val (.int bd), .val (.ref xw), .val (.ref b216)]) rfl kq) ?_
          show own_Rn p e below _ (T367.setTop (mkF m 299 #[.val (.long l0), .second, .val (.int i1), .val (.int i2), .val (.int i3), .val (.int (4 : Int32)), .val (.int c0), .val (.int c1), .val (.int c2), .val (.int c3), .val (.ref b216), .val (.int (4 : Int32)), .val (.int bd), .val (.ref xw), .val (.ref b216)] []))
          refine own_go (fun tq kq => XS.aload X367.here hx rfl (hb hby at_299) rfl rfl kq) ?_
          show own_Rn p e below _ (T367.setTop (mkF m 301 #[.val (.long l0), .second, .val (.int i1), .val (.int i2), .val (.int i3), .val (.int (4 : Int32)), .val (.int c0), .val (.int c1), .val (.int c2), .val (.int c3), .val (.ref b216), .val (.int (4 : Int32)), .val (.int bd), .val (.ref xw), .val (.ref b216)] [(.ref b216)]))
          refine own_go (fun tq kq => XS.ifnullNo X367.here hx rfl (hb hby at_301) rfl kq) ?_
          show own_Rn p e below _ (T367.setTop (mkF m 304 #[.val (.long l0), .second, .val (.int i1), .val (.int i2), .val (.int i3), .val (.int (4 : Int32)), .val (.int c0), .val (.int c1), .val (.int c2), .val (.int c3), .val (.ref b216), .val (.int (4 : Int32)), .val (.int bd), .val (.ref xw), .val (.ref b216)] []))
          refine own_go (fun tq kq => XS.aload X367.here hx rfl (hb hby at_304) rfl rfl kq) ?_
          show own_Rn p e below _ (T367.setTop (mkF m 306 #[.val (.long l0), .second, .val (.int i1), .val (.int i2), .val (.int i3), .val (.int (4 : Int32)), .val (.int c0), .val (.int c1), .val (.int c2), .val (.int c3), .val (.ref b216), .val (.int (4 : Int32)), .val (.int bd), .val (.ref xw), .val (.ref b216)] [(.ref b216)]))
          refine own_go (fun tq kq => XS.aload X367.here hx rfl (hb hby at_306) rfl rfl kq) ?_
          show own_Rn p e below _ (T367.setTop (mkF m 308 #[.val (.long l0), .second, .val (.int i1), .val (.int i2), .val (.int i3), .val (.int (4 : Int32)), .val (.int c0), .val (.int c1), .val (.int c2), .val (.int c3), .val (.ref b216), .val (.int (4 : Int32)), .val (.int bd), .val (.ref xw), .val (.ref b216)] [(.ref b216), (.ref b216)]))
          have Zn373 : n0 ≤ T360.heap.size := by omega
          obtain ⟨cq373, kq373, qa373, qb373, qc373⟩ := isOf hZ eh367 F368
          obtain ⟨rv373, _, ⟨T373, L373, k373, n373⟩, -, X373, ⟨Lc373, hQ373, l373, y373, z373⟩, st373⟩ := X367.virtualBack hx (y := (⟨"java/lang/String", "equals", "(Ljava/lang/Object;)Z"⟩ : MethodName)) (z := (⟨"java/lang/String", "equals", "(Ljava/lang/Object;)Z"⟩ : MethodName)) hown (mvT hZ (hw _ (own_mi 91 rfl))) (mvT hZ (hw _ (own_mi 92 rfl))) (notFace_of_selects (args := #[]) (mvT hZ (hw _ (own_mi 94 rfl)))) (mvT hZ (hw _ (own_mi 94 rfl))) (mvT hZ (hw _ (own_mi 93 rfl))) (by decide) (backOf (W := 0) (rmEqS l Z a0 hw [] (b216) T360.heap n0 Zn373 ) hZ (hw _ (own_mi 95 rfl)) (hw _ (own_mi 4 rfl)) (by decide) (by decide)) qa373 qc373 (g := (mkF m 308 #[.val (.long l0), .second, .val (.int i1), .val (.int i2), .val (.int i3), .val (.int (4 : Int32)), .val (.int c0), .val (.int c1), .val (.int c2), .val (.int c3), .val (.ref b216), .val (.int (4 : Int32)), .val (.int bd), .val (.ref xw), .val (.ref b216)] [(.ref b216), (.ref b216)])) rfl (by rw [hml]; rfl) (Steps.refl _) (argsL := [(.ref b216)]) (rest := []) (lenOf own_pd_28Ljava2flang2fObject3b29Z rfl) rfl (by show 2 * 0 + _ ≤ _; exact Nat.le_of_eq rfl) (hb hby at_308) (fun _ _ => ⟨rfl, eh367, (by decide : 6 + 0 ≤ _), (by decide : 25 + 0 ≤ _)⟩)
          dsimp only [Pt.U, Pt.locs, Pt.cells, Pt.slots] at X373 l373 y373 z373 st373 hQ373
          subst l373 y373 z373
          obtain ⟨rfl, Nq373, eh373⟩ := hQ373
          have N373 := Fr.app N367 Nq373
          refine own_go (fun tq kq => st373.trans kq) ?_
          show own_Rn p e below _ (T373.setTop (mkF m 311 #[.val (.long l0), .second, .val (.int i1), .val (.int i2), .val (.int i3), .val (.int (4 : Int32)), .val (.int c0), .val (.int c1), .val (.int c2), .val (.int c3), .val (.ref b216), .val (.int (4 : Int32)), .val (.int bd), .val (.ref xw), .val (.ref b216)] [(.int (1 : Int32))]))
          refine own_go (fun tq kq => XS.ifNo X373.here hx rfl (hb hby at_311) rfl ((if0 _ _).trans (feq ((by decide : ¬ ((1 : Int32) = (0 : Int32))) : ¬ ((1 : Int32) = (0 : Int32)))).1) kq) ?_
          show own_Rn p e below _ (T373.setTop (mkF m 314 #[.val (.long l0), .second, .val (.int i1), .val (.int i2), .val (.int i3), .val (.int (4 : Int32)), .val (.int c0), .val (.int c1), .val (.int c2), .val (.int c3), .val (.ref b216), .val (.int (4 : Int32)), .val (.int bd), .val (.ref xw), .val (.ref b216)] []))
          refine own_go (fun tq kq => XS.iconst X373.here hx rfl (hb hby at_314) kq) ?_
          show own_Rn p e below _ (T373.setTop (mkF m 315 #[.val (.long l0), .second, .val (.int i1), .val (.int i2), .val (.int i3), .val (.int (4 : Int32)), .val (.int c0), .val (.int c1), .val (.int c2), .val (.int c3), .val (.ref b216), .val (.int (4 : Int32)), .val (.int bd), .val (.ref xw), .val (.ref b216)] [(.int (1 : Int32))]))
          refine own_go (fun tq kq => XS.goto X373.here hx rfl (pc0 := 315) (pc' := 319) rfl (hb hby at_315) (by decide) (by decide) kq) ?_
          show own_Rn p e below _ (T373.setTop (mkF m 319 #[.val (.long l0), .second, .val (.int i1), .val (.int i2), .val (.int i3), .val (.int (4 : Int32)), .val (.int c0), .val (.int c1), .val (.int c2), .val (.int c3), .val (.ref b216), .val (.int (4 : Int32)), .val (.int bd), .val (.ref xw), .val (.ref b216)] [(.int (1 : Int32))]))
          exact own_retS X373 hS0 (by rw [eh373]; omega) (v := some (.int (nar .boolean (1 : Int32)))) (fun h => by rw [Bd.returns] at h; cases h) (fun fs hr => retN X373 hx (t := .boolean) Bd.returns (by simp) (hb hby at_319) hr) (by rw [eh373]; exact ⟨rfl, N373⟩) (by rw [hh, eh373]; exact CR362.trans (CHv.at X373 hZ hEL CR362.1)) (by decide) (by decide)
set_option maxRecDepth 65536 in
set_option maxHeartbeats 40000000 in
theorem comes_1 {Post : Tables → Env → Array Value → State → Outcome → State → Prop} (hpost : ∀ tb e args s v u, (limb_1_1.after args s (.returned v) u = true ∧ limb_1_2.after args s (.returned v) u = true ∧ True) → ReturnedEndW s (.returned v) u (Jvm.fieldLocs frame_1_writes args s ++ Jvm.arrayLocs frame_1_arrays args s ++ Jvm.staticLocs frame_1_statics s) 24 1152 → Post tb e args s (.returned v) u) :
    ArmFor flags0 classFile x code maxLocals ret World_1 tables_1 room_1 Calls_1 rest_1 Pre_1 Post := by
  intro l hfl _ _ p e ha hc hk s m args below hf hA hF happ hP
  obtain ⟨hcalls, hrest, hpre⟩ := hP
  obtain ⟨-, -, -, hnamed, -, -, -, hat⟩ := (Spec.applies_iff hf).mp happ
  obtain ⟨hg, hn⟩ := and_e (Cond.before_iff.mp (show (Jvm.Cond.and given_1 narrow_1).before args s = true from hpre))
  obtain ⟨h1, hr⟩ := and_e hg
  obtain ⟨w0, w1, w2, w3, rfl⟩ : ∃ w0 w1 w2 w3 : Value, args = #[w0, w1, w2, w3] := by
    have hs : args.size = 4 := by simpa [Cond.value, given_1] using h1
    obtain ⟨L⟩ := args
    match L, hs with
    | [w0, w1, w2, w3], _ => exact ⟨w0, w1, w2, w3, rfl⟩
  have hw := fun d (hd : d ∈ tables_1) => atoms_spec (ws := Jvm.Cond.code x code maxLocals ret :: tables_1) hat d (List.mem_cons_of_mem _ hd)
  have hfit : Fit s := fun {y c} hc i hi => by
    obtain ⟨ha, rfl⟩ := Array.getElem?_eq_some_iff.mp hc
    have q := List.all_eq_true.mp ((Array.all_eq_true_iff_forall_mem.mp hF) _ (Array.getElem_mem ha)) i (List.mem_range.mpr hi)
    simpa [Array.getElem?_eq_getElem hi] using q
  obtain ⟨ha0, hr⟩ := and_e hr
  obtain ⟨l0, ee0⟩ := isL_v ha0
  obtain rfl : w0 = (.long l0) := Option.some.inj ee0
  obtain ⟨ha1, hr⟩ := and_e hr
  obtain ⟨i1, ee1⟩ := is_v ha1
  obtain rfl : w1 = (.int i1) := Option.some.inj ee1
  obtain ⟨ha2, hr⟩ := and_e hr
  obtain ⟨i2, ee2⟩ := is_v ha2
  obtain rfl : w2 = (.int i2) := Option.some.inj ee2
  obtain ⟨i3, ee3⟩ := is_v hr
  obtain rfl : w3 = (.int i3) := Option.some.inj ee3
  obtain ⟨hsets, hown0⟩ := atoms_of _ (rest_1_c_eq ▸ (show rest_1_c.before _ s = true from hrest))
  have n5 := not_v (Cond.before_iff.mp (hsets _ (List.mem_of_getElem? (i := 2) rfl)))
  obtain ⟨G1, e10⟩ := is_v (Cond.before_iff.mp (hsets _ (List.mem_of_getElem? (i := 1) rfl)))
  have O2 : Sta s s.heap "java/lang/String" "COMPACT_STRINGS" "Z" (.int G1) := Sta.start e10 (Or.inl (hsets _ (List.mem_of_getElem? (i := 0) rfl)))
  obtain ⟨G3, e14, rG3⟩ := isR_v (Cond.before_iff.mp (hsets _ (List.mem_of_getElem? (i := 8) rfl)))
  have O4 : Sta s s.heap "jdk/internal/util/Preconditions" "SIOOBE_FORMATTER" "Ljava/util/function/BiFunction;" G3 := Sta.start e14 (Or.inl (hsets _ (List.mem_of_getElem? (i := 7) rfl)))
  have P5 : ¬ (G1 = (0 : Int32)) := gotF (Cond.eq_ints e10 (Term.int_eval (0))) n5
  have OAD : Sta s s.heap "java/lang/StringUTF16" "$assertionsDisabled" "Z" (.int (1 : Int32)) := Sta.start (eqv_i (Term.int_eval _) (Cond.before_iff.mp (hsets _ (List.mem_of_getElem? (i := 12) rfl)))) (Or.inl (hsets _ (List.mem_of_getElem? (i := 11) rfl)))
  have OHI : Sta s s.heap "java/lang/StringUTF16" "HI_BYTE_SHIFT" "I" (.int (0 : Int32)) := Sta.start (eqv_i (Term.int_eval _) (Cond.before_iff.mp (hsets _ (List.mem_of_getElem? (i := 15) rfl)))) (Or.inl (hsets _ (List.mem_of_getElem? (i := 14) rfl)))
  have OLO : Sta s s.heap "java/lang/StringUTF16" "LO_BYTE_SHIFT" "I" (.int (8 : Int32)) := Sta.start (eqv_i (Term.int_eval _) (Cond.before_iff.mp (hsets _ (List.mem_of_getElem? (i := 18) rfl)))) (Or.inl (hsets _ (List.mem_of_getElem? (i := 17) rfl)))
  have hEL : EW s #[(.long l0), (.int i1), (.int i2), (.int i3)] consts_1 := (EW.cons (hw _ (own_mi 96 rfl)) (by decide) EW.nil)
  have hH : CHv s consts_1 s.vm s.heap := CHv.start hEL (fun p hp => hcalls.1 p hp) (hsets _ (List.mem_of_getElem? (i := 2) rfl)) (hw _ (own_mi 21 rfl)) (hw _ (own_mi 3 rfl))
  obtain ⟨n, o, h1, h2, h3, _, L, rfl, ⟨rfl, N⟩, -, hq⟩ := rm0 l s _ hw tables_1 l0 i1 i2 i3 G1 s.heap s.heap.size (Nat.le_refl _) hEL OAD OHI OLO O2 P5 (Old.start s) p e ha hc hk s m _ below hf ((Spec.applies_iff_loose hf).mp happ).1 ⟨rfl, State.Warmed39.refl s, rfl, hH, fun x hx => nomatch hx⟩ trivial
  refine ⟨n, _, h1, h2, h3, hpost _ _ _ _ _ _ ⟨Cond.after_iff.mpr rfl, Cond.after_iff.mpr (eq_i res_at (Term.int_eval (1)) rfl), trivial⟩ ⟨hq.1, hq.2.1, hq.2.2.1, (hq.2.2.2.sift fun y hy => Or.inr (N y hy)).mono (by decide) (by decide)⟩⟩
theorem main_1_1 : Claimed_1_1 := comes_1 fun _ _ _ _ _ _ h hF => ⟨h.1, hF⟩
theorem main_1_2 : Claimed_1_2 := comes_1 fun _ _ _ _ _ _ h hF => ⟨h.2.1, hF⟩
end Jvm.Pilot.@@N@@
namespace Jvm.Pilot.@@N@@
open Jvm Jvm.ClassFile Sem Op Lib Jvm.Free Jvm.Stand Jvm.Pilot.@@N@@.Jvm.D
/-! MADE BY PROGRAM (witnessworld.py) out of the Statement's table words and the real class files: 23 classes; the members and pool entries that the words name. The judged class is class 1, her method 4. -/
namespace start1
open Jvm.ClassFile
def u (s : String) : CpInfo := .utf8 (stringToUtf16 s)
/-- a pool by its gaps: so many unusable entries, then the entry; so many at the end -/
def gap : Nat → List CpInfo → List CpInfo
  | 0, r => r
  | n + 1, r => .unusable :: gap n r
def poolList (es : List (Nat × CpInfo)) (last : Nat) : List CpInfo := es.foldr (fun e r => gap e.1 (e.2 :: r)) (gap last [])
def pool (es : List (Nat × CpInfo)) (last : Nat) : Array CpInfo := ⟨poolList es last⟩
def fileOf (pool : Array CpInfo) (this : Nat) (attrs : Array Attribute := #[]) (ms : Array MethodInfo := #[]) (fl : Nat := 33) (sup : Nat := 0) (ifs : Array Nat := #[]) (fds : Array FieldInfo := #[]) : ClassFile where
  minorVersion := 0
  majorVersion := 65
  constantPool := pool
  accessFlags := fl
  thisClass := this
  superClass := sup
  interfaces := ifs
  fields := fds
  methods := ms
  attributes := attrs
def plain (name : String) (sup : Option ClassId) : Class where
  name := name
  kind := .ordinary
  loader := none
  accessFlags := 33
  super := sup
  interfaces := #[]
  cf := none
  fields := #[]
  methods := #[]
  instanceTypes := #[]
  staticTypes := #[]
  resolved := #[]
  callSites := []
  init := .initialized
  statics := none
  mirror := none

def pool0 : Array CpInfo := pool [(5, u "<init>"), (0, u "()V"), (1, .class_ 10), (1, u "java/lang/Object")] 113

def k0c0 : Code := { maxStack := 0, maxLocals := 1, code := object_method_1_code, exceptionTable := #[], attributes := #[] }
def k0m0 : Method := { name := "<init>", desc := "()V", sig := { parameters := [], returnType := none }, accessFlags := 1, code := some k0c0 }
/-- java/lang/Object -/
def k0 : Class := { plain "java/lang/Object" none with
  accessFlags := 33
  interfaces := #[]
  cf := some (fileOf pool0 8 #[] #[{ accessFlags := 1, nameIndex := 5, descriptorIndex := 6, attributes := #[] }] 33 0 #[] #[])
  fields := #[]
  methods := #[k0m0]
  instanceTypes := #[]
  staticTypes := #[]
  resolved := Array.replicate 124 none
  statics := none }

def pool1 : Array CpInfo := pool [(2, .class_ 4), (1, u "java/lang/Object"), (0, u "<init>"), (0, u "()V"), (0, .integer 55296), (0, .integer 56319), (0, .integer 56320), (0, .integer 57343), (0, .methodref 12 13), (0, .class_ 14), (0, .nameAndType 15 16), (0, u "com/example/cellwise/cellwise/ChecksAtMostPinLaw"), (0, u "hi"), (0, u "(C)Z"), (0, .methodref 12 18), (0, .nameAndType 19 16), (0, u "lo"), (0, .integer 2147483647), (0, .long 65535), (1, .class_ 24), (0, u "java/lang/String"), (0, .methodref 23 26), (0, .nameAndType 5 27), (0, u "([C)V"), (0, .methodref 12 29), (0, .nameAndType 30 31), (0, u "pair"), (0, u "(CC)Z"), (0, .methodref 33 34), (0, .class_ 35), (0, .nameAndType 36 37), (0, u "java/lang/Math"), (0, u "max"), (0, u "(II)I"), (0, .methodref 23 39), (0, .nameAndType 40 41), (0, u "valueOf"), (0, u "(C)Ljava/lang/String;"), (0, .methodref 43 44), (0, .class_ 45), (0, .nameAndType 46 47), (0, u "com/example/cellwise/cellwise/Checks"), (0, u "atMost"), (0, u "(Ljava/lang/String;ILjava/lang/String;)Ljava/lang/String;"), (0, .methodref 23 49), (0, .nameAndType 50 51), (0, u "equals"), (0, u "(Ljava/lang/Object;)Z"), (3, u "law"), (0, u "(JIII)Z")] 5

def k1m0 : Method := { name := "<init>", desc := "()V", sig := { parameters := [], returnType := none }, accessFlags := 1, code := none }
def k1c1 : Code := { maxStack := 2, maxLocals := 1, code := method_2_code, exceptionTable := #[], attributes := #[] }
def k1m1 : Method := { name := "hi", desc := "(C)Z", sig := { parameters := [.char], returnType := some .boolean }, accessFlags := 10, code := some k1c1 }
def k1c2 : Code := { maxStack := 2, maxLocals := 1, code := method_3_code, exceptionTable := #[], attributes := #[] }
def k1m2 : Method := { name := "lo", desc := "(C)Z", sig := { parameters := [.char], returnType := some .boolean }, accessFlags := 10, code := some k1c2 }
def k1c3 : Code := { maxStack := 1, maxLocals := 2, code := method_4_code, exceptionTable := #[], attributes := #[] }
def k1m3 : Method := { name := "pair", desc := "(CC)Z", sig := { parameters := [.char, .char], returnType := some .boolean }, accessFlags := 10, code := some k1c3 }
def k1c4 : Code := { maxStack := 6, maxLocals := 15, code := code, exceptionTable := #[], attributes := #[] }
def k1m4 : Method := { name := "law", desc := "(JIII)Z", sig := { parameters := [.long, .int, .int, .int], returnType := some .boolean }, accessFlags := 9, code := some k1c4 }
/-- com/example/cellwise/cellwise/ChecksAtMostPinLaw -/
def k1 : Class := { plain "com/example/cellwise/cellwise/ChecksAtMostPinLaw" (some 0) with
  accessFlags := 49
  interfaces := #[]
  cf := some (fileOf pool1 12 #[] #[{ accessFlags := 1, nameIndex := 5, descriptorIndex := 6, attributes := #[] }, { accessFlags := 10, nameIndex := 15, descriptorIndex := 16, attributes := #[] }, { accessFlags := 10, nameIndex := 19, descriptorIndex := 16, attributes := #[] }, { accessFlags := 10, nameIndex := 30, descriptorIndex := 31, attributes := #[] }, { accessFlags := 9, nameIndex := 55, descriptorIndex := 56, attributes := #[] }] 49 2 #[] #[])
  fields := #[]
  methods := #[k1m0, k1m1, k1m2, k1m3, k1m4]
  instanceTypes := #[]
  staticTypes := #[]
  resolved := Array.replicate 62 none
  statics := none }

def pool2 : Array CpInfo := pool [(1, .class_ 2), (0, u "java/io/Serializable"), (0, .class_ 4), (0, u "java/lang/Object")] 2

/-- java/io/Serializable -/
def k2 : Class := { plain "java/io/Serializable" (some 0) with
  accessFlags := 1537
  interfaces := #[]
  cf := some (fileOf pool2 1 #[] #[] 1537 3 #[] #[])
  fields := #[]
  methods := #[]
  instanceTypes := #[]
  staticTypes := #[]
  resolved := Array.replicate 7 none
  statics := none }

def pool3 : Array CpInfo := pool [(1, .class_ 2), (0, u "java/lang/Comparable"), (0, .class_ 4), (0, u "java/lang/Object")] 7

/-- java/lang/Comparable -/
def k3 : Class := { plain "java/lang/Comparable" (some 0) with
  accessFlags := 1537
  interfaces := #[]
  cf := some (fileOf pool3 1 #[] #[] 1537 3 #[] #[])
  fields := #[]
  methods := #[]
  instanceTypes := #[]
  staticTypes := #[]
  resolved := Array.replicate 12 none
  statics := none }

def pool4 : Array CpInfo := pool [(2, .class_ 4), (1, u "java/lang/CharSequence"), (42, .class_ 48), (0, u "java/lang/CharSequence$1CodePointIterator"), (10, .class_ 60), (0, u "java/lang/CharSequence$1CharIterator"), (5, .class_ 67), (0, u "java/lang/Object")] 63

/-- java/lang/CharSequence -/
def k4 : Class := { plain "java/lang/CharSequence" (some 0) with
  accessFlags := 1537
  interfaces := #[]
  cf := some (fileOf pool4 2 #[.nestMembers #[47, 59]] #[] 1537 66 #[] #[])
  fields := #[]
  methods := #[]
  instanceTypes := #[]
  staticTypes := #[]
  resolved := Array.replicate 131 none
  statics := none }

def pool5 : Array CpInfo := pool [(1, .class_ 2), (0, u "java/lang/constant/Constable"), (0, .class_ 4), (0, u "java/lang/Object")] 6

/-- java/lang/constant/Constable -/
def k5 : Class := { plain "java/lang/constant/Constable" (some 0) with
  accessFlags := 1537
  interfaces := #[]
  cf := some (fileOf pool5 1 #[] #[] 1537 3 #[] #[])
  fields := #[]
  methods := #[]
  instanceTypes := #[]
  staticTypes := #[]
  resolved := Array.replicate 11 none
  statics := none }

def pool6 : Array CpInfo := pool [(1, .class_ 2), (0, u "java/lang/constant/ConstantDesc"), (0, .class_ 4), (0, u "java/lang/Object")] 32

/-- java/lang/constant/ConstantDesc -/
def k6 : Class := { plain "java/lang/constant/ConstantDesc" (some 0) with
  accessFlags := 1537
  interfaces := #[]
  cf := some (fileOf pool6 1 #[] #[] 1537 3 #[] #[])
  fields := #[]
  methods := #[]
  instanceTypes := #[]
  staticTypes := #[]
  resolved := Array.replicate 37 none
  statics := none }

def pool7 : Array CpInfo := pool [(1, .methodref 2 3), (0, .class_ 4), (0, .nameAndType 5 6), (0, u "java/lang/Object"), (0, u "<init>"), (0, u "()V"), (0, .string 8), (0, u ""), (0, .fieldref 10 11), (0, .class_ 12), (0, .nameAndType 13 14), (0, u "java/lang/String"), (0, u "value"), (0, u "[B"), (0, .fieldref 10 16), (0, .nameAndType 17 18), (0, u "coder"), (0, u "B"), (2, u "hash"), (0, u "I"), (2, u "hashIsZero"), (0, u "Z"), (0, .methodref 10 28), (0, .nameAndType 5 29), (0, u "([CIILjava/lang/Void;)V"), (7, u "(III)I"), (0, .fieldref 10 39), (0, .nameAndType 40 26), (0, u "COMPACT_STRINGS"), (1, .class_ 44), (1, u "java/lang/StringUTF16"), (0, u "compress"), (1, .methodref 42 48), (0, .nameAndType 49 50), (0, u "coderFromArrayLen"), (0, u "([BI)B"), (2, u "toBytes"), (25, .class_ 81), (1, u "java/util/Objects"), (15, u "([BII)I"), (9, .class_ 109), (1, u "java/lang/StringLatin1"), (32, u "()Z"), (34, .methodref 42 178), (0, .nameAndType 45 179), (0, u "([CII)[B"), (29, .methodref 10 210), (0, .nameAndType 5 211), (0, u "([BB)V"), (122, u "()I"), (0, .methodref 10 336), (0, .nameAndType 17 337), (0, u "()B"), (31, u "(C)Z"), (122, .methodref 10 493), (0, .nameAndType 494 142), (0, u "isLatin1"), (10, .methodref 10 506), (0, .nameAndType 507 334), (0, u "length"), (3, .methodref 79 512), (0, .nameAndType 513 37), (0, u "checkFromToIndex"), (0, .methodref 42 515), (0, .nameAndType 516 97), (0, u "codePointCount"), (26, u "equals"), (29, u "(Ljava/lang/Object;)Z"), (1, .class_ 576), (0, u "java/lang/CharSequence"), (22, u "CASE_INSENSITIVE_ORDER"), (0, u "Ljava/util/Comparator;"), (35, u "(II)I"), (145, u "valueOf"), (0, u "(C)Ljava/lang/String;"), (226, u "([C)V"), (4, .methodref 107 1016), (0, .nameAndType 1017 369), (0, u "canEncode"), (0, .methodref 107 1019), (0, .nameAndType 53 1020), (0, u "(C)[B"), (80, u "serialPersistentFields"), (0, u "[Ljava/io/ObjectStreamField;"), (0, .class_ 1104), (0, u "java/lang/String$CaseInsensitiveComparator"), (1, .class_ 1107), (0, u "java/io/Serializable"), (0, .class_ 1109), (0, u "java/lang/Comparable"), (0, .class_ 1111), (0, u "java/lang/constant/Constable"), (0, .class_ 1113), (0, u "java/lang/constant/ConstantDesc"), (2, u "serialVersionUID"), (0, u "J"), (3, u "REPL"), (0, u "C"), (2, u "LATIN1"), (1, u "UTF16")] 323

def k7m0 : Method := { name := "<init>", desc := "()V", sig := { parameters := [], returnType := none }, accessFlags := 1, code := none }
def k7c1 : Code := { maxStack := 5, maxLocals := 2, code := jdk_42_method_3_code, exceptionTable := #[], attributes := #[] }
def k7m1 : Method := { name := "<init>", desc := "([C)V", sig := { parameters := [(.array .char)], returnType := none }, accessFlags := 1, code := some k7c1 }
def k7c2 : Code := { maxStack := 2, maxLocals := 1, code := jdk_42_method_54_code, exceptionTable := #[], attributes := #[] }
def k7m2 : Method := { name := "length", desc := "()I", sig := { parameters := [], returnType := some .int }, accessFlags := 1, code := some k7c2 }
def k7c3 : Code := { maxStack := 3, maxLocals := 3, code := jdk_42_method_59_code, exceptionTable := #[], attributes := #[] }
def k7m3 : Method := { name := "codePointCount", desc := "(II)I", sig := { parameters := [.int, .int], returnType := some .int }, accessFlags := 1, code := some k7c3 }
def k7c4 : Code := { maxStack := 2, maxLocals := 3, code := jdk_42_method_66_code, exceptionTable := #[], attributes := #[] }
def k7m4 : Method := { name := "equals", desc := "(Ljava/lang/Object;)Z", sig := { parameters := [(.object "java/lang/Object")], returnType := some .boolean }, accessFlags := 1, code := some k7c4 }
def k7c5 : Code := { maxStack := 4, maxLocals := 1, code := jdk_42_method_139_code, exceptionTable := #[], attributes := #[] }
def k7m5 : Method := { name := "valueOf", desc := "(C)Ljava/lang/String;", sig := { parameters := [.char], returnType := some (.object "java/lang/String") }, accessFlags := 9, code := some k7c5 }
def k7c6 : Code := { maxStack := 4, maxLocals := 6, code := jdk_42_method_149_code, exceptionTable := #[], attributes := #[] }
def k7m6 : Method := { name := "<init>", desc := "([CIILjava/lang/Void;)V", sig := { parameters := [(.array .char), .int, .int, (.object "java/lang/Void")], returnType := none }, accessFlags := 2, code := some k7c6 }
def k7c7 : Code := { maxStack := 2, maxLocals := 3, code := jdk_42_method_151_code, exceptionTable := #[], attributes := #[] }
def k7m7 : Method := { name := "<init>", desc := "([BB)V", sig := { parameters := [(.array .byte), .byte], returnType := none }, accessFlags := 0, code := some k7c7 }
def k7c8 : Code := { maxStack := 1, maxLocals := 1, code := jdk_42_method_152_code, exceptionTable := #[], attributes := #[] }
def k7m8 : Method := { name := "coder", desc := "()B", sig := { parameters := [], returnType := some .byte }, accessFlags := 0, code := some k7c8 }
def k7c9 : Code := { maxStack := 1, maxLocals := 1, code := jdk_42_method_154_code, exceptionTable := #[], attributes := #[] }
def k7m9 : Method := { name := "isLatin1", desc := "()Z", sig := { parameters := [], returnType := some .boolean }, accessFlags := 0, code := some k7c9 }
/-- java/lang/String -/
def k7 : Class := { plain "java/lang/String" (some 0) with
  accessFlags := 49
  interfaces := #[2, 3, 4, 5, 6]
  cf := some (fileOf pool7 10 #[.nestMembers #[1103]] #[{ accessFlags := 1, nameIndex := 5, descriptorIndex := 6, attributes := #[] }, { accessFlags := 1, nameIndex := 5, descriptorIndex := 1010, attributes := #[] }, { accessFlags := 1, nameIndex := 507, descriptorIndex := 334, attributes := #[] }, { accessFlags := 1, nameIndex := 516, descriptorIndex := 636, attributes := #[] }, { accessFlags := 1, nameIndex := 543, descriptorIndex := 573, attributes := #[] }, { accessFlags := 9, nameIndex := 782, descriptorIndex := 783, attributes := #[] }, { accessFlags := 2, nameIndex := 5, descriptorIndex := 29, attributes := #[] }, { accessFlags := 0, nameIndex := 5, descriptorIndex := 211, attributes := #[] }, { accessFlags := 0, nameIndex := 17, descriptorIndex := 337, attributes := #[] }, { accessFlags := 0, nameIndex := 494, descriptorIndex := 142, attributes := #[] }] 49 2 #[1106, 1108, 575, 1110, 1112] #[{ accessFlags := 18, nameIndex := 13, descriptorIndex := 14, attributes := #[] }, { accessFlags := 18, nameIndex := 17, descriptorIndex := 18, attributes := #[] }, { accessFlags := 2, nameIndex := 21, descriptorIndex := 22, attributes := #[] }, { accessFlags := 2, nameIndex := 25, descriptorIndex := 26, attributes := #[] }, { accessFlags := 26, nameIndex := 1116, descriptorIndex := 1117, attributes := #[] }, { accessFlags := 24, nameIndex := 40, descriptorIndex := 26, attributes := #[] }, { accessFlags := 26, nameIndex := 1101, descriptorIndex := 1102, attributes := #[] }, { accessFlags := 26, nameIndex := 1121, descriptorIndex := 1122, attributes := #[] }, { accessFlags := 25, nameIndex := 599, descriptorIndex := 600, attributes := #[] }, { accessFlags := 24, nameIndex := 1125, descriptorIndex := 18, attributes := #[] }, { accessFlags := 24, nameIndex := 1127, descriptorIndex := 18, attributes := #[] }])
  fields := #[{ name := "value", type := (.array .byte), accessFlags := 18, slot := 0, constantValue := 0 }, { name := "coder", type := .byte, accessFlags := 18, slot := 1, constantValue := 0 }, { name := "hash", type := .int, accessFlags := 2, slot := 2, constantValue := 0 }, { name := "hashIsZero", type := .boolean, accessFlags := 2, slot := 3, constantValue := 0 }, { name := "serialVersionUID", type := .long, accessFlags := 26, slot := 0, constantValue := 0 }, { name := "COMPACT_STRINGS", type := .boolean, accessFlags := 24, slot := 1, constantValue := 0 }, { name := "serialPersistentFields", type := (.array (.object "java/io/ObjectStreamField")), accessFlags := 26, slot := 2, constantValue := 0 }, { name := "REPL", type := .char, accessFlags := 26, slot := 3, constantValue := 0 }, { name := "CASE_INSENSITIVE_ORDER", type := (.object "java/util/Comparator"), accessFlags := 25, slot := 4, constantValue := 0 }, { name := "LATIN1", type := .byte, accessFlags := 24, slot := 5, constantValue := 0 }, { name := "UTF16", type := .byte, accessFlags := 24, slot := 6, constantValue := 0 }]
  methods := #[k7m0, k7m1, k7m2, k7m3, k7m4, k7m5, k7m6, k7m7, k7m8, k7m9]
  instanceTypes := #[(.array .byte), .byte, .int, .boolean]
  staticTypes := #[.long, .boolean, (.array (.object "java/io/ObjectStreamField")), .char, (.object "java/util/Comparator"), .byte, .byte]
  resolved := Array.replicate 1451 none
  statics := some 0 }

def pool8 : Array CpInfo := pool [(6, .class_ 8), (1, u "java/lang/Object"), (0, u "<init>"), (0, u "()V"), (0, .methodref 12 13), (0, .class_ 14), (0, .nameAndType 15 16), (0, u "java/lang/StringUTF16"), (0, u "newBytesLength"), (0, u "(I)I"), (3, .integer 1073741823), (23, .fieldref 12 45), (0, .nameAndType 46 47), (0, u "$assertionsDisabled"), (0, u "Z"), (11, .fieldref 12 60), (0, .nameAndType 61 62), (0, u "HI_BYTE_SHIFT"), (0, u "I"), (0, .fieldref 12 64), (0, .nameAndType 65 62), (0, u "LO_BYTE_SHIFT"), (5, .methodref 12 72), (0, .nameAndType 73 74), (0, u "getChar"), (0, u "([BI)C"), (0, .methodref 76 77), (0, .class_ 78), (0, .nameAndType 79 80), (0, u "java/lang/Character"), (0, u "isHighSurrogate"), (0, u "(C)Z"), (0, .methodref 76 82), (0, .nameAndType 83 80), (0, u "isLowSurrogate"), (7, u "([BIIZ)I"), (8, .methodref 12 101), (0, .nameAndType 102 91), (0, u "codePointCount"), (4, .methodref 12 108), (0, .nameAndType 109 110), (0, u "newBytesFor"), (0, u "(I)[B"), (0, .methodref 12 112), (0, .nameAndType 113 114), (0, u "putChar"), (0, u "([BII)V"), (0, .methodref 12 116), (0, .nameAndType 117 118), (0, u "compress"), (0, u "([CI[BII)I"), (0, .methodref 12 120), (0, .nameAndType 121 122), (0, u "toBytes"), (0, u "([CII)[B"), (127, u "([BII)I"), (10, u "coderFromArrayLen"), (0, u "([BI)B"), (106, .class_ 371), (1, u "java/lang/StringUTF16$LinesSpliterator"), (58, u "MAX_LENGTH"), (196, .class_ 628), (0, u "java/lang/StringUTF16$CodePointsSpliterator"), (0, .class_ 630), (0, u "java/lang/StringUTF16$CharsSpliterator")] 4

def k8m0 : Method := { name := "<init>", desc := "()V", sig := { parameters := [], returnType := none }, accessFlags := 0, code := none }
def k8c1 : Code := { maxStack := 1, maxLocals := 1, code := jdk_52_method_2_code, exceptionTable := #[], attributes := #[] }
def k8m1 : Method := { name := "newBytesFor", desc := "(I)[B", sig := { parameters := [.int], returnType := some (.array .byte) }, accessFlags := 9, code := some k8c1 }
def k8c2 : Code := { maxStack := 4, maxLocals := 1, code := jdk_52_method_3_code, exceptionTable := #[], attributes := #[] }
def k8m2 : Method := { name := "newBytesLength", desc := "(I)I", sig := { parameters := [.int], returnType := some .int }, accessFlags := 9, code := some k8c2 }
def k8c3 : Code := { maxStack := 4, maxLocals := 3, code := jdk_52_method_4_code, exceptionTable := #[], attributes := #[] }
def k8m3 : Method := { name := "putChar", desc := "([BII)V", sig := { parameters := [(.array .byte), .int, .int], returnType := none }, accessFlags := 8, code := some k8c3 }
def k8c4 : Code := { maxStack := 3, maxLocals := 2, code := jdk_52_method_5_code, exceptionTable := #[], attributes := #[] }
def k8m4 : Method := { name := "getChar", desc := "([BI)C", sig := { parameters := [(.array .byte), .int], returnType := some .char }, accessFlags := 8, code := some k8c4 }
def k8c5 : Code := { maxStack := 3, maxLocals := 6, code := jdk_52_method_11_code, exceptionTable := #[], attributes := #[] }
def k8m5 : Method := { name := "codePointCount", desc := "([BIIZ)I", sig := { parameters := [(.array .byte), .int, .int, .boolean], returnType := some .int }, accessFlags := 10, code := some k8c5 }
def k8c6 : Code := { maxStack := 4, maxLocals := 3, code := jdk_52_method_12_code, exceptionTable := #[], attributes := #[] }
def k8m6 : Method := { name := "codePointCount", desc := "([BII)I", sig := { parameters := [(.array .byte), .int, .int], returnType := some .int }, accessFlags := 9, code := some k8c6 }
def k8c7 : Code := { maxStack := 4, maxLocals := 5, code := jdk_52_method_14_code, exceptionTable := #[], attributes := #[] }
def k8m7 : Method := { name := "toBytes", desc := "([CII)[B", sig := { parameters := [(.array .char), .int, .int], returnType := some (.array .byte) }, accessFlags := 9, code := some k8c7 }
def k8c8 : Code := { maxStack := 2, maxLocals := 2, code := jdk_52_method_15_code, exceptionTable := #[], attributes := #[] }
def k8m8 : Method := { name := "coderFromArrayLen", desc := "([BI)B", sig := { parameters := [(.array .byte), .int], returnType := some .byte }, accessFlags := 8, code := some k8c8 }
def k8c9 : Code := { maxStack := 5, maxLocals := 6, code := jdk_52_method_16_code, exceptionTable := #[], attributes := #[] }
def k8m9 : Method := { name := "compress", desc := "([CII)[B", sig := { parameters := [(.array .char), .int, .int], returnType := some (.array .byte) }, accessFlags := 9, code := some k8c9 }
def k8c10 : Code := { maxStack := 3, maxLocals := 7, code := jdk_52_method_21_code, exceptionTable := #[], attributes := #[] }
def k8m10 : Method := { name := "compress", desc := "([CI[BII)I", sig := { parameters := [(.array .char), .int, (.array .byte), .int, .int], returnType := some .int }, accessFlags := 9, code := some k8c10 }
/-- java/lang/StringUTF16 -/
def k8 : Class := { plain "java/lang/StringUTF16" (some 0) with
  accessFlags := 48
  interfaces := #[]
  cf := some (fileOf pool8 12 #[.nestMembers #[627, 629, 369]] #[{ accessFlags := 0, nameIndex := 9, descriptorIndex := 10, attributes := #[] }, { accessFlags := 9, nameIndex := 109, descriptorIndex := 110, attributes := #[] }, { accessFlags := 9, nameIndex := 15, descriptorIndex := 16, attributes := #[] }, { accessFlags := 8, nameIndex := 113, descriptorIndex := 114, attributes := #[] }, { accessFlags := 8, nameIndex := 73, descriptorIndex := 74, attributes := #[] }, { accessFlags := 10, nameIndex := 102, descriptorIndex := 91, attributes := #[] }, { accessFlags := 9, nameIndex := 102, descriptorIndex := 250, attributes := #[] }, { accessFlags := 9, nameIndex := 121, descriptorIndex := 122, attributes := #[] }, { accessFlags := 8, nameIndex := 261, descriptorIndex := 262, attributes := #[] }, { accessFlags := 9, nameIndex := 117, descriptorIndex := 122, attributes := #[] }, { accessFlags := 9, nameIndex := 117, descriptorIndex := 118, attributes := #[] }] 48 6 #[] #[{ accessFlags := 26, nameIndex := 61, descriptorIndex := 62, attributes := #[] }, { accessFlags := 26, nameIndex := 65, descriptorIndex := 62, attributes := #[] }, { accessFlags := 24, nameIndex := 430, descriptorIndex := 62, attributes := #[] }, { accessFlags := 4120, nameIndex := 46, descriptorIndex := 47, attributes := #[] }])
  fields := #[{ name := "HI_BYTE_SHIFT", type := .int, accessFlags := 26, slot := 0, constantValue := 0 }, { name := "LO_BYTE_SHIFT", type := .int, accessFlags := 26, slot := 1, constantValue := 0 }, { name := "MAX_LENGTH", type := .int, accessFlags := 24, slot := 2, constantValue := 0 }, { name := "$assertionsDisabled", type := .boolean, accessFlags := 4120, slot := 3, constantValue := 0 }]
  methods := #[k8m0, k8m1, k8m2, k8m3, k8m4, k8m5, k8m6, k8m7, k8m8, k8m9, k8m10]
  instanceTypes := #[]
  staticTypes := #[.int, .int, .int, .boolean]
  resolved := Array.replicate 635 none
  statics := some 1 }

def pool9 : Array CpInfo := pool [(1, .class_ 2), (0, u "java/lang/Math"), (1, .class_ 6), (1, u "java/lang/Object"), (0, u "<init>"), (0, u "()V"), (89, .class_ 100), (1, u "java/lang/Math$RandomNumberGeneratorHolder"), (71, u "negativeZeroFloatBits"), (0, u "J"), (2, u "negativeZeroDoubleBits"), (21, u "max"), (46, u "$assertionsDisabled"), (0, u "Z"), (88, u "(II)I"), (2, u "twoToTheDoubleScaleDown"), (0, u "D"), (4, u "twoToTheDoubleScaleUp"), (9, u "E"), (3, u "PI"), (2, u "TAU"), (2, u "DEGREES_TO_RADIANS"), (0, u "RADIANS_TO_DEGREES")] 94

def k9m0 : Method := { name := "<init>", desc := "()V", sig := { parameters := [], returnType := none }, accessFlags := 2, code := none }
def k9c1 : Code := { maxStack := 2, maxLocals := 2, code := jdk_29_method_65_code, exceptionTable := #[], attributes := #[] }
def k9m1 : Method := { name := "max", desc := "(II)I", sig := { parameters := [.int, .int], returnType := some .int }, accessFlags := 9, code := some k9c1 }
/-- java/lang/Math -/
def k9 : Class := { plain "java/lang/Math" (some 0) with
  accessFlags := 49
  interfaces := #[]
  cf := some (fileOf pool9 1 #[.nestMembers #[98]] #[{ accessFlags := 2, nameIndex := 7, descriptorIndex := 8, attributes := #[] }, { accessFlags := 9, nameIndex := 198, descriptorIndex := 335, attributes := #[] }] 49 4 #[] #[{ accessFlags := 25, nameIndex := 354, descriptorIndex := 339, attributes := #[] }, { accessFlags := 25, nameIndex := 358, descriptorIndex := 339, attributes := #[] }, { accessFlags := 25, nameIndex := 361, descriptorIndex := 339, attributes := #[] }, { accessFlags := 26, nameIndex := 364, descriptorIndex := 339, attributes := #[] }, { accessFlags := 26, nameIndex := 365, descriptorIndex := 339, attributes := #[] }, { accessFlags := 26, nameIndex := 172, descriptorIndex := 173, attributes := #[] }, { accessFlags := 26, nameIndex := 176, descriptorIndex := 173, attributes := #[] }, { accessFlags := 8, nameIndex := 344, descriptorIndex := 339, attributes := #[] }, { accessFlags := 8, nameIndex := 338, descriptorIndex := 339, attributes := #[] }, { accessFlags := 4120, nameIndex := 245, descriptorIndex := 246, attributes := #[] }])
  fields := #[{ name := "E", type := .double, accessFlags := 25, slot := 0, constantValue := 0 }, { name := "PI", type := .double, accessFlags := 25, slot := 1, constantValue := 0 }, { name := "TAU", type := .double, accessFlags := 25, slot := 2, constantValue := 0 }, { name := "DEGREES_TO_RADIANS", type := .double, accessFlags := 26, slot := 3, constantValue := 0 }, { name := "RADIANS_TO_DEGREES", type := .double, accessFlags := 26, slot := 4, constantValue := 0 }, { name := "negativeZeroFloatBits", type := .long, accessFlags := 26, slot := 5, constantValue := 0 }, { name := "negativeZeroDoubleBits", type := .long, accessFlags := 26, slot := 6, constantValue := 0 }, { name := "twoToTheDoubleScaleUp", type := .double, accessFlags := 8, slot := 7, constantValue := 0 }, { name := "twoToTheDoubleScaleDown", type := .double, accessFlags := 8, slot := 8, constantValue := 0 }, { name := "$assertionsDisabled", type := .boolean, accessFlags := 4120, slot := 9, constantValue := 0 }]
  methods := #[k9m0, k9m1]
  instanceTypes := #[]
  staticTypes := #[.double, .double, .double, .double, .double, .long, .long, .double, .double, .boolean]
  resolved := Array.replicate 460 none
  statics := none }

def pool10 : Array CpInfo := pool [(4, .class_ 6), (1, u "java/lang/Object"), (0, u "<init>"), (0, u "()V"), (5, .class_ 16), (1, u "java/lang/StringLatin1"), (73, u "canEncode"), (14, u "(C)Z"), (15, u "$assertionsDisabled"), (0, u "Z"), (98, .class_ 223), (1, u "java/lang/StringLatin1$LinesSpliterator"), (156, u "toBytes"), (1, u "(C)[B"), (7, .class_ 391), (0, u "java/lang/StringLatin1$CharsSpliterator")] 3

def k10m0 : Method := { name := "<init>", desc := "()V", sig := { parameters := [], returnType := none }, accessFlags := 0, code := none }
def k10c1 : Code := { maxStack := 2, maxLocals := 1, code := jdk_43_method_3_code, exceptionTable := #[], attributes := #[] }
def k10m1 : Method := { name := "canEncode", desc := "(C)Z", sig := { parameters := [.char], returnType := some .boolean }, accessFlags := 9, code := some k10c1 }
def k10c2 : Code := { maxStack := 4, maxLocals := 1, code := jdk_43_method_46_code, exceptionTable := #[], attributes := #[] }
def k10m2 : Method := { name := "toBytes", desc := "(C)[B", sig := { parameters := [.char], returnType := some (.array .byte) }, accessFlags := 9, code := some k10c2 }
/-- java/lang/StringLatin1 -/
def k10 : Class := { plain "java/lang/StringLatin1" (some 0) with
  accessFlags := 48
  interfaces := #[]
  cf := some (fileOf pool10 14 #[.nestMembers #[390, 221]] #[{ accessFlags := 0, nameIndex := 7, descriptorIndex := 8, attributes := #[] }, { accessFlags := 9, nameIndex := 90, descriptorIndex := 105, attributes := #[] }, { accessFlags := 9, nameIndex := 380, descriptorIndex := 382, attributes := #[] }] 48 4 #[] #[{ accessFlags := 4120, nameIndex := 121, descriptorIndex := 122, attributes := #[] }])
  fields := #[{ name := "$assertionsDisabled", type := .boolean, accessFlags := 4120, slot := 0, constantValue := 0 }]
  methods := #[k10m0, k10m1, k10m2]
  instanceTypes := #[]
  staticTypes := #[.boolean]
  resolved := Array.replicate 395 none
  statics := none }

def pool11 : Array CpInfo := pool [(2, .class_ 4), (1, u "java/lang/Object"), (0, u "<init>"), (0, u "()V"), (1, .class_ 10), (1, u "java/lang/String"), (7, .class_ 20), (1, u "com/example/cellwise/cellwise/Checks"), (37, u "DIRECTION_CONTROLS"), (0, u "Ljava/util/Set;"), (45, .methodref 8 106), (0, .nameAndType 107 108), (0, u "length"), (0, u "()I"), (0, .methodref 8 110), (0, .nameAndType 111 112), (0, u "codePointCount"), (0, u "(II)I"), (9, u "EMAIL"), (0, u "Ljava/util/regex/Pattern;"), (28, u "MARKS"), (28, u "IDENTIFIER"), (38, u "atMost"), (0, u "(Ljava/lang/String;ILjava/lang/String;)Ljava/lang/String;")] 40

def k11m0 : Method := { name := "<init>", desc := "()V", sig := { parameters := [], returnType := none }, accessFlags := 2, code := none }
def k11c1 : Code := { maxStack := 7, maxLocals := 3, code := prog_3_method_7_code, exceptionTable := #[], attributes := #[] }
def k11m1 : Method := { name := "atMost", desc := "(Ljava/lang/String;ILjava/lang/String;)Ljava/lang/String;", sig := { parameters := [(.object "java/lang/String"), .int, (.object "java/lang/String")], returnType := some (.object "java/lang/String") }, accessFlags := 8, code := some k11c1 }
/-- com/example/cellwise/cellwise/Checks -/
def k11 : Class := { plain "com/example/cellwise/cellwise/Checks" (some 0) with
  accessFlags := 48
  interfaces := #[]
  cf := some (fileOf pool11 18 #[] #[{ accessFlags := 2, nameIndex := 5, descriptorIndex := 6, attributes := #[] }, { accessFlags := 8, nameIndex := 220, descriptorIndex := 221, attributes := #[] }] 48 2 #[] #[{ accessFlags := 26, nameIndex := 181, descriptorIndex := 123, attributes := #[] }, { accessFlags := 26, nameIndex := 122, descriptorIndex := 123, attributes := #[] }, { accessFlags := 26, nameIndex := 152, descriptorIndex := 123, attributes := #[] }, { accessFlags := 26, nameIndex := 58, descriptorIndex := 59, attributes := #[] }])
  fields := #[{ name := "IDENTIFIER", type := (.object "java/util/regex/Pattern"), accessFlags := 26, slot := 0, constantValue := 0 }, { name := "EMAIL", type := (.object "java/util/regex/Pattern"), accessFlags := 26, slot := 1, constantValue := 0 }, { name := "MARKS", type := (.object "java/util/regex/Pattern"), accessFlags := 26, slot := 2, constantValue := 0 }, { name := "DIRECTION_CONTROLS", type := (.object "java/util/Set"), accessFlags := 26, slot := 3, constantValue := 0 }]
  methods := #[k11m0, k11m1]
  instanceTypes := #[]
  staticTypes := #[(.object "java/util/regex/Pattern"), (.object "java/util/regex/Pattern"), (.object "java/util/regex/Pattern"), (.object "java/util/Set")]
  resolved := Array.replicate 262 none
  statics := none }

def pool12 : Array CpInfo := pool [(2, .class_ 4), (1, u "java/lang/Object"), (0, u "<init>"), (0, u "()V"), (35, .class_ 44), (1, u "java/util/Objects"), (61, .class_ 108), (1, u "jdk/internal/util/Preconditions"), (2, .methodref 106 112), (0, .nameAndType 113 114), (0, u "checkFromToIndex"), (0, u "(IIILjava/util/function/BiFunction;)I"), (60, u "(III)I")] 8

def k12m0 : Method := { name := "<init>", desc := "()V", sig := { parameters := [], returnType := none }, accessFlags := 2, code := none }
def k12c1 : Code := { maxStack := 4, maxLocals := 3, code := jdk_31_method_18_code, exceptionTable := #[], attributes := #[] }
def k12m1 : Method := { name := "checkFromToIndex", desc := "(III)I", sig := { parameters := [.int, .int, .int], returnType := some .int }, accessFlags := 9, code := some k12c1 }
/-- java/util/Objects -/
def k12 : Class := { plain "java/util/Objects" (some 0) with
  accessFlags := 49
  interfaces := #[]
  cf := some (fileOf pool12 42 #[] #[{ accessFlags := 2, nameIndex := 5, descriptorIndex := 6, attributes := #[] }, { accessFlags := 9, nameIndex := 113, descriptorIndex := 175, attributes := #[] }] 49 2 #[] #[])
  fields := #[]
  methods := #[k12m0, k12m1]
  instanceTypes := #[]
  staticTypes := #[]
  resolved := Array.replicate 184 none
  statics := none }

def pool13 : Array CpInfo := pool [(2, .class_ 4), (1, u "java/lang/Object"), (0, u "<init>"), (0, u "()V"), (17, .class_ 26), (1, u "jdk/internal/util/Preconditions"), (20, u "checkFromToIndex"), (7, .class_ 56), (0, u "jdk/internal/util/Preconditions$4"), (57, .class_ 115), (0, u "jdk/internal/util/Preconditions$1"), (7, u "SIOOBE_FORMATTER"), (0, u "Ljava/util/function/BiFunction;"), (0, .class_ 126), (0, u "jdk/internal/util/Preconditions$2"), (3, u "AIOOBE_FORMATTER"), (0, .class_ 132), (0, u "jdk/internal/util/Preconditions$3"), (3, u "IOOBE_FORMATTER"), (46, u "(IIILjava/util/function/BiFunction;)I")] 10

def k13m0 : Method := { name := "<init>", desc := "()V", sig := { parameters := [], returnType := none }, accessFlags := 1, code := none }
def k13c1 : Code := { maxStack := 4, maxLocals := 4, code := jdk_41_method_12_code, exceptionTable := #[], attributes := #[] }
def k13m1 : Method := { name := "checkFromToIndex", desc := "(IIILjava/util/function/BiFunction;)I", sig := { parameters := [.int, .int, .int, (.object "java/util/function/BiFunction")], returnType := some .int }, accessFlags := 9, code := some k13c1 }
/-- jdk/internal/util/Preconditions -/
def k13 : Class := { plain "jdk/internal/util/Preconditions" (some 0) with
  accessFlags := 33
  interfaces := #[]
  cf := some (fileOf pool13 24 #[.nestMembers #[55, 131, 125, 114]] #[{ accessFlags := 1, nameIndex := 5, descriptorIndex := 6, attributes := #[] }, { accessFlags := 9, nameIndex := 47, descriptorIndex := 183, attributes := #[] }] 33 2 #[] #[{ accessFlags := 25, nameIndex := 123, descriptorIndex := 124, attributes := #[] }, { accessFlags := 25, nameIndex := 130, descriptorIndex := 124, attributes := #[] }, { accessFlags := 25, nameIndex := 136, descriptorIndex := 124, attributes := #[] }])
  fields := #[{ name := "SIOOBE_FORMATTER", type := (.object "java/util/function/BiFunction"), accessFlags := 25, slot := 0, constantValue := 0 }, { name := "AIOOBE_FORMATTER", type := (.object "java/util/function/BiFunction"), accessFlags := 25, slot := 1, constantValue := 0 }, { name := "IOOBE_FORMATTER", type := (.object "java/util/function/BiFunction"), accessFlags := 25, slot := 2, constantValue := 0 }]
  methods := #[k13m0, k13m1]
  instanceTypes := #[]
  staticTypes := #[(.object "java/util/function/BiFunction"), (.object "java/util/function/BiFunction"), (.object "java/util/function/BiFunction")]
  resolved := Array.replicate 194 none
  statics := some 2 }

def pool14 : Array CpInfo := pool [(1, .class_ 2), (0, u "java/lang/Character"), (18, u "value"), (0, u "C"), (19, .class_ 44), (1, u "java/lang/Object"), (3, .class_ 50), (1, u "java/lang/Character$CharacterCache"), (24, .integer 55296), (0, .integer 56320), (0, .integer 57344), (2, u "isHighSurrogate"), (0, u "(C)Z"), (2, u "isLowSurrogate"), (199, u "$assertionsDisabled"), (0, u "Z"), (21, .class_ 309), (1, u "java/lang/Character$UnicodeBlock"), (73, u "TYPE"), (0, u "Ljava/lang/Class;"), (0, .class_ 386), (0, u "java/io/Serializable"), (0, .class_ 388), (0, u "java/lang/Comparable"), (0, .class_ 390), (0, u "java/lang/constant/Constable"), (0, u "MIN_RADIX"), (0, u "I"), (2, u "MAX_RADIX"), (1, u "MIN_VALUE"), (1, u "MAX_VALUE"), (3, u "UNASSIGNED"), (0, u "B"), (0, u "UPPERCASE_LETTER"), (1, u "LOWERCASE_LETTER"), (0, u "TITLECASE_LETTER"), (1, u "MODIFIER_LETTER"), (1, u "OTHER_LETTER"), (1, u "NON_SPACING_MARK"), (1, u "ENCLOSING_MARK"), (1, u "COMBINING_SPACING_MARK"), (1, u "DECIMAL_DIGIT_NUMBER"), (1, u "LETTER_NUMBER"), (1, u "OTHER_NUMBER"), (1, u "SPACE_SEPARATOR"), (1, u "LINE_SEPARATOR"), (1, u "PARAGRAPH_SEPARATOR"), (1, u "CONTROL"), (1, u "FORMAT"), (1, u "PRIVATE_USE"), (1, u "SURROGATE"), (1, u "DASH_PUNCTUATION"), (1, u "START_PUNCTUATION"), (1, u "END_PUNCTUATION"), (1, u "CONNECTOR_PUNCTUATION"), (1, u "OTHER_PUNCTUATION"), (1, u "MATH_SYMBOL"), (1, u "CURRENCY_SYMBOL"), (1, u "MODIFIER_SYMBOL"), (1, u "OTHER_SYMBOL"), (1, u "INITIAL_QUOTE_PUNCTUATION"), (1, u "FINAL_QUOTE_PUNCTUATION"), (1, u "ERROR"), (1, u "DIRECTIONALITY_UNDEFINED"), (0, u "DIRECTIONALITY_LEFT_TO_RIGHT"), (0, u "DIRECTIONALITY_RIGHT_TO_LEFT"), (0, u "DIRECTIONALITY_RIGHT_TO_LEFT_ARABIC"), (0, u "DIRECTIONALITY_EUROPEAN_NUMBER"), (0, u "DIRECTIONALITY_EUROPEAN_NUMBER_SEPARATOR"), (0, u "DIRECTIONALITY_EUROPEAN_NUMBER_TERMINATOR"), (0, u "DIRECTIONALITY_ARABIC_NUMBER"), (0, u "DIRECTIONALITY_COMMON_NUMBER_SEPARATOR"), (0, u "DIRECTIONALITY_NONSPACING_MARK"), (0, u "DIRECTIONALITY_BOUNDARY_NEUTRAL"), (0, u "DIRECTIONALITY_PARAGRAPH_SEPARATOR"), (0, u "DIRECTIONALITY_SEGMENT_SEPARATOR"), (0, u "DIRECTIONALITY_WHITESPACE"), (0, u "DIRECTIONALITY_OTHER_NEUTRALS"), (0, u "DIRECTIONALITY_LEFT_TO_RIGHT_EMBEDDING"), (0, u "DIRECTIONALITY_LEFT_TO_RIGHT_OVERRIDE"), (0, u "DIRECTIONALITY_RIGHT_TO_LEFT_EMBEDDING"), (0, u "DIRECTIONALITY_RIGHT_TO_LEFT_OVERRIDE"), (1, u "DIRECTIONALITY_POP_DIRECTIONAL_FORMAT"), (0, u "DIRECTIONALITY_LEFT_TO_RIGHT_ISOLATE"), (0, u "DIRECTIONALITY_RIGHT_TO_LEFT_ISOLATE"), (0, u "DIRECTIONALITY_FIRST_STRONG_ISOLATE"), (0, u "DIRECTIONALITY_POP_DIRECTIONAL_ISOLATE"), (0, u "MIN_HIGH_SURROGATE"), (0, u "MAX_HIGH_SURROGATE"), (1, u "MIN_LOW_SURROGATE"), (0, u "MAX_LOW_SURROGATE"), (1, u "MIN_SURROGATE"), (0, u "MAX_SURROGATE"), (0, u "MIN_SUPPLEMENTARY_CODE_POINT"), (0, u "MIN_CODE_POINT"), (0, u "MAX_CODE_POINT"), (1, u "serialVersionUID"), (0, u "J"), (2, u "SIZE"), (0, u "BYTES"), (88, .class_ 596), (0, u "java/lang/Character$UnicodeScript"), (0, .class_ 598), (0, u "java/lang/Character$Subset")] 5

def k14c0 : Code := { maxStack := 2, maxLocals := 1, code := jdk_89_method_14_code, exceptionTable := #[], attributes := #[] }
def k14m0 : Method := { name := "isHighSurrogate", desc := "(C)Z", sig := { parameters := [.char], returnType := some .boolean }, accessFlags := 9, code := some k14c0 }
def k14c1 : Code := { maxStack := 2, maxLocals := 1, code := jdk_89_method_15_code, exceptionTable := #[], attributes := #[] }
def k14m1 : Method := { name := "isLowSurrogate", desc := "(C)Z", sig := { parameters := [.char], returnType := some .boolean }, accessFlags := 9, code := some k14c1 }
/-- java/lang/Character -/
def k14 : Class := { plain "java/lang/Character" (some 0) with
  accessFlags := 49
  interfaces := #[2, 3, 5]
  cf := some (fileOf pool14 1 #[.nestMembers #[48, 595, 307, 597]] #[{ accessFlags := 9, nameIndex := 80, descriptorIndex := 81, attributes := #[] }, { accessFlags := 9, nameIndex := 84, descriptorIndex := 81, attributes := #[] }] 49 42 #[385, 387, 389] #[{ accessFlags := 25, nameIndex := 391, descriptorIndex := 392, attributes := #[] }, { accessFlags := 25, nameIndex := 395, descriptorIndex := 392, attributes := #[] }, { accessFlags := 25, nameIndex := 397, descriptorIndex := 22, attributes := #[] }, { accessFlags := 25, nameIndex := 399, descriptorIndex := 22, attributes := #[] }, { accessFlags := 25, nameIndex := 383, descriptorIndex := 384, attributes := #[] }, { accessFlags := 25, nameIndex := 403, descriptorIndex := 404, attributes := #[] }, { accessFlags := 25, nameIndex := 405, descriptorIndex := 404, attributes := #[] }, { accessFlags := 25, nameIndex := 407, descriptorIndex := 404, attributes := #[] }, { accessFlags := 25, nameIndex := 408, descriptorIndex := 404, attributes := #[] }, { accessFlags := 25, nameIndex := 410, descriptorIndex := 404, attributes := #[] }, { accessFlags := 25, nameIndex := 412, descriptorIndex := 404, attributes := #[] }, { accessFlags := 25, nameIndex := 414, descriptorIndex := 404, attributes := #[] }, { accessFlags := 25, nameIndex := 416, descriptorIndex := 404, attributes := #[] }, { accessFlags := 25, nameIndex := 418, descriptorIndex := 404, attributes := #[] }, { accessFlags := 25, nameIndex := 420, descriptorIndex := 404, attributes := #[] }, { accessFlags := 25, nameIndex := 422, descriptorIndex := 404, attributes := #[] }, { accessFlags := 25, nameIndex := 424, descriptorIndex := 404, attributes := #[] }, { accessFlags := 25, nameIndex := 426, descriptorIndex := 404, attributes := #[] }, { accessFlags := 25, nameIndex := 428, descriptorIndex := 404, attributes := #[] }, { accessFlags := 25, nameIndex := 430, descriptorIndex := 404, attributes := #[] }, { accessFlags := 25, nameIndex := 432, descriptorIndex := 404, attributes := #[] }, { accessFlags := 25, nameIndex := 434, descriptorIndex := 404, attributes := #[] }, { accessFlags := 25, nameIndex := 436, descriptorIndex := 404, attributes := #[] }, { accessFlags := 25, nameIndex := 438, descriptorIndex := 404, attributes := #[] }, { accessFlags := 25, nameIndex := 440, descriptorIndex := 404, attributes := #[] }, { accessFlags := 25, nameIndex := 442, descriptorIndex := 404, attributes := #[] }, { accessFlags := 25, nameIndex := 444, descriptorIndex := 404, attributes := #[] }, { accessFlags := 25, nameIndex := 446, descriptorIndex := 404, attributes := #[] }, { accessFlags := 25, nameIndex := 448, descriptorIndex := 404, attributes := #[] }, { accessFlags := 25, nameIndex := 450, descriptorIndex := 404, attributes := #[] }, { accessFlags := 25, nameIndex := 452, descriptorIndex := 404, attributes := #[] }, { accessFlags := 25, nameIndex := 454, descriptorIndex := 404, attributes := #[] }, { accessFlags := 25, nameIndex := 456, descriptorIndex := 404, attributes := #[] }, { accessFlags := 25, nameIndex := 458, descriptorIndex := 404, attributes := #[] }, { accessFlags := 25, nameIndex := 460, descriptorIndex := 404, attributes := #[] }, { accessFlags := 24, nameIndex := 462, descriptorIndex := 392, attributes := #[] }, { accessFlags := 25, nameIndex := 464, descriptorIndex := 404, attributes := #[] }, { accessFlags := 25, nameIndex := 465, descriptorIndex := 404, attributes := #[] }, { accessFlags := 25, nameIndex := 466, descriptorIndex := 404, attributes := #[] }, { accessFlags := 25, nameIndex := 467, descriptorIndex := 404, attributes := #[] }, { accessFlags := 25, nameIndex := 468, descriptorIndex := 404, attributes := #[] }, { accessFlags := 25, nameIndex := 469, descriptorIndex := 404, attributes := #[] }, { accessFlags := 25, nameIndex := 470, descriptorIndex := 404, attributes := #[] }, { accessFlags := 25, nameIndex := 471, descriptorIndex := 404, attributes := #[] }, { accessFlags := 25, nameIndex := 472, descriptorIndex := 404, attributes := #[] }, { accessFlags := 25, nameIndex := 473, descriptorIndex := 404, attributes := #[] }, { accessFlags := 25, nameIndex := 474, descriptorIndex := 404, attributes := #[] }, { accessFlags := 25, nameIndex := 475, descriptorIndex := 404, attributes := #[] }, { accessFlags := 25, nameIndex := 476, descriptorIndex := 404, attributes := #[] }, { accessFlags := 25, nameIndex := 477, descriptorIndex := 404, attributes := #[] }, { accessFlags := 25, nameIndex := 478, descriptorIndex := 404, attributes := #[] }, { accessFlags := 25, nameIndex := 479, descriptorIndex := 404, attributes := #[] }, { accessFlags := 25, nameIndex := 480, descriptorIndex := 404, attributes := #[] }, { accessFlags := 25, nameIndex := 481, descriptorIndex := 404, attributes := #[] }, { accessFlags := 25, nameIndex := 482, descriptorIndex := 404, attributes := #[] }, { accessFlags := 25, nameIndex := 484, descriptorIndex := 404, attributes := #[] }, { accessFlags := 25, nameIndex := 485, descriptorIndex := 404, attributes := #[] }, { accessFlags := 25, nameIndex := 486, descriptorIndex := 404, attributes := #[] }, { accessFlags := 25, nameIndex := 487, descriptorIndex := 404, attributes := #[] }, { accessFlags := 25, nameIndex := 488, descriptorIndex := 404, attributes := #[] }, { accessFlags := 25, nameIndex := 489, descriptorIndex := 22, attributes := #[] }, { accessFlags := 25, nameIndex := 490, descriptorIndex := 22, attributes := #[] }, { accessFlags := 25, nameIndex := 492, descriptorIndex := 22, attributes := #[] }, { accessFlags := 25, nameIndex := 493, descriptorIndex := 22, attributes := #[] }, { accessFlags := 25, nameIndex := 495, descriptorIndex := 22, attributes := #[] }, { accessFlags := 25, nameIndex := 496, descriptorIndex := 22, attributes := #[] }, { accessFlags := 25, nameIndex := 497, descriptorIndex := 392, attributes := #[] }, { accessFlags := 25, nameIndex := 498, descriptorIndex := 392, attributes := #[] }, { accessFlags := 25, nameIndex := 499, descriptorIndex := 392, attributes := #[] }, { accessFlags := 18, nameIndex := 21, descriptorIndex := 22, attributes := #[] }, { accessFlags := 26, nameIndex := 501, descriptorIndex := 502, attributes := #[] }, { accessFlags := 25, nameIndex := 505, descriptorIndex := 392, attributes := #[] }, { accessFlags := 25, nameIndex := 506, descriptorIndex := 392, attributes := #[] }, { accessFlags := 4120, nameIndex := 284, descriptorIndex := 285, attributes := #[] }])
  fields := #[{ name := "MIN_RADIX", type := .int, accessFlags := 25, slot := 0, constantValue := 0 }, { name := "MAX_RADIX", type := .int, accessFlags := 25, slot := 1, constantValue := 0 }, { name := "MIN_VALUE", type := .char, accessFlags := 25, slot := 2, constantValue := 0 }, { name := "MAX_VALUE", type := .char, accessFlags := 25, slot := 3, constantValue := 0 }, { name := "TYPE", type := (.object "java/lang/Class"), accessFlags := 25, slot := 4, constantValue := 0 }, { name := "UNASSIGNED", type := .byte, accessFlags := 25, slot := 5, constantValue := 0 }, { name := "UPPERCASE_LETTER", type := .byte, accessFlags := 25, slot := 6, constantValue := 0 }, { name := "LOWERCASE_LETTER", type := .byte, accessFlags := 25, slot := 7, constantValue := 0 }, { name := "TITLECASE_LETTER", type := .byte, accessFlags := 25, slot := 8, constantValue := 0 }, { name := "MODIFIER_LETTER", type := .byte, accessFlags := 25, slot := 9, constantValue := 0 }, { name := "OTHER_LETTER", type := .byte, accessFlags := 25, slot := 10, constantValue := 0 }, { name := "NON_SPACING_MARK", type := .byte, accessFlags := 25, slot := 11, constantValue := 0 }, { name := "ENCLOSING_MARK", type := .byte, accessFlags := 25, slot := 12, constantValue := 0 }, { name := "COMBINING_SPACING_MARK", type := .byte, accessFlags := 25, slot := 13, constantValue := 0 }, { name := "DECIMAL_DIGIT_NUMBER", type := .byte, accessFlags := 25, slot := 14, constantValue := 0 }, { name := "LETTER_NUMBER", type := .byte, accessFlags := 25, slot := 15, constantValue := 0 }, { name := "OTHER_NUMBER", type := .byte, accessFlags := 25, slot := 16, constantValue := 0 }, { name := "SPACE_SEPARATOR", type := .byte, accessFlags := 25, slot := 17, constantValue := 0 }, { name := "LINE_SEPARATOR", type := .byte, accessFlags := 25, slot := 18, constantValue := 0 }, { name := "PARAGRAPH_SEPARATOR", type := .byte, accessFlags := 25, slot := 19, constantValue := 0 }, { name := "CONTROL", type := .byte, accessFlags := 25, slot := 20, constantValue := 0 }, { name := "FORMAT", type := .byte, accessFlags := 25, slot := 21, constantValue := 0 }, { name := "PRIVATE_USE", type := .byte, accessFlags := 25, slot := 22, constantValue := 0 }, { name := "SURROGATE", type := .byte, accessFlags := 25, slot := 23, constantValue := 0 }, { name := "DASH_PUNCTUATION", type := .byte, accessFlags := 25, slot := 24, constantValue := 0 }, { name := "START_PUNCTUATION", type := .byte, accessFlags := 25, slot := 25, constantValue := 0 }, { name := "END_PUNCTUATION", type := .byte, accessFlags := 25, slot := 26, constantValue := 0 }, { name := "CONNECTOR_PUNCTUATION", type := .byte, accessFlags := 25, slot := 27, constantValue := 0 }, { name := "OTHER_PUNCTUATION", type := .byte, accessFlags := 25, slot := 28, constantValue := 0 }, { name := "MATH_SYMBOL", type := .byte, accessFlags := 25, slot := 29, constantValue := 0 }, { name := "CURRENCY_SYMBOL", type := .byte, accessFlags := 25, slot := 30, constantValue := 0 }, { name := "MODIFIER_SYMBOL", type := .byte, accessFlags := 25, slot := 31, constantValue := 0 }, { name := "OTHER_SYMBOL", type := .byte, accessFlags := 25, slot := 32, constantValue := 0 }, { name := "INITIAL_QUOTE_PUNCTUATION", type := .byte, accessFlags := 25, slot := 33, constantValue := 0 }, { name := "FINAL_QUOTE_PUNCTUATION", type := .byte, accessFlags := 25, slot := 34, constantValue := 0 }, { name := "ERROR", type := .int, accessFlags := 24, slot := 35, constantValue := 0 }, { name := "DIRECTIONALITY_UNDEFINED", type := .byte, accessFlags := 25, slot := 36, constantValue := 0 }, { name := "DIRECTIONALITY_LEFT_TO_RIGHT", type := .byte, accessFlags := 25, slot := 37, constantValue := 0 }, { name := "DIRECTIONALITY_RIGHT_TO_LEFT", type := .byte, accessFlags := 25, slot := 38, constantValue := 0 }, { name := "DIRECTIONALITY_RIGHT_TO_LEFT_ARABIC", type := .byte, accessFlags := 25, slot := 39, constantValue := 0 }, { name := "DIRECTIONALITY_EUROPEAN_NUMBER", type := .byte, accessFlags := 25, slot := 40, constantValue := 0 }, { name := "DIRECTIONALITY_EUROPEAN_NUMBER_SEPARATOR", type := .byte, accessFlags := 25, slot := 41, constantValue := 0 }, { name := "DIRECTIONALITY_EUROPEAN_NUMBER_TERMINATOR", type := .byte, accessFlags := 25, slot := 42, constantValue := 0 }, { name := "DIRECTIONALITY_ARABIC_NUMBER", type := .byte, accessFlags := 25, slot := 43, constantValue := 0 }, { name := "DIRECTIONALITY_COMMON_NUMBER_SEPARATOR", type := .byte, accessFlags := 25, slot := 44, constantValue := 0 }, { name := "DIRECTIONALITY_NONSPACING_MARK", type := .byte, accessFlags := 25, slot := 45, constantValue := 0 }, { name := "DIRECTIONALITY_BOUNDARY_NEUTRAL", type := .byte, accessFlags := 25, slot := 46, constantValue := 0 }, { name := "DIRECTIONALITY_PARAGRAPH_SEPARATOR", type := .byte, accessFlags := 25, slot := 47, constantValue := 0 }, { name := "DIRECTIONALITY_SEGMENT_SEPARATOR", type := .byte, accessFlags := 25, slot := 48, constantValue := 0 }, { name := "DIRECTIONALITY_WHITESPACE", type := .byte, accessFlags := 25, slot := 49, constantValue := 0 }, { name := "DIRECTIONALITY_OTHER_NEUTRALS", type := .byte, accessFlags := 25, slot := 50, constantValue := 0 }, { name := "DIRECTIONALITY_LEFT_TO_RIGHT_EMBEDDING", type := .byte, accessFlags := 25, slot := 51, constantValue := 0 }, { name := "DIRECTIONALITY_LEFT_TO_RIGHT_OVERRIDE", type := .byte, accessFlags := 25, slot := 52, constantValue := 0 }, { name := "DIRECTIONALITY_RIGHT_TO_LEFT_EMBEDDING", type := .byte, accessFlags := 25, slot := 53, constantValue := 0 }, { name := "DIRECTIONALITY_RIGHT_TO_LEFT_OVERRIDE", type := .byte, accessFlags := 25, slot := 54, constantValue := 0 }, { name := "DIRECTIONALITY_POP_DIRECTIONAL_FORMAT", type := .byte, accessFlags := 25, slot := 55, constantValue := 0 }, { name := "DIRECTIONALITY_LEFT_TO_RIGHT_ISOLATE", type := .byte, accessFlags := 25, slot := 56, constantValue := 0 }, { name := "DIRECTIONALITY_RIGHT_TO_LEFT_ISOLATE", type := .byte, accessFlags := 25, slot := 57, constantValue := 0 }, { name := "DIRECTIONALITY_FIRST_STRONG_ISOLATE", type := .byte, accessFlags := 25, slot := 58, constantValue := 0 }, { name := "DIRECTIONALITY_POP_DIRECTIONAL_ISOLATE", type := .byte, accessFlags := 25, slot := 59, constantValue := 0 }, { name := "MIN_HIGH_SURROGATE", type := .char, accessFlags := 25, slot := 60, constantValue := 0 }, { name := "MAX_HIGH_SURROGATE", type := .char, accessFlags := 25, slot := 61, constantValue := 0 }, { name := "MIN_LOW_SURROGATE", type := .char, accessFlags := 25, slot := 62, constantValue := 0 }, { name := "MAX_LOW_SURROGATE", type := .char, accessFlags := 25, slot := 63, constantValue := 0 }, { name := "MIN_SURROGATE", type := .char, accessFlags := 25, slot := 64, constantValue := 0 }, { name := "MAX_SURROGATE", type := .char, accessFlags := 25, slot := 65, constantValue := 0 }, { name := "MIN_SUPPLEMENTARY_CODE_POINT", type := .int, accessFlags := 25, slot := 66, constantValue := 0 }, { name := "MIN_CODE_POINT", type := .int, accessFlags := 25, slot := 67, constantValue := 0 }, { name := "MAX_CODE_POINT", type := .int, accessFlags := 25, slot := 68, constantValue := 0 }, { name := "value", type := .char, accessFlags := 18, slot := 0, constantValue := 0 }, { name := "serialVersionUID", type := .long, accessFlags := 26, slot := 69, constantValue := 0 }, { name := "SIZE", type := .int, accessFlags := 25, slot := 70, constantValue := 0 }, { name := "BYTES", type := .int, accessFlags := 25, slot := 71, constantValue := 0 }, { name := "$assertionsDisabled", type := .boolean, accessFlags := 4120, slot := 72, constantValue := 0 }]
  methods := #[k14m0, k14m1]
  instanceTypes := #[.char]
  staticTypes := #[.int, .int, .char, .char, (.object "java/lang/Class"), .byte, .byte, .byte, .byte, .byte, .byte, .byte, .byte, .byte, .byte, .byte, .byte, .byte, .byte, .byte, .byte, .byte, .byte, .byte, .byte, .byte, .byte, .byte, .byte, .byte, .byte, .byte, .byte, .byte, .byte, .int, .byte, .byte, .byte, .byte, .byte, .byte, .byte, .byte, .byte, .byte, .byte, .byte, .byte, .byte, .byte, .byte, .byte, .byte, .byte, .byte, .byte, .byte, .byte, .byte, .char, .char, .char, .char, .char, .char, .int, .int, .int, .long, .int, .int, .boolean]
  resolved := Array.replicate 604 none
  statics := none }

def pool15 : Array CpInfo := pool [(9, u "<init>"), (6, .class_ 18), (1, u "java/lang/Object"), (0, u "()V"), (1, .class_ 23), (1, u "jdk/internal/util/ArraysSupport"), (0, u "LOG2_ARRAY_LONG_INDEX_SCALE"), (0, u "I"), (2, u "U"), (0, u "Ljdk/internal/misc/Unsafe;"), (8, u "BIG_ENDIAN"), (0, u "Z"), (8, u "LOG2_BYTE_BIT_SIZE"), (4, u "LOG2_ARRAY_INT_INDEX_SCALE"), (54, u "JLA"), (0, u "Ljdk/internal/access/JavaLangAccess;"), (11, u "LOG2_ARRAY_BOOLEAN_INDEX_SCALE"), (9, u "LOG2_ARRAY_BYTE_INDEX_SCALE"), (5, u "LOG2_ARRAY_CHAR_INDEX_SCALE"), (5, u "LOG2_ARRAY_SHORT_INDEX_SCALE"), (18, u "LOG2_ARRAY_FLOAT_INDEX_SCALE"), (24, u "LOG2_ARRAY_DOUBLE_INDEX_SCALE"), (89, u "T_BOOLEAN"), (2, u "T_CHAR"), (1, u "T_FLOAT"), (1, u "T_DOUBLE"), (1, u "T_BYTE"), (1, u "T_SHORT"), (1, u "T_INT"), (1, u "T_LONG"), (1, u "SOFT_MAX_ARRAY_LENGTH")] 83

def k15m0 : Method := { name := "<init>", desc := "()V", sig := { parameters := [], returnType := none }, accessFlags := 2, code := none }
/-- jdk/internal/util/ArraysSupport -/
def k15 : Class := { plain "jdk/internal/util/ArraysSupport" (some 0) with
  accessFlags := 33
  interfaces := #[]
  cf := some (fileOf pool15 21 #[] #[{ accessFlags := 2, nameIndex := 9, descriptorIndex := 19, attributes := #[] }] 33 16 #[] #[{ accessFlags := 24, nameIndex := 28, descriptorIndex := 29, attributes := #[] }, { accessFlags := 26, nameIndex := 38, descriptorIndex := 39, attributes := #[] }, { accessFlags := 25, nameIndex := 121, descriptorIndex := 25, attributes := #[] }, { accessFlags := 25, nameIndex := 131, descriptorIndex := 25, attributes := #[] }, { accessFlags := 25, nameIndex := 137, descriptorIndex := 25, attributes := #[] }, { accessFlags := 25, nameIndex := 143, descriptorIndex := 25, attributes := #[] }, { accessFlags := 25, nameIndex := 53, descriptorIndex := 25, attributes := #[] }, { accessFlags := 25, nameIndex := 24, descriptorIndex := 25, attributes := #[] }, { accessFlags := 25, nameIndex := 162, descriptorIndex := 25, attributes := #[] }, { accessFlags := 25, nameIndex := 187, descriptorIndex := 25, attributes := #[] }, { accessFlags := 26, nameIndex := 48, descriptorIndex := 25, attributes := #[] }, { accessFlags := 25, nameIndex := 277, descriptorIndex := 25, attributes := #[] }, { accessFlags := 25, nameIndex := 280, descriptorIndex := 25, attributes := #[] }, { accessFlags := 25, nameIndex := 282, descriptorIndex := 25, attributes := #[] }, { accessFlags := 25, nameIndex := 284, descriptorIndex := 25, attributes := #[] }, { accessFlags := 25, nameIndex := 286, descriptorIndex := 25, attributes := #[] }, { accessFlags := 25, nameIndex := 288, descriptorIndex := 25, attributes := #[] }, { accessFlags := 25, nameIndex := 290, descriptorIndex := 25, attributes := #[] }, { accessFlags := 25, nameIndex := 292, descriptorIndex := 25, attributes := #[] }, { accessFlags := 26, nameIndex := 108, descriptorIndex := 109, attributes := #[] }, { accessFlags := 25, nameIndex := 294, descriptorIndex := 25, attributes := #[] }])
  fields := #[{ name := "U", type := (.object "jdk/internal/misc/Unsafe"), accessFlags := 24, slot := 0, constantValue := 0 }, { name := "BIG_ENDIAN", type := .boolean, accessFlags := 26, slot := 1, constantValue := 0 }, { name := "LOG2_ARRAY_BOOLEAN_INDEX_SCALE", type := .int, accessFlags := 25, slot := 2, constantValue := 0 }, { name := "LOG2_ARRAY_BYTE_INDEX_SCALE", type := .int, accessFlags := 25, slot := 3, constantValue := 0 }, { name := "LOG2_ARRAY_CHAR_INDEX_SCALE", type := .int, accessFlags := 25, slot := 4, constantValue := 0 }, { name := "LOG2_ARRAY_SHORT_INDEX_SCALE", type := .int, accessFlags := 25, slot := 5, constantValue := 0 }, { name := "LOG2_ARRAY_INT_INDEX_SCALE", type := .int, accessFlags := 25, slot := 6, constantValue := 0 }, { name := "LOG2_ARRAY_LONG_INDEX_SCALE", type := .int, accessFlags := 25, slot := 7, constantValue := 0 }, { name := "LOG2_ARRAY_FLOAT_INDEX_SCALE", type := .int, accessFlags := 25, slot := 8, constantValue := 0 }, { name := "LOG2_ARRAY_DOUBLE_INDEX_SCALE", type := .int, accessFlags := 25, slot := 9, constantValue := 0 }, { name := "LOG2_BYTE_BIT_SIZE", type := .int, accessFlags := 26, slot := 10, constantValue := 0 }, { name := "T_BOOLEAN", type := .int, accessFlags := 25, slot := 11, constantValue := 0 }, { name := "T_CHAR", type := .int, accessFlags := 25, slot := 12, constantValue := 0 }, { name := "T_FLOAT", type := .int, accessFlags := 25, slot := 13, constantValue := 0 }, { name := "T_DOUBLE", type := .int, accessFlags := 25, slot := 14, constantValue := 0 }, { name := "T_BYTE", type := .int, accessFlags := 25, slot := 15, constantValue := 0 }, { name := "T_SHORT", type := .int, accessFlags := 25, slot := 16, constantValue := 0 }, { name := "T_INT", type := .int, accessFlags := 25, slot := 17, constantValue := 0 }, { name := "T_LONG", type := .int, accessFlags := 25, slot := 18, constantValue := 0 }, { name := "JLA", type := (.object "jdk/internal/access/JavaLangAccess"), accessFlags := 26, slot := 19, constantValue := 0 }, { name := "SOFT_MAX_ARRAY_LENGTH", type := .int, accessFlags := 25, slot := 20, constantValue := 0 }]
  methods := #[k15m0]
  instanceTypes := #[]
  staticTypes := #[(.object "jdk/internal/misc/Unsafe"), .boolean, .int, .int, .int, .int, .int, .int, .int, .int, .int, .int, .int, .int, .int, .int, .int, .int, .int, (.object "jdk/internal/access/JavaLangAccess"), .int]
  resolved := Array.replicate 378 none
  statics := none }

def pool16 : Array CpInfo := pool [(1, u "java/lang/Cloneable"), (0, .class_ 1), (0, u "java/lang/Object"), (0, .class_ 3)] 3

/-- java/lang/Cloneable -/
def k16 : Class := { plain "java/lang/Cloneable" (some 0) with
  accessFlags := 1537
  interfaces := #[]
  cf := some (fileOf pool16 2 #[] #[] 1537 4 #[] #[])
  fields := #[]
  methods := #[]
  instanceTypes := #[]
  staticTypes := #[]
  resolved := Array.replicate 8 none
  statics := none }

/-- the primitive byte -/
def k17 : Class := { plain "byte" none with kind := .primitive 'B', accessFlags := 0x411 }
/-- [B -/
def k18 : Class := { plain "[B" (some 0) with kind := .array 17 .byte, interfaces := #[16, 2], accessFlags := 1041 }

/-- the primitive char -/
def k19 : Class := { plain "char" none with kind := .primitive 'C', accessFlags := 0x411 }
/-- [C -/
def k20 : Class := { plain "[C" (some 0) with kind := .array 19 .char, interfaces := #[16, 2], accessFlags := 1041 }

/-- the primitive int -/
def k21 : Class := { plain "int" none with kind := .primitive 'I', accessFlags := 0x411 }
/-- [I -/
def k22 : Class := { plain "[I" (some 0) with kind := .array 21 .int, interfaces := #[16, 2], accessFlags := 1041 }

def heap : Heap := #[{ cls := 7, slots := #[.long 0, .int 1, .null, .int 0, .null, .int 0, .int 0], vm := .statics 7 },
  { cls := 8, slots := #[.int 0, .int 8, .int 0, .int 1], vm := .statics 8 },
  { cls := 13, slots := #[.null, .null, .null], vm := .statics 13 }]
def classes : Array Class := #[k0, k1, k2, k3, k4, k5, k6, k7, k8, k9, k10, k11, k12, k13, k14, k15, k16, k17, k18, k19, k20, k21, k22]
def interned : List (Array UInt16 × Addr) := []
def slotsUsed : Nat := 14
def theMethod : MethodId := ⟨1, 4⟩
def args0 : Array Value := #[.long 5, .int 3, .int 7, .int 8]
def aboutOver (below : List Frame) : State where
  vm := { classes := classes, interned := interned.toArray }
  heap := heap
  slotsUsed := slotsUsed
  threads := #[{ frames := .invoking theMethod args0 :: below }]
def below0 : List Frame := [.native { method := ⟨0, 0⟩, args := #[] }]
def about1 : State := aboutOver below0
def p0 : Program := .bare "" "" ""
def e0 : Env := launch0.env 0 0 0
theorem w_frames : about1.frames = Frame.invoking theMethod args0 :: below0 := rfl
set_option maxRecDepth 65536 in
theorem w_args : argsFit about1.vm theMethod args0 = true := by decide +kernel
set_option maxRecDepth 65536 in
theorem w_heap : heapFits about1 = true := by decide +kernel
set_option maxRecDepth 65536 in
theorem w_runnable : about1.curStatus? = some .runnable := by decide +kernel
set_option maxRecDepth 65536 in
theorem w_alone : about1.alone = true := by decide +kernel
set_option maxRecDepth 65536 in
theorem w_named : about1.methodNamed? x = some theMethod := by decide +kernel
set_option maxRecDepth 65536 in
theorem w_hears : about1.hears theMethod below0 = true := by decide +kernel
set_option maxRecDepth 65536 in
theorem w_ripe : about1.ripe theMethod args0 below0 = true := by decide +kernel
theorem w_running : about1.status = .running := rfl
set_option maxRecDepth 65536 in
theorem w_room : about1.hasRoom e0.platform room_1 = true :=
  launch0.hasRoom_least _ room_1 (by decide +kernel) (by decide +kernel) (by decide +kernel) (by decide +kernel) (by decide +kernel) (by decide +kernel)
theorem allAtoms_all (ts : List Jvm.Cond) (a : Array Jvm.Value) (st : Jvm.State) : (allAtoms ts).before a st = ts.all (fun c => c.before a st) := by
  induction ts with
  | nil => rfl
  | cons c t ih =>
    show (Jvm.Cond.and c (allAtoms t)).before a st = _
    rw [Jvm.Cond.before_and, ih, List.all_cons]
def words1 : List Jvm.Cond := Jvm.Cond.code x code maxLocals ret :: tables_1
/-- a 'code' word, met by the world's own term for the bytes: nothing is compared byte by byte -/
theorem code_word {y : MethodName} {bytes : ByteArray} {mx : Nat} {rt : Option FieldType} {a : Array Value} {s : State} {m : MethodId} {meth : Method} {c : Code} (h1 : s.methodNamed? y = some m) (h2 : s.vm.method? m = some meth) (h3 : meth.code = some c) (h4 : c.code = bytes)
    (h5 : (c.maxLocals == mx && c.exceptionTable.isEmpty && decide (c.maxStack ≤ mostOperands) && decide (meth.sig.returnType = rt) && !meth.locks && decide (parseMethodDescriptor y.desc = some meth.sig)) = true) : (Jvm.Cond.code y bytes mx rt).before a s = true := by
  simp only [Bool.and_eq_true, beq_iff_eq, Bool.not_eq_true', decide_eq_true_eq] at h5
  obtain ⟨⟨⟨⟨⟨g1, g2⟩, g3⟩, g4⟩, g5⟩, g6⟩ := h5
  simp [Cond.before, Cond.holds, Cond.value, h1, h2, h3, h4, g1, g2, g3, g4, g5, g6]
def isCode : Jvm.Cond → Bool
  | .code _ _ _ _ => true
  | _ => false
theorem all_split {L : List Jvm.Cond} {P : Jvm.Cond → Bool} (h1 : L.all (fun c => isCode c || P c) = true) (h2 : ∀ c ∈ L.filter isCode, P c = true) : L.all P = true := by
  refine List.all_eq_true.mpr fun c hc => ?_
  have h := List.all_eq_true.mp h1 c hc
  rcases Bool.eq_false_or_eq_true (isCode c) with hi | hi
  · exact h2 c (List.mem_filter.mpr ⟨hc, hi⟩)
  · simpa [hi] using h
set_option maxRecDepth 65536 in
theorem w_c0 : (Jvm.Cond.code x code maxLocals ret).before args0 about1 = true := code_word (m := ⟨1, 4⟩) (meth := k1m4) (c := k1c4) (by decide +kernel) rfl rfl rfl (by decide +kernel)
set_option maxRecDepth 65536 in
theorem w_c1 : (Jvm.Cond.code ({ cls := "java/lang/String", name := "<init>", desc := "([C)V" } : Jvm.MethodName) jdk_42_method_3_code (2 : Nat) (Option.none : Option Jvm.ClassFile.FieldType)).before args0 about1 = true := code_word (m := ⟨7, 1⟩) (meth := k7m1) (c := k7c1) (by decide +kernel) rfl rfl rfl (by decide +kernel)
set_option maxRecDepth 65536 in
theorem w_c2 : (Jvm.Cond.code ({ cls := "java/lang/String", name := "<init>", desc := "([CIILjava/lang/Void;)V" } : Jvm.MethodName) jdk_42_method_149_code (6 : Nat) (Option.none : Option Jvm.ClassFile.FieldType)).before args0 about1 = true := code_word (m := ⟨7, 6⟩) (meth := k7m6) (c := k7c6) (by decide +kernel) rfl rfl rfl (by decide +kernel)
set_option maxRecDepth 65536 in
theorem w_c3 : (Jvm.Cond.code ({ cls := "java/lang/Object", name := "<init>", desc := "()V" } : Jvm.MethodName) object_method_1_code (1 : Nat) (Option.none : Option Jvm.ClassFile.FieldType)).before args0 about1 = true := code_word (m := ⟨0, 0⟩) (meth := k0m0) (c := k0c0) (by decide +kernel) rfl rfl rfl (by decide +kernel)
set_option maxRecDepth 65536 in
theorem w_c4 : (Jvm.Cond.code ({ cls := "java/lang/StringUTF16", name := "compress", desc := "([CII)[B" } : Jvm.MethodName) jdk_52_method_16_code (6 : Nat) (Option.some (Jvm.ClassFile.FieldType.array Jvm.ClassFile.FieldType.byte))).before args0 about1 = true := code_word (m := ⟨8, 9⟩) (meth := k8m9) (c := k8c9) (by decide +kernel) rfl rfl rfl (by decide +kernel)
set_option maxRecDepth 65536 in
theorem w_c5 : (Jvm.Cond.code ({ cls := "java/lang/StringUTF16", name := "compress", desc := "([CI[BII)I" } : Jvm.MethodName) jdk_52_method_21_code (7 : Nat) (Option.some Jvm.ClassFile.FieldType.int)).before args0 about1 = true := code_word (m := ⟨8, 10⟩) (meth := k8m10) (c := k8c10) (by decide +kernel) rfl rfl rfl (by decide +kernel)
set_option maxRecDepth 65536 in
theorem w_c6 : (Jvm.Cond.code ({ cls := "java/lang/StringUTF16", name := "coderFromArrayLen", desc := "([BI)B" } : Jvm.MethodName) jdk_52_method_15_code (2 : Nat) (Option.some Jvm.ClassFile.FieldType.byte)).before args0 about1 = true := code_word (m := ⟨8, 8⟩) (meth := k8m8) (c := k8c8) (by decide +kernel) rfl rfl rfl (by decide +kernel)
set_option maxRecDepth 65536 in
theorem w_c7 : (Jvm.Cond.code ({ cls := "com/example/cellwise/cellwise/ChecksAtMostPinLaw", name := "pair", desc := "(CC)Z" } : Jvm.MethodName) method_4_code (2 : Nat) (Option.some Jvm.ClassFile.FieldType.boolean)).before args0 about1 = true := code_word (m := ⟨1, 3⟩) (meth := k1m3) (c := k1c3) (by decide +kernel) rfl rfl rfl (by decide +kernel)
set_option maxRecDepth 65536 in
theorem w_c8 : (Jvm.Cond.code ({ cls := "com/example/cellwise/cellwise/ChecksAtMostPinLaw", name := "hi", desc := "(C)Z" } : Jvm.MethodName) method_2_code (1 : Nat) (Option.some Jvm.ClassFile.FieldType.boolean)).before args0 about1 = true := code_word (m := ⟨1, 1⟩) (meth := k1m1) (c := k1c1) (by decide +kernel) rfl rfl rfl (by decide +kernel)
set_option maxRecDepth 65536 in
theorem w_c9 : (Jvm.Cond.code ({ cls := "java/lang/Math", name := "max", desc := "(II)I" } : Jvm.MethodName) jdk_29_method_65_code (2 : Nat) (Option.some Jvm.ClassFile.FieldType.int)).before args0 about1 = true := code_word (m := ⟨9, 1⟩) (meth := k9m1) (c := k9c1) (by decide +kernel) rfl rfl rfl (by decide +kernel)
set_option maxRecDepth 65536 in
theorem w_c10 : (Jvm.Cond.code ({ cls := "java/lang/String", name := "valueOf", desc := "(C)Ljava/lang/String;" } : Jvm.MethodName) jdk_42_method_139_code (1 : Nat) (Option.some (Jvm.ClassFile.FieldType.object "java/lang/String"))).before args0 about1 = true := code_word (m := ⟨7, 5⟩) (meth := k7m5) (c := k7c5) (by decide +kernel) rfl rfl rfl (by decide +kernel)
set_option maxRecDepth 65536 in
theorem w_c11 : (Jvm.Cond.code ({ cls := "java/lang/StringLatin1", name := "canEncode", desc := "(C)Z" } : Jvm.MethodName) jdk_43_method_3_code (1 : Nat) (Option.some Jvm.ClassFile.FieldType.boolean)).before args0 about1 = true := code_word (m := ⟨10, 1⟩) (meth := k10m1) (c := k10c1) (by decide +kernel) rfl rfl rfl (by decide +kernel)
set_option maxRecDepth 65536 in
theorem w_c12 : (Jvm.Cond.code ({ cls := "java/lang/StringLatin1", name := "toBytes", desc := "(C)[B" } : Jvm.MethodName) jdk_43_method_46_code (1 : Nat) (Option.some (Jvm.ClassFile.FieldType.array Jvm.ClassFile.FieldType.byte))).before args0 about1 = true := code_word (m := ⟨10, 2⟩) (meth := k10m2) (c := k10c2) (by decide +kernel) rfl rfl rfl (by decide +kernel)
set_option maxRecDepth 65536 in
theorem w_c13 : (Jvm.Cond.code ({ cls := "java/lang/String", name := "<init>", desc := "([BB)V" } : Jvm.MethodName) jdk_42_method_151_code (3 : Nat) (Option.none : Option Jvm.ClassFile.FieldType)).before args0 about1 = true := code_word (m := ⟨7, 7⟩) (meth := k7m7) (c := k7c7) (by decide +kernel) rfl rfl rfl (by decide +kernel)
set_option maxRecDepth 65536 in
theorem w_c14 : (Jvm.Cond.code ({ cls := "com/example/cellwise/cellwise/Checks", name := "atMost", desc := "(Ljava/lang/String;ILjava/lang/String;)Ljava/lang/String;" } : Jvm.MethodName) prog_3_method_7_code (3 : Nat) (Option.some (Jvm.ClassFile.FieldType.object "java/lang/String"))).before args0 about1 = true := code_word (m := ⟨11, 1⟩) (meth := k11m1) (c := k11c1) (by decide +kernel) rfl rfl rfl (by decide +kernel)
set_option maxRecDepth 65536 in
theorem w_c15 : (Jvm.Cond.code ({ cls := "java/lang/String", name := "length", desc := "()I" } : Jvm.MethodName) jdk_42_method_54_code (1 : Nat) (Option.some Jvm.ClassFile.FieldType.int)).before args0 about1 = true := code_word (m := ⟨7, 2⟩) (meth := k7m2) (c := k7c2) (by decide +kernel) rfl rfl rfl (by decide +kernel)
set_option maxRecDepth 65536 in
theorem w_c16 : (Jvm.Cond.code ({ cls := "java/lang/String", name := "coder", desc := "()B" } : Jvm.MethodName) jdk_42_method_152_code (1 : Nat) (Option.some Jvm.ClassFile.FieldType.byte)).before args0 about1 = true := code_word (m := ⟨7, 8⟩) (meth := k7m8) (c := k7c8) (by decide +kernel) rfl rfl rfl (by decide +kernel)
set_option maxRecDepth 65536 in
theorem w_c17 : (Jvm.Cond.code ({ cls := "java/lang/String", name := "codePointCount", desc := "(II)I" } : Jvm.MethodName) jdk_42_method_59_code (3 : Nat) (Option.some Jvm.ClassFile.FieldType.int)).before args0 about1 = true := code_word (m := ⟨7, 3⟩) (meth := k7m3) (c := k7c3) (by decide +kernel) rfl rfl rfl (by decide +kernel)
set_option maxRecDepth 65536 in
theorem w_c18 : (Jvm.Cond.code ({ cls := "java/util/Objects", name := "checkFromToIndex", desc := "(III)I" } : Jvm.MethodName) jdk_31_method_18_code (3 : Nat) (Option.some Jvm.ClassFile.FieldType.int)).before args0 about1 = true := code_word (m := ⟨12, 1⟩) (meth := k12m1) (c := k12c1) (by decide +kernel) rfl rfl rfl (by decide +kernel)
set_option maxRecDepth 65536 in
theorem w_c19 : (Jvm.Cond.code ({ cls := "jdk/internal/util/Preconditions", name := "checkFromToIndex", desc := "(IIILjava/util/function/BiFunction;)I" } : Jvm.MethodName) jdk_41_method_12_code (4 : Nat) (Option.some Jvm.ClassFile.FieldType.int)).before args0 about1 = true := code_word (m := ⟨13, 1⟩) (meth := k13m1) (c := k13c1) (by decide +kernel) rfl rfl rfl (by decide +kernel)
set_option maxRecDepth 65536 in
theorem w_c20 : (Jvm.Cond.code ({ cls := "java/lang/String", name := "isLatin1", desc := "()Z" } : Jvm.MethodName) jdk_42_method_154_code (1 : Nat) (Option.some Jvm.ClassFile.FieldType.boolean)).before args0 about1 = true := code_word (m := ⟨7, 9⟩) (meth := k7m9) (c := k7c9) (by decide +kernel) rfl rfl rfl (by decide +kernel)
set_option maxRecDepth 65536 in
theorem w_c21 : (Jvm.Cond.code ({ cls := "java/lang/String", name := "equals", desc := "(Ljava/lang/Object;)Z" } : Jvm.MethodName) jdk_42_method_66_code (3 : Nat) (Option.some Jvm.ClassFile.FieldType.boolean)).before args0 about1 = true := code_word (m := ⟨7, 4⟩) (meth := k7m4) (c := k7c4) (by decide +kernel) rfl rfl rfl (by decide +kernel)
set_option maxRecDepth 65536 in
theorem w_c22 : (Jvm.Cond.code ({ cls := "java/lang/StringUTF16", name := "toBytes", desc := "([CII)[B" } : Jvm.MethodName) jdk_52_method_14_code (5 : Nat) (Option.some (Jvm.ClassFile.FieldType.array Jvm.ClassFile.FieldType.byte))).before args0 about1 = true := code_word (m := ⟨8, 7⟩) (meth := k8m7) (c := k8c7) (by decide +kernel) rfl rfl rfl (by decide +kernel)
set_option maxRecDepth 65536 in
theorem w_c23 : (Jvm.Cond.code ({ cls := "java/lang/StringUTF16", name := "newBytesFor", desc := "(I)[B" } : Jvm.MethodName) jdk_52_method_2_code (1 : Nat) (Option.some (Jvm.ClassFile.FieldType.array Jvm.ClassFile.FieldType.byte))).before args0 about1 = true := code_word (m := ⟨8, 1⟩) (meth := k8m1) (c := k8c1) (by decide +kernel) rfl rfl rfl (by decide +kernel)
set_option maxRecDepth 65536 in
theorem w_c24 : (Jvm.Cond.code ({ cls := "java/lang/StringUTF16", name := "newBytesLength", desc := "(I)I" } : Jvm.MethodName) jdk_52_method_3_code (1 : Nat) (Option.some Jvm.ClassFile.FieldType.int)).before args0 about1 = true := code_word (m := ⟨8, 2⟩) (meth := k8m2) (c := k8c2) (by decide +kernel) rfl rfl rfl (by decide +kernel)
set_option maxRecDepth 65536 in
theorem w_c25 : (Jvm.Cond.code ({ cls := "java/lang/StringUTF16", name := "putChar", desc := "([BII)V" } : Jvm.MethodName) jdk_52_method_4_code (3 : Nat) (Option.none : Option Jvm.ClassFile.FieldType)).before args0 about1 = true := code_word (m := ⟨8, 3⟩) (meth := k8m3) (c := k8c3) (by decide +kernel) rfl rfl rfl (by decide +kernel)
set_option maxRecDepth 65536 in
theorem w_c26 : (Jvm.Cond.code ({ cls := "java/lang/StringUTF16", name := "getChar", desc := "([BI)C" } : Jvm.MethodName) jdk_52_method_5_code (2 : Nat) (Option.some Jvm.ClassFile.FieldType.char)).before args0 about1 = true := code_word (m := ⟨8, 4⟩) (meth := k8m4) (c := k8c4) (by decide +kernel) rfl rfl rfl (by decide +kernel)
set_option maxRecDepth 65536 in
theorem w_c27 : (Jvm.Cond.code ({ cls := "java/lang/StringUTF16", name := "codePointCount", desc := "([BII)I" } : Jvm.MethodName) jdk_52_method_12_code (3 : Nat) (Option.some Jvm.ClassFile.FieldType.int)).before args0 about1 = true := code_word (m := ⟨8, 6⟩) (meth := k8m6) (c := k8c6) (by decide +kernel) rfl rfl rfl (by decide +kernel)
set_option maxRecDepth 65536 in
theorem w_c28 : (Jvm.Cond.code ({ cls := "java/lang/StringUTF16", name := "codePointCount", desc := "([BIIZ)I" } : Jvm.MethodName) jdk_52_method_11_code (6 : Nat) (Option.some Jvm.ClassFile.FieldType.int)).before args0 about1 = true := code_word (m := ⟨8, 5⟩) (meth := k8m5) (c := k8c5) (by decide +kernel) rfl rfl rfl (by decide +kernel)
set_option maxRecDepth 65536 in
theorem w_c29 : (Jvm.Cond.code ({ cls := "java/lang/Character", name := "isHighSurrogate", desc := "(C)Z" } : Jvm.MethodName) jdk_89_method_14_code (1 : Nat) (Option.some Jvm.ClassFile.FieldType.boolean)).before args0 about1 = true := code_word (m := ⟨14, 0⟩) (meth := k14m0) (c := k14c0) (by decide +kernel) rfl rfl rfl (by decide +kernel)
set_option maxRecDepth 65536 in
theorem w_c30 : (Jvm.Cond.code ({ cls := "com/example/cellwise/cellwise/ChecksAtMostPinLaw", name := "lo", desc := "(C)Z" } : Jvm.MethodName) method_3_code (1 : Nat) (Option.some Jvm.ClassFile.FieldType.boolean)).before args0 about1 = true := code_word (m := ⟨1, 2⟩) (meth := k1m2) (c := k1c2) (by decide +kernel) rfl rfl rfl (by decide +kernel)
set_option maxRecDepth 65536 in
theorem w_c31 : (Jvm.Cond.code ({ cls := "java/lang/Character", name := "isLowSurrogate", desc := "(C)Z" } : Jvm.MethodName) jdk_89_method_15_code (1 : Nat) (Option.some Jvm.ClassFile.FieldType.boolean)).before args0 about1 = true := code_word (m := ⟨14, 1⟩) (meth := k14m1) (c := k14c1) (by decide +kernel) rfl rfl rfl (by decide +kernel)
def codes1 : List Jvm.Cond := [Jvm.Cond.code x code maxLocals ret, Jvm.Cond.code ({ cls := "java/lang/String", name := "<init>", desc := "([C)V" } : Jvm.MethodName) jdk_42_method_3_code (2 : Nat) (Option.none : Option Jvm.ClassFile.FieldType), Jvm.Cond.code ({ cls := "java/lang/String", name := "<init>", desc := "([CIILjava/lang/Void;)V" } : Jvm.MethodName) jdk_42_method_149_code (6 : Nat) (Option.none : Option Jvm.ClassFile.FieldType), Jvm.Cond.code ({ cls := "java/lang/Object", name := "<init>", desc := "()V" } : Jvm.MethodName) object_method_1_code (1 : Nat) (Option.none : Option Jvm.ClassFile.FieldType), Jvm.Cond.code ({ cls := "java/lang/StringUTF16", name := "compress", desc := "([CII)[B" } : Jvm.MethodName) jdk_52_method_16_code (6 : Nat) (Option.some (Jvm.ClassFile.FieldType.array Jvm.ClassFile.FieldType.byte)), Jvm.Cond.code ({ cls := "java/lang/StringUTF16", name := "compress", desc := "([CI[BII)I" } : Jvm.MethodName) jdk_52_method_21_code (7 : Nat) (Option.some Jvm.ClassFile.FieldType.int), Jvm.Cond.code ({ cls := "java/lang/StringUTF16", name := "coderFromArrayLen", desc := "([BI)B" } : Jvm.MethodName) jdk_52_method_15_code (2 : Nat) (Option.some Jvm.ClassFile.FieldType.byte), Jvm.Cond.code ({ cls := "com/example/cellwise/cellwise/ChecksAtMostPinLaw", name := "pair", desc := "(CC)Z" } : Jvm.MethodName) method_4_code (2 : Nat) (Option.some Jvm.ClassFile.FieldType.boolean), Jvm.Cond.code ({ cls := "com/example/cellwise/cellwise/ChecksAtMostPinLaw", name := "hi", desc := "(C)Z" } : Jvm.MethodName) method_2_code (1 : Nat) (Option.some Jvm.ClassFile.FieldType.boolean), Jvm.Cond.code ({ cls := "java/lang/Math", name := "max", desc := "(II)I" } : Jvm.MethodName) jdk_29_method_65_code (2 : Nat) (Option.some Jvm.ClassFile.FieldType.int), Jvm.Cond.code ({ cls := "java/lang/String", name := "valueOf", desc := "(C)Ljava/lang/String;" } : Jvm.MethodName) jdk_42_method_139_code (1 : Nat) (Option.some (Jvm.ClassFile.FieldType.object "java/lang/String")), Jvm.Cond.code ({ cls := "java/lang/StringLatin1", name := "canEncode", desc := "(C)Z" } : Jvm.MethodName) jdk_43_method_3_code (1 : Nat) (Option.some Jvm.ClassFile.FieldType.boolean), Jvm.Cond.code ({ cls := "java/lang/StringLatin1", name := "toBytes", desc := "(C)[B" } : Jvm.MethodName) jdk_43_method_46_code (1 : Nat) (Option.some (Jvm.ClassFile.FieldType.array Jvm.ClassFile.FieldType.byte)), Jvm.Cond.code ({ cls := "java/lang/String", name := "<init>", desc := "([BB)V" } : Jvm.MethodName) jdk_42_method_151_code (3 : Nat) (Option.none : Option Jvm.ClassFile.FieldType), Jvm.Cond.code ({ cls := "com/example/cellwise/cellwise/Checks", name := "atMost", desc := "(Ljava/lang/String;ILjava/lang/String;)Ljava/lang/String;" } : Jvm.MethodName) prog_3_method_7_code (3 : Nat) (Option.some (Jvm.ClassFile.FieldType.object "java/lang/String")), Jvm.Cond.code ({ cls := "java/lang/String", name := "length", desc := "()I" } : Jvm.MethodName) jdk_42_method_54_code (1 : Nat) (Option.some Jvm.ClassFile.FieldType.int), Jvm.Cond.code ({ cls := "java/lang/String", name := "coder", desc := "()B" } : Jvm.MethodName) jdk_42_method_152_code (1 : Nat) (Option.some Jvm.ClassFile.FieldType.byte), Jvm.Cond.code ({ cls := "java/lang/String", name := "codePointCount", desc := "(II)I" } : Jvm.MethodName) jdk_42_method_59_code (3 : Nat) (Option.some Jvm.ClassFile.FieldType.int), Jvm.Cond.code ({ cls := "java/util/Objects", name := "checkFromToIndex", desc := "(III)I" } : Jvm.MethodName) jdk_31_method_18_code (3 : Nat) (Option.some Jvm.ClassFile.FieldType.int), Jvm.Cond.code ({ cls := "jdk/internal/util/Preconditions", name := "checkFromToIndex", desc := "(IIILjava/util/function/BiFunction;)I" } : Jvm.MethodName) jdk_41_method_12_code (4 : Nat) (Option.some Jvm.ClassFile.FieldType.int), Jvm.Cond.code ({ cls := "java/lang/String", name := "isLatin1", desc := "()Z" } : Jvm.MethodName) jdk_42_method_154_code (1 : Nat) (Option.some Jvm.ClassFile.FieldType.boolean), Jvm.Cond.code ({ cls := "java/lang/String", name := "equals", desc := "(Ljava/lang/Object;)Z" } : Jvm.MethodName) jdk_42_method_66_code (3 : Nat) (Option.some Jvm.ClassFile.FieldType.boolean), Jvm.Cond.code ({ cls := "java/lang/StringUTF16", name := "toBytes", desc := "([CII)[B" } : Jvm.MethodName) jdk_52_method_14_code (5 : Nat) (Option.some (Jvm.ClassFile.FieldType.array Jvm.ClassFile.FieldType.byte)), Jvm.Cond.code ({ cls := "java/lang/StringUTF16", name := "newBytesFor", desc := "(I)[B" } : Jvm.MethodName) jdk_52_method_2_code (1 : Nat) (Option.some (Jvm.ClassFile.FieldType.array Jvm.ClassFile.FieldType.byte)), Jvm.Cond.code ({ cls := "java/lang/StringUTF16", name := "newBytesLength", desc := "(I)I" } : Jvm.MethodName) jdk_52_method_3_code (1 : Nat) (Option.some Jvm.ClassFile.FieldType.int), Jvm.Cond.code ({ cls := "java/lang/StringUTF16", name := "putChar", desc := "([BII)V" } : Jvm.MethodName) jdk_52_method_4_code (3 : Nat) (Option.none : Option Jvm.ClassFile.FieldType), Jvm.Cond.code ({ cls := "java/lang/StringUTF16", name := "getChar", desc := "([BI)C" } : Jvm.MethodName) jdk_52_method_5_code (2 : Nat) (Option.some Jvm.ClassFile.FieldType.char), Jvm.Cond.code ({ cls := "java/lang/StringUTF16", name := "codePointCount", desc := "([BII)I" } : Jvm.MethodName) jdk_52_method_12_code (3 : Nat) (Option.some Jvm.ClassFile.FieldType.int), Jvm.Cond.code ({ cls := "java/lang/StringUTF16", name := "codePointCount", desc := "([BIIZ)I" } : Jvm.MethodName) jdk_52_method_11_code (6 : Nat) (Option.some Jvm.ClassFile.FieldType.int), Jvm.Cond.code ({ cls := "java/lang/Character", name := "isHighSurrogate", desc := "(C)Z" } : Jvm.MethodName) jdk_89_method_14_code (1 : Nat) (Option.some Jvm.ClassFile.FieldType.boolean), Jvm.Cond.code ({ cls := "com/example/cellwise/cellwise/ChecksAtMostPinLaw", name := "lo", desc := "(C)Z" } : Jvm.MethodName) method_3_code (1 : Nat) (Option.some Jvm.ClassFile.FieldType.boolean), Jvm.Cond.code ({ cls := "java/lang/Character", name := "isLowSurrogate", desc := "(C)Z" } : Jvm.MethodName) jdk_89_method_15_code (1 : Nat) (Option.some Jvm.ClassFile.FieldType.boolean)]
set_option maxRecDepth 65536 in
theorem codes_eq : words1.filter isCode = codes1 := rfl
theorem w_codes : ∀ c ∈ words1.filter isCode, c.before args0 about1 = true := by
  rw [codes_eq]
  intro c hc
  simp only [codes1, List.mem_cons, List.not_mem_nil, or_false] at hc
  rcases hc with rfl | rfl | rfl | rfl | rfl | rfl | rfl | rfl | rfl | rfl | rfl | rfl | rfl | rfl | rfl | rfl | rfl | rfl | rfl | rfl | rfl | rfl | rfl | rfl | rfl | rfl | rfl | rfl | rfl | rfl | rfl | rfl
  · exact w_c0
  · exact w_c1
  · exact w_c2
  · exact w_c3
  · exact w_c4
  · exact w_c5
  · exact w_c6
  · exact w_c7
  · exact w_c8
  · exact w_c9
  · exact w_c10
  · exact w_c11
  · exact w_c12
  · exact w_c13
  · exact w_c14
  · exact w_c15
  · exact w_c16
  · exact w_c17
  · exact w_c18
  · exact w_c19
  · exact w_c20
  · exact w_c21
  · exact w_c22
  · exact w_c23
  · exact w_c24
  · exact w_c25
  · exact w_c26
  · exact w_c27
  · exact w_c28
  · exact w_c29
  · exact w_c30
  · exact w_c31
set_option maxRecDepth 65536 in
theorem w_t1 : (words1.take 24).all (fun c => isCode c || c.before args0 about1) = true := by decide +kernel
set_option maxRecDepth 65536 in
theorem w_t2 : ((words1.drop 24).take 24).all (fun c => isCode c || c.before args0 about1) = true := by decide +kernel
set_option maxRecDepth 65536 in
theorem w_t3 : (((words1.drop 24).drop 24).take 24).all (fun c => isCode c || c.before args0 about1) = true := by decide +kernel
set_option maxRecDepth 65536 in
theorem w_t4 : ((((words1.drop 24).drop 24).drop 24).take 24).all (fun c => isCode c || c.before args0 about1) = true := by decide +kernel
set_option maxRecDepth 65536 in
theorem w_t5 : (((((words1.drop 24).drop 24).drop 24).drop 24).take 24).all (fun c => isCode c || c.before args0 about1) = true := by decide +kernel
set_option maxRecDepth 65536 in
theorem w_t6 : (((((words1.drop 24).drop 24).drop 24).drop 24).drop 24).all (fun c => isCode c || c.before args0 about1) = true := by decide +kernel
theorem w_tables : (allAtoms (Jvm.Cond.code x code maxLocals ret :: tables_1)).before args0 about1 = true := by
  rw [allAtoms_all]
  show words1.all (fun c => c.before args0 about1) = true
  refine all_split ?_ w_codes
  rw [← List.take_append_drop 24 words1, List.all_append, w_t1, ← List.take_append_drop 24 (words1.drop 24), List.all_append, w_t2, ← List.take_append_drop 24 ((words1.drop 24).drop 24), List.all_append, w_t3, ← List.take_append_drop 24 (((words1.drop 24).drop 24).drop 24), List.all_append, w_t4, ← List.take_append_drop 24 ((((words1.drop 24).drop 24).drop 24).drop 24), List.all_append, w_t5, w_t6]
  rfl
set_option maxRecDepth 65536 in
theorem w_rest : rest_1_c.before args0 about1 = true := by decide +kernel
set_option maxRecDepth 65536 in
theorem w_case : (Jvm.Cond.and given_1 narrow_1).before args0 about1 = true := by decide +kernel
set_option maxRecDepth 65536 in
theorem w_consts : constsHeld consts_1 about1 := Jvm.Lit.constsHeldB_iff.mp (by decide +kernel)
theorem w_applies : (headSpec (Jvm.Cond.code x code maxLocals ret :: tables_1) room_1).applies x e0.platform about1 = true :=
  (Spec.applies_iff w_frames).mpr ⟨w_running, w_runnable, w_alone, w_named, w_hears, w_ripe, w_room, w_tables⟩
theorem atStart : AtStart classFile x code maxLocals ret World_1 tables_1 room_1 Calls_1 rest_1 Pre_1 launch0 p0 e0 about1 theMethod args0 below0 :=
  ⟨lists_1, trivial, launch0.admits_env _ _ _, launch0.least_env, fairChoices_fair.cas, fairChoices_fair.clock, w_frames, w_args, w_heap, w_applies, ⟨w_consts, trivial⟩, w_rest, w_case⟩
end start1
theorem witness_1 : WitnessClaimed_1 := ⟨start1.p0, start1.e0, start1.about1, start1.theMethod, start1.args0, start1.below0, start1.atStart⟩
end Jvm.Pilot.@@N@@
