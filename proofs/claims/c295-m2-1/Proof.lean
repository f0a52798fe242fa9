import JvmDerived
import JvmDerived.Pilot.@@N@@Statement
import JvmDerived.Pilot.@@N@@Code
set_option linter.unusedVariables false
set_option linter.unusedSimpArgs false
namespace Jvm.RoadKit
open Sem ClassFile Op Lib Jvm.Stand Jvm.Free Jvm.LawKit
section New
variable {p : Program} {l : Launch} {e : Env} {R : Room} {s : State} {m : MethodId} {args : Array Value} {below : List Frame} {meth : Method} {c : Code} {T : State} {locs : List Loc} {cells slots : Nat}
theorem retI (X : Stand p l e R s m args below meth c T locs cells slots) (hx : p.tables.exec = Jvm.exec) {pc : Nat} {Ls : Array Slot} {z : Int32} {rest : List Value} (hret : meth.sig.returnType = some .int) (hd : decode c.code pc = .ok (.ireturn, 1)) {fs : List Frame}
    (hl : ∀ (f : JFrame) (acts : List Action), f.method = m → f.locked = none → f.entered = [] → (doReturn e (T.setTop f) acts (some (.int z))).1 = T.setFrames fs) : Steps p.tables e below (T.setTop (mkF m pc Ls (.int z :: rest))) (T.setFrames fs) := by
  have hm' : T.vm.method? m = some meth := X.method'
  have hn : narrow .int (.int z) = .int z := rfl
  show Steps p.tables e below (T.setTop { method := m, pc := pc, locals := Ls, stack := _ :: rest, locked := none }) _
  jvm_step X.here [X.here.top, hx, hd, hm', hret, hn]
  first | (intro acts; rw [hl _ acts rfl rfl rfl]) | rw [hl _ _ rfl rfl rfl]
  exact Steps.refl _
end New
end Jvm.RoadKit
/- laws to paste: Road.backV, Road.eqW, Road.codOf (cut by pick.py; bodies as the Statement names them) -/
namespace Jvm.Pilot.@@N@@
namespace StrChars
open Jvm Sem ClassFile Op Lib Jvm.Stand Jvm.Free.XT Jvm.Free.ALB Jvm.Free.JM Jvm.Free
open Jvm.Lib.Cold (StaticIs)
/-- a char array whose places are chars -/
def Ch (a : Addr) (A : Cell) (U : State) : Prop := Arr .char a A U ∧ Typed .char A
theorem Ch.mv {a : Addr} {A : Cell} {U U' : State} (h : Ch a A U) (hal : U.vm.Alike U'.vm) (hh : U'.heap = U.heap) : Ch a A U' := ⟨h.1.mv hal hh, h.2⟩
theorem Ch.keep {a : Addr} {A : Cell} {U U' : State} (h : Ch a A U) (hal : U.vm.Alike U'.vm) (hk : U'.heap[a]? = some A) : Ch a A U' := ⟨h.1.keep hal hk, h.2⟩
/-- what place i of a char[]'s cell holds -/
def cv (A : Cell) (i : Nat) : Int32 := match A.slots[i]? with | some (.int x) => x | _ => 0
theorem Ch.get {a : Addr} {A : Cell} {U : State} (h : Ch a A U) {i : Nat} (hi : i < A.slots.size) : A.slots[i]? = some (.int (cv A i)) := by
  have e := Array.getElem?_eq_getElem hi
  have f := h.2 i _ e
  unfold cv; rw [e]
  generalize A.slots[i] = v at f
  cases v <;> simp [fits] at f ⊢
/-- the byte that i2b leaves of a char -/
def lo8 (x : Int32) : Int32 := x.toInt8.toInt32
theorem fits_lo8 (y : Int32) : fits .byte (.int (lo8 y)) = true := by
  have h1 := y.toInt8.le_toInt
  have h2 := y.toInt8.toInt_lt
  simp only [lo8, fits, Bool.and_eq_true, decide_eq_true_eq, Int32.le_iff_toInt_le, Int8.toInt_toInt32, show (-128 : Int32).toInt = -128 from by decide, show (127 : Int32).toInt = 127 from by decide]
  omega
/-- A' is A but that each place j of lo .. hi - 1 holds f j -/
def Laid (A A' : Cell) (lo hi : Nat) (f : Nat → Value) : Prop := A'.cls = A.cls ∧ A'.vm = A.vm ∧ A'.slots.size = A.slots.size ∧ ∀ i, A'.slots[i]? = if lo ≤ i ∧ i < hi then some (f i) else A.slots[i]?
theorem Laid.zero (A : Cell) (lo : Nat) (f : Nat → Value) : Laid A A lo (lo + 0) f := ⟨rfl, rfl, rfl, fun i => by rw [if_neg (by omega)]⟩
theorem Laid.step {A Ak : Cell} {lo k : Nat} {f : Nat → Value} {v : Value} (h : Laid A Ak lo k f) (hlo : lo ≤ k) (hk : k < Ak.slots.size) (hv : v = f k) : Laid A (Ak.setSlot k v) lo (k + 1) f := by
  refine ⟨h.1, h.2.1, by simpa [Cell.setSlot] using h.2.2.1, fun i => ?_⟩
  by_cases e : k = i
  · subst e; rw [Cell.slots_setSlot_self v hk, if_pos (by omega), hv]
  · rw [Cell.slots_setSlot_ne v e, h.2.2.2 i]
    by_cases q : lo ≤ i ∧ i < k
    · rw [if_pos q, if_pos (by omega)]
    · rw [if_neg q, if_neg (by omega)]
def U16 : String := "java/lang/StringUTF16"
namespace Cmp5
def yN : MethodName := ⟨"java/lang/StringUTF16", "compress", "([CI[BII)I"⟩
abbrev yB : ByteArray := jdk_52_method_21_code
theorem d0 : decode yB 0 = .ok (.iconst 0, 1) := by decide +kernel
theorem d1 : decode yB 1 = .ok (.istore 5, 2) := by decide +kernel
theorem d3 : decode yB 3 = .ok (.iload 5, 2) := by decide +kernel
theorem d5 : decode yB 5 = .ok (.iload 4, 2) := by decide +kernel
theorem d7 : decode yB 7 = .ok (.if_icmp (.ge) 37, 3) := by decide +kernel
theorem d10 : decode yB 10 = .ok (.aload_n 0, 1) := by decide +kernel
theorem d11 : decode yB 11 = .ok (.iload_n 1, 1) := by decide +kernel
theorem d12 : decode yB 12 = .ok (.caload, 1) := by decide +kernel
theorem d13 : decode yB 13 = .ok (.istore 6, 2) := by decide +kernel
theorem d15 : decode yB 15 = .ok (.iload 6, 2) := by decide +kernel
theorem d17 : decode yB 17 = .ok (.sipush 255, 3) := by decide +kernel
theorem d20 : decode yB 20 = .ok (.if_icmp (.le) 6, 3) := by decide +kernel
theorem d26 : decode yB 26 = .ok (.aload_n 2, 1) := by decide +kernel
theorem d27 : decode yB 27 = .ok (.iload_n 3, 1) := by decide +kernel
theorem d28 : decode yB 28 = .ok (.iload 6, 2) := by decide +kernel
theorem d30 : decode yB 30 = .ok (.i2b, 1) := by decide +kernel
theorem d31 : decode yB 31 = .ok (.bastore, 1) := by decide +kernel
theorem d32 : decode yB 32 = .ok (.iinc 1 1, 3) := by decide +kernel
theorem d35 : decode yB 35 = .ok (.iinc 3 1, 3) := by decide +kernel
theorem d38 : decode yB 38 = .ok (.iinc 5 1, 3) := by decide +kernel
theorem d41 : decode yB 41 = .ok (.goto (-38), 3) := by decide +kernel
theorem d44 : decode yB 44 = .ok (.iload 4, 2) := by decide +kernel
theorem d46 : decode yB 46 = .ok (.ireturn, 1) := by decide +kernel
def site : List Cond := []
def tab : Cond := tabOf yN yB 7 (some .int) site
def P (b : Addr) (A : Cell) (d : Addr) (B : Cell) (o q len : Nat) (args : Array Value) (s : State) : Prop := args = #[.ref b, .int (Int32.ofNat o), .ref d, .int (Int32.ofNat q), .int (Int32.ofNat len)] ∧ Ch b A s ∧ Arr .byte d B s ∧ b ≠ d ∧ o + len ≤ A.slots.size ∧ q + len ≤ B.slots.size ∧ ∀ i, i < len → ¬ 255 < cv A (o + i)
def E (b : Addr) (A : Cell) (d : Addr) (B : Cell) (o q len : Nat) (r : Option Value) (s u : State) : Prop := r = some (.int (Int32.ofNat len)) ∧ ∃ B', Put d B' s u ∧ Laid B B' q (q + len) (fun j => Value.int (lo8 (cv A (o + (j - q)))))
/-- no char of the range above 255: len; the places written hold each char's low byte -/
theorem law (l : Launch) (b : Addr) (A : Cell) (d : Addr) (B : Cell) (o q len : Nat) : Law l yN 5 5 0 0 yB 7 (some .int) site (P b A d B o q len) (E b A d B o q len) (copyLocs d q len) 0 0 := by
  refine Law.of_walk (plainFor_of_name (by decide +kernel)) (by decide +kernel) (by decide +kernel) (by decide) (fun _ _ h => by rw [h.1]; rfl) (fun _ U U' hal hh h => ⟨h.1, h.2.1.mv hal hh, h.2.2.1.mv hal hh, h.2.2.2⟩) (fun r U U' V V' h1 hal h2 h => ⟨h.1, h.2.elim fun B' q => ⟨B', q.1.mv h1 h2, q.2⟩⟩) ?_
  intro p e s m args below meth c s₁ X0 hexec hbytes hml hret hlk hnm hown hh0 W hP
  obtain ⟨rfl, hA, hB, hne, l1, l2, hp⟩ := hP
  have c1 : Steps p.tables e below (s₁.setTop (entryFrame m #[.ref b, .int (Int32.ofNat o), .ref d, .int (Int32.ofNat q), .int (Int32.ofNat len)] 7)) (s₁.setTop (mkF m 0 #[.val (.ref b), .val (.int (Int32.ofNat o)), .val (.ref d), .val (.int (Int32.ofNat q)), .val (.int (Int32.ofNat len)), .unset, .unset] [])) := entry rfl
  have hA0 := hA.1.mv X0.warmed.alike hh0
  have hB0 := hB.mv X0.warmed.alike hh0
  have a31 := hA.1.2.2.2
  have c2 : Steps p.tables e below (s₁.setTop (entryFrame m #[.ref b, .int (Int32.ofNat o), .ref d, .int (Int32.ofNat q), .int (Int32.ofNat len)] 7)) (s₁.setTop (mkF m 3 #[.val (.ref b), .val (.int (Int32.ofNat o)), .val (.ref d), .val (.int (Int32.ofNat q)), .val (.int (Int32.ofNat len)), .val (.int 0), .unset] [])) := c1.trans (by
    refine iconstV X0.here hexec rfl 0 (hb hbytes d0) (by decide) ?_
    refine XS.istore X0.here hexec rfl (hb hbytes d1) rfl rfl ?_
    exact Steps.refl _)
  have loop : ∀ (r i : Nat), i + r = len → ∀ (z : Slot), (z = .unset ∨ ∃ w, z = .val w ∧ w.category = 1) → ∀ (Tl : State) (Bk : Cell), Stand p l e { frames := 0, locals := 0, cells := 0, slots := 0 } s m #[.ref b, .int (Int32.ofNat o), .ref d, .int (Int32.ofNat q), .int (Int32.ofNat len)] below meth c Tl ([] ++ copyLocs d q i) 0 0 → Put d Bk s₁ Tl → Laid B Bk q (q + i) (fun j => Value.int (lo8 (cv A (o + (j - q))))) →
      Steps p.tables e below (s₁.setTop (entryFrame m #[.ref b, .int (Int32.ofNat o), .ref d, .int (Int32.ofNat q), .int (Int32.ofNat len)] 7)) (Tl.setTop (mkF m 3 #[.val (.ref b), .val (.int (Int32.ofNat (o + i))), .val (.ref d), .val (.int (Int32.ofNat (q + i))), .val (.int (Int32.ofNat len)), .val (.int (Int32.ofNat i)), z] [])) → ∃ (T' : State) (B' : Cell) (z' : Slot), Stand p l e { frames := 0, locals := 0, cells := 0, slots := 0 } s m #[.ref b, .int (Int32.ofNat o), .ref d, .int (Int32.ofNat q), .int (Int32.ofNat len)] below meth c T' ([] ++ copyLocs d q len) 0 0 ∧ Put d B' s₁ T' ∧ Laid B B' q (q + len) (fun j => Value.int (lo8 (cv A (o + (j - q))))) ∧
      Steps p.tables e below (s₁.setTop (entryFrame m #[.ref b, .int (Int32.ofNat o), .ref d, .int (Int32.ofNat q), .int (Int32.ofNat len)] 7)) (T'.setTop (mkF m 3 #[.val (.ref b), .val (.int (Int32.ofNat (o + len))), .val (.ref d), .val (.int (Int32.ofNat (q + len))), .val (.int (Int32.ofNat len)), .val (.int (Int32.ofNat len)), z'] [])) := by
    intro r
    induction r with
    | zero =>
      intro i hi z hz Tl Bk Xl pl fl cl
      have hil : i = len := by omega
      rw [hil] at Xl fl cl
      exact ⟨Tl, Bk, z, Xl, pl, fl, cl⟩
    | succ r ih =>
      intro i hi z hz Tl Bk Xl pl fl cl
      have all := X0.warmed.alike.symm.trans Xl.warmed.alike
      have hAl := hA0.keep all (pl.other hne hA0.1)
      have hBk := hB0.like all pl.1 fl.1 fl.2.1 fl.2.2.1
      have hlt : q + i < Bk.slots.size := by rw [fl.2.2.1]; omega
      have c3 : Steps p.tables e below (s₁.setTop (entryFrame m #[.ref b, .int (Int32.ofNat o), .ref d, .int (Int32.ofNat q), .int (Int32.ofNat len)] 7)) (Tl.setTop (mkF m 12 #[.val (.ref b), .val (.int (Int32.ofNat (o + i))), .val (.ref d), .val (.int (Int32.ofNat (q + i))), .val (.int (Int32.ofNat len)), .val (.int (Int32.ofNat i)), z] [.int (Int32.ofNat (o + i)), .ref b])) := cl.trans (by
        refine XS.iload Xl.here hexec rfl (hb hbytes d3) rfl ?_
        refine XS.iload Xl.here hexec rfl (hb hbytes d5) rfl ?_
        refine XS.icmpNo Xl.here hexec rfl (hb hbytes d7) rfl (ii_ge_f (lt32 (by omega) (by omega))) ?_
        refine XS.aloadN Xl.here hexec rfl (hb hbytes d10) rfl rfl ?_
        refine XS.iloadN Xl.here hexec rfl (hb hbytes d11) rfl ?_
        exact Steps.refl _)
      have c4 : Steps p.tables e below (s₁.setTop (entryFrame m #[.ref b, .int (Int32.ofNat o), .ref d, .int (Int32.ofNat q), .int (Int32.ofNat len)] 7)) (Tl.setTop (mkF m 13 #[.val (.ref b), .val (.int (Int32.ofNat (o + i))), .val (.ref d), .val (.int (Int32.ofNat (q + i))), .val (.int (Int32.ofNat len)), .val (.int (Int32.ofNat i)), z] [.int (cv A (o + i))])) := c3.trans (by
        refine Xl.aget hexec hAl rfl (hA.get (i := o + i) (by omega)) rfl rfl (hb hbytes d12) ?_
        exact Steps.refl _)
      have c5 : Steps p.tables e below (s₁.setTop (entryFrame m #[.ref b, .int (Int32.ofNat o), .ref d, .int (Int32.ofNat q), .int (Int32.ofNat len)] 7)) (Tl.setTop (mkF m 15 #[.val (.ref b), .val (.int (Int32.ofNat (o + i))), .val (.ref d), .val (.int (Int32.ofNat (q + i))), .val (.int (Int32.ofNat len)), .val (.int (Int32.ofNat i)), .val (.int (cv A (o + i)))] [])) := c4.trans (by
        refine XS.istoreS Xl.here hexec rfl (hb hbytes d13) rfl rfl hz ?_
        exact Steps.refl _)
      have c6 : Steps p.tables e below (s₁.setTop (entryFrame m #[.ref b, .int (Int32.ofNat o), .ref d, .int (Int32.ofNat q), .int (Int32.ofNat len)] 7)) (Tl.setTop (mkF m 31 #[.val (.ref b), .val (.int (Int32.ofNat (o + i))), .val (.ref d), .val (.int (Int32.ofNat (q + i))), .val (.int (Int32.ofNat len)), .val (.int (Int32.ofNat i)), .val (.int (cv A (o + i)))] [.int (lo8 (cv A (o + i))), .int (Int32.ofNat (q + i)), .ref d])) := c5.trans (by
        refine XS.iload Xl.here hexec rfl (hb hbytes d15) rfl ?_
        refine sipushV Xl.here hexec rfl 255 (hb hbytes d17) (by decide) ?_
        refine XS.icmpYes Xl.here hexec rfl (pc0 := 20) rfl (hb hbytes d20) rfl (ii_le_t (hp i (by omega))) (by decide) rfl ?_
        refine XS.aloadN Xl.here hexec rfl (hb hbytes d26) rfl rfl ?_
        refine XS.iloadN Xl.here hexec rfl (hb hbytes d27) rfl ?_
        refine XS.iload Xl.here hexec rfl (hb hbytes d28) rfl ?_
        refine i2b Xl.here hexec rfl (hb hbytes d30) rfl ?_
        exact Steps.refl _)
      obtain ⟨T7, X7, p7, st7⟩ := Xl.aput hexec hBk rfl hlt rfl (fits_lo8 (cv A (o + i))) (g := (mkF m 31 #[.val (.ref b), .val (.int (Int32.ofNat (o + i))), .val (.ref d), .val (.int (Int32.ofNat (q + i))), .val (.int (Int32.ofNat len)), .val (.int (Int32.ofNat i)), .val (.int (cv A (o + i)))] [.int (lo8 (cv A (o + i))), .int (Int32.ofNat (q + i)), .ref d])) rfl (rest := []) rfl (hb hbytes d31)
      have c8 : Steps p.tables e below (s₁.setTop (entryFrame m #[.ref b, .int (Int32.ofNat o), .ref d, .int (Int32.ofNat q), .int (Int32.ofNat len)] 7)) (T7.setTop (mkF m 32 #[.val (.ref b), .val (.int (Int32.ofNat (o + i))), .val (.ref d), .val (.int (Int32.ofNat (q + i))), .val (.int (Int32.ofNat len)), .val (.int (Int32.ofNat i)), .val (.int (cv A (o + i)))] [])) := c6.trans (st7 _ (Steps.refl _))
      have c9 : Steps p.tables e below (s₁.setTop (entryFrame m #[.ref b, .int (Int32.ofNat o), .ref d, .int (Int32.ofNat q), .int (Int32.ofNat len)] 7)) (T7.setTop (mkF m 3 #[.val (.ref b), .val (.int (Int32.ofNat (o + i) + 1)), .val (.ref d), .val (.int (Int32.ofNat (q + i) + 1)), .val (.int (Int32.ofNat len)), .val (.int (Int32.ofNat i + 1)), .val (.int (cv A (o + i)))] [])) := c8.trans (by
        refine iincV X7.here hexec rfl 1 (hb hbytes d32) (by decide) rfl rfl ?_
        refine iincV X7.here hexec rfl 1 (hb hbytes d35) (by decide) rfl rfl ?_
        refine iincV X7.here hexec rfl 1 (hb hbytes d38) (by decide) rfl rfl ?_
        refine XS.goto X7.here hexec rfl (pc0 := 41) rfl (hb hbytes d41) (by decide) rfl ?_
        exact Steps.refl _)
      have c10 : Steps p.tables e below (s₁.setTop (entryFrame m #[.ref b, .int (Int32.ofNat o), .ref d, .int (Int32.ofNat q), .int (Int32.ofNat len)] 7)) (T7.setTop (mkF m 3 #[.val (.ref b), .val (.int (Int32.ofNat (o + (i + 1)))), .val (.ref d), .val (.int (Int32.ofNat (q + (i + 1)))), .val (.int (Int32.ofNat len)), .val (.int (Int32.ofNat (i + 1))), .val (.int (cv A (o + i)))] [])) := by
        have := c9
        rw [succ32, succ32, succ32] at this
        exact this
      exact ih (i + 1) (by omega) _ (Or.inr ⟨_, rfl, rfl⟩) T7 _ (by rw [copyLocs_step, ← List.append_assoc]; exact X7) (pl.trans p7) (fl.step (by omega) hlt (by simp)) c10
  obtain ⟨T9, B9, z9, X9, p9, f9, g9⟩ := loop len 0 (by omega) .unset (Or.inl rfl) s₁ B (by simpa [copyLocs] using X0) ⟨hB0.1, fun _ _ => rfl, rfl⟩ (Laid.zero _ _ _) c2
  have c11 : Steps p.tables e below (s₁.setTop (entryFrame m #[.ref b, .int (Int32.ofNat o), .ref d, .int (Int32.ofNat q), .int (Int32.ofNat len)] 7)) (T9.setTop (mkF m 46 #[.val (.ref b), .val (.int (Int32.ofNat (o + len))), .val (.ref d), .val (.int (Int32.ofNat (q + len))), .val (.int (Int32.ofNat len)), .val (.int (Int32.ofNat len)), z9] [.int (Int32.ofNat len)])) := g9.trans (by
    refine XS.iload X9.here hexec rfl (hb hbytes d3) rfl ?_
    refine XS.iload X9.here hexec rfl (hb hbytes d5) rfl ?_
    refine XS.icmpYes X9.here hexec rfl (pc0 := 7) rfl (hb hbytes d7) rfl (ii_ge_t (nlt32 (by omega) (Nat.le_refl _))) (by decide) rfl ?_
    refine XS.iload X9.here hexec rfl (hb hbytes d44) rfl ?_
    exact Steps.refl _)
  exact ⟨T9, some (.int (Int32.ofNat len)), _, _, _, X9, by simp, rfl, rfl, (fun h => by cases h), ⟨rfl, B9, p9.from hh0, f9⟩, fun fs hl => c11.trans (X9.ireturnOut hexec hret rfl (Or.inl rfl) (hb hbytes d46) hl)⟩
end Cmp5
namespace Cmp3
def yN : MethodName := ⟨"java/lang/StringUTF16", "compress", "([CII)[B"⟩
abbrev yB : ByteArray := jdk_52_method_16_code
theorem d0 : decode yB 0 = .ok (.iload_n 2, 1) := by decide +kernel
theorem d1 : decode yB 1 = .ok (.newarray .byte, 2) := by decide +kernel
theorem d3 : decode yB 3 = .ok (.astore_n 3, 1) := by decide +kernel
theorem d4 : decode yB 4 = .ok (.aload_n 0, 1) := by decide +kernel
theorem d5 : decode yB 5 = .ok (.iload_n 1, 1) := by decide +kernel
theorem d6 : decode yB 6 = .ok (.aload_n 3, 1) := by decide +kernel
theorem d7 : decode yB 7 = .ok (.iconst 0, 1) := by decide +kernel
theorem d8 : decode yB 8 = .ok (.iload_n 2, 1) := by decide +kernel
theorem d9 : decode yB 9 = .ok (.invokestatic 115, 3) := by decide +kernel
theorem d12 : decode yB 12 = .ok (.istore 4, 2) := by decide +kernel
theorem d14 : decode yB 14 = .ok (.iload 4, 2) := by decide +kernel
theorem d16 : decode yB 16 = .ok (.iload_n 2, 1) := by decide +kernel
theorem d17 : decode yB 17 = .ok (.if_icmp (.eq) 40, 3) := by decide +kernel
theorem d57 : decode yB 57 = .ok (.aload_n 3, 1) := by decide +kernel
theorem d58 : decode yB 58 = .ok (.areturn, 1) := by decide +kernel
def site : List Cond := [.arrayClass .byte, Cmp5.tab] ++ staticW U16 115 Cmp5.yN
def tab : Cond := tabOf yN yB 6 (some (.array .byte)) site
def P (b : Addr) (A : Cell) (o len : Nat) (args : Array Value) (s : State) : Prop := args = #[.ref b, .int (Int32.ofNat o), .int (Int32.ofNat len)] ∧ Ch b A s ∧ o + len ≤ A.slots.size ∧ len ≤ 536870912 ∧ ∀ i, i < len → ¬ 255 < cv A (o + i)
def E (b : Addr) (A : Cell) (o len : Nat) (r : Option Value) (s u : State) : Prop := NewArr .byte "[B" len (fun j => .int (lo8 (cv A (o + j)))) r s u ∧ u.heap.size = s.heap.size + 1
/-- no char of the range above 255: a new byte[] of their low bytes -/
theorem law (l : Launch) (b : Addr) (A : Cell) (o len : Nat) : Law l yN 3 3 1 18 yB 6 (some (.array .byte)) site (P b A o len) (E b A o len) [] 1 len := by
  refine Law.of_walk (plainFor_of_name (by decide +kernel)) (by decide +kernel) (by decide +kernel) (by decide) (fun _ _ h => by rw [h.1]; rfl) (fun _ U U' hal hh h => ⟨h.1, h.2.1.mv hal hh, h.2.2⟩) (fun r U U' V V' h1 hal h2 h => ⟨NewArr.mv r U U' V V' h1 hal h2 h.1, by rw [h1, h2]; exact h.2⟩) ?_
  intro p e s m args below meth c s₁ X0 hexec hbytes hml hret hlk hnm hown hh0 W hP
  obtain ⟨rfl, hA, l1, l2, hp⟩ := hP
  have a31 := hA.1.2.2.2
  have c1 : Steps p.tables e below (s₁.setTop (entryFrame m #[.ref b, .int (Int32.ofNat o), .int (Int32.ofNat len)] 6)) (s₁.setTop (mkF m 0 #[.val (.ref b), .val (.int (Int32.ofNat o)), .val (.int (Int32.ofNat len)), .unset, .unset, .unset] [])) := entry rfl
  have c2 : Steps p.tables e below (s₁.setTop (entryFrame m #[.ref b, .int (Int32.ofNat o), .int (Int32.ofNat len)] 6)) (s₁.setTop (mkF m 1 #[.val (.ref b), .val (.int (Int32.ofNat o)), .val (.int (Int32.ofNat len)), .unset, .unset, .unset] [.int (Int32.ofNat len)])) := c1.trans (by
    refine XS.iloadN X0.here hexec rfl (hb hbytes d0) rfl ?_
    exact Steps.refl _)
  obtain ⟨T3, B3, X3, ba3, bs3, bv3, bh3, bf3, st3⟩ := X0.anew hexec (atype := .byte) (wk W (.arrayClass .byte)) rfl (by show len * 1 ≤ _; omega) (by omega) (g := (mkF m 1 #[.val (.ref b), .val (.int (Int32.ofNat o)), .val (.int (Int32.ofNat len)), .unset, .unset, .unset] [.int (Int32.ofNat len)])) rfl (hb hbytes d1) (rest := []) rfl (Nat.le_refl _) (by show 0 + len ≤ len; omega)
  rw [hh0] at ba3 st3
  have kp3 : XT.Kept s T3 := (XT.Kept.of_eq hh0).push bh3
  have hA3 := hA.keep X3.warmed.alike (kp3 _ _ hA.1.1)
  have hne : b ≠ s.heap.size := hA.1.ne
  have c4 : Steps p.tables e below (s₁.setTop (entryFrame m #[.ref b, .int (Int32.ofNat o), .int (Int32.ofNat len)] 6)) (T3.setTop (mkF m 3 #[.val (.ref b), .val (.int (Int32.ofNat o)), .val (.int (Int32.ofNat len)), .unset, .unset, .unset] [.ref s.heap.size])) := c2.trans (st3 _ (Steps.refl _))
  have c5 : Steps p.tables e below (s₁.setTop (entryFrame m #[.ref b, .int (Int32.ofNat o), .int (Int32.ofNat len)] 6)) (T3.setTop (mkF m 9 #[.val (.ref b), .val (.int (Int32.ofNat o)), .val (.int (Int32.ofNat len)), .val (.ref s.heap.size), .unset, .unset] [.int (Int32.ofNat len), .int 0, .ref s.heap.size, .int (Int32.ofNat o), .ref b])) := c4.trans (by
    refine XS.astoreN X3.here hexec rfl (hb hbytes d3) rfl rfl rfl ?_
    refine XS.aloadN X3.here hexec rfl (hb hbytes d4) rfl rfl ?_
    refine XS.iloadN X3.here hexec rfl (hb hbytes d5) rfl ?_
    refine XS.aloadN X3.here hexec rfl (hb hbytes d6) rfl rfl ?_
    refine iconstV X3.here hexec rfl 0 (hb hbytes d7) (by decide) ?_
    refine XS.iloadN X3.here hexec rfl (hb hbytes d8) rfl ?_
    exact Steps.refl _)
  obtain ⟨v6, T6, X6, E6, g6⟩ := X3.callS hexec (Cmp5.law l b A s.heap.size B3 o 0 len) hown (wks W (staticW U16 115 Cmp5.yN)) (wk W Cmp5.tab) (W := 0) (Nat.le_of_ble_eq_true rfl) (Nat.le_of_ble_eq_true rfl) (Nat.le_refl _) (by show 0 + len + 0 ≤ len; omega) (g := (mkF m 9 #[.val (.ref b), .val (.int (Int32.ofNat o)), .val (.int (Int32.ofNat len)), .val (.ref s.heap.size), .unset, .unset] [.int (Int32.ofNat len), .int (Int32.ofNat 0), .ref s.heap.size, .int (Int32.ofNat o), .ref b])) rfl (by rw [hml]; rfl) c5 (argsL := [.ref b, .int (Int32.ofNat o), .ref s.heap.size, .int (Int32.ofNat 0), .int (Int32.ofNat len)]) (rest := []) rfl rfl (by show 2 * 0 + 0 ≤ _; decide) (hb hbytes d9) (⟨rfl, hA3, ba3, hne, l1, by rw [bs3]; simp, hp⟩)
  obtain ⟨rfl, B6, p6, f6⟩ := E6
  have c7 : Steps p.tables e below (s₁.setTop (entryFrame m #[.ref b, .int (Int32.ofNat o), .int (Int32.ofNat len)] 6)) (T6.setTop (mkF m 12 #[.val (.ref b), .val (.int (Int32.ofNat o)), .val (.int (Int32.ofNat len)), .val (.ref s.heap.size), .unset, .unset] [.int (Int32.ofNat len)])) := g6
  have c8 : Steps p.tables e below (s₁.setTop (entryFrame m #[.ref b, .int (Int32.ofNat o), .int (Int32.ofNat len)] 6)) (T6.setTop (mkF m 58 #[.val (.ref b), .val (.int (Int32.ofNat o)), .val (.int (Int32.ofNat len)), .val (.ref s.heap.size), .val (.int (Int32.ofNat len)), .unset] [.ref s.heap.size])) := c7.trans (by
    refine XS.istore X6.here hexec rfl (hb hbytes d12) rfl rfl ?_
    refine XS.iload X6.here hexec rfl (hb hbytes d14) rfl ?_
    refine XS.iloadN X6.here hexec rfl (hb hbytes d16) rfl ?_
    refine XS.icmpYes X6.here hexec rfl (pc0 := 17) rfl (hb hbytes d17) rfl (ii_eq_t rfl) (by decide) rfl ?_
    refine XS.aloadN X6.here hexec rfl (hb hbytes d57) rfl rfl ?_
    exact Steps.refl _)
  have X8 := X6.wide (L' := []) (cells' := 1) (slots' := len) (fun x hx hlt => by
    simp only [List.nil_append, copyLocs, List.mem_map, List.mem_range] at hx
    obtain ⟨i, -, rfl⟩ := hx
    exact absurd hlt (Nat.lt_irrefl _)) (Nat.le_refl _) (by omega)
  exact ⟨T6, some (.ref s.heap.size), _, _, _, X8, rfl, rfl, rfl, (fun h => by cases h), ⟨⟨rfl, B6, ba3.like (X3.warmed.alike.symm.trans X6.warmed.alike) p6.1 f6.1 f6.2.1 f6.2.2.1, f6.2.1.trans bv3, by rw [X6.warmed.alike.findClass, f6.1]; exact bf3, by rw [f6.2.2.1, bs3]; simp, fun j hj => by rw [f6.2.2.2 j, if_pos (by omega)]; rfl, kp3.put p6 (Nat.le_refl _)⟩, by rw [p6.2.2, bh3, hh0]; simp⟩, fun fs hl => c8.trans (X8.areturnOut hexec rfl hret rfl (hb hbytes d58) hl)⟩
end Cmp3
namespace CodL
def yN : MethodName := ⟨"java/lang/StringUTF16", "coderFromArrayLen", "([BI)B"⟩
abbrev yB : ByteArray := jdk_52_method_15_code
theorem d0 : decode yB 0 = .ok (.iload_n 1, 1) := by decide +kernel
theorem d1 : decode yB 1 = .ok (.aload_n 0, 1) := by decide +kernel
theorem d2 : decode yB 2 = .ok (.arraylength, 1) := by decide +kernel
theorem d3 : decode yB 3 = .ok (.isub, 1) := by decide +kernel
theorem d4 : decode yB 4 = .ok (.bipush 31, 2) := by decide +kernel
theorem d6 : decode yB 6 = .ok (.iushr, 1) := by decide +kernel
theorem d7 : decode yB 7 = .ok (.i2b, 1) := by decide +kernel
theorem d8 : decode yB 8 = .ok (.ireturn, 1) := by decide +kernel
def site : List Cond := []
def tab : Cond := tabOf yN yB 2 (some .byte) site
def P (d : Addr) (B : Cell) (args : Array Value) (s : State) : Prop := args = #[.ref d, .int (Int32.ofNat B.slots.size)] ∧ Arr .byte d B s
def E (r : Option Value) (s u : State) : Prop := XT.PureE (some (.int 0)) r s u
/-- an array as long as the number of chars: LATIN1 -/
theorem law (l : Launch) (d : Addr) (B : Cell) : Law l yN 2 2 0 0 yB 2 (some .byte) site (P d B) E [] 0 0 := by
  refine Law.of_walk (plainFor_of_name (by decide +kernel)) (by decide +kernel) (by decide +kernel) (by decide) (fun _ _ h => by rw [h.1]; rfl) (fun _ U U' hal hh h => ⟨h.1, h.2.mv hal hh⟩) (fun r U U' V V' h1 hal h2 h => XT.PureE.mv r U U' V V' h1 hal h2 h) ?_
  intro p e s m args below meth c s₁ X0 hexec hbytes hml hret hlk hnm hown hh0 W hP
  obtain ⟨rfl, hB⟩ := hP
  have hB0 := hB.mv X0.warmed.alike hh0
  have c1 : Steps p.tables e below (s₁.setTop (entryFrame m #[.ref d, .int (Int32.ofNat B.slots.size)] 2)) (s₁.setTop (mkF m 0 #[.val (.ref d), .val (.int (Int32.ofNat B.slots.size))] [])) := entry rfl
  have c2 : Steps p.tables e below (s₁.setTop (entryFrame m #[.ref d, .int (Int32.ofNat B.slots.size)] 2)) (s₁.setTop (mkF m 2 #[.val (.ref d), .val (.int (Int32.ofNat B.slots.size))] [.ref d, .int (Int32.ofNat B.slots.size)])) := c1.trans (by
    refine XS.iloadN X0.here hexec rfl (hb hbytes d0) rfl ?_
    refine XS.aloadN X0.here hexec rfl (hb hbytes d1) rfl rfl ?_
    exact Steps.refl _)
  have c3 : Steps p.tables e below (s₁.setTop (entryFrame m #[.ref d, .int (Int32.ofNat B.slots.size)] 2)) (s₁.setTop (mkF m 8 #[.val (.ref d), .val (.int (Int32.ofNat B.slots.size))] [.int (lo8 (ushr (Int32.ofNat B.slots.size - Int32.ofNat B.slots.size) 31))])) := c2.trans (by
    refine X0.alen hexec hB0 rfl rfl (hb hbytes d2) ?_
    refine XS.isub X0.here hexec rfl (hb hbytes d3) rfl ?_
    refine bipushV X0.here hexec rfl 31 (hb hbytes d4) (by decide) ?_
    refine iushr X0.here hexec rfl (hb hbytes d6) rfl ?_
    refine i2b X0.here hexec rfl (hb hbytes d7) rfl ?_
    exact Steps.refl _)
  have e0 : lo8 (ushr (Int32.ofNat B.slots.size - Int32.ofNat B.slots.size) 31) = 0 := by rw [Int32.sub_self]; decide
  rw [e0] at c3
  exact ⟨s₁, some (.int 0), _, _, _, X0, rfl, rfl, rfl, (fun h => by cases h), ⟨rfl, hh0⟩, fun fs hl => c3.trans (X0.ireturnOut hexec hret rfl (Or.inr (Or.inr (Or.inl rfl))) (hb hbytes d8) hl)⟩
end CodL
/-- the String at a is Latin-1 over a new byte[] (the heap's one new cell): the low bytes of the len chars of A from o on; every cell but a is kept -/
def Got (a : Addr) (D : Cell) (fV fC : Field) (A : Cell) (o len : Nat) (r : Option Value) (s u : State) : Prop := r = none ∧ ∃ D' V : Cell, Blank "java/lang/String" a D' u ∧ Same D D' [fV.slot, fC.slot] ∧ D'.slots[fV.slot]? = some (.ref s.heap.size) ∧ D'.slots[fC.slot]? = some (.int 0) ∧ Arr .byte s.heap.size V u ∧ V.vm = .none ∧ u.vm.findClass "[B" = some V.cls ∧ V.slots.size = len ∧ (∀ j, j < len → V.slots[j]? = some (.int (lo8 (cv A (o + j))))) ∧ (∀ (y : Addr) (c : Cell), y ≠ a → s.heap[y]? = some c → u.heap[y]? = some c) ∧ u.heap.size = s.heap.size + 1
theorem Got.mv {a : Addr} {D A : Cell} {fV fC : Field} {o len : Nat} : ∀ r (U U' V V' : State), U'.heap = U.heap → V.vm.Alike V'.vm → V'.heap = V.heap → Got a D fV fC A o len r U V → Got a D fV fC A o len r U' V' :=
  fun r U U' V V' h1 hal h2 ⟨e0, D', X, a1, a2, a3, a4, a5, a6, a7, a8, a9, a10, a11⟩ => ⟨e0, D', X, a1.mv hal h2, a2, by rw [h1]; exact a3, a4, by rw [h1]; exact a5.mv hal h2, a6, by rw [hal.findClass]; exact a7, a8, a9, by rw [h1, h2]; exact a10, by rw [h1, h2]; exact a11⟩
namespace New4
def yN : MethodName := ⟨"java/lang/String", "<init>", "([CIILjava/lang/Void;)V"⟩
abbrev yB : ByteArray := jdk_42_method_149_code
theorem d0 : decode yB 0 = .ok (.aload_n 0, 1) := by decide +kernel
theorem d1 : decode yB 1 = .ok (.invokespecial 1, 3) := by decide +kernel
theorem d4 : decode yB 4 = .ok (.iload_n 3, 1) := by decide +kernel
theorem d5 : decode yB 5 = .ok (.ifCond (.ne) 22, 3) := by decide +kernel
theorem d27 : decode yB 27 = .ok (.getstatic 38, 3) := by decide +kernel
theorem d30 : decode yB 30 = .ok (.ifCond (.eq) 28, 3) := by decide +kernel
theorem d33 : decode yB 33 = .ok (.aload_n 1, 1) := by decide +kernel
theorem d34 : decode yB 34 = .ok (.iload_n 2, 1) := by decide +kernel
theorem d35 : decode yB 35 = .ok (.iload_n 3, 1) := by decide +kernel
theorem d36 : decode yB 36 = .ok (.invokestatic 177, 3) := by decide +kernel
theorem d39 : decode yB 39 = .ok (.astore 5, 2) := by decide +kernel
theorem d41 : decode yB 41 = .ok (.aload_n 0, 1) := by decide +kernel
theorem d42 : decode yB 42 = .ok (.aload 5, 2) := by decide +kernel
theorem d44 : decode yB 44 = .ok (.iload_n 3, 1) := by decide +kernel
theorem d45 : decode yB 45 = .ok (.invokestatic 47, 3) := by decide +kernel
theorem d48 : decode yB 48 = .ok (.putfield 15, 3) := by decide +kernel
theorem d51 : decode yB 51 = .ok (.aload_n 0, 1) := by decide +kernel
theorem d52 : decode yB 52 = .ok (.aload 5, 2) := by decide +kernel
theorem d54 : decode yB 54 = .ok (.putfield 9, 3) := by decide +kernel
theorem d57 : decode yB 57 = .ok (.return_, 1) := by decide +kernel
def site : List Cond := [.fieldLink "java/lang/String" 38 "java/lang/String" "COMPACT_STRINGS" "Z", Cmp3.tab, CodL.tab, .laysFinal "java/lang/String" "java/lang/String" "value" "[B", .fieldLink "java/lang/String" 9 "java/lang/String" "value" "[B", .laysFinal "java/lang/String" "java/lang/String" "coder" "B", .fieldLink "java/lang/String" 15 "java/lang/String" "coder" "B"] ++ objW "java/lang/String" 1 ++ staticW "java/lang/String" 177 Cmp3.yN ++ staticW "java/lang/String" 47 CodL.yN
def tab : Cond := tabOf yN yB 6 none site
def P (a : Addr) (D : Cell) (fV fC : Field) (b : Addr) (A : Cell) (z : Int32) (o len : Nat) (args : Array Value) (s : State) : Prop := args = #[.ref a, .ref b, .int (Int32.ofNat o), .int (Int32.ofNat len), .null] ∧ Blank "java/lang/String" a D s ∧ Found "java/lang/String" "value" "[B" fV s ∧ Found "java/lang/String" "coder" "B" fC s ∧ Ch b A s ∧ StaticIs s "java/lang/String" "COMPACT_STRINGS" "Z" (.int z) ∧ ¬ z = 0 ∧ 0 < len ∧ o + len ≤ A.slots.size ∧ len ≤ 536870912 ∧ ∀ i, i < len → ¬ 255 < cv A (o + i)
def E (a : Addr) (D : Cell) (fV fC : Field) (A : Cell) (o len : Nat) (r : Option Value) (s u : State) : Prop := Got a D fV fC A o len r s u
/-- len > 0, no char of the range above 255: a Latin-1 String of their low bytes -/
theorem law (l : Launch) (a : Addr) (D : Cell) (fV fC : Field) (b : Addr) (A : Cell) (z : Int32) (o len : Nat) : Law l yN 5 4 2 35 yB 6 none site (P a D fV fC b A z o len) (E a D fV fC A o len) [⟨a, fC.slot⟩, ⟨a, fV.slot⟩] 1 len := by
  refine Law.of_walk (plainFor_of_name (by decide +kernel)) (by decide +kernel) (by decide +kernel) (by decide) (fun _ _ h => by rw [h.1]; rfl) (fun _ U U' hal hh h => ⟨h.1, h.2.1.mv hal hh, h.2.2.1.al hal, h.2.2.2.1.al hal, h.2.2.2.2.1.mv hal hh, h.2.2.2.2.2.1.there hal hh, h.2.2.2.2.2.2⟩) (fun r U U' V V' h1 hal h2 h => Got.mv r U U' V V' h1 hal h2 h) ?_
  intro p e s m args below meth c s₁ X0 hexec hbytes hml hret hlk hnm hown hh0 W hP
  obtain ⟨rfl, hB, f1, f2, hA, s1, hz, l0, l1, l2, hp⟩ := hP
  have a31 := hA.1.2.2.2
  have c1 : Steps p.tables e below (s₁.setTop (entryFrame m #[.ref a, .ref b, .int (Int32.ofNat o), .int (Int32.ofNat len), .null] 6)) (s₁.setTop (mkF m 0 #[.val (.ref a), .val (.ref b), .val (.int (Int32.ofNat o)), .val (.int (Int32.ofNat len)), .val .null, .unset] [])) := entry rfl
  have c2 : Steps p.tables e below (s₁.setTop (entryFrame m #[.ref a, .ref b, .int (Int32.ofNat o), .int (Int32.ofNat len), .null] 6)) (s₁.setTop (mkF m 1 #[.val (.ref a), .val (.ref b), .val (.int (Int32.ofNat o)), .val (.int (Int32.ofNat len)), .val .null, .unset] [.ref a])) := c1.trans (by
    refine XS.aloadN X0.here hexec rfl (hb hbytes d0) rfl rfl ?_
    exact Steps.refl _)
  obtain ⟨T3, X3, q3, st3⟩ := X0.oinit hexec hown (wks W (objW "java/lang/String" 1)) (g := (mkF m 1 #[.val (.ref a), .val (.ref b), .val (.int (Int32.ofNat o)), .val (.int (Int32.ofNat len)), .val .null, .unset] [.ref a])) rfl (by rw [hml]; rfl) (rest := []) rfl (hb hbytes d1) (W := 0) (by show 2 * 0 + 0 ≤ _; decide) (Nat.le_of_ble_eq_true rfl) (Nat.le_of_ble_eq_true rfl)
  have hh3 := q3.trans hh0
  have c4 : Steps p.tables e below (s₁.setTop (entryFrame m #[.ref a, .ref b, .int (Int32.ofNat o), .int (Int32.ofNat len), .null] 6)) (T3.setTop (mkF m 27 #[.val (.ref a), .val (.ref b), .val (.int (Int32.ofNat o)), .val (.int (Int32.ofNat len)), .val .null, .unset] [])) := (c2.trans (st3 _ (Steps.refl _))).trans (by
    refine XS.iloadN X3.here hexec rfl (hb hbytes d4) rfl ?_
    refine XS.ifYes X3.here hexec rfl (pc0 := 5) rfl (hb hbytes d5) rfl (i0_ne_t (nz32 (by omega) l0)) (by decide) rfl ?_
    exact Steps.refl _)
  obtain ⟨T5, X5, q5, st5⟩ := X3.sget hexec hown (wk W (.fieldLink "java/lang/String" 38 "java/lang/String" "COMPACT_STRINGS" "Z")) s1 (fun _ _ h => by rw [hh3]; exact h) (g := (mkF m 27 #[.val (.ref a), .val (.ref b), .val (.int (Int32.ofNat o)), .val (.int (Int32.ofNat len)), .val .null, .unset] [])) rfl (hb hbytes d27)
  have hh5 := q5.trans hh3
  have c6 : Steps p.tables e below (s₁.setTop (entryFrame m #[.ref a, .ref b, .int (Int32.ofNat o), .int (Int32.ofNat len), .null] 6)) (T5.setTop (mkF m 30 #[.val (.ref a), .val (.ref b), .val (.int (Int32.ofNat o)), .val (.int (Int32.ofNat len)), .val .null, .unset] [.int z])) := c4.trans (st5 _ (Steps.refl _))
  have c7 : Steps p.tables e below (s₁.setTop (entryFrame m #[.ref a, .ref b, .int (Int32.ofNat o), .int (Int32.ofNat len), .null] 6)) (T5.setTop (mkF m 36 #[.val (.ref a), .val (.ref b), .val (.int (Int32.ofNat o)), .val (.int (Int32.ofNat len)), .val .null, .unset] [.int (Int32.ofNat len), .int (Int32.ofNat o), .ref b])) := c6.trans (by
    refine XS.ifNo X5.here hexec rfl (hb hbytes d30) rfl (i0_eq_f hz) ?_
    refine XS.aloadN X5.here hexec rfl (hb hbytes d33) rfl rfl ?_
    refine XS.iloadN X5.here hexec rfl (hb hbytes d34) rfl ?_
    refine XS.iloadN X5.here hexec rfl (hb hbytes d35) rfl ?_
    exact Steps.refl _)
  obtain ⟨v8, T8, X8, E8, g8⟩ := X5.callS hexec (Cmp3.law l b A o len) hown (wks W (staticW "java/lang/String" 177 Cmp3.yN)) (wk W Cmp3.tab) (W := 0) (Nat.le_of_ble_eq_true rfl) (Nat.le_of_ble_eq_true rfl) (Nat.le_refl _) (by show 0 + len ≤ len; omega) (g := (mkF m 36 #[.val (.ref a), .val (.ref b), .val (.int (Int32.ofNat o)), .val (.int (Int32.ofNat len)), .val .null, .unset] [.int (Int32.ofNat len), .int (Int32.ofNat o), .ref b])) rfl (by rw [hml]; rfl) c7 (argsL := [.ref b, .int (Int32.ofNat o), .int (Int32.ofNat len)]) (rest := []) rfl rfl (by show 2 * 0 + 0 ≤ _; decide) (hb hbytes d36) (⟨rfl, hA.mv X5.warmed.alike hh5, l1, l2, hp⟩)
  obtain ⟨e8, z8⟩ := E8
  obtain ⟨rfl, N, n1, n2, n3, n4, n5, n6⟩ := NewArr.mv _ T5 s _ _ hh5.symm (Vm.Alike.refl _) rfl e8
  rw [hh5] at z8
  have hB1 := hB.keep X8.warmed.alike (n6 _ _ hB.1)
  have hne : s.heap.size ≠ a := (Nat.ne_of_lt (Array.getElem?_eq_some_iff.mp hB.1).1).symm
  have c9 : Steps p.tables e below (s₁.setTop (entryFrame m #[.ref a, .ref b, .int (Int32.ofNat o), .int (Int32.ofNat len), .null] 6)) (T8.setTop (mkF m 39 #[.val (.ref a), .val (.ref b), .val (.int (Int32.ofNat o)), .val (.int (Int32.ofNat len)), .val .null, .unset] [.ref s.heap.size])) := g8
  have c10 : Steps p.tables e below (s₁.setTop (entryFrame m #[.ref a, .ref b, .int (Int32.ofNat o), .int (Int32.ofNat len), .null] 6)) (T8.setTop (mkF m 45 #[.val (.ref a), .val (.ref b), .val (.int (Int32.ofNat o)), .val (.int (Int32.ofNat len)), .val .null, .val (.ref s.heap.size)] [.int (Int32.ofNat N.slots.size), .ref s.heap.size, .ref a])) := by
    have hc : Steps p.tables e below (s₁.setTop (entryFrame m #[.ref a, .ref b, .int (Int32.ofNat o), .int (Int32.ofNat len), .null] 6)) (T8.setTop (mkF m 45 #[.val (.ref a), .val (.ref b), .val (.int (Int32.ofNat o)), .val (.int (Int32.ofNat len)), .val .null, .val (.ref s.heap.size)] [.int (Int32.ofNat len), .ref s.heap.size, .ref a])) := c9.trans (by
      refine XS.astore X8.here hexec rfl (hb hbytes d39) rfl rfl rfl ?_
      refine XS.aloadN X8.here hexec rfl (hb hbytes d41) rfl rfl ?_
      refine XS.aload X8.here hexec rfl (hb hbytes d42) rfl rfl ?_
      refine XS.iloadN X8.here hexec rfl (hb hbytes d44) rfl ?_
      exact Steps.refl _)
    rw [n4]; exact hc
  obtain ⟨v11, T11, X11, E11, g11⟩ := X8.callS hexec (CodL.law l s.heap.size N) hown (wks W (staticW "java/lang/String" 47 CodL.yN)) (wk W CodL.tab) (W := 1) (Nat.le_of_ble_eq_true rfl) (Nat.le_of_ble_eq_true rfl) (Nat.le_refl _) (by show 0 + len + 0 ≤ len; omega) (g := (mkF m 45 #[.val (.ref a), .val (.ref b), .val (.int (Int32.ofNat o)), .val (.int (Int32.ofNat len)), .val .null, .val (.ref s.heap.size)] [.int (Int32.ofNat N.slots.size), .ref s.heap.size, .ref a])) rfl (by rw [hml]; rfl) c10 (argsL := [.ref s.heap.size, .int (Int32.ofNat N.slots.size)]) (rest := [.ref a]) rfl rfl (by show 2 * 0 + (1 + 0) ≤ _; decide) (hb hbytes d45) (⟨rfl, n1⟩)
  obtain ⟨rfl, q11⟩ := E11
  have hB11 := hB1.mv (X8.warmed.alike.symm.trans X11.warmed.alike) q11
  have c12 : Steps p.tables e below (s₁.setTop (entryFrame m #[.ref a, .ref b, .int (Int32.ofNat o), .int (Int32.ofNat len), .null] 6)) (T11.setTop (mkF m 48 #[.val (.ref a), .val (.ref b), .val (.int (Int32.ofNat o)), .val (.int (Int32.ofNat len)), .val .null, .val (.ref s.heap.size)] [.int 0, .ref a])) := g11
  obtain ⟨T13, X13, p13, bl13, sl13, st13⟩ := X11.finit hexec hown (wk W (.fieldLink "java/lang/String" 15 "java/lang/String" "coder" "B")) (Or.inr ⟨_, (wk W (.laysFinal "java/lang/String" "java/lang/String" "coder" "B"))⟩) (Or.inl ⟨rfl, hnm⟩) f2 (Or.inl rfl) hB11 (t := .byte) (by decide +kernel) rfl (g := (mkF m 48 #[.val (.ref a), .val (.ref b), .val (.int (Int32.ofNat o)), .val (.int (Int32.ofNat len)), .val .null, .val (.ref s.heap.size)] [.int 0, .ref a])) rfl (rest := []) rfl (hb hbytes d48)
  have c14 : Steps p.tables e below (s₁.setTop (entryFrame m #[.ref a, .ref b, .int (Int32.ofNat o), .int (Int32.ofNat len), .null] 6)) (T13.setTop (mkF m 54 #[.val (.ref a), .val (.ref b), .val (.int (Int32.ofNat o)), .val (.int (Int32.ofNat len)), .val .null, .val (.ref s.heap.size)] [.ref s.heap.size, .ref a])) := (c12.trans (st13 _ (Steps.refl _))).trans (by
    refine XS.aloadN X13.here hexec rfl (hb hbytes d51) rfl rfl ?_
    refine XS.aload X13.here hexec rfl (hb hbytes d52) rfl rfl ?_
    exact Steps.refl _)
  obtain ⟨T15, X15, p15, bl15, sl15, st15⟩ := X13.finit hexec hown (wk W (.fieldLink "java/lang/String" 9 "java/lang/String" "value" "[B")) (Or.inr ⟨_, (wk W (.laysFinal "java/lang/String" "java/lang/String" "value" "[B"))⟩) (Or.inl ⟨rfl, hnm⟩) f1 (Or.inl rfl) bl13 (t := (.array .byte)) (by decide +kernel) rfl (g := (mkF m 54 #[.val (.ref a), .val (.ref b), .val (.int (Int32.ofNat o)), .val (.int (Int32.ofNat len)), .val .null, .val (.ref s.heap.size)] [.ref s.heap.size, .ref a])) rfl (rest := []) rfl (hb hbytes d54)
  have c16 : Steps p.tables e below (s₁.setTop (entryFrame m #[.ref a, .ref b, .int (Int32.ofNat o), .int (Int32.ofNat len), .null] 6)) (T15.setTop (mkF m 57 #[.val (.ref a), .val (.ref b), .val (.int (Int32.ofNat o)), .val (.int (Int32.ofNat len)), .val .null, .val (.ref s.heap.size)] [])) := c14.trans (st15 _ (Steps.refl _))
  have ap := apart (Or.inr ⟨_, (wk W (.laysFinal "java/lang/String" "java/lang/String" "value" "[B"))⟩) (Or.inr ⟨_, (wk W (.laysFinal "java/lang/String" "java/lang/String" "coder" "B"))⟩) f1 f2 (t₁ := .array .byte) (t₂ := .byte) (by decide +kernel) (by decide +kernel) (by decide)
  have al := X8.warmed.alike.symm.trans X15.warmed.alike
  have n7 : T11.heap[s.heap.size]? = some N := by rw [q11]; exact n1.1
  exact ⟨T15, none, _, _, _, X15, by simp, rfl, by omega, (fun _ => rfl), ⟨rfl, _, N, bl15, ((Same.refl D _).set _ (by simp)).set _ (by simp), sl15, (Cell.slots_setSlot_ne _ ap).trans sl13, n1.keep al (p15.other hne (p13.other hne n7)), n2, by rw [al.findClass]; exact n3, n4, n5, fun y c h1 h2 => p15.other h1 (p13.other h1 (by rw [q11]; exact n6 y c h2)), by rw [p15.2.2, p13.2.2, q11]; exact z8⟩, fun fs hl => c16.trans (X15.returnOut hexec hret (hb hbytes d57) hl)⟩
end New4
namespace New1
def yN : MethodName := ⟨"java/lang/String", "<init>", "([C)V"⟩
abbrev yB : ByteArray := jdk_42_method_3_code
theorem d0 : decode yB 0 = .ok (.aload_n 0, 1) := by decide +kernel
theorem d1 : decode yB 1 = .ok (.aload_n 1, 1) := by decide +kernel
theorem d2 : decode yB 2 = .ok (.iconst 0, 1) := by decide +kernel
theorem d3 : decode yB 3 = .ok (.aload_n 1, 1) := by decide +kernel
theorem d4 : decode yB 4 = .ok (.arraylength, 1) := by decide +kernel
theorem d5 : decode yB 5 = .ok (.aconst_null, 1) := by decide +kernel
theorem d6 : decode yB 6 = .ok (.invokespecial 27, 3) := by decide +kernel
theorem d9 : decode yB 9 = .ok (.return_, 1) := by decide +kernel
def site : List Cond := [New4.tab] ++ initW "java/lang/String" 27 New4.yN
def tab : Cond := tabOf yN yB 2 none site
def P (a : Addr) (D : Cell) (fV fC : Field) (b : Addr) (A : Cell) (z : Int32) (args : Array Value) (s : State) : Prop := args = #[.ref a, .ref b] ∧ Blank "java/lang/String" a D s ∧ Found "java/lang/String" "value" "[B" fV s ∧ Found "java/lang/String" "coder" "B" fC s ∧ Ch b A s ∧ StaticIs s "java/lang/String" "COMPACT_STRINGS" "Z" (.int z) ∧ ¬ z = 0 ∧ 0 < A.slots.size ∧ A.slots.size ≤ 536870912 ∧ ∀ i, i < A.slots.size → ¬ 255 < cv A i
def E (a : Addr) (D : Cell) (fV fC : Field) (A : Cell) (r : Option Value) (s u : State) : Prop := Got a D fV fC A 0 A.slots.size r s u
/-- new String(chars), not empty, no char above 255: a Latin-1 String of their low bytes -/
theorem law (l : Launch) (a : Addr) (D : Cell) (fV fC : Field) (b : Addr) (A : Cell) (z : Int32) : Law l yN 2 1 3 52 yB 2 none site (P a D fV fC b A z) (E a D fV fC A) [⟨a, fC.slot⟩, ⟨a, fV.slot⟩] 1 A.slots.size := by
  refine Law.of_walk (plainFor_of_name (by decide +kernel)) (by decide +kernel) (by decide +kernel) (by decide) (fun _ _ h => by rw [h.1]; rfl) (fun _ U U' hal hh h => ⟨h.1, h.2.1.mv hal hh, h.2.2.1.al hal, h.2.2.2.1.al hal, h.2.2.2.2.1.mv hal hh, h.2.2.2.2.2.1.there hal hh, h.2.2.2.2.2.2⟩) (fun r U U' V V' h1 hal h2 h => Got.mv r U U' V V' h1 hal h2 h) ?_
  intro p e s m args below meth c s₁ X0 hexec hbytes hml hret hlk hnm hown hh0 W hP
  obtain ⟨rfl, hB, f1, f2, hA, s1, hz, l0, l2, hp⟩ := hP
  have c1 : Steps p.tables e below (s₁.setTop (entryFrame m #[.ref a, .ref b] 2)) (s₁.setTop (mkF m 0 #[.val (.ref a), .val (.ref b)] [])) := entry rfl
  have c2 : Steps p.tables e below (s₁.setTop (entryFrame m #[.ref a, .ref b] 2)) (s₁.setTop (mkF m 6 #[.val (.ref a), .val (.ref b)] [.null, .int (Int32.ofNat A.slots.size), .int 0, .ref b, .ref a])) := c1.trans (by
    refine XS.aloadN X0.here hexec rfl (hb hbytes d0) rfl rfl ?_
    refine XS.aloadN X0.here hexec rfl (hb hbytes d1) rfl rfl ?_
    refine iconstV X0.here hexec rfl 0 (hb hbytes d2) (by decide) ?_
    refine XS.aloadN X0.here hexec rfl (hb hbytes d3) rfl rfl ?_
    refine X0.alen hexec (hA.1.mv X0.warmed.alike hh0) rfl rfl (hb hbytes d4) ?_
    refine XS.aconstNull X0.here hexec rfl (hb hbytes d5) ?_
    exact Steps.refl _)
  obtain ⟨v3, T3, X3, E3, g3⟩ := X0.callN hexec (New4.law l a D fV fC b A z 0 A.slots.size) rfl hown (wks W (initW "java/lang/String" 27 New4.yN)) (W New4.tab (by simp only [site, List.mem_cons, List.mem_append, true_or, or_true])) (W := 0) (Nat.le_of_ble_eq_true rfl) (Nat.le_of_ble_eq_true rfl) (Nat.le_refl _) (by show 0 + A.slots.size ≤ A.slots.size; omega) (g := (mkF m 6 #[.val (.ref a), .val (.ref b)] [.null, .int (Int32.ofNat A.slots.size), .int (Int32.ofNat 0), .ref b, .ref a])) rfl (by rw [hml]; rfl) c2 (argsL := [.ref b, .int (Int32.ofNat 0), .int (Int32.ofNat A.slots.size), .null]) (rest := []) rfl rfl (by show 2 * 0 + 0 ≤ _; decide) (hb hbytes d6) (⟨rfl, hB.mv X0.warmed.alike hh0, f1.al X0.warmed.alike, f2.al X0.warmed.alike, hA.mv X0.warmed.alike hh0, s1.there X0.warmed.alike hh0, hz, l0, by omega, l2, fun i hi => by rw [Nat.zero_add]; exact hp i hi⟩)
  have e0 := Got.mv _ s₁ s _ _ hh0.symm (Vm.Alike.refl _) rfl E3
  obtain rfl := e0.1
  have c4 : Steps p.tables e below (s₁.setTop (entryFrame m #[.ref a, .ref b] 2)) (T3.setTop (mkF m 9 #[.val (.ref a), .val (.ref b)] [])) := g3
  exact ⟨T3, none, _, _, _, X3, by simp, rfl, by omega, (fun _ => rfl), e0, fun fs hl => c4.trans (X3.returnOut hexec hret (hb hbytes d9) hl)⟩
theorem pays {l : Launch} {R : Room} {p : Program} {e : Env} {below : List Frame} {s : State} {sargs : Array Value} {len W : Nat} (a : Addr) (D : Cell) (fV fC : Field) (b : Addr) (A : Cell) (z : Int32) (htab : tab.before sargs s = true) (hfr : 4 ≤ R.frames) (hlo : W + 65 ≤ R.locals) :
    Back l R p e below s sargs yN len W (fun A₁ a₁ => A₁.cells + 1 ≤ R.cells ∧ A₁.slots + A.slots.size ≤ R.slots ∧ P a D fV fC b A z a₁ A₁.U) (fun A₁ _ v₁ B₁ => E a D fV fC A v₁ A₁.U B₁.U ∧ B₁.locs = A₁.locs ++ [⟨a, fC.slot⟩, ⟨a, fV.slot⟩] ∧ B₁.cells = A₁.cells + 1 ∧ B₁.slots = A₁.slots + A.slots.size) :=
  (law l a D fV fC b A z).pays htab hfr (by omega)
end New1
/-- the byte, read back as charAt reads it, is the char -/
theorem lo8_mask {x : Int32} (h0 : ¬ x < 0) (h1 : ¬ 255 < x) : lo8 x &&& 255 = x := by
  have t : ∀ k : Fin 256, lo8 (Int32.ofNat k.val) &&& 255 = Int32.ofNat k.val := by decide +kernel
  rw [Int32.lt_iff_toInt_lt] at h0 h1
  have e0 : (0 : Int32).toInt = 0 := rfl
  have e1 : (255 : Int32).toInt = 255 := rfl
  obtain ⟨k, hk⟩ : ∃ k : Nat, x.toInt = k := ⟨x.toInt.toNat, by omega⟩
  have hx : x = Int32.ofNat k := Int32.toInt_inj.mp (by rw [hk, Int32.toInt_ofNat_small (by omega)])
  rw [hx]
  exact t ⟨k, by omega⟩
end StrChars
namespace StrChars.Road
open Jvm Sem ClassFile Op Lib Jvm.Stand Jvm.Free Jvm.Free.XT
open Jvm.Lib.Cold (StaticIs)
abbrev ST : String := "java/lang/String"
/-- every table word that New1's law asks, flat -/
abbrev words : List Jvm.Cond := [.code New1.yN New1.yB 2 none, .initialized ST, .methodLink ST 27 New4.yN, .instanceMethod New4.yN,
  .code New4.yN New4.yB 6 none, .fieldLink ST 38 ST "COMPACT_STRINGS" "Z", .laysFinal ST ST "value" "[B", .fieldLink ST 9 ST "value" "[B", .laysFinal ST ST "coder" "B", .fieldLink ST 15 ST "coder" "B",
  .methodLink ST 1 Lib.objectInit, .instanceMethod Lib.objectInit, .code Lib.objectInit ⟨#[0xb1]⟩ 1 none, .methodLink ST 177 Cmp3.yN, .static Cmp3.yN, .methodLink ST 47 CodL.yN, .static CodL.yN,
  .code Cmp3.yN Cmp3.yB 6 (some (.array .byte)), .initialized U16, .arrayClass .byte, .methodLink U16 115 Cmp5.yN, .static Cmp5.yN, .code Cmp5.yN Cmp5.yB 7 (some .int), .code CodL.yN CodL.yB 2 (some .byte)]
theorem tab_of {a : Array Value} {s : State} (h : ∀ w ∈ words, w.before a s = true) : New1.tab.before a s = true := by
  have h5 : Cmp5.tab.before a s = true := unparts (wk h (.code Cmp5.yN Cmp5.yB 7 (some .int))) (wks h (.initialized Cmp5.yN.cls :: Cmp5.site))
  have hc : CodL.tab.before a s = true := unparts (wk h (.code CodL.yN CodL.yB 2 (some .byte))) (wks h (.initialized CodL.yN.cls :: CodL.site))
  have q5 : ∀ w ∈ Cmp5.tab :: words, w.before a s = true := fun w hw => (List.mem_cons.mp hw).elim (fun e => e ▸ h5) (h w)
  have h3 : Cmp3.tab.before a s = true := unparts (wk q5 (.code Cmp3.yN Cmp3.yB 6 (some (.array .byte)))) (wks q5 (.initialized Cmp3.yN.cls :: Cmp3.site))
  have q3 : ∀ w ∈ Cmp3.tab :: CodL.tab :: words, w.before a s = true := fun w hw => (List.mem_cons.mp hw).elim (fun e => e ▸ h3) fun hw => (List.mem_cons.mp hw).elim (fun e => e ▸ hc) (h w)
  have h4 : New4.tab.before a s = true := unparts (wk q3 (.code New4.yN New4.yB 6 none)) (wks q3 (.initialized New4.yN.cls :: New4.site))
  have q4 : ∀ w ∈ New4.tab :: words, w.before a s = true := fun w hw => (List.mem_cons.mp hw).elim (fun e => e ▸ h4) (h w)
  exact unparts (wk q4 (.code New1.yN New1.yB 2 none)) (wks q4 (.initialized New1.yN.cls :: New1.site))
/-- the words ride from the start Z to the walk's own state -/
theorem moved {Z s : State} {a0 args : Array Value} (hZ : Z.Warmed39 s.vm) (hw : ∀ d ∈ words, d.before a0 Z = true) : ∀ d ∈ words, d.before args s = true := fun d hd => by
  have q := hw d hd
  have t : ∀ d ∈ words, d = .arrayClass .byte ∨ (d.onTables && d.keepsFace) = true := by decide +kernel
  rcases t d hd with rfl | t
  · exact RoadKit.mvA hZ q
  · exact RoadKit.mv hZ q t
/-- WHAT COMES BACK, over the tables of the start Z: h the heap at the call, h' behind it -/
def Q (Z : State) (x : Addr) (A : Cell) (h : Heap) (v : Option Value) (h' : Heap) (L : List Loc) : Prop := v = none ∧ (∀ y ∈ L, y.base = x) ∧ RoadKit.Keep h h' [x] ∧ h'.size = h.size + 1 ∧ RoadKit.Exa Z h' x ST ∧ RoadKit.Fld Z h' x ST "value" "[B" (.ref h.size) ∧ RoadKit.Fld Z h' x ST "coder" "B" (.int 0) ∧
  (∃ V : Cell, RoadKit.Arr Z h' h.size V .byte ∧ V.vm = .none ∧ Z.vm.findClass "[B" = some V.cls ∧ V.slots.size = A.slots.size ∧ ∀ j, j < A.slots.size → V.slots[j]? = some (.int (lo8 (cv A j)))) ∧
  ∀ (O n d : String) (w : Value), RoadKit.Fld Z h x O n d w → RoadKit.slotOf Z O n d ≠ RoadKit.slotOf Z ST "value" "[B" → RoadKit.slotOf Z O n d ≠ RoadKit.slotOf Z ST "coder" "B" → RoadKit.Fld Z h' x O n d w
/-- **new String(chars) AT A CALL, IN THE ROAD'S FORM**: for specialBack behind newO: x the fresh String, b the char[] with the cell A -/
theorem back {p : Program} {l : Launch} {e : Env} {R : Room} {s : State} {args : Array Value} {below : List Frame} {len W : Nat} {Z : State} {a0 : Array Value} {h : Heap} (hZ : Z.Warmed39 s.vm) (hw : ∀ d ∈ words, d.before a0 Z = true) {kI : Nat} (wi : (Jvm.Cond.instantiable ST kI).before a0 Z = true)
    {x b : Addr} {A : Cell} {z : Int32} {v0 c0 : Value} (E : RoadKit.Exa Z h x ST) (V : RoadKit.Fld Z h x ST "value" "[B" v0) (C : RoadKit.Fld Z h x ST "coder" "B" c0) (K : RoadKit.Arr Z h b A .char) (hty : Typed .char A) (S : RoadKit.Sta Z h ST "COMPACT_STRINGS" "Z" (.int z)) (hz : ¬ z = 0)
    (l0 : 0 < A.slots.size) (l2 : A.slots.size ≤ 536870912) (hp : ∀ i, i < A.slots.size → ¬ 255 < cv A i) (hfr : 4 ≤ R.frames) (hlo : W + 65 ≤ R.locals) :
    Back l R p e below s args New1.yN len W (fun P a => a = #[.ref x, .ref b] ∧ P.U.heap = h ∧ P.cells + 1 ≤ R.cells ∧ P.slots + A.slots.size ≤ R.slots)
      (fun P _ v B => ∃ L, Q Z x A h v B.U.heap L ∧ B.locs = P.locs ++ L ∧ B.cells = P.cells + 1 ∧ B.slots = P.slots + A.slots.size) := by
  intro m meth c P g ig mk a X hg hsize hdg hW hn hp'
  obtain ⟨rfl, rfl, r1, r2⟩ := hp'
  have al : Z.vm.Alike P.U.vm := hZ.alike.trans X.warmed.alike
  obtain ⟨D, cfV, kV, iV, fV, hD, gV, stV, knV, obV, asV, slV⟩ := id V
  obtain ⟨D', cfC, kC, iC, fC, hD', gC, stC, -, -, asC, slC⟩ := id C
  cases hD.symm.trans hD'
  obtain ⟨D2, kD, e1, e2, e3, e4, e5⟩ := id E
  cases hD.symm.trans e1
  obtain ⟨c2, k2, i1, i2, i3, -⟩ := Cond.instantiable_spec wi
  cases e2.symm.trans i1
  cases e3.symm.trans i2
  obtain ⟨kU, u1, u2⟩ := al.2.2 _ _ e3
  have hB : Blank ST x D P.U := ⟨hD, ⟨knV, fun q hq => by rw [hq] at obV; cases obV⟩, by rw [al.findClass]; exact e2, kU, u1, by rw [u2]; exact i3, by rw [u2]; exact e5 i3⟩
  have F1 : Found ST "value" "[B" fV P.U := ⟨SBG.found_only al ⟨cfV, kV, iV, gV⟩, stV⟩
  have F2 : Found ST "coder" "B" fC P.U := ⟨SBG.found_only al ⟨cfC, kC, iC, gC⟩, stC⟩
  have hA : Ch b A P.U := ⟨⟨K.1, State.isArrayOf_alike al K.2.1, K.2.2, by omega⟩, hty⟩
  have hS : StaticIs P.U ST "COMPACT_STRINGS" "Z" (.int z) := by
    obtain ⟨cfS, iS, kS, fS, st, cS, t1, t2, t3, t4, t5, t6, t7⟩ := S
    exact StaticIs.there (s := { Z with heap := P.U.heap }) ⟨cfS, iS, kS, fS, st, cS, t1, t2, t3, t4, t5, (fun q => by rw [q] at t6; cases t6), t7⟩ al rfl
  obtain ⟨v, B, X', ⟨⟨hv, E', V', q1, q2, q3, q4, q5, q6, q7, q8, q9, q10, q11⟩, hl, hc, hs⟩, st⟩ := New1.pays x D fV fC b A z (tab_of (moved hZ hw)) hfr hlo m meth c P g ig mk _ X hg hsize hdg hW hn ⟨r1, r2, rfl, hB, F1, F2, hA, hS, hz, l0, l2, hp⟩
  have al' : Z.vm.Alike B.U.vm := hZ.alike.trans X'.warmed.alike
  have hsz : E'.slots.size = D.slots.size := by
    obtain ⟨-, -, -, kB, w1, w2, w3⟩ := q1
    obtain ⟨kB', y1, y2⟩ := al'.2.2 _ _ e3
    rw [q2.2.1] at w1
    cases w1.symm.trans y1
    rw [w3, e5 i3, y2]
  refine ⟨v, B, X', ⟨_, ⟨hv, ?_, ⟨by omega, fun y cy hy hn' => q10 y cy (by simpa using hn') hy, fun y cy hy => ?_⟩, q11, ⟨E', _, q1.1, by rw [q2.2.1]; exact e2, by rw [q2.2.1]; exact e3, by rw [q2.1]; exact obV, fun _ => by rw [hsz]; exact e5 i3⟩,
    ⟨E', cfV, kV, iV, fV, q1.1, gV, stV, by rw [q2.1]; exact knV, by rw [q2.1]; exact obV, by rw [q2.2.1]; exact asV, q3⟩, ⟨E', cfC, kC, iC, fC, q1.1, gC, stC, by rw [q2.1]; exact knV, by rw [q2.1]; exact obV, by rw [q2.2.1]; exact asC, q4⟩,
    ⟨V', ⟨q5.1, State.isArrayOf_alike al'.symm q5.2.1, q5.2.2.1⟩, q6, by rw [← al'.findClass]; exact q7, q8, fun j hj => by have := q9 j hj; rwa [Nat.zero_add] at this⟩, fun O n d w F n1 n2 => ?_⟩, hl, hc, hs⟩, st⟩
  · intro y hy
    simp only [List.mem_cons, List.not_mem_nil, or_false] at hy
    rcases hy with rfl | rfl <;> rfl
  · by_cases q : y = x
    · subst q
      cases hD.symm.trans hy
      exact ⟨E', q1.1, q2.2.1, q2.1, hsz⟩
    · exact ⟨cy, q10 y cy q hy, rfl, rfl, rfl⟩
  · obtain ⟨D3, cf, k, i, f, g1, g2, g3, g4, g5, g6, g7⟩ := F
    cases hD.symm.trans g1
    simp only [RoadKit.slotOf, g2, gV, gC, Option.map_some, Option.getD_some] at n1 n2
    exact ⟨E', cf, k, i, f, q1.1, g2, g3, by rw [q2.1]; exact g4, by rw [q2.1]; exact g5, by rw [q2.2.1]; exact g6, by rw [q2.2.2 f.slot (by simp [n1, n2])]; exact g7⟩
end StrChars.Road
namespace StrChars.Road
open Jvm Sem ClassFile Op Lib Jvm.Stand Jvm.Free Jvm.Free.XT
/-- WHAT COMES BACK, the byte[] as a list of values -/
def QA (Z : State) (x : Addr) (zn : Int32) (cs : List Int32) (h : Heap) (v : Option Value) (h' : Heap) (L : List Loc) : Prop := v = none ∧ (∀ y ∈ L, y.base = x) ∧ RoadKit.Keep h h' [x] ∧ h'.size = h.size + 1 ∧ RoadKit.Exa Z h' x ST ∧ RoadKit.Fld Z h' x ST "value" "[B" (.ref h.size) ∧ RoadKit.Fld Z h' x ST "coder" "B" (.int 0) ∧
  (∃ kb, Z.vm.findClass "[B" = some kb ∧ RoadKit.Arv Z h' h.size kb .byte zn (cs.map fun c => .int (lo8 c)) (.int 0)) ∧
  ∀ (O n d : String) (w : Value), RoadKit.Fld Z h x O n d w → RoadKit.slotOf Z O n d ≠ RoadKit.slotOf Z ST "value" "[B" → RoadKit.slotOf Z O n d ≠ RoadKit.slotOf Z ST "coder" "B" → RoadKit.Fld Z h' x O n d w
/-- **new String(chars) AT A CALL, THE ARRAYS AS LISTS**: the char[] at b holds cs, not empty, no char above 255 -/
theorem backArv {p : Program} {l : Launch} {e : Env} {R : Room} {s : State} {args : Array Value} {below : List Frame} {len W : Nat} {Z : State} {a0 : Array Value} {h : Heap} (hZ : Z.Warmed39 s.vm) (hw : ∀ d ∈ words, d.before a0 Z = true) {kI : Nat} (wi : (Jvm.Cond.instantiable ST kI).before a0 Z = true)
    {x b : Addr} {k : ClassId} {zn z : Int32} {cs : List Int32} {dv v0 c0 : Value} (E : RoadKit.Exa Z h x ST) (V : RoadKit.Fld Z h x ST "value" "[B" v0) (C : RoadKit.Fld Z h x ST "coder" "B" c0) (K : RoadKit.Arv Z h b k .char zn (cs.map Value.int) dv) (S : RoadKit.Sta Z h ST "COMPACT_STRINGS" "Z" (.int z)) (hz : ¬ z = 0)
    (hlen : zn.toNatClampNeg = cs.length) (h0 : 0 < cs.length) (hbig : cs.length ≤ 536870912) (hall : ∀ c ∈ cs, ¬ 255 < c) (hfr : 4 ≤ R.frames) (hlo : W + 65 ≤ R.locals) :
    Back l R p e below s args New1.yN len W (fun P a => a = #[.ref x, .ref b] ∧ P.U.heap = h ∧ P.cells + 1 ≤ R.cells ∧ P.slots + cs.length ≤ R.slots)
      (fun P _ v B => ∃ L, QA Z x zn cs h v B.U.heap L ∧ B.locs = P.locs ++ L ∧ B.cells = P.cells + 1 ∧ B.slots = P.slots + cs.length) := by
  obtain ⟨A, K1, K2, K3, K4, K5, K6⟩ := K
  have e : A.slots.size = cs.length := K3.trans hlen
  have hat : ∀ (i : Nat) (hi : i < cs.length), A.slots[i]? = some (.int cs[i]) := fun i hi => by rw [K5 i (by omega)]; simp [List.getD_eq_getElem?_getD, hi]
  have hcv : ∀ (i : Nat) (hi : i < cs.length), cv A i = cs[i] := fun i hi => by unfold cv; rw [hat i hi]
  have hty : Typed .char A := fun i v hv => by
    have hi : i < A.slots.size := (Array.getElem?_eq_some_iff.mp hv).1
    have q := K5 i hi
    rw [hv] at q
    rw [Option.some.inj q]
    exact K6 i hi
  refine Back.mono (back hZ hw wi E V C K1 hty S hz (by omega) (by omega) (fun i hi => by rw [hcv i (by omega)]; exact hall _ (List.getElem_mem _)) hfr hlo) (fun P a hp => ⟨hp.1, hp.2.1, hp.2.2.1, by rw [e]; exact hp.2.2.2⟩) (fun P a v B hp hq => ?_)
  obtain ⟨L, ⟨q1, q2, q3, q4, q5, q6, q7, ⟨V', v1, v2, v3, v4, v5⟩, q9⟩, hl, hc, hs⟩ := hq
  refine ⟨L, ⟨q1, q2, q3, q4, q5, q6, q7, ⟨V'.cls, v3, V', v1, rfl, by rw [v4, e, hlen], K4, fun i hi => ?_, fun i hi => ?_⟩, q9⟩, hl, hc, by rw [hs, e]⟩
  · have hi' : i < cs.length := by omega
    rw [v5 i (by omega), hcv i hi']; simp [List.getD_eq_getElem?_getD, hi']
  · have hi' : i < cs.length := by omega
    simp only [List.getD_eq_getElem?_getD, List.getElem?_map, List.getElem?_eq_getElem hi', Option.map_some, Option.getD_some]
    exact fits_lo8 _
end StrChars.Road
namespace StrChars.Road
open Jvm Sem ClassFile Op Lib Jvm.Stand Jvm.Free Jvm.Free.XT
/-- WHAT COMES BACK, in the writer's own shape -/
def QV (Z : State) (x : Addr) (N : Int32) (bs : List Int32) (h : Heap) (n0 : Nat) (v : Option Value) (h' : Heap) (L : List Loc) : Prop := v = none ∧ RoadKit.Fr n0 L ∧ RoadKit.Keep h h' [x] ∧ RoadKit.Exa Z h' x ST ∧ RoadKit.Fld Z h' x ST "coder" "B" (.int 0) ∧
  ∃ (t : Addr) (kb : ClassId), n0 ≤ t ∧ h.size ≤ t ∧ ¬ t = x ∧ RoadKit.Fld Z h' x ST "value" "[B" (.ref t) ∧ RoadKit.Arv Z h' t kb .byte N (bs.map Value.int) (.int 0)
/-- **new String(chars) AT A CALL, FOR THE WRITER**: a char[] of n known ints, each 0 to 255 -/
theorem backV {p : Program} {l : Launch} {e : Env} {R : Room} {s : State} {args : Array Value} {below : List Frame} {len W : Nat} {Z : State} {a0 : Array Value} {h : Heap} (hZ : Z.Warmed39 s.vm) (hw : ∀ d ∈ words, d.before a0 Z = true) {kI : Nat} (wi : (Jvm.Cond.instantiable ST kI).before a0 Z = true)
    {x b : Addr} {kC : ClassId} {cs bs : List Int32} {d v0 c0 : Value} {z N : Int32} {n n0 : Nat} (hx0 : n0 ≤ x) (hh0 : n0 ≤ h.size) (E : RoadKit.Exa Z h x ST) (V : RoadKit.Fld Z h x ST "value" "[B" v0) (C : RoadKit.Fld Z h x ST "coder" "B" c0) (K : RoadKit.Arv Z h b kC .char N (cs.map Value.int) d) (S : RoadKit.Sta Z h ST "COMPACT_STRINGS" "Z" (.int z)) (hz : ¬ z = 0)
    (hn : cs.length = n) (hN : N = Int32.ofNat n) (l0 : 0 < n) (l2 : n ≤ 4000) (hp : ∀ c ∈ cs, ¬ c < 0 ∧ ¬ (255 : Int32) < c) (hb : bs = cs.map (fun c => c.toInt8.toInt32)) (hfr : 4 ≤ R.frames) (hlo : W + 65 ≤ R.locals) :
    Back l R p e below s args (⟨"java/lang/String", "<init>", "([C)V"⟩ : MethodName) len W (fun P a => a = #[.ref x, .ref b] ∧ P.U.heap = h ∧ P.cells + 1 ≤ R.cells ∧ P.slots + n ≤ R.slots)
      (fun P _ v B => ∃ L, QV Z x N bs h n0 v B.U.heap L ∧ B.locs = P.locs ++ L ∧ B.cells = P.cells + 1 ∧ B.slots = P.slots + n) := by
  subst hn hN hb
  refine Back.mono (backArv hZ hw wi E V C K S hz (n32 (by omega)) l0 (by omega) (fun c hc => (hp c hc).2) hfr hlo) (fun P a hp => hp) (fun P a v B hp hq => ?_)
  obtain ⟨L, ⟨q1, q2, q3, q4, q5, q6, q7, ⟨kb, v1, v2⟩, q9⟩, hl, hc, hs⟩ := hq
  exact ⟨L, ⟨q1, fun y hy => by rw [q2 y hy]; exact hx0, q3, q5, q7, h.size, kb, hh0, Nat.le_refl _, Nat.ne_of_gt E.lt, q6, by rw [List.map_map]; exact v2⟩, hl, hc, hs⟩
end StrChars.Road
namespace StrChars
open Jvm Sem ClassFile Op Lib Jvm.Stand Jvm.Free.XT Jvm.Free.ALB Jvm.Free.JM Jvm.Free
open Jvm.Lib.Cold (StaticIs)
def hi8 (x : Int32) : Int32 := lo8 (x >>> ((8 : Int32) &&& 31))
/-- what StringUTF16.getChar makes of two bytes -/
def pairCh (u v : Int32) : Int32 := (((u &&& 255) <<< ((0 : Int32) &&& 31)) ||| ((v &&& 255) <<< ((8 : Int32) &&& 31))).toUInt32.toUInt16.toUInt32.toInt32
theorem lo8_and (x : Int32) : (lo8 x &&& 255).toBitVec.toNat = x.toBitVec.toNat % 256 := by
  have h : (lo8 x).toBitVec = (x.toBitVec.signExtend 8).signExtend 32 := by rw [lo8, Int8.toBitVec_toInt32, Int32.toBitVec_toInt8]
  rw [Int32.toBitVec_and, BitVec.toNat_and, h]
  have e : ((x.toBitVec.signExtend 8).signExtend 32).toNat % 256 = x.toBitVec.toNat % 256 := by
    rw [BitVec.toNat_signExtend]
    have hlt := x.toBitVec.isLt
    simp only [BitVec.toNat_setWidth, BitVec.toNat_signExtend]
    split <;> split <;> omega
  rw [← e]
  exact Nat.and_two_pow_sub_one_eq_mod _ 8
theorem pair_says {c : Int32} (h0 : ¬ c < 0) (h1 : ¬ 65535 < c) : pairCh (lo8 c) (hi8 c) = c := by
  rw [Int32.lt_iff_toInt_lt] at h0 h1
  have e0 : (0 : Int32).toInt = 0 := rfl
  have e1 : (65535 : Int32).toInt = 65535 := rfl
  have hc : c.toInt = c.toBitVec.toNat := by
    have := c.toBitVec.isLt
    have e : c.toInt = c.toBitVec.toInt := rfl
    rw [e] at h0 h1
    rw [e]
    rw [BitVec.toInt_eq_toNat_cond] at h0 h1 ⊢
    split at h0 <;> split <;> omega
  have hn : c.toBitVec.toNat < 65536 := by omega
  have a1 := lo8_and c
  have a2 : (hi8 c &&& 255).toBitVec.toNat = c.toBitVec.toNat / 256 := by
    rw [hi8, lo8_and]
    have e : ((8 : Int32) &&& 31) = 8 := by decide
    rw [e, Int32.toBitVec_shiftRight]
    have e2 : ((8 : Int32).toBitVec.smod 32) = 8#32 := by decide
    rw [e2, BitVec.sshiftRight_eq', BitVec.toNat_sshiftRight_of_msb_false (by rw [BitVec.msb_eq_false_iff_two_mul_lt]; omega)]
    show c.toBitVec.toNat >>> 8 % 256 = _
    rw [Nat.shiftRight_eq_div_pow]
    omega
  unfold pairCh
  apply Int32.toBitVec_inj.mp
  apply BitVec.eq_of_toNat_eq
  have f0 : ((0 : Int32) &&& 31) = 0 := by decide
  have f8 : ((8 : Int32) &&& 31) = 8 := by decide
  rw [f0, f8]
  have g : (((lo8 c &&& 255) <<< (0 : Int32)) ||| ((hi8 c &&& 255) <<< (8 : Int32))).toBitVec.toNat = c.toBitVec.toNat := by
    rw [Int32.toBitVec_or, Int32.toBitVec_shiftLeft, Int32.toBitVec_shiftLeft]
    have s0 : ((0 : Int32).toBitVec.smod 32) = 0#32 := by decide
    have s8 : ((8 : Int32).toBitVec.smod 32) = 8#32 := by decide
    rw [s0, s8, BitVec.toNat_or]
    simp only [BitVec.shiftLeft_eq', BitVec.toNat_shiftLeft, a1, a2]
    show (c.toBitVec.toNat % 256) <<< 0 % 2 ^ 32 ||| (c.toBitVec.toNat / 256) <<< 8 % 2 ^ 32 = _
    rw [Nat.shiftLeft_zero, Nat.mod_eq_of_lt (show c.toBitVec.toNat % 256 < 2 ^ 32 by omega), Nat.mod_eq_of_lt (show (c.toBitVec.toNat / 256) <<< 8 < 2 ^ 32 by rw [Nat.shiftLeft_eq]; omega), Nat.or_comm, ← Nat.shiftLeft_add_eq_or_of_lt (by omega), Nat.shiftLeft_eq]
    omega
  show BitVec.toNat (((((lo8 c &&& 255) <<< (0 : Int32)) ||| ((hi8 c &&& 255) <<< (8 : Int32))).toBitVec.setWidth 16).setWidth 32) = _
  rw [BitVec.toNat_setWidth, BitVec.toNat_setWidth, g]
  omega
end StrChars
namespace StrChars
open Jvm Sem ClassFile Op Lib Jvm.Stand Jvm.Free.XT Jvm.Free.ALB Jvm.Free.JM Jvm.Free
open Jvm.Lib.Cold (StaticIs)
/-- the array's cell V codes the n chars f 0 .. f (n - 1) by the coder cd, as the JDK does: coder 1 just where some char is above 255 -/
def Cod (cd : Int32) (n : Nat) (f : Nat → Int32) (V : Cell) : Prop := (cd = 0 ∧ V.slots.size = n ∧ ∀ j, j < n → V.slots[j]? = some (.int (lo8 (f j))) ∧ ¬ 255 < f j) ∨ (cd = 1 ∧ V.slots.size = 2 * n ∧ (∀ j, j < n → V.slots[2 * j]? = some (.int (lo8 (f j))) ∧ V.slots[2 * j + 1]? = some (.int (hi8 (f j)))) ∧ ∃ j, j < n ∧ 255 < f j)
/-- **x is a String of the n chars f 0 .. f (n - 1)**, Latin-1 or UTF-16; its array at t has the cell V -/
def Txt (x t : Addr) (V : Cell) (cd : Int32) (n : Nat) (f : Nat → Int32) (U : State) : Prop := Exact "java/lang/String" x U ∧ Has x "java/lang/String" "value" "[B" (.ref t) U ∧ Has x "java/lang/String" "coder" "B" (.int cd) U ∧ XT.Arr .byte t V U ∧ Cod cd n f V ∧ ∀ j, j < n → ¬ f j < 0 ∧ ¬ 65535 < f j
theorem Txt.mv {x t : Addr} {V : Cell} {cd : Int32} {n : Nat} {f : Nat → Int32} {U U' : State} (h : Txt x t V cd n f U) (hal : U.vm.Alike U'.vm) (hh : U'.heap = U.heap) : Txt x t V cd n f U' := ⟨h.1.mv hal hh, h.2.1.mv hal hh, h.2.2.1.mv hal hh, h.2.2.2.1.mv hal hh, h.2.2.2.2⟩
end StrChars
namespace StrChars.Road
open Jvm Sem ClassFile Op Lib Jvm.Stand Jvm.Free Jvm.Free.XT
open Jvm.Lib.Cold (StaticIs)
theorem consq {a : Array Value} {s : State} {c : Jvm.Cond} {L : List Jvm.Cond} (h0 : c.before a s = true) (h : ∀ w ∈ L, w.before a s = true) : ∀ w ∈ c :: L, w.before a s = true := fun w hw => (List.mem_cons.mp hw).elim (fun e => e ▸ h0) (h w)
/-- the bytes of the chars cs, low before high -/
def wideBytes : List Int32 → List Value
  | [] => []
  | c :: cs => .int (lo8 c) :: .int (hi8 c) :: wideBytes cs
theorem wide_lo (d : Value) : ∀ (cs : List Int32) (j : Nat), j < cs.length → (wideBytes cs).getD (2 * j) d = .int (lo8 (cs.getD j 0))
  | [], j, h => absurd h (Nat.not_lt_zero j)
  | c :: cs, 0, _ => rfl
  | c :: cs, j + 1, h => by
    have q := wide_lo d cs j (by simpa using h)
    rw [show 2 * (j + 1) = 2 * j + 1 + 1 from by omega]
    simpa [wideBytes] using q
theorem wide_hi (d : Value) : ∀ (cs : List Int32) (j : Nat), j < cs.length → (wideBytes cs).getD (2 * j + 1) d = .int (hi8 (cs.getD j 0))
  | [], j, h => absurd h (Nat.not_lt_zero j)
  | c :: cs, 0, _ => rfl
  | c :: cs, j + 1, h => by
    have q := wide_hi d cs j (by simpa using h)
    rw [show 2 * (j + 1) + 1 = 2 * j + 1 + 1 + 1 from by omega]
    simpa [wideBytes] using q
theorem low_at (d : Value) (cs : List Int32) (j : Nat) (h : j < cs.length) : (cs.map fun c => Value.int (lo8 c)).getD j d = .int (lo8 (cs.getD j 0)) := by
  simp [List.getD_eq_getElem?_getD, h]
/-- an array of N2 bytes vs codes the chars cs by the coder cd -/
def CodA (cs : List Int32) (cd N2 : Int32) (vs : List Value) : Prop := (cd = 0 ∧ N2 = Int32.ofNat cs.length ∧ vs = (cs.map fun c => Value.int (lo8 c)) ∧ ∀ c ∈ cs, ¬ 255 < c) ∨ (cd = 1 ∧ N2 = Int32.ofNat (2 * cs.length) ∧ vs = wideBytes cs ∧ ∃ c ∈ cs, 255 < c)
theorem CodA.cod {cs : List Int32} {cd N2 : Int32} {vs : List Value} {V : Cell} (h : CodA cs cd N2 vs) (hn : 2 * cs.length < 2 ^ 31) (hs : V.slots.size = N2.toNatClampNeg) (hv : RoadKit.Has V vs (.int 0)) : Cod cd cs.length (fun j => cs.getD j 0) V := by
  rcases h with ⟨rfl, rfl, rfl, h⟩ | ⟨rfl, rfl, rfl, c, hc, hw⟩
  · rw [n32 (by omega)] at hs
    exact Or.inl ⟨rfl, hs, fun j hj => ⟨by rw [hv j (by omega), low_at _ _ _ hj], by
      have e : cs.getD j 0 = cs[j] := by simp [List.getD_eq_getElem?_getD, hj]
      show ¬ 255 < cs.getD j 0
      rw [e]; exact h _ (List.getElem_mem _)⟩⟩
  · rw [n32 (by omega)] at hs
    obtain ⟨j, hj, rfl⟩ := List.getElem_of_mem hc
    exact Or.inr ⟨rfl, hs, fun j hj => ⟨by rw [hv _ (by omega), wide_lo _ _ _ hj], by rw [hv _ (by omega), wide_hi _ _ _ hj]⟩, j, hj, by
      have e : cs.getD j 0 = cs[j] := by simp [List.getD_eq_getElem?_getD, hj]
      show 255 < cs.getD j 0
      rw [e]; exact hw⟩
/-- an object of exactly java/lang/String, its two fields found: as the laws ask it -/
theorem strObj {Z U : State} {a0 : Array Value} {kI : Nat} (wi : (Jvm.Cond.instantiable ST kI).before a0 Z = true) (al : Z.vm.Alike U.vm) {x : Addr} {v0 c0 : Value} (E : RoadKit.Exa Z U.heap x ST) (V : RoadKit.Fld Z U.heap x ST "value" "[B" v0) (C : RoadKit.Fld Z U.heap x ST "coder" "B" c0) :
    ∃ (D : Cell) (fV fC : Field), Blank ST x D U ∧ Found ST "value" "[B" fV U ∧ Found ST "coder" "B" fC U ∧ D.slots[fV.slot]? = some v0 ∧ D.slots[fC.slot]? = some c0 ∧ RoadKit.slotOf Z ST "value" "[B" = fV.slot ∧ RoadKit.slotOf Z ST "coder" "B" = fC.slot := by
  obtain ⟨D, cfV, kV, iV, fV, hD, gV, stV, knV, obV, asV, slV⟩ := V
  obtain ⟨D', cfC, kC, iC, fC, hD', gC, stC, -, -, asC, slC⟩ := C
  cases hD.symm.trans hD'
  obtain ⟨D2, kD, e1, e2, e3, e4, e5⟩ := E
  cases hD.symm.trans e1
  obtain ⟨c2, k2, i1, i2, i3, -⟩ := Cond.instantiable_spec wi
  cases e2.symm.trans i1
  cases e3.symm.trans i2
  obtain ⟨kU, u1, u2⟩ := al.2.2 _ _ e3
  exact ⟨D, fV, fC, ⟨hD, ⟨knV, fun q hq => by rw [hq] at obV; cases obV⟩, by rw [al.findClass]; exact e2, kU, u1, by rw [u2]; exact i3, by rw [u2]; exact e5 i3⟩, ⟨SBG.found_only al ⟨cfV, kV, iV, gV⟩, stV⟩, ⟨SBG.found_only al ⟨cfC, kC, iC, gC⟩, stC⟩, slV, slC, by simp [RoadKit.slotOf, gV], by simp [RoadKit.slotOf, gC]⟩
theorem sta_is {Z U : State} (al : Z.vm.Alike U.vm) {C n d : String} {v : Value} (S : RoadKit.Sta Z U.heap C n d v) : StaticIs U C n d v := by
  obtain ⟨cfS, iS, kS, fS, st, cS, t1, t2, t3, t4, t5, t6, t7⟩ := S
  exact StaticIs.there (s := { Z with heap := U.heap }) ⟨cfS, iS, kS, fS, st, cS, t1, t2, t3, t4, t5, (fun q => by rw [q] at t6; cases t6), t7⟩ al rfl
end StrChars.Road
namespace StrChars
open Jvm Sem ClassFile Op Lib Jvm.Stand Jvm.Free.XT Jvm.Free.ALB Jvm.Free.JM Jvm.Free
open Jvm.Lib.Cold (StaticIs)
/-- what place i of a byte[]'s cell holds -/
def yv (A : Cell) (i : Nat) : Int32 := match A.slots[i]? with | some (.int x) => x | _ => 0
theorem yv_get {a : Addr} {A : Cell} {U : State} (h : XT.Arr .byte a A U) (ht : Typed .byte A) {i : Nat} (hi : i < A.slots.size) : A.slots[i]? = some (.int (yv A i)) := by
  have e := Array.getElem?_eq_getElem hi
  have f := ht i _ e
  unfold yv; rw [e]
  generalize A.slots[i] = v at f
  cases v <;> simp [fits] at f ⊢
/-- the two arrays are equal, place for place -/
def EqC (A B : Cell) : Prop := A.slots.size = B.slots.size ∧ ∀ i, i < A.slots.size → yv A i = yv B i
/-- a boolean that says whether p -/
def Says01 (q : Prop) (r : Option Value) (s u : State) : Prop := ∃ v : Int32, r = some (.int v) ∧ u.heap = s.heap ∧ ((v = 1 ∧ q) ∨ (v = 0 ∧ ¬ q))
theorem Says01.mv {q : Prop} : ∀ r (U U' V V' : State), U'.heap = U.heap → V.vm.Alike V'.vm → V'.heap = V.heap → Says01 q r U V → Says01 q r U' V' :=
  fun r U U' V V' h1 _ h2 ⟨v, a, b, c⟩ => ⟨v, a, by rw [h1, h2]; exact b, c⟩
namespace LEq
def yN : MethodName := ⟨"java/lang/StringLatin1", "equals", "([B[B)Z"⟩
abbrev yB : ByteArray := jdk_43_method_13_code
theorem d0 : decode yB 0 = .ok (.aload_n 0, 1) := by decide +kernel
theorem d1 : decode yB 1 = .ok (.arraylength, 1) := by decide +kernel
theorem d2 : decode yB 2 = .ok (.aload_n 1, 1) := by decide +kernel
theorem d3 : decode yB 3 = .ok (.arraylength, 1) := by decide +kernel
theorem d4 : decode yB 4 = .ok (.if_icmp (.ne) 30, 3) := by decide +kernel
theorem d7 : decode yB 7 = .ok (.iconst 0, 1) := by decide +kernel
theorem d8 : decode yB 8 = .ok (.istore_n 2, 1) := by decide +kernel
theorem d9 : decode yB 9 = .ok (.iload_n 2, 1) := by decide +kernel
theorem d10 : decode yB 10 = .ok (.aload_n 0, 1) := by decide +kernel
theorem d11 : decode yB 11 = .ok (.arraylength, 1) := by decide +kernel
theorem d12 : decode yB 12 = .ok (.if_icmp (.ge) 20, 3) := by decide +kernel
theorem d15 : decode yB 15 = .ok (.aload_n 0, 1) := by decide +kernel
theorem d16 : decode yB 16 = .ok (.iload_n 2, 1) := by decide +kernel
theorem d17 : decode yB 17 = .ok (.baload, 1) := by decide +kernel
theorem d18 : decode yB 18 = .ok (.aload_n 1, 1) := by decide +kernel
theorem d19 : decode yB 19 = .ok (.iload_n 2, 1) := by decide +kernel
theorem d20 : decode yB 20 = .ok (.baload, 1) := by decide +kernel
theorem d21 : decode yB 21 = .ok (.if_icmp (.eq) 5, 3) := by decide +kernel
theorem d24 : decode yB 24 = .ok (.iconst 0, 1) := by decide +kernel
theorem d25 : decode yB 25 = .ok (.ireturn, 1) := by decide +kernel
theorem d26 : decode yB 26 = .ok (.iinc 2 1, 3) := by decide +kernel
theorem d29 : decode yB 29 = .ok (.goto (-20), 3) := by decide +kernel
theorem d32 : decode yB 32 = .ok (.iconst 1, 1) := by decide +kernel
theorem d33 : decode yB 33 = .ok (.ireturn, 1) := by decide +kernel
theorem d34 : decode yB 34 = .ok (.iconst 0, 1) := by decide +kernel
theorem d35 : decode yB 35 = .ok (.ireturn, 1) := by decide +kernel
def site : List Cond := []
def tab : Cond := tabOf yN yB 3 (some .boolean) site
def P (a : Addr) (A : Cell) (b : Addr) (B : Cell) (args : Array Value) (s : State) : Prop := args = #[.ref a, .ref b] ∧ XT.Arr .byte a A s ∧ Typed .byte A ∧ XT.Arr .byte b B s ∧ Typed .byte B
/-- whether two byte[] are equal, place for place -/
theorem law (l : Launch) (a : Addr) (A : Cell) (b : Addr) (B : Cell) : Law l yN 2 2 0 0 yB 3 (some .boolean) site (P a A b B) (Says01 (EqC A B)) [] 0 0 := by
  refine Law.of_walk (plainFor_of_name (by decide +kernel)) (by decide +kernel) (by decide +kernel) (by decide) (fun _ _ h => by rw [h.1]; rfl) (fun _ U U' hal hh h => ⟨h.1, h.2.1.mv hal hh, h.2.2.1, h.2.2.2.1.mv hal hh, h.2.2.2.2⟩) (fun r U U' V V' h1 hal h2 h => Says01.mv r U U' V V' h1 hal h2 h) ?_
  intro p e s m args below meth c s₁ X0 hexec hbytes hml hret hlk hnm hown hh0 W hP
  obtain ⟨rfl, hA, tA, hB, tB⟩ := hP
  have a31 := hA.2.2.2
  have b31 := hB.2.2.2
  have hA0 := hA.mv X0.warmed.alike hh0
  have hB0 := hB.mv X0.warmed.alike hh0
  have c1 : Steps p.tables e below (s₁.setTop (entryFrame m #[.ref a, .ref b] 3)) (s₁.setTop (mkF m 0 #[.val (.ref a), .val (.ref b), .unset] [])) := entry rfl
  have c2 : Steps p.tables e below (s₁.setTop (entryFrame m #[.ref a, .ref b] 3)) (s₁.setTop (mkF m 4 #[.val (.ref a), .val (.ref b), .unset] [.int (Int32.ofNat B.slots.size), .int (Int32.ofNat A.slots.size)])) := c1.trans (by
    refine XS.aloadN X0.here hexec rfl (hb hbytes d0) rfl rfl ?_
    refine X0.alen hexec hA0 rfl rfl (hb hbytes d1) ?_
    refine XS.aloadN X0.here hexec rfl (hb hbytes d2) rfl rfl ?_
    refine X0.alen hexec hB0 rfl rfl (hb hbytes d3) ?_
    exact Steps.refl _)
  by_cases hs : A.slots.size = B.slots.size
  · have c3 : Steps p.tables e below (s₁.setTop (entryFrame m #[.ref a, .ref b] 3)) (s₁.setTop (mkF m 9 #[.val (.ref a), .val (.ref b), .val (.int 0)] [])) := c2.trans (by
      refine XS.icmpNo X0.here hexec rfl (hb hbytes d4) rfl (ii_ne_f (by rw [hs])) ?_
      refine iconstV X0.here hexec rfl 0 (hb hbytes d7) (by decide) ?_
      refine XS.istoreN X0.here hexec rfl (hb hbytes d8) rfl rfl ?_
      exact Steps.refl _)
    have loop : ∀ (r i : Nat), i + r = A.slots.size → (∀ j, j < i → yv A j = yv B j) → Steps p.tables e below (s₁.setTop (entryFrame m #[.ref a, .ref b] 3)) (s₁.setTop (mkF m 9 #[.val (.ref a), .val (.ref b), .val (.int (Int32.ofNat i))] [])) → ∃ (pc : Nat) (Ls : Array Slot) (v : Int32), (pc = 25 ∨ pc = 33) ∧ ((v = 1 ∧ EqC A B) ∨ (v = 0 ∧ ¬ EqC A B)) ∧ Steps p.tables e below (s₁.setTop (entryFrame m #[.ref a, .ref b] 3)) (s₁.setTop (mkF m pc Ls [.int v])) := by
      intro r
      induction r with
      | zero =>
        intro i hi he cl
        exact ⟨33, _, 1, Or.inr rfl, Or.inl ⟨rfl, hs, fun j hj => he j (by omega)⟩, cl.trans (by
          refine XS.iloadN X0.here hexec rfl (hb hbytes d9) rfl ?_
          refine XS.aloadN X0.here hexec rfl (hb hbytes d10) rfl rfl ?_
          refine X0.alen hexec hA0 rfl rfl (hb hbytes d11) ?_
          refine XS.icmpYes X0.here hexec rfl (pc0 := 12) rfl (hb hbytes d12) rfl (ii_ge_t (nlt32 (by omega) (by omega))) (by decide) rfl ?_
          refine iconstV X0.here hexec rfl 1 (hb hbytes d32) (by decide) ?_
          exact Steps.refl _)⟩
      | succ r ih =>
        intro i hi he cl
        have c4 : Steps p.tables e below (s₁.setTop (entryFrame m #[.ref a, .ref b] 3)) (s₁.setTop (mkF m 21 #[.val (.ref a), .val (.ref b), .val (.int (Int32.ofNat i))] [.int (yv B i), .int (yv A i)])) := cl.trans (by
          refine XS.iloadN X0.here hexec rfl (hb hbytes d9) rfl ?_
          refine XS.aloadN X0.here hexec rfl (hb hbytes d10) rfl rfl ?_
          refine X0.alen hexec hA0 rfl rfl (hb hbytes d11) ?_
          refine XS.icmpNo X0.here hexec rfl (hb hbytes d12) rfl (ii_ge_f (lt32 (by omega) (by omega))) ?_
          refine XS.aloadN X0.here hexec rfl (hb hbytes d15) rfl rfl ?_
          refine XS.iloadN X0.here hexec rfl (hb hbytes d16) rfl ?_
          refine X0.aget hexec hA0 rfl (yv_get hA tA (i := i) (by omega)) rfl rfl (hb hbytes d17) ?_
          refine XS.aloadN X0.here hexec rfl (hb hbytes d18) rfl rfl ?_
          refine XS.iloadN X0.here hexec rfl (hb hbytes d19) rfl ?_
          refine X0.aget hexec hB0 rfl (yv_get hB tB (i := i) (by omega)) rfl rfl (hb hbytes d20) ?_
          exact Steps.refl _)
        by_cases hv : yv A i = yv B i
        · have c5 : Steps p.tables e below (s₁.setTop (entryFrame m #[.ref a, .ref b] 3)) (s₁.setTop (mkF m 9 #[.val (.ref a), .val (.ref b), .val (.int (Int32.ofNat i + 1))] [])) := c4.trans (by
            refine XS.icmpYes X0.here hexec rfl (pc0 := 21) rfl (hb hbytes d21) rfl (ii_eq_t hv) (by decide) rfl ?_
            refine iincV X0.here hexec rfl 1 (hb hbytes d26) (by decide) rfl rfl ?_
            refine XS.goto X0.here hexec rfl (pc0 := 29) rfl (hb hbytes d29) (by decide) rfl ?_
            exact Steps.refl _)
          rw [succ32] at c5
          exact ih (i + 1) (by omega) (fun j hj => by
            by_cases e : j = i
            · rw [e]; exact hv
            · exact he j (by omega)) c5
        · exact ⟨25, _, 0, Or.inl rfl, Or.inr ⟨rfl, fun q => hv (q.2 i (by omega))⟩, c4.trans (by
            refine XS.icmpNo X0.here hexec rfl (hb hbytes d21) rfl (ii_eq_f hv) ?_
            refine iconstV X0.here hexec rfl 0 (hb hbytes d24) (by decide) ?_
            exact Steps.refl _)⟩
    obtain ⟨pc, Ls, v, hpc, hv, cz⟩ := loop A.slots.size 0 (by omega) (fun j hj => absurd hj (Nat.not_lt_zero j)) c3
    have nv : narrow .boolean (.int v) = .int v := by rcases hv with ⟨rfl, -⟩ | ⟨rfl, -⟩ <;> rfl
    rcases hpc with rfl | rfl
    · exact ⟨s₁, some (.int v), _, _, _, X0, rfl, rfl, rfl, (fun h => by cases h), ⟨v, rfl, hh0, hv⟩, fun fs hl => cz.trans (X0.ireturnOut hexec hret nv (Or.inr (Or.inl rfl)) (hb hbytes d25) hl)⟩
    · exact ⟨s₁, some (.int v), _, _, _, X0, rfl, rfl, rfl, (fun h => by cases h), ⟨v, rfl, hh0, hv⟩, fun fs hl => cz.trans (X0.ireturnOut hexec hret nv (Or.inr (Or.inl rfl)) (hb hbytes d33) hl)⟩
  · have c3 : Steps p.tables e below (s₁.setTop (entryFrame m #[.ref a, .ref b] 3)) (s₁.setTop (mkF m 35 #[.val (.ref a), .val (.ref b), .unset] [.int 0])) := c2.trans (by
      refine XS.icmpYes X0.here hexec rfl (pc0 := 4) rfl (hb hbytes d4) rfl (ii_ne_t (ne32 a31 b31 hs)) (by decide) rfl ?_
      refine iconstV X0.here hexec rfl 0 (hb hbytes d34) (by decide) ?_
      exact Steps.refl _)
    exact ⟨s₁, some (.int 0), _, _, _, X0, rfl, rfl, rfl, (fun h => by cases h), ⟨0, rfl, hh0, Or.inr ⟨rfl, fun q => hs q.1⟩⟩, fun fs hl => c3.trans (X0.ireturnOut hexec hret rfl (Or.inr (Or.inl rfl)) (hb hbytes d35) hl)⟩
end LEq
theorem Cod.ty {cd : Int32} {n : Nat} {f : Nat → Int32} {V : Cell} (h : Cod cd n f V) : Typed .byte V := fun i v hv => by
  have hi : i < V.slots.size := (Array.getElem?_eq_some_iff.mp hv).1
  rcases h with ⟨-, k1, k2⟩ | ⟨-, k1, k2, -⟩
  · rw [(k2 i (by omega)).1] at hv; cases hv; exact fits_lo8 _
  · rcases Nat.mod_two_eq_zero_or_one i with e | e
    · obtain ⟨j, rfl⟩ : ∃ j, i = 2 * j := ⟨i / 2, by omega⟩
      rw [(k2 j (by omega)).1] at hv; cases hv; exact fits_lo8 _
    · obtain ⟨j, rfl⟩ : ∃ j, i = 2 * j + 1 := ⟨i / 2, by omega⟩
      rw [(k2 j (by omega)).2] at hv; cases hv; exact fits_lo8 _
/-- the same text -/
def SameT (n : Nat) (f : Nat → Int32) (k : Nat) (g : Nat → Int32) : Prop := n = k ∧ ∀ j, j < n → f j = g j
theorem lo8_inj {x y : Int32} (h0 : ¬ x < 0) (h1 : ¬ 255 < x) (k0 : ¬ y < 0) (k1 : ¬ 255 < y) (h : lo8 x = lo8 y) : x = y := by
  rw [← lo8_mask h0 h1, ← lo8_mask k0 k1, h]
/-- arrays coded by one coder are equal just where the texts are -/
theorem Cod.eqv {cd : Int32} {n k : Nat} {f g : Nat → Int32} {V V' : Cell} (h : Cod cd n f V) (h' : Cod cd k g V') (hf : ∀ j, j < n → ¬ f j < 0 ∧ ¬ 65535 < f j) (hg : ∀ j, j < k → ¬ g j < 0 ∧ ¬ 65535 < g j) : EqC V V' ↔ SameT n f k g := by
  have yvv : ∀ {W : Cell} {i : Nat} {x : Int32}, W.slots[i]? = some (.int x) → yv W i = x := fun q => by unfold yv; rw [q]
  rcases h with ⟨rfl, k1, k2⟩ | ⟨rfl, k1, k2, -⟩
  · rcases h' with ⟨-, m1, m2⟩ | ⟨e, -⟩
    · constructor
      · rintro ⟨e1, e2⟩
        refine ⟨by omega, fun j hj => ?_⟩
        have q := e2 j (by omega)
        rw [yvv (k2 j hj).1, yvv (m2 j (by omega)).1] at q
        exact lo8_inj (hf j hj).1 (k2 j hj).2 (hg j (by omega)).1 (m2 j (by omega)).2 q
      · rintro ⟨rfl, e2⟩
        refine ⟨by omega, fun j hj => ?_⟩
        rw [yvv (k2 j (by omega)).1, yvv (m2 j (by omega)).1, e2 j (by omega)]
    · exact absurd e (by decide)
  · rcases h' with ⟨e, -⟩ | ⟨-, m1, m2, -⟩
    · exact absurd e (by decide)
    · constructor
      · rintro ⟨e1, e2⟩
        refine ⟨by omega, fun j hj => ?_⟩
        have q1 := e2 (2 * j) (by omega)
        have q2 := e2 (2 * j + 1) (by omega)
        rw [yvv (k2 j hj).1, yvv (m2 j (by omega)).1] at q1
        rw [yvv (k2 j hj).2, yvv (m2 j (by omega)).2] at q2
        rw [← pair_says (hf j hj).1 (hf j hj).2, ← pair_says (hg j (by omega)).1 (hg j (by omega)).2, q1, q2]
      · rintro ⟨rfl, e2⟩
        refine ⟨by omega, fun i hi => ?_⟩
        rcases Nat.mod_two_eq_zero_or_one i with e | e
        · obtain ⟨j, rfl⟩ : ∃ j, i = 2 * j := ⟨i / 2, by omega⟩
          rw [yvv (k2 j (by omega)).1, yvv (m2 j (by omega)).1, e2 j (by omega)]
        · obtain ⟨j, rfl⟩ : ∃ j, i = 2 * j + 1 := ⟨i / 2, by omega⟩
          rw [yvv (k2 j (by omega)).2, yvv (m2 j (by omega)).2, e2 j (by omega)]
/-- two codings differ: so do the texts -/
theorem Cod.dif {cd cd' : Int32} {n k : Nat} {f g : Nat → Int32} {V V' : Cell} (h : Cod cd n f V) (h' : Cod cd' k g V') (hne : ¬ cd = cd') : ¬ SameT n f k g := by
  rintro ⟨rfl, e⟩
  rcases h with ⟨rfl, -, k2⟩ | ⟨rfl, -, -, j, hj, hw⟩
  · rcases h' with ⟨rfl, -⟩ | ⟨-, -, -, j, hj, hw⟩
    · exact hne rfl
    · exact (k2 j hj).2 (by rw [e j hj]; exact hw)
  · rcases h' with ⟨-, -, m2⟩ | ⟨rfl, -⟩
    · exact (m2 j hj).2 (by rw [← e j hj]; exact hw)
    · exact hne rfl
/-- an object of exactly C is an instance of C -/
theorem cinst {p : Program} {l : Launch} {e : Env} {R : Room} {s : State} {m : MethodId} {args : Array Value} {below : List Frame} {meth : Method} {c : Code} {T : State} {locs : List Loc} {cells slots : Nat} (X : Stand p l e R s m args below meth c T locs cells slots) (hexec : p.tables.exec = Jvm.exec) {own C : String} {index : Nat} (hown : s.vm.findClass own = some m.cls) (hlink : (Cond.classLink own index C).before args s = true) {a : Addr} (hE : Exact C a T)
    {g : JFrame} (hg : g.method = m) {rest : List Value} (hstack : g.stack = .ref a :: rest) (hdg : decode c.code g.pc = .ok (.instanceof index, 3)) :
    ∃ T', Stand p l e R s m args below meth c T' locs cells slots ∧ T'.heap = T.heap ∧ ∀ target, Steps p.tables e below (T'.setTop { g with pc := g.pc + 3, stack := .int 1 :: rest }) target → Steps p.tables e below (T.setTop g) target := by
  obtain ⟨cB, h1, D, h2, h3, h4⟩ := hE
  have h1' : s.vm.findClass C = some cB := by rw [← X.warmed.alike.findClass]; exact h1
  obtain ⟨vm', X', st⟩ := X.instanceofYes hexec hown hlink h2 h4 h1' (by rw [h3]; exact Jvm.Free.SB.assignable_self _ _) hg hstack hdg
  exact ⟨_, X', rfl, st⟩
theorem cself {p : Program} {l : Launch} {e : Env} {R : Room} {s : State} {m : MethodId} {args : Array Value} {below : List Frame} {meth : Method} {c : Code} {T : State} {locs : List Loc} {cells slots : Nat} (X : Stand p l e R s m args below meth c T locs cells slots) (hexec : p.tables.exec = Jvm.exec) {own C : String} {index : Nat} (hown : s.vm.findClass own = some m.cls) (hlink : (Cond.classLink own index C).before args s = true) {a : Addr} (hE : Exact C a T)
    {g : JFrame} (hg : g.method = m) {rest : List Value} (hstack : g.stack = .ref a :: rest) (hdg : decode c.code g.pc = .ok (.checkcast index, 3)) :
    ∃ T', Stand p l e R s m args below meth c T' locs cells slots ∧ T'.heap = T.heap ∧ ∀ target, Steps p.tables e below (T'.setTop { g with pc := g.pc + 3, stack := .ref a :: rest }) target → Steps p.tables e below (T.setTop g) target := by
  obtain ⟨cB, h1, D, h2, h3, h4⟩ := hE
  have h1' : s.vm.findClass C = some cB := by rw [← X.warmed.alike.findClass]; exact h1
  obtain ⟨vm', X', st⟩ := X.checkcastYes hexec hown hlink h2 h4 h1' (by rw [h3]; exact Jvm.Free.SB.assignable_self _ _) hg hstack hdg
  exact ⟨_, X', rfl, fun t h => st t (by rw [← hstack] at h; exact h)⟩
namespace SEq
def yN : MethodName := ⟨"java/lang/String", "equals", "(Ljava/lang/Object;)Z"⟩
abbrev yB : ByteArray := jdk_42_method_66_code
theorem d0 : decode yB 0 = .ok (.aload_n 0, 1) := by decide +kernel
theorem d1 : decode yB 1 = .ok (.aload_n 1, 1) := by decide +kernel
theorem d2 : decode yB 2 = .ok (.if_acmp (.ne) 5, 3) := by decide +kernel
theorem d5 : decode yB 5 = .ok (.iconst 1, 1) := by decide +kernel
theorem d6 : decode yB 6 = .ok (.ireturn, 1) := by decide +kernel
theorem d7 : decode yB 7 = .ok (.aload_n 1, 1) := by decide +kernel
theorem d8 : decode yB 8 = .ok (.instanceof 10, 3) := by decide +kernel
theorem d11 : decode yB 11 = .ok (.ifCond (.eq) 43, 3) := by decide +kernel
theorem d14 : decode yB 14 = .ok (.aload_n 1, 1) := by decide +kernel
theorem d15 : decode yB 15 = .ok (.checkcast 10, 3) := by decide +kernel
theorem d18 : decode yB 18 = .ok (.astore_n 2, 1) := by decide +kernel
theorem d19 : decode yB 19 = .ok (.getstatic 38, 3) := by decide +kernel
theorem d22 : decode yB 22 = .ok (.ifCond (.eq) 14, 3) := by decide +kernel
theorem d25 : decode yB 25 = .ok (.aload_n 0, 1) := by decide +kernel
theorem d26 : decode yB 26 = .ok (.getfield 15, 3) := by decide +kernel
theorem d29 : decode yB 29 = .ok (.aload_n 2, 1) := by decide +kernel
theorem d30 : decode yB 30 = .ok (.getfield 15, 3) := by decide +kernel
theorem d33 : decode yB 33 = .ok (.if_icmp (.ne) 21, 3) := by decide +kernel
theorem d36 : decode yB 36 = .ok (.aload_n 0, 1) := by decide +kernel
theorem d37 : decode yB 37 = .ok (.getfield 9, 3) := by decide +kernel
theorem d40 : decode yB 40 = .ok (.aload_n 2, 1) := by decide +kernel
theorem d41 : decode yB 41 = .ok (.getfield 9, 3) := by decide +kernel
theorem d44 : decode yB 44 = .ok (.invokestatic 541, 3) := by decide +kernel
theorem d47 : decode yB 47 = .ok (.ifCond (.eq) 7, 3) := by decide +kernel
theorem d50 : decode yB 50 = .ok (.iconst 1, 1) := by decide +kernel
theorem d51 : decode yB 51 = .ok (.goto 4, 3) := by decide +kernel
theorem d54 : decode yB 54 = .ok (.iconst 0, 1) := by decide +kernel
theorem d55 : decode yB 55 = .ok (.ireturn, 1) := by decide +kernel
def site : List Cond := [.classLink "java/lang/String" 10 "java/lang/String", .fieldLink "java/lang/String" 38 "java/lang/String" "COMPACT_STRINGS" "Z", .fieldLink "java/lang/String" 15 "java/lang/String" "coder" "B", .fieldLink "java/lang/String" 9 "java/lang/String" "value" "[B", LEq.tab] ++ staticW "java/lang/String" 541 LEq.yN
def tab : Cond := tabOf yN yB 3 (some .boolean) site
def P (x t : Addr) (V : Cell) (cd : Int32) (n : Nat) (f : Nat → Int32) (y t' : Addr) (V' : Cell) (cd' : Int32) (k : Nat) (g : Nat → Int32) (z : Int32) (args : Array Value) (s : State) : Prop := args = #[.ref x, .ref y] ∧ Txt x t V cd n f s ∧ Txt y t' V' cd' k g s ∧ StaticIs s "java/lang/String" "COMPACT_STRINGS" "Z" (.int z) ∧ ¬ z = 0
/-- equals(Object) of two Strings: whether the texts are the same -/
theorem law (l : Launch) (x t : Addr) (V : Cell) (cd : Int32) (n : Nat) (f : Nat → Int32) (y t' : Addr) (V' : Cell) (cd' : Int32) (k : Nat) (g : Nat → Int32) (z : Int32) : Law l yN 2 1 1 14 yB 3 (some .boolean) site (P x t V cd n f y t' V' cd' k g z) (Says01 (SameT n f k g)) [] 0 0 := by
  refine Law.of_walk (plainFor_of_name (by decide +kernel)) (by decide +kernel) (by decide +kernel) (by decide) (fun _ _ h => by rw [h.1]; rfl) (fun _ U U' hal hh h => ⟨h.1, h.2.1.mv hal hh, h.2.2.1.mv hal hh, h.2.2.2.1.there hal hh, h.2.2.2.2⟩) (fun r U U' V V' h1 hal h2 h => Says01.mv r U U' V V' h1 hal h2 h) ?_
  intro p e s m args below meth c s₁ X0 hexec hbytes hml hret hlk hnm hown hh0 W hP
  obtain ⟨rfl, hx, hy, s1, hz⟩ := hP
  have c1 : Steps p.tables e below (s₁.setTop (entryFrame m #[.ref x, .ref y] 3)) (s₁.setTop (mkF m 2 #[.val (.ref x), .val (.ref y), .unset] [.ref y, .ref x])) := Steps.trans (entry rfl) (by
    show Steps p.tables e below (s₁.setTop (mkF m 0 #[.val (.ref x), .val (.ref y), .unset] [])) _
    refine XS.aloadN X0.here hexec rfl (hb hbytes d0) rfl rfl ?_
    refine XS.aloadN X0.here hexec rfl (hb hbytes d1) rfl rfl ?_
    exact Steps.refl _)
  by_cases hxy : x = y
  · have c2 : Steps p.tables e below (s₁.setTop (entryFrame m #[.ref x, .ref y] 3)) (s₁.setTop (mkF m 6 #[.val (.ref x), .val (.ref y), .unset] [.int 1])) := c1.trans (by
      refine acmpNo X0.here hexec rfl (hb hbytes d2) rfl rfl rfl (by simp [acmp, hxy]) ?_
      refine iconstV X0.here hexec rfl 1 (hb hbytes d5) (by decide) ?_
      exact Steps.refl _)
    subst hxy
    have ec : cd = cd' := by
      obtain ⟨D, fd, a1, a2, a3⟩ := hx.2.2.1
      obtain ⟨D', fd', b1, b2, b3⟩ := hy.2.2.1
      cases a1.symm.trans b1
      obtain ⟨q1, q2, q3, q4⟩ := a2.1
      obtain ⟨r1, r2, r3, r4⟩ := b2.1
      cases q4.symm.trans r4
      cases a3.symm.trans b3; rfl
    have et : t = t' := by
      obtain ⟨D, fd, a1, a2, a3⟩ := hx.2.1
      obtain ⟨D', fd', b1, b2, b3⟩ := hy.2.1
      cases a1.symm.trans b1
      obtain ⟨q1, q2, q3, q4⟩ := a2.1
      obtain ⟨r1, r2, r3, r4⟩ := b2.1
      cases q4.symm.trans r4
      cases a3.symm.trans b3; rfl
    subst ec et
    have ev : V = V' := by cases hx.2.2.2.1.1.symm.trans hy.2.2.2.1.1; rfl
    subst ev
    have hs : SameT n f k g := (Cod.eqv hx.2.2.2.2.1 hy.2.2.2.2.1 hx.2.2.2.2.2 hy.2.2.2.2.2).mp ⟨rfl, fun _ _ => rfl⟩
    exact ⟨s₁, some (.int 1), _, _, _, X0, rfl, rfl, rfl, (fun h => by cases h), ⟨1, rfl, hh0, Or.inl ⟨rfl, hs⟩⟩, fun fs hl => c2.trans (X0.ireturnOut hexec hret rfl (Or.inr (Or.inl rfl)) (hb hbytes d6) hl)⟩
  · have c2 : Steps p.tables e below (s₁.setTop (entryFrame m #[.ref x, .ref y] 3)) (s₁.setTop (mkF m 8 #[.val (.ref x), .val (.ref y), .unset] [.ref y])) := c1.trans (by
      refine acmpYes X0.here hexec rfl (pc0 := 2) rfl (hb hbytes d2) rfl rfl rfl (by simp [acmp, hxy]) (by decide) rfl ?_
      refine XS.aloadN X0.here hexec rfl (hb hbytes d7) rfl rfl ?_
      exact Steps.refl _)
    obtain ⟨T3, X3, q3, st3⟩ := cinst X0 hexec hown (wk W (.classLink "java/lang/String" 10 "java/lang/String")) (hy.mv X0.warmed.alike hh0).1 (g := (mkF m 8 #[.val (.ref x), .val (.ref y), .unset] [.ref y])) rfl (rest := []) rfl (hb hbytes d8)
    have hh3 := q3.trans hh0
    have c4 : Steps p.tables e below (s₁.setTop (entryFrame m #[.ref x, .ref y] 3)) (T3.setTop (mkF m 15 #[.val (.ref x), .val (.ref y), .unset] [.ref y])) := (c2.trans (st3 _ (Steps.refl _))).trans (by
      refine XS.ifNo X3.here hexec rfl (hb hbytes d11) rfl (i0_eq_f (by decide)) ?_
      refine XS.aloadN X3.here hexec rfl (hb hbytes d14) rfl rfl ?_
      exact Steps.refl _)
    obtain ⟨T5, X5, q5, st5⟩ := cself X3 hexec hown (wk W (.classLink "java/lang/String" 10 "java/lang/String")) (hy.mv X3.warmed.alike hh3).1 (g := (mkF m 15 #[.val (.ref x), .val (.ref y), .unset] [.ref y])) rfl (rest := []) rfl (hb hbytes d15)
    have hh5 := q5.trans hh3
    have c6 : Steps p.tables e below (s₁.setTop (entryFrame m #[.ref x, .ref y] 3)) (T5.setTop (mkF m 19 #[.val (.ref x), .val (.ref y), .val (.ref y)] [])) := (c4.trans (st5 _ (Steps.refl _))).trans (by
      refine XS.astoreN X5.here hexec rfl (hb hbytes d18) rfl rfl rfl ?_
      exact Steps.refl _)
    obtain ⟨T7, X7, q7, st7⟩ := X5.sget hexec hown (wk W (.fieldLink "java/lang/String" 38 "java/lang/String" "COMPACT_STRINGS" "Z")) s1 (fun _ _ h => by rw [hh5]; exact h) (g := (mkF m 19 #[.val (.ref x), .val (.ref y), .val (.ref y)] [])) rfl (hb hbytes d19)
    have hh7 := q7.trans hh5
    have c8 : Steps p.tables e below (s₁.setTop (entryFrame m #[.ref x, .ref y] 3)) (T7.setTop (mkF m 26 #[.val (.ref x), .val (.ref y), .val (.ref y)] [.ref x])) := (c6.trans (st7 _ (Steps.refl _))).trans (by
      refine XS.ifNo X7.here hexec rfl (hb hbytes d22) rfl (i0_eq_f hz) ?_
      refine XS.aloadN X7.here hexec rfl (hb hbytes d25) rfl rfl ?_
      exact Steps.refl _)
    obtain ⟨T9, X9, q9, st9⟩ := X7.hget hexec hown (wk W (.fieldLink "java/lang/String" 15 "java/lang/String" "coder" "B")) (hx.mv X7.warmed.alike hh7).2.2.1 (g := (mkF m 26 #[.val (.ref x), .val (.ref y), .val (.ref y)] [.ref x])) rfl (rest := []) rfl (hb hbytes d26)
    have hh9 := q9.trans hh7
    have c10 : Steps p.tables e below (s₁.setTop (entryFrame m #[.ref x, .ref y] 3)) (T9.setTop (mkF m 30 #[.val (.ref x), .val (.ref y), .val (.ref y)] [.ref y, .int cd])) := (c8.trans (st9 _ (Steps.refl _))).trans (by
      refine XS.aloadN X9.here hexec rfl (hb hbytes d29) rfl rfl ?_
      exact Steps.refl _)
    obtain ⟨T11, X11, q11, st11⟩ := X9.hget hexec hown (wk W (.fieldLink "java/lang/String" 15 "java/lang/String" "coder" "B")) (hy.mv X9.warmed.alike hh9).2.2.1 (g := (mkF m 30 #[.val (.ref x), .val (.ref y), .val (.ref y)] [.ref y, .int cd])) rfl (rest := [.int cd]) rfl (hb hbytes d30)
    have hh11 := q11.trans hh9
    have c12 : Steps p.tables e below (s₁.setTop (entryFrame m #[.ref x, .ref y] 3)) (T11.setTop (mkF m 33 #[.val (.ref x), .val (.ref y), .val (.ref y)] [.int cd', .int cd])) := c10.trans (st11 _ (Steps.refl _))
    by_cases hcd : cd = cd'
    · subst hcd
      have c13 : Steps p.tables e below (s₁.setTop (entryFrame m #[.ref x, .ref y] 3)) (T11.setTop (mkF m 37 #[.val (.ref x), .val (.ref y), .val (.ref y)] [.ref x])) := c12.trans (by
        refine XS.icmpNo X11.here hexec rfl (hb hbytes d33) rfl (ii_ne_f rfl) ?_
        refine XS.aloadN X11.here hexec rfl (hb hbytes d36) rfl rfl ?_
        exact Steps.refl _)
      obtain ⟨T14, X14, q14, st14⟩ := X11.hget hexec hown (wk W (.fieldLink "java/lang/String" 9 "java/lang/String" "value" "[B")) (hx.mv X11.warmed.alike hh11).2.1 (g := (mkF m 37 #[.val (.ref x), .val (.ref y), .val (.ref y)] [.ref x])) rfl (rest := []) rfl (hb hbytes d37)
      have hh14 := q14.trans hh11
      have c15 : Steps p.tables e below (s₁.setTop (entryFrame m #[.ref x, .ref y] 3)) (T14.setTop (mkF m 41 #[.val (.ref x), .val (.ref y), .val (.ref y)] [.ref y, .ref t])) := (c13.trans (st14 _ (Steps.refl _))).trans (by
        refine XS.aloadN X14.here hexec rfl (hb hbytes d40) rfl rfl ?_
        exact Steps.refl _)
      obtain ⟨T16, X16, q16, st16⟩ := X14.hget hexec hown (wk W (.fieldLink "java/lang/String" 9 "java/lang/String" "value" "[B")) (hy.mv X14.warmed.alike hh14).2.1 (g := (mkF m 41 #[.val (.ref x), .val (.ref y), .val (.ref y)] [.ref y, .ref t])) rfl (rest := [.ref t]) rfl (hb hbytes d41)
      have hh16 := q16.trans hh14
      have c17 : Steps p.tables e below (s₁.setTop (entryFrame m #[.ref x, .ref y] 3)) (T16.setTop (mkF m 44 #[.val (.ref x), .val (.ref y), .val (.ref y)] [.ref t', .ref t])) := c15.trans (st16 _ (Steps.refl _))
      obtain ⟨v18, T18, X18, E18, g18⟩ := X16.callS hexec (LEq.law l t V t' V') hown (wks W (staticW "java/lang/String" 541 LEq.yN)) (wk W LEq.tab) (W := 0) (Nat.le_of_ble_eq_true rfl) (Nat.le_of_ble_eq_true rfl) (Nat.le_refl _) (Nat.le_refl _) (g := (mkF m 44 #[.val (.ref x), .val (.ref y), .val (.ref y)] [.ref t', .ref t])) rfl (by rw [hml]; rfl) c17 (argsL := [.ref t, .ref t']) (rest := []) rfl rfl (by show 2 * 0 + 0 ≤ _; decide) (hb hbytes d44) (⟨rfl, hx.2.2.2.1.mv X16.warmed.alike hh16, hx.2.2.2.2.1.ty, hy.2.2.2.1.mv X16.warmed.alike hh16, hy.2.2.2.2.1.ty⟩)
      obtain ⟨v, rfl, q18, hv⟩ := E18
      have iff := Cod.eqv hx.2.2.2.2.1 hy.2.2.2.2.1 hx.2.2.2.2.2 hy.2.2.2.2.2
      rcases hv with ⟨rfl, he⟩ | ⟨rfl, he⟩
      · have c19 : Steps p.tables e below (s₁.setTop (entryFrame m #[.ref x, .ref y] 3)) (T18.setTop (mkF m 55 #[.val (.ref x), .val (.ref y), .val (.ref y)] [.int 1])) := Steps.trans g18 (by
          refine XS.ifNo X18.here hexec rfl (hb hbytes d47) rfl (i0_eq_f (by decide)) ?_
          refine iconstV X18.here hexec rfl 1 (hb hbytes d50) (by decide) ?_
          refine XS.goto X18.here hexec rfl (pc0 := 51) rfl (hb hbytes d51) (by decide) rfl ?_
          exact Steps.refl _)
        exact ⟨T18, some (.int 1), _, _, _, X18, rfl, rfl, rfl, (fun h => by cases h), ⟨1, rfl, q18.trans hh16, Or.inl ⟨rfl, iff.mp he⟩⟩, fun fs hl => c19.trans (X18.ireturnOut hexec hret rfl (Or.inr (Or.inl rfl)) (hb hbytes d55) hl)⟩
      · have c19 : Steps p.tables e below (s₁.setTop (entryFrame m #[.ref x, .ref y] 3)) (T18.setTop (mkF m 55 #[.val (.ref x), .val (.ref y), .val (.ref y)] [.int 0])) := Steps.trans g18 (by
          refine XS.ifYes X18.here hexec rfl (pc0 := 47) rfl (hb hbytes d47) rfl (i0_eq_t rfl) (by decide) rfl ?_
          refine iconstV X18.here hexec rfl 0 (hb hbytes d54) (by decide) ?_
          exact Steps.refl _)
        exact ⟨T18, some (.int 0), _, _, _, X18, rfl, rfl, rfl, (fun h => by cases h), ⟨0, rfl, q18.trans hh16, Or.inr ⟨rfl, fun q => he (iff.mpr q)⟩⟩, fun fs hl => c19.trans (X18.ireturnOut hexec hret rfl (Or.inr (Or.inl rfl)) (hb hbytes d55) hl)⟩
    · have c13 : Steps p.tables e below (s₁.setTop (entryFrame m #[.ref x, .ref y] 3)) (T11.setTop (mkF m 55 #[.val (.ref x), .val (.ref y), .val (.ref y)] [.int 0])) := c12.trans (by
        refine XS.icmpYes X11.here hexec rfl (pc0 := 33) rfl (hb hbytes d33) rfl (ii_ne_t hcd) (by decide) rfl ?_
        refine iconstV X11.here hexec rfl 0 (hb hbytes d54) (by decide) ?_
        exact Steps.refl _)
      exact ⟨T11, some (.int 0), _, _, _, X11, rfl, rfl, rfl, (fun h => by cases h), ⟨0, rfl, hh11, Or.inr ⟨rfl, Cod.dif hx.2.2.2.2.1 hy.2.2.2.2.1 hcd⟩⟩, fun fs hl => c13.trans (X11.ireturnOut hexec hret rfl (Or.inr (Or.inl rfl)) (hb hbytes d55) hl)⟩
theorem pays {l : Launch} {R : Room} {p : Program} {e : Env} {below : List Frame} {s : State} {sargs : Array Value} {len W : Nat} (x t : Addr) (V : Cell) (cd : Int32) (n : Nat) (f : Nat → Int32) (y t' : Addr) (V' : Cell) (cd' : Int32) (k : Nat) (g : Nat → Int32) (z : Int32) (htab : tab.before sargs s = true) (hfr : 2 ≤ R.frames) (hlo : W + 28 ≤ R.locals) :
    Back l R p e below s sargs yN len W (fun A₁ a₁ => A₁.cells + 0 ≤ R.cells ∧ A₁.slots + 0 ≤ R.slots ∧ P x t V cd n f y t' V' cd' k g z a₁ A₁.U) (fun A₁ _ v₁ B₁ => Says01 (SameT n f k g) v₁ A₁.U B₁.U ∧ B₁.locs = A₁.locs ++ [] ∧ B₁.cells = A₁.cells + 0 ∧ B₁.slots = A₁.slots + 0) :=
  (law l x t V cd n f y t' V' cd' k g z).pays htab hfr (by omega)
end SEq
end StrChars
namespace StrChars.Road
open Jvm Sem ClassFile Op Lib Jvm.Stand Jvm.Free Jvm.Free.XT
open Jvm.Lib.Cold (StaticIs)
/-- the words of String.equals(Object) -/
abbrev wordsEq : List Jvm.Cond := [.code SEq.yN SEq.yB 3 (some .boolean), .initialized ST, .classLink ST 10 ST, .fieldLink ST 38 ST "COMPACT_STRINGS" "Z", .fieldLink ST 15 ST "coder" "B", .fieldLink ST 9 ST "value" "[B", .methodLink ST 541 LEq.yN, .static LEq.yN, .code LEq.yN LEq.yB 3 (some .boolean), .initialized "java/lang/StringLatin1"]
theorem tabEq_of {a : Array Value} {s : State} (h : ∀ w ∈ wordsEq, w.before a s = true) : SEq.tab.before a s = true := by
  have hl : LEq.tab.before a s = true := unparts (wk h (.code LEq.yN LEq.yB 3 (some .boolean))) (wks h (.initialized LEq.yN.cls :: LEq.site))
  have q := consq hl h
  exact unparts (wk q (.code SEq.yN SEq.yB 3 (some .boolean))) (wks q (.initialized SEq.yN.cls :: SEq.site))
theorem movedEq {Z s : State} {a0 args : Array Value} (hZ : Z.Warmed39 s.vm) (hw : ∀ d ∈ wordsEq, d.before a0 Z = true) : ∀ d ∈ wordsEq, d.before args s = true := fun d hd => by
  have t : ∀ d ∈ wordsEq, (d.onTables && d.keepsFace) = true := by decide +kernel
  exact RoadKit.mv hZ (hw d hd) (t d hd)
/-- the road's facts of a String, as the laws ask it -/
theorem txt_of {Z U : State} {a0 : Array Value} {kI : Nat} (wi : (Jvm.Cond.instantiable ST kI).before a0 Z = true) (al : Z.vm.Alike U.vm) {x t : Addr} {kb : ClassId} {cs : List Int32} {cd N2 : Int32} {vs : List Value} (E : RoadKit.Exa Z U.heap x ST) (V : RoadKit.Fld Z U.heap x ST "value" "[B" (.ref t)) (C : RoadKit.Fld Z U.heap x ST "coder" "B" (.int cd)) (K : RoadKit.Arv Z U.heap t kb .byte N2 vs (.int 0)) (hc : CodA cs cd N2 vs) (hb : ∀ c ∈ cs, ¬ c < 0 ∧ ¬ (65535 : Int32) < c) (l2 : cs.length ≤ 4000) :
    ∃ A, Txt x t A cd cs.length (fun j => cs.getD j 0) U := by
  obtain ⟨A, K1, K2, K3, K4, K5, K6⟩ := K
  have hcod := hc.cod (by omega) K3 K5
  obtain ⟨D, fV, fC, hB, F1, F2, g1, g2, -, -⟩ := strObj wi al E V C
  exact ⟨A, ⟨_, hB.2.2.1, D, hB.1, rfl, by cases q : D.vm <;> first | rfl | exact absurd q (hB.2.1.2 _)⟩, Has.of hB F1 g1, Has.of hB F2 g2, ⟨K1.1, State.isArrayOf_alike al K1.2.1, K1.2.2, by rcases hcod with ⟨-, q, -⟩ | ⟨-, q, -⟩ <;> omega⟩, hcod, fun j hj => by
    have e : cs.getD j 0 = cs[j] := by simp [List.getD_eq_getElem?_getD, hj]
    show ¬ cs.getD j 0 < 0 ∧ ¬ 65535 < cs.getD j 0
    rw [e]; exact hb _ (List.getElem_mem _)⟩
theorem same_list (cs ds : List Int32) : SameT cs.length (fun j => cs.getD j 0) ds.length (fun j => ds.getD j 0) ↔ cs = ds := by
  constructor
  · rintro ⟨e, q⟩
    refine List.ext_getElem e fun j h1 h2 => ?_
    have := q j h1
    simpa [List.getD_eq_getElem?_getD, h1, h2] using this
  · rintro rfl
    exact ⟨rfl, fun _ _ => rfl⟩
/-- **equals(Object) OF TWO SUCH STRINGS**: 1 just where the chars are the same -/
theorem eqW {p : Program} {l : Launch} {e : Env} {R : Room} {s : State} {args : Array Value} {below : List Frame} {len W : Nat} {Z : State} {a0 : Array Value} {h : Heap} (hZ : Z.Warmed39 s.vm) (hw : ∀ d ∈ wordsEq, d.before a0 Z = true) {kI : Nat} (wi : (Jvm.Cond.instantiable ST kI).before a0 Z = true)
    {x t : Addr} {kb : ClassId} {cs : List Int32} {cd N2 : Int32} {vs : List Value} (E : RoadKit.Exa Z h x ST) (V : RoadKit.Fld Z h x ST "value" "[B" (.ref t)) (C : RoadKit.Fld Z h x ST "coder" "B" (.int cd)) (K : RoadKit.Arv Z h t kb .byte N2 vs (.int 0)) (hc : CodA cs cd N2 vs) (hb : ∀ c ∈ cs, ¬ c < 0 ∧ ¬ (65535 : Int32) < c) (l2 : cs.length ≤ 4000)
    {y t' : Addr} {kb' : ClassId} {ds : List Int32} {cd' N2' : Int32} {vs' : List Value} (E' : RoadKit.Exa Z h y ST) (V' : RoadKit.Fld Z h y ST "value" "[B" (.ref t')) (C' : RoadKit.Fld Z h y ST "coder" "B" (.int cd')) (K' : RoadKit.Arv Z h t' kb' .byte N2' vs' (.int 0)) (hc' : CodA ds cd' N2' vs') (hb' : ∀ c ∈ ds, ¬ c < 0 ∧ ¬ (65535 : Int32) < c) (l2' : ds.length ≤ 4000)
    {z : Int32} (S : RoadKit.Sta Z h ST "COMPACT_STRINGS" "Z" (.int z)) (hz : ¬ z = 0) (hfr : 2 ≤ R.frames) (hlo : W + 28 ≤ R.locals) :
    Back l R p e below s args (⟨"java/lang/String", "equals", "(Ljava/lang/Object;)Z"⟩ : MethodName) len W (fun P a => a = #[.ref x, .ref y] ∧ P.U.heap = h ∧ P.cells + 0 ≤ R.cells ∧ P.slots + 0 ≤ R.slots)
      (fun P _ v B => ∃ L, (((v = some (.int 1) ∧ cs = ds) ∨ (v = some (.int 0) ∧ ¬ cs = ds)) ∧ L = [] ∧ B.U.heap = h) ∧ B.locs = P.locs ++ L ∧ B.cells = P.cells + 0 ∧ B.slots = P.slots + 0) := by
  intro m meth c P g ig mk a X hg hsize hdg hW hn hp'
  obtain ⟨rfl, rfl, r1, r2⟩ := hp'
  have al : Z.vm.Alike P.U.vm := hZ.alike.trans X.warmed.alike
  obtain ⟨A, hx⟩ := txt_of wi al E V C K hc hb l2
  obtain ⟨A', hy⟩ := txt_of wi al E' V' C' K' hc' hb' l2'
  obtain ⟨v, B, X', ⟨⟨w, hv, hh, hq⟩, hl, hk, hs⟩, st⟩ := SEq.pays x t A cd cs.length (fun j => cs.getD j 0) y t' A' cd' ds.length (fun j => ds.getD j 0) z (tabEq_of (movedEq hZ hw)) hfr hlo m meth c P g ig mk _ X hg hsize hdg hW hn ⟨r1, r2, rfl, hx, hy, sta_is al S, hz⟩
  refine ⟨v, B, X', ⟨[], ⟨?_, rfl, hh⟩, hl, hk, hs⟩, st⟩
  rcases hq with ⟨rfl, q⟩ | ⟨rfl, q⟩
  · exact Or.inl ⟨hv, (same_list cs ds).mp q⟩
  · exact Or.inr ⟨hv, fun e => q ((same_list cs ds).mpr e)⟩
end StrChars.Road
namespace StrChars.Road
open Jvm Sem ClassFile Op Lib Jvm.Stand Jvm.Free Jvm.Free.XT
open Jvm.Lib.Cold (StaticIs)
/-- what backV says of its String, as the contracts of this text ask it: cs's low bytes, coder 0 -/
theorem codOf {cs : List Int32} {n : Nat} (hn : cs.length = n) (hb : ∀ c ∈ cs, ¬ 255 < c) : CodA cs 0 (Int32.ofNat n) ((cs.map lo8).map Value.int) := Or.inl ⟨rfl, by rw [hn], by simp [List.map_map, Function.comp_def], hb⟩
end StrChars.Road
end Jvm.Pilot.@@N@@

namespace Jvm.Pilot.@@N@@
open Jvm Jvm.ClassFile Sem Op Lib Jvm.Free Jvm.Stand Jvm.LawKit Jvm.RoadKit Bundle Jvm.Pilot.@@N@@.Jvm.D
theorem own_mi {α : Type} {l : List α} {a : α} (i : Nat) (h : l[i]? = some a) : a ∈ l := List.mem_of_getElem? h
def own_Rn (p : Program) (e : Env) (below : List Frame) (P : Outcome → State → Prop) (S : State) : Prop := ∃ U o, Steps p.tables e below S U ∧ U.status = .running ∧ Ended U below o ∧ P o U
theorem own_go {p : Program} {e : Env} {below : List Frame} {P : Outcome → State → Prop} {S S' : State} (k : ∀ t, Steps p.tables e below S' t → Steps p.tables e below S t) (h : own_Rn p e below P S') : own_Rn p e below P S := by
  obtain ⟨U, o, h1, h2⟩ := h
  exact ⟨U, o, k U h1, h2⟩
theorem own_ret {p : Program} {l : Launch} {e : Env} {R : Room} {s : State} {m : MethodId} {args : Array Value} {below : List Frame} {meth : Method} {c : Code} {T : State} {locs : List Loc} {cells slots : Nat} (X : Stand p l e R s m args below meth c T locs cells slots)
    {v : Option Value} (hv : meth.sig.returnType = none → v = none) {S : State} {Q : Option Value → Heap → List Loc → Prop} {C N : Nat}
    (k : ∀ fs, (∀ (f : JFrame) (acts : List Action), f.method = m → f.locked = none → f.entered = [] → (doReturn e (T.setTop f) acts v).1 = T.setFrames fs) → Steps p.tables e below S (T.setFrames fs)) (hq : Q v T.heap locs) (hc : cells ≤ C) (hs : slots ≤ N)
    (hlocks : meth.locks = false := by first | assumption | exact BodyLoose.notSynchronized (by assumption) | exact Body.notSynchronized (by assumption)) :
    own_Rn p e below (fun o U' => ∃ v L, o = .returned v ∧ Q v U'.heap L ∧ FrameEnd s o U' L C N) S := by
  obtain ⟨fs, hr, hrun, hended, hW, hsame⟩ := X.leave hv hlocks
  exact ⟨_, _, k fs hr, hrun, hended, _, _, rfl, hq, ⟨_, rfl⟩, hW, hsame.mono hc hs⟩
theorem own_nea {a b : Addr} (h : @LT.lt Nat _ a b ∨ @LT.lt Nat _ b a) : a ≠ b := by
  intro e
  have e' : @Eq Nat a b := e
  omega
theorem own_fits_byte (x : Int32) : fits .byte (.int (nar .byte x)) = true := by
  have h := c_i2b x
  have h1 : (-128 : Int32) ≤ x.toInt8.toInt32 := by rw [Int32.le_iff_toInt_le]; exact h.2.1
  have h2 : x.toInt8.toInt32 ≤ (127 : Int32) := by rw [Int32.le_iff_toInt_le]; exact Int.le_of_lt_add_one h.2.2
  simp only [fits, Bool.and_eq_true]
  exact ⟨decide_eq_true h1, decide_eq_true h2⟩
theorem own_fitsB (x : Int32) : fits .byte (.int x.toInt8.toInt32) = true := own_fits_byte x
theorem own_retS {p : Program} {l : Launch} {e : Env} {R : Room} {s : State} {m : MethodId} {args : Array Value} {below : List Frame} {meth : Method} {c : Code} {T : State} {locs : List Loc} {cells slots : Nat} {vm₁ : Vm} (X : Stand p l e R (s.setVm vm₁) m args below meth c T locs cells slots) {n : Nat} (hS : s.Since vm₁ n) (hn : n ≤ T.heap.size)
    {v : Option Value} (hv : meth.sig.returnType = none → v = none) {S : State} {Z : State} {EL : List (String × Nat)} {Q : Option Value → Heap → List Loc → Prop} {C N : Nat}
    (k : ∀ fs, (∀ (f : JFrame) (acts : List Action), f.method = m → f.locked = none → f.entered = [] → (doReturn e (T.setTop f) acts v).1 = T.setFrames fs) → Steps p.tables e below S (T.setFrames fs)) (hq : Q v T.heap locs) (hR : CHr Z EL s.vm s.heap T.vm T.heap) (hc : cells ≤ C) (hs : slots ≤ N)
    (hlocks : meth.locks = false := by first | assumption | exact BodyLoose.notSynchronized (by assumption) | exact Body.notSynchronized (by assumption)) :
    own_Rn p e below (fun o U' => ∃ v L, o = .returned v ∧ Q v U'.heap L ∧ CHr Z EL s.vm s.heap U'.vm U'.heap ∧ ReturnedEndW s o U' L C N) S := by
  obtain ⟨fs, hr, hrun, hended, h1, h2, h3, h4⟩ := X.leaveW hS hn hv hlocks
  exact ⟨_, _, k fs hr, hrun, hended, _, _, rfl, hq, hR, h1, h2, h3, h4.mono hc hs⟩
theorem own_safeAt {Z : State} {EL : List (String × Nat)} {vm vm1 : Vm} {h : Heap} {x : Addr} (A : CHr Z EL vm h vm1 h) (S : Safe Z EL vm h x) : Safe Z EL vm1 h x := by
  rcases Nat.lt_or_ge x h.size with hx | hx
  · exact A.safe hx S
  · exact Safe.new hx
theorem own_backSH {p : Program} {l : Launch} {e : Env} {R : Room} {s : State} {args : Array Value} {below : List Frame} {Z : State} {a0 : Array Value} {EL : List (String × Nat)} {h : Heap} {vm0 : Vm} {sf : List Addr}
    {y : MethodName} {bytes : ByteArray} {maxL : Nat} {ret : Option FieldType} {rm : Room} {len W : Nat} {as' : Array Value} {Q : Option Value → Heap → List Loc → Prop}
    (hM : MetFree l y (head1 [Cond.code y bytes maxL ret] rm) (fun a U => a = as' ∧ Z.Warmed39 U.vm ∧ U.heap = h ∧ CHv Z EL U.vm h ∧ ∀ x ∈ sf, Safe Z EL U.vm h x) (fun _ _ _ _ _ => True) (fun _ U o U' => ∃ v L, o = .returned v ∧ Q v U'.heap L ∧ CHr Z EL U.vm U.heap U'.vm U'.heap ∧ ReturnedEndW U o U' L rm.cells rm.slots))
    (hZ : Z.Warmed39 vm0) (wc : (Cond.code y bytes maxL ret).before a0 Z = true) (wz : (Cond.initialized y.cls).before a0 Z = true) (hf : rm.frames + 1 ≤ R.frames) (hl : W + (maxL + 11) + rm.locals ≤ R.locals) (hEL : EW Z a0 EL) (H : CHv Z EL vm0 h) (hsf : ∀ x ∈ sf, Safe Z EL vm0 h x) :
    BackS l R p e below (s.setVm vm0) args y len W (fun A a => a = as' ∧ A.U.heap = h ∧ A.cells + rm.cells ≤ R.cells ∧ A.slots + rm.slots ≤ R.slots)
      (fun A _ v B => ∃ L, Q v B.U.heap L ∧ B.locs = A.locs ++ L ∧ B.cells = A.cells + rm.cells ∧ B.slots = A.slots + rm.slots ∧ CHr Z EL vm0 h B.U.vm B.U.heap) :=
  BackS.of_freeW (bytes := bytes) (maxL := maxL) (ret := ret) (E := fun _ first o t L k n => k = rm.cells ∧ n = rm.slots ∧ (∃ v, o = .returned v ∧ Q v t.heap L) ∧ CHr Z EL first.vm first.heap t.vm t.heap) hM hf hl
    (fun m meth c A a Y hp => have hU : Z.Warmed39 A.U.vm := wtrans (s := s.setVm vm0) hZ Y.warmed
      ⟨by show (Cond.and _ .tt).before a A.U = true; rw [Cond.before_and, mv hU wc]; rfl, mv hU wc, mv hU wz, hp.2.2.1, hp.2.2.2⟩)
    (fun m meth c A a g mk Y hp => ⟨hp.1, wtrans (s := s.setVm vm0) hZ Y.warmed, hp.2.1, (CHv.at Y hZ hEL H).1, fun x hx => show Safe Z EL A.U.vm h x from own_safeAt (CHv.at Y hZ hEL H) (hsf x hx)⟩) (fun _ _ _ _ _ _ _ _ _ => trivial)
    (fun _ _ _ _ ⟨v, L, h1, h2, h3, h4⟩ => ⟨L, _, _, h4, rfl, rfl, ⟨v, h1, h2⟩, h3⟩)
    (fun m meth c A a g mk v t L k n Y hp _ _ ⟨e1, e2, ⟨v', e3, e4⟩, e5⟩ => by
      cases e3; subst e1 e2
      refine ⟨L, e4, rfl, rfl, rfl, (CHv.at Y hZ hEL H).trans ?_⟩
      rw [← hp.2.1]; exact e5)
theorem own_and255 (x : Int32) : ¬ (x &&& (255 : Int32)) < 0 ∧ ¬ (255 : Int32) < (x &&& (255 : Int32)) := by
  have h := c_and x 255 (by decide)
  have e2 : (255 : Int32).toInt = 255 := rfl
  rw [Int32.lt_iff_toInt_lt, Int32.lt_iff_toInt_lt]
  have e0 : (0 : Int32).toInt = 0 := rfl
  omega
theorem own_c16 (r : Int32) (h : ¬ r < 0 ∧ ¬ (65535 : Int32) < r) : r.toUInt32.toUInt16.toUInt32.toInt32 = r := by
  have h1 := c_i2c r
  rw [Int32.lt_iff_toInt_lt, Int32.lt_iff_toInt_lt] at h
  have e2 : (65535 : Int32).toInt = 65535 := rfl
  have e0 : (0 : Int32).toInt = 0 := rfl
  apply Int32.toInt_inj.mp
  omega
theorem own_up (r : Int32) (h : ¬ r < 0 ∧ ¬ (255 : Int32) < r) : ¬ r < 0 ∧ ¬ (65535 : Int32) < r := by
  rw [Int32.lt_iff_toInt_lt, Int32.lt_iff_toInt_lt] at *
  have e2 : (65535 : Int32).toInt = 65535 := rfl
  have e3 : (255 : Int32).toInt = 255 := rfl
  have e0 : (0 : Int32).toInt = 0 := rfl
  omega
theorem own_narC (r : Int32) (h : ¬ r < 0 ∧ ¬ (255 : Int32) < r) : nar .char r = r := own_c16 r (own_up r h)
theorem own_chr (x : Int32) : ((x &&& (255 : Int32)).toUInt32.toUInt16.toUInt32.toInt32) = x &&& 255 := own_c16 _ (own_up _ (own_and255 x))
theorem own_chr_rng (x : Int32) : ¬ ((x &&& (255 : Int32)).toUInt32.toUInt16.toUInt32.toInt32) < 0 ∧ ¬ (255 : Int32) < ((x &&& (255 : Int32)).toUInt32.toUInt16.toUInt32.toInt32) := by rw [own_chr]; exact own_and255 x
theorem own_narB (x : Int32) : nar .byte (x.toInt8.toInt32) = x.toInt8.toInt32 := by
  show (x.toInt8.toInt32).toInt8.toInt32 = x.toInt8.toInt32
  rw [Int8.toInt8_toInt32]
theorem own_shr0 (x : Int32) : x >>> ((0 : Int32) &&& 31) = x := by
  apply Int32.toInt_inj.mp
  rw [c_ishr x 0 0 rfl]; simp
theorem own_shl0 (x : Int32) : x <<< ((0 : Int32) &&& 31) = x := by
  show x <<< (0 : Int32) = x
  simp
abbrev own_bs (cs : List Int32) : List Value := (cs.map (fun c => c.toInt8.toInt32)).map Value.int
theorem own_bs_len (cs : List Int32) : (own_bs cs).length = cs.length := by simp [own_bs]
theorem own_bs_app (cs ds : List Int32) : own_bs (cs ++ ds) = own_bs cs ++ own_bs ds := by simp [own_bs]
theorem own_range_getD (vs : List Value) (d : Value) : (List.range vs.length).map (fun i => vs.getD (0 + i) d) = vs := by
  apply List.ext_getElem
  · simp
  · intro i h1 h2
    simp [List.getD_eq_getElem?_getD, h2]
theorem own_clampN {n : Nat} (h : n < 2147483648) : (Int32.ofNat n).toNatClampNeg = n := Int32.toNatClampNeg_ofNat_of_lt h
theorem own_nneg {n : Nat} (h : n < 2147483648) : ¬ Int32.ofNat n < 0 := by
  rw [Int32.lt_iff_toInt_lt, Int32.toInt_ofNat_small (by omega)]
  have e0 : (0 : Int32).toInt = 0 := rfl
  omega
theorem own_ofNat_add (a b : Nat) : Int32.ofNat (a + b) = Int32.ofNat a + Int32.ofNat b := Int32.ofNat_add a b
theorem own_le15 {n : Nat} (h : n ≤ 15) : ¬ (0 : Int32) < Int32.ofNat n - 16 := by
  have c := c_isub (Int32.ofNat n) 16
  rw [Int32.toInt_ofNat_small (by omega), show (16 : Int32).toInt = 16 from rfl] at c
  have r := rng32 (Int32.ofNat n - 16)
  rw [Int32.lt_iff_toInt_lt, show (0 : Int32).toInt = 0 from rfl]
  omega
theorem own_lt16 {n : Nat} (h : n ≤ 15) : Int32.ofNat n < (16 : Int32) := by
  rw [Int32.lt_iff_toInt_lt, Int32.toInt_ofNat_small (by omega), show (16 : Int32).toInt = 16 from rfl]; omega
theorem own_ne16 {n : Nat} (h : n ≤ 15) : ¬ Int32.ofNat n = (16 : Int32) := by
  intro e
  have := congrArg Int32.toInt e
  rw [Int32.toInt_ofNat_small (by omega), show (16 : Int32).toInt = 16 from rfl] at this
  omega
theorem own_us (ds : List Int32) (h : ds.length < 2147483648) : own_bs ds = (List.range (Int32.ofNat ds.length).toNatClampNeg).map fun i => (own_bs ds).getD ((0 : Int32).toNatClampNeg + i) (.int 0) := by
  rw [own_clampN h]
  have e : (0 : Int32).toNatClampNeg = 0 := rfl
  rw [e, ← own_bs_len ds, own_range_getD]
theorem own_cat {Z : State} {h : Heap} {b : Addr} {k : ClassId} {z : Int32} {cs ds es : List Int32} {dp nn : Int32} {m : Nat} (hes : es = cs ++ ds) (h16 : cs.length < 2147483648 ∧ ds.length < 2147483648) (hm : ds.length ≤ m) (hd : dp = Int32.ofNat cs.length) (hn : nn = Int32.ofNat ds.length)
    (F : Arv Z h b k .byte z ((own_bs cs ++ List.replicate m (Value.int 0)).take dp.toNatClampNeg ++ own_bs ds ++ (own_bs cs ++ List.replicate m (Value.int 0)).drop (dp.toNatClampNeg + nn.toNatClampNeg)) (.int 0)) : Arv Z h b k .byte z (own_bs es) (.int 0) := by
  subst hd hn
  rw [own_clampN h16.1, own_clampN h16.2] at F
  have e1 : (own_bs cs ++ List.replicate m (Value.int 0)).take cs.length = own_bs cs := by
    rw [← own_bs_len cs, List.take_left]
  have e2 : (own_bs cs ++ List.replicate m (Value.int 0)).drop (cs.length + ds.length) = List.replicate (m - ds.length) (.int 0) := by
    rw [← own_bs_len cs, List.drop_append, List.drop_replicate]
    simp
  rw [e1, e2, ← own_bs_app, ← hes] at F
  exact F.pad (fun i => (pad_rep (own_bs es) (.int 0) (m - ds.length) i).symm)
theorem own_notI {Z : State} {a0 : Array Value} {C : String} {x z : MethodName} (w : (Cond.selects C x z).before a0 Z = true) : ∃ c k, Z.vm.findClass z.cls = some c ∧ Z.vm.classes[c]? = some k ∧ k.isInterface = false := by
  obtain ⟨c, r, m, -, -, h3, -, k, h5, h6⟩ := Cond.selects_spec w
  exact ⟨m.cls, k, findClass_of_methodNamed h3, h5, h6⟩
theorem own_sameM {Z : State} {a0 : Array Value} {C : String} {x y z : MethodName} (w1 : (Cond.instanceMethod y).before a0 Z = true) (w : (Cond.selects C x z).before a0 Z = true) (e : z.cls = y.cls) (hy : y.cls ≠ "java/lang/invoke/MethodHandle" ∧ y.cls ≠ "java/lang/invoke/VarHandle") : (Cond.sameMethod y.cls y.cls y.name y.desc).before a0 Z = true := by
  obtain ⟨c, k, h1, h2, h3⟩ := own_notI w
  rw [e] at h1
  obtain ⟨mk, methM, hnamed, hmethM, -, -⟩ := Cond.instanceMethod_spec w1
  have hfound : Z.methodFound? y.cls y.name y.desc = some mk := State.methodFound?_of_named hnamed hy
  simp only [Cond.before, Cond.holds, Cond.value, h1, hfound, hnamed, h2]
  simp [h3]
theorem own_nf {s : State} {a0 : Array Value} {C : String} {x y z : MethodName} (w : (Cond.selects C x z).before a0 s = true) (e : z.cls = y.cls) : NotFace s y := by
  obtain ⟨c, k, h1, h2, h3⟩ := own_notI w
  intro r0 hr
  have := findClass_of_methodNamed hr
  rw [← e, h1] at this
  cases this
  exact ⟨k, h2, h3⟩
theorem own_selP {Z : State} {a0 : Array Value} {C : String} {y : MethodName} (w : (Cond.selects C y y).before a0 Z = true) (wp : (Cond.privateMethod y).before a0 Z = true) (wi : (Cond.instanceMethod y).before a0 Z = true) (hy : y.cls ≠ "java/lang/invoke/MethodHandle" ∧ y.cls ≠ "java/lang/invoke/VarHandle") : (Cond.selects y.cls y y).before a0 Z = true := by
  obtain ⟨c, k, h1, h2, h3⟩ := own_notI w
  exact Jvm.Stand.selects_self_of_private h1 h2 h3 (Cond.privateMethod_at wp) wi hy
theorem own_arvH {Z : State} {h : Heap} {a : Addr} {k : ClassId} {ty : FieldType} {z : Int32} {vs : List Value} {dv : Value} (F : Arh Z h a k ty z [] vs dv) : Arv Z h a k ty z vs dv := by
  obtain ⟨c, A, q, S, N, H, G⟩ := F
  exact ⟨c, A, q, S, N, H, G⟩
theorem own_hasL {c : Cell} : ∀ (vs : List Value) (i : Nat), (∀ j v, vs[j]? = some v → c.slots[i + j]? = some v) → HasL c i vs
  | [], _, _ => trivial
  | v :: r, i, h => ⟨h 0 v rfl, own_hasL r (i + 1) fun j w hj => by have := h (j + 1) w hj; rwa [show i + (j + 1) = i + 1 + j by omega] at this⟩
theorem own_arvZ {s : State} {args : Array Value} {t : Term} {a : Addr} {ty : FieldType} {n : Int32} {vs : List Value} {dv : Value} (hf : Fit s) (et : t.eval args s none [] s = some (.ref a)) (h3 : (Cond.arrayOf t ty).value args s none s [] = some true)
    (h4 : (Term.length t).eval args s none [] s = some (.int n)) (hz : ¬ n < 0) (hl : n.toNatClampNeg = vs.length) (hs : vs.length < 2147483648) (hel : ∀ (i : Nat) (v : Value), vs[i]? = some v → (Term.elem t (.int (Int32.ofNat i))).eval args s none [] s = some v) : ∃ k, Arv s s.heap a k ty n vs dv := by
  obtain ⟨c, A⟩ := Arr.start et h3
  obtain ⟨sd, SA, hev, harr, -⟩ := Term.length_spec h4
  cases hev.symm.trans et
  cases harr.symm.trans (Arr.fin (U := s) (Vm.Alike.refl _) A)
  have h31 := Jvm.Free.SBG.length_lt hev harr h4
  have e : c.slots.size.toInt32 = n := by
    have q := len_f hev harr h31
    rw [h4] at q
    exact (Value.int.inj (Option.some.inj q)).symm
  refine ⟨_, Arv.start hf A h31 e hz hl (own_hasL vs 0 fun j v hj => ?_)⟩
  have hj2 : j < vs.length := (List.getElem?_eq_some_iff.mp hj).1
  have q := (elem_in (hel j v hj) hev (Term.int_eval _) A.1).2
  rw [Int32.toNatClampNeg_ofNat_of_lt (by omega)] at q
  rwa [Nat.zero_add]
theorem own_strZ {s : State} {args : Array Value} {t : Term} {x : Addr} {n : Int32} {cs : List Int32} (hf : Fit s) (et : t.eval args s none [] s = some (.ref x)) (h1 : (Cond.exactly t "java/lang/String").value args s none s [] = some true) (h2 : (Cond.eq (.field t "java/lang/String" "coder" "B") (.int 0)).value args s none s [] = some true)
    (h3 : (Cond.arrayOf (.field t "java/lang/String" "value" "[B") .byte).value args s none s [] = some true) (h4 : (Cond.eq (.length (.field t "java/lang/String" "value" "[B")) (.int n)).value args s none s [] = some true) (hz : ¬ n < 0) (hl : n.toNatClampNeg = cs.length) (hs : cs.length < 2147483648)
    (hel : ∀ (i : Nat) (v : Value), (own_bs cs)[i]? = some v → (Term.elem (.field t "java/lang/String" "value" "[B") (.int (Int32.ofNat i))).eval args s none [] s = some v) :
    ∃ (tb : Addr) (kb : ClassId), Exa s s.heap x "java/lang/String" ∧ Fld s s.heap x "java/lang/String" "value" "[B" (.ref tb) ∧ Fld s s.heap x "java/lang/String" "coder" "B" (.int (0 : Int32)) ∧ Arv s s.heap tb kb .byte n (own_bs cs) (.int 0) := by
  obtain ⟨tb, ev⟩ := arr_v h3
  obtain ⟨kb, K⟩ := own_arvZ (dv := .int 0) hf ev h3 (eqv_i (Term.int_eval _) h4) hz (by rw [hl, own_bs_len]) (by rw [own_bs_len]; exact hs) hel
  refine ⟨tb, kb, Exa.start et h1, Fld.start ?_, Fld.start ?_, K⟩
  · rw [← fld_at et]; exact ev
  · have := eqv_i (Term.int_eval _) h2
    rw [fld_at et] at this; exact this
theorem own_eqR {Z : State} {args : Array Value} {X F : Term} {a : Addr} (hF : F.eval args Z none [] Z = some (.ref a)) (h : (Cond.eq X F).value args Z none Z [] = some true) : X.eval args Z none [] Z = some (.ref a) := by
  obtain ⟨x, y, e1, e2, k1, k2⟩ := cmp_v (Or.inl h)
  cases hF.symm.trans e2
  have hx : x.isRef = true := by
    cases x <;> first | rfl | exact k1.1 | (obtain ⟨z, hz⟩ := k1; cases hz)
  have q := gotT (eq_R e1 e2 hx rfl) h
  rw [e1, q]
def own_fv (ds : List Int32) (t0 t1 t2 : Addr) : Value := if ([116, 105, 116, 108, 101] : List Int32) = ds then .ref t0 else if ([100, 101, 115, 99] : List Int32) = ds then .ref t1 else if ([110, 97, 114, 114] : List Int32) = ds then .ref t2 else .null
theorem own_m7 (x : Int32) : ∃ K : Nat, K ≤ 6 ∧ (((x.toUInt32 >>> ((2 : Int32) &&& 31).toUInt32).toInt32) % (7 : Int32)) = Int32.ofNat K := by
  have h := c_iushr x 2 2 rfl (by decide)
  have h0 : 0 ≤ ((x.toUInt32 >>> ((2 : Int32) &&& 31).toUInt32).toInt32).toInt := by rw [h]; omega
  have h2 := (c_irem ((x.toUInt32 >>> ((2 : Int32) &&& 31).toUInt32).toInt32) 7 7 rfl).1 h0
  refine ⟨(((x.toUInt32 >>> ((2 : Int32) &&& 31).toUInt32).toInt32) % (7 : Int32)).toInt.toNat, by omega, ?_⟩
  apply Int32.toInt_inj.mp
  rw [Int32.toInt_ofNat_small (by omega)]
  omega
theorem own_mN (x n : Int32) (N : Nat) (hn : n.toInt = N) (h0 : 0 < N) (hN : N < 100) : ∃ K : Nat, K < N ∧ ((x &&& (2147483647 : Int32)) % n) = Int32.ofNat K := by
  have h := c_and x 2147483647 (by decide)
  have h2 := (c_irem (x &&& 2147483647) n N hn).1 h.1
  have h3 : 0 ≤ (x &&& (2147483647 : Int32)).toInt % (N : Int) := Int.emod_nonneg _ (by omega)
  have h4 : (x &&& (2147483647 : Int32)).toInt % (N : Int) < N := Int.emod_lt_of_pos _ (by omega)
  refine ⟨((x &&& (2147483647 : Int32)) % n).toInt.toNat, by omega, ?_⟩
  apply Int32.toInt_inj.mp
  rw [Int32.toInt_ofNat_small (by omega)]
  omega
theorem own_ef_rmSI4 (m : MethodId) (x : Addr) (b : Addr) : entryFrame m #[(.ref x), (.ref b), (.int (0 : Int32)), (.int (0 : Int32)), .null] 6 = mkF m 0 #[.val (.ref x), .val (.ref b), .val (.int (0 : Int32)), .val (.int (0 : Int32)), .val .null, .unset] [] := by first | (simp [entryFrame, mkF, argsToLocals, Value.category]; done) | rfl
theorem own_pn_java_lang_String : plainName "java/lang/String" = true := by first | (simp [plainName, overriddenIn]; done) | decide +kernel
theorem own_d2_0 : decode jdk_42_method_149_code 0 = .ok (.aload_n 0, 1) := by decide +kernel
theorem own_d2_1 : decode jdk_42_method_149_code 1 = .ok (.invokespecial 1, 3) := by decide +kernel
theorem own_d2_4 : decode jdk_42_method_149_code 4 = .ok (.iload_n 3, 1) := by decide +kernel
theorem own_d2_5 : decode jdk_42_method_149_code 5 = .ok (.ifCond .ne 22, 3) := by decide +kernel
theorem own_d2_8 : decode jdk_42_method_149_code 8 = .ok (.aload_n 0, 1) := by decide +kernel
theorem own_d2_9 : decode jdk_42_method_149_code 9 = .ok (.ldc 7, 2) := by decide +kernel
theorem own_d2_11 : decode jdk_42_method_149_code 11 = .ok (.getfield 9, 3) := by decide +kernel
theorem own_d2_14 : decode jdk_42_method_149_code 14 = .ok (.putfield 9, 3) := by decide +kernel
theorem own_fd_5bB : parseFieldDescriptor "[B" = some (.array .byte) := by decide +kernel
theorem own_d2_17 : decode jdk_42_method_149_code 17 = .ok (.aload_n 0, 1) := by decide +kernel
theorem own_d2_18 : decode jdk_42_method_149_code 18 = .ok (.ldc 7, 2) := by decide +kernel
theorem own_d2_20 : decode jdk_42_method_149_code 20 = .ok (.getfield 15, 3) := by decide +kernel
theorem own_d2_23 : decode jdk_42_method_149_code 23 = .ok (.putfield 15, 3) := by decide +kernel
theorem own_fd_B : parseFieldDescriptor "B" = some .byte := by decide +kernel
theorem own_d2_26 : decode jdk_42_method_149_code 26 = .ok (.return_, 1) := by decide +kernel
def Q_rmSI4 (Z : State) (x : Addr) (b : Addr) (h0 : Heap) (n0 : Nat) (vq : Option Value) (hhq : Heap) (Lq : List Loc) : Prop := ∃ (t : Addr), ∃ (kb : ClassId), vq = none ∧ Fr n0 Lq ∧ Keep h0 hhq [x] ∧ Fld Z hhq x "java/lang/String" "value" "[B" (.ref t) ∧ Fld Z hhq x "java/lang/String" "coder" "B" (.int (0 : Int32)) ∧ Arv Z hhq t kb .byte (0 : Int32) ((([] : List Int32).map (fun c => c.toInt8.toInt32)).map Value.int) (.int 0)
set_option maxRecDepth 65536 in
set_option maxHeartbeats 40000000 in
theorem rmSI4 (l : Launch) (Z : State) (a0 : Array Value) (hw : ∀ d ∈ tables_1, d.before a0 Z = true) (ws : List Jvm.Cond) (x : Addr) (b : Addr) (h0 : Heap) (n0 : Nat) (Z0 : n0 ≤ h0.size) (hEL : EW Z a0 consts_1) (Pm0 : Exa Z h0 x "java/lang/String") (Pm1 : Fld Z h0 x "java/lang/String" "value" "[B" .null) (Pm2 : Fld Z h0 x "java/lang/String" "coder" "B" (.int (0 : Int32))) (Pm3 : n0 ≤ x) :
    MetFree l (⟨"java/lang/String", "<init>", "([CIILjava/lang/Void;)V"⟩ : MethodName) (head1 (Jvm.Cond.code (⟨"java/lang/String", "<init>", "([CIILjava/lang/Void;)V"⟩ : MethodName) jdk_42_method_149_code 6 none :: ws) ({ frames := 1, cells := 4, slots := 8, locals := 12 } : Room)) (fun aq U => aq = #[(.ref x), (.ref b), (.int (0 : Int32)), (.int (0 : Int32)), .null] ∧ Z.Warmed39 U.vm ∧ U.heap = h0 ∧ CHv Z consts_1 U.vm h0 ∧ ∀ ax ∈ ([x] : List Addr), Safe Z consts_1 U.vm h0 ax) (fun _ _ _ _ _ => True) (fun _ U oq U' => ∃ vq Lq, oq = .returned vq ∧ Q_rmSI4 Z x b h0 n0 vq U'.heap Lq ∧ CHr Z consts_1 U.vm U.heap U'.vm U'.heap ∧ ReturnedEndW U oq U' Lq ({ frames := 1, cells := 4, slots := 8, locals := 12 } : Room).cells ({ frames := 1, cells := 4, slots := 8, locals := 12 } : Room).slots) := by
  refine MetFree.of_bodySF (plainFor_of_name own_pn_java_lang_String) hisR ?_
  intro p e s m args below meth c s₁ Bd hml0 hP hK
  obtain ⟨rfl, hZ, hh, hH, hSf⟩ := hP
  have hx := Bd.exec
  have hby := Bd.bytes
  have hml : c.maxLocals = 6 := hml0
  have hown : s.vm.findClass "java/lang/String" = some m.cls := findClass_of_methodNamed Bd.named
  have hnm := (name_of_methodNamed Bd.named Bd.method).1
  have X0 : Stand p l e ({ frames := 1, cells := 4, slots := 8, locals := 12 } : Room) (s.setVm s.vm) m #[(.ref x), (.ref b), (.int (0 : Int32)), (.int (0 : Int32)), .null] below meth c s₁ [] 0 0 := Stand.of_body Bd
  have e0 : s₁.heap = h0 := by rw [← hh, Bd.state]; rfl
  have N0 := Fr.nil n0
  have K0 : Keep h0 h0 [x] := Keep.refl _ _
  refine own_go (S' := s₁.setTop (mkF m 0 #[.val (.ref x), .val (.ref b), .val (.int (0 : Int32)), .val (.int (0 : Int32)), .val .null, .unset] [])) (fun tq kq => castTop (own_ef_rmSI4 m x b) kq) ?_
  have lt1 : @LT.lt Nat _ x h0.size := Pm0.lt
  have hS0 : s.Since s.vm h0.size := (State.WarmedH.refl s).since _
  have CR0 : CHr Z consts_1 s.vm h0 s.vm h0 := CHr.refl hH
  have hwS : ∀ d ∈ Bundle.stringAtoms, d.before a0 Z = true := fun d hd => hw d ((by decide +kernel : ∀ d ∈ Bundle.stringAtoms, d ∈ tables_1) d hd)
  have sf_x : Safe Z consts_1 s.vm h0 x := hSf _ (List.mem_of_getElem? (i := 0) rfl)
  refine own_go (fun tq kq => XS.aloadN X0.here hx rfl (hb hby own_d2_0) rfl rfl kq) ?_
  show own_Rn p e below _ (s₁.setTop (mkF m 1 #[.val (.ref x), .val (.ref b), .val (.int (0 : Int32)), .val (.int (0 : Int32)), .val .null, .unset] [(.ref x)]))
  obtain ⟨T2, X2, e2, st2⟩ := initO X0 hx hZ hown (hw _ (own_mi 15 rfl)) (hw _ (own_mi 16 rfl)) (hw _ (own_mi 17 rfl)) e0 (g := (mkF m 1 #[.val (.ref x), .val (.ref b), .val (.int (0 : Int32)), .val (.int (0 : Int32)), .val .null, .unset] [(.ref x)])) rfl (by rw [hml]; rfl) rfl (hb hby own_d2_1) (by decide) (W := 0) (by show 2 * 0 + _ ≤ _; exact Nat.le_of_eq rfl) (by decide)
  refine own_go st2 ?_
  show own_Rn p e below _ (T2.setTop (mkF m 4 #[.val (.ref x), .val (.ref b), .val (.int (0 : Int32)), .val (.int (0 : Int32)), .val .null, .unset] []))
  refine own_go (fun tq kq => XS.iloadN X2.here hx rfl (hb hby own_d2_4) rfl kq) ?_
  show own_Rn p e below _ (T2.setTop (mkF m 5 #[.val (.ref x), .val (.ref b), .val (.int (0 : Int32)), .val (.int (0 : Int32)), .val .null, .unset] [(.int (0 : Int32))]))
  refine own_go (fun tq kq => XS.ifNo X2.here hx rfl (hb hby own_d2_5) rfl ((if0 _ _).trans (teq ((by decide : (0 : Int32) = (0 : Int32)) : (0 : Int32) = (0 : Int32))).2) kq) ?_
  show own_Rn p e below _ (T2.setTop (mkF m 8 #[.val (.ref x), .val (.ref b), .val (.int (0 : Int32)), .val (.int (0 : Int32)), .val .null, .unset] []))
  refine own_go (fun tq kq => XS.aloadN X2.here hx rfl (hb hby own_d2_8) rfl rfl kq) ?_
  show own_Rn p e below _ (T2.setTop (mkF m 9 #[.val (.ref x), .val (.ref b), .val (.int (0 : Int32)), .val (.int (0 : Int32)), .val .null, .unset] [(.ref x)]))
  obtain ⟨a3, T3, h3, kk3, bb3, kc3, X3, e3, E3, hS3, hk3, hZ3, hown3, Ex3, Co3, Va3, Ab3, la3, lb3, crq3, Li3, sn3, st3⟩ := ldcCH X2 hx hZ hown (hw _ (own_mi 18 rfl)) hwS e2 hS0 (by omega) hEL (List.mem_of_getElem? (i := 3) rfl) CR0.1 (vs := ((([] : List Int32).map (fun c => c.toInt8.toInt32)).map Value.int)) (z := (0 : Int32)) ⟨by decide, by decide⟩ (by decide) (by decide) (g := (mkF m 9 #[.val (.ref x), .val (.ref b), .val (.int (0 : Int32)), .val (.int (0 : Int32)), .val .null, .unset] [(.ref x)])) rfl (hb hby own_d2_9) (n := 0) (by decide) (by decide) (by decide) (by decide)
  refine own_go st3 ?_
  have sz4 : h0.size ≤ h3.size := E3.1
  have K4 := K0.ext E3
  have cr4 : CHr Z consts_1 s.vm h0 T3.vm h3 := crq3
  have CR4 := CR0.trans cr4
  have sf6 : Safe Z consts_1 T3.vm h3 x := (CHr.safe cr4 (show @LT.lt Nat _ _ _ by omega) sf_x)
  obtain ⟨na3_x, nb3_x⟩ := sn3 x sf6
  have lt7 : @LT.lt Nat _ a3 h3.size := Ex3.lt
  have lt8 : @LT.lt Nat _ bb3 h3.size := Ab3.lt
  show own_Rn p e below _ (T3.setTop (mkF m 11 #[.val (.ref x), .val (.ref b), .val (.int (0 : Int32)), .val (.int (0 : Int32)), .val .null, .unset] [(.ref a3), (.ref x)]))
  obtain ⟨T9, X9, e9, st9⟩ := getF X3 hx hZ3 hown3 (host := "") (Or.inl (hw _ (own_mi 24 rfl))) Via.refl e3 Va3 (g := (mkF m 11 #[.val (.ref x), .val (.ref b), .val (.int (0 : Int32)), .val (.int (0 : Int32)), .val .null, .unset] [(.ref a3), (.ref x)])) rfl rfl (hb hby own_d2_11)
  refine own_go st9 ?_
  show own_Rn p e below _ (T9.setTop (mkF m 14 #[.val (.ref x), .val (.ref b), .val (.int (0 : Int32)), .val (.int (0 : Int32)), .val .null, .unset] [(.ref bb3), (.ref x)]))
  have F10 : Fld Z h3 x "java/lang/String" "value" "[B" .null := (Pm1.ext E3)
  have F11 : Exa Z h3 x "java/lang/String" := (Pm0.ext E3)
  obtain ⟨T12, h12, X12, e12, W12, st12⟩ := putF X9 hx hZ3 hown3 (host := "") (Or.inl (hw _ (own_mi 24 rfl))) Via.refl e9 F10 F11 (Or.inr ⟨(hw _ (own_mi 20 rfl)), rfl, hnm⟩) (hw _ (own_mi 6 rfl)) (ty := (.array .byte)) own_fd_5bB rfl rfl (g := (mkF m 14 #[.val (.ref x), .val (.ref b), .val (.int (0 : Int32)), .val (.int (0 : Int32)), .val .null, .unset] [(.ref bb3), (.ref x)])) rfl rfl (hb hby own_d2_14)
  refine own_go st12 ?_
  have N12 := Fr.snoc X12 N0 Pm3
  have Fw12 := F10.same W12
  have sz14 : h3.size ≤ h12.size := Nat.le_of_eq (Wr.size W12).symm
  have K14 := K4.wr W12 (Or.inl (List.mem_of_getElem? (i := 0) rfl))
  have cr14 : CHr Z consts_1 T3.vm h3 T3.vm h12 := CHr.wr W12 sf6 CR4.1
  have CR14 := CR4.trans cr14
  show own_Rn p e below _ (T12.setTop (mkF m 17 #[.val (.ref x), .val (.ref b), .val (.int (0 : Int32)), .val (.int (0 : Int32)), .val .null, .unset] []))
  refine own_go (fun tq kq => XS.aloadN X12.here hx rfl (hb hby own_d2_17) rfl rfl kq) ?_
  show own_Rn p e below _ (T12.setTop (mkF m 18 #[.val (.ref x), .val (.ref b), .val (.int (0 : Int32)), .val (.int (0 : Int32)), .val .null, .unset] [(.ref x)]))
  obtain ⟨a15, T15, h15, kk15, bb15, kc15, X15, e15, E15, hS15, hk15, hZ15, hown15, Ex15, Co15, Va15, Ab15, la15, lb15, crq15, Li15, sn15, st15⟩ := ldcCH X12 hx hZ3 hown3 (hw _ (own_mi 18 rfl)) hwS e12 hS3 (by omega) hEL (List.mem_of_getElem? (i := 3) rfl) CR14.1 (vs := ((([] : List Int32).map (fun c => c.toInt8.toInt32)).map Value.int)) (z := (0 : Int32)) ⟨by decide, by decide⟩ (by decide) (by decide) (g := (mkF m 18 #[.val (.ref x), .val (.ref b), .val (.int (0 : Int32)), .val (.int (0 : Int32)), .val .null, .unset] [(.ref x)])) rfl (hb hby own_d2_18) (n := 0) (by decide) (by decide) (by decide) (by decide)
  refine own_go st15 ?_
  have sz16 : h12.size ≤ h15.size := E15.1
  have K16 := K14.ext E15
  have cr16 : CHr Z consts_1 T3.vm h12 T15.vm h15 := crq15
  have CR16 := CR14.trans cr16
  have sf18 : Safe Z consts_1 T15.vm h15 x := (CHr.safe cr16 (show @LT.lt Nat _ _ _ by omega) (CHr.safe cr14 (show @LT.lt Nat _ _ _ by omega) sf6))
  obtain ⟨na15_x, nb15_x⟩ := sn15 x sf18
  have lt19 : @LT.lt Nat _ a15 h15.size := Ex15.lt
  have lt20 : @LT.lt Nat _ bb15 h15.size := Ab15.lt
  show own_Rn p e below _ (T15.setTop (mkF m 20 #[.val (.ref x), .val (.ref b), .val (.int (0 : Int32)), .val (.int (0 : Int32)), .val .null, .unset] [(.ref a15), (.ref x)]))
  obtain ⟨T21, X21, e21, st21⟩ := getF X15 hx hZ15 hown15 (host := "") (Or.inl (hw _ (own_mi 25 rfl))) Via.refl e15 Co15 (g := (mkF m 20 #[.val (.ref x), .val (.ref b), .val (.int (0 : Int32)), .val (.int (0 : Int32)), .val .null, .unset] [(.ref a15), (.ref x)])) rfl rfl (hb hby own_d2_20)
  refine own_go st21 ?_
  show own_Rn p e below _ (T21.setTop (mkF m 23 #[.val (.ref x), .val (.ref b), .val (.int (0 : Int32)), .val (.int (0 : Int32)), .val .null, .unset] [(.int (0 : Int32)), (.ref x)]))
  have F22 : Fld Z h15 x "java/lang/String" "coder" "B" (.int (0 : Int32)) := (((Pm2.ext E3).other W12 (Or.inr (slot_ne (Or.inr (hw _ (own_mi 21 rfl))) (Or.inr (hw _ (own_mi 20 rfl))) (by decide) (t := .byte) (t' := (.array .byte)) own_fd_B own_fd_5bB))).ext E15)
  have F23 : Exa Z h15 x "java/lang/String" := ((F11.wr W12).ext E15)
  obtain ⟨T24, h24, X24, e24, W24, st24⟩ := putFN X21 hx hZ15 hown15 (hw _ (own_mi 25 rfl)) Via.refl e21 F22 F23 (Or.inr ⟨(hw _ (own_mi 21 rfl)), rfl, hnm⟩) (hw _ (own_mi 6 rfl)) (ty := .byte) (v' := (.int ((0 : Int32)))) own_fd_B rfl (by decide) (g := (mkF m 23 #[.val (.ref x), .val (.ref b), .val (.int (0 : Int32)), .val (.int (0 : Int32)), .val .null, .unset] [(.int (0 : Int32)), (.ref x)])) rfl rfl (hb hby own_d2_23)
  refine own_go st24 ?_
  have N24 := Fr.snoc X24 N12 Pm3
  have Fw24 := F22.same W24
  have sz26 : h15.size ≤ h24.size := Nat.le_of_eq (Wr.size W24).symm
  have K26 := K16.wr W24 (Or.inl (List.mem_of_getElem? (i := 0) rfl))
  have cr26 : CHr Z consts_1 T15.vm h15 T15.vm h24 := CHr.wr W24 sf18 CR16.1
  have CR26 := CR16.trans cr26
  show own_Rn p e below _ (T24.setTop (mkF m 26 #[.val (.ref x), .val (.ref b), .val (.int (0 : Int32)), .val (.int (0 : Int32)), .val .null, .unset] []))
  have F27 : Fld Z h24 x "java/lang/String" "value" "[B" (.ref bb3) := ((Fw12.ext E15).other W24 (Or.inr (slot_ne (Or.inr (hw _ (own_mi 20 rfl))) (Or.inr (hw _ (own_mi 21 rfl))) (by decide) (t := (.array .byte)) (t' := .byte) own_fd_5bB own_fd_B)))
  have F28 : Arv Z h24 bb3 kc3 .byte (0 : Int32) ((([] : List Int32).map (fun c => c.toInt8.toInt32)).map Value.int) (.int 0) := (((Ab3.other W12 (Ne.symm nb3_x)).ext E15).other W24 (Ne.symm nb3_x))
  exact own_retS X24 hS15 (by rw [e24]; omega) (v := none) (fun _ => rfl) (fun fs hr => X24.returnOut hx Bd.returns (hb hby own_d2_26) hr) (by rw [e24]; exact ⟨bb3, kc3, rfl, N24, K26, F27, Fw24, F28⟩) (by rw [hh, e24]; exact CR26.trans (CHv.at X24 hZ15 hEL CR26.1)) (by decide) (by decide)
theorem own_ef_rmSI1 (m : MethodId) (x : Addr) (b : Addr) (kz : ClassId) : entryFrame m #[(.ref x), (.ref b)] 2 = mkF m 0 #[.val (.ref x), .val (.ref b)] [] := by first | (simp [entryFrame, mkF, argsToLocals, Value.category]; done) | rfl
theorem own_d1_0 : decode jdk_42_method_3_code 0 = .ok (.aload_n 0, 1) := by decide +kernel
theorem own_d1_1 : decode jdk_42_method_3_code 1 = .ok (.aload_n 1, 1) := by decide +kernel
theorem own_d1_2 : decode jdk_42_method_3_code 2 = .ok (.iconst 0, 1) := by decide +kernel
theorem own_d1_3 : decode jdk_42_method_3_code 3 = .ok (.aload_n 1, 1) := by decide +kernel
theorem own_d1_4 : decode jdk_42_method_3_code 4 = .ok (.arraylength, 1) := by decide +kernel
theorem own_d1_5 : decode jdk_42_method_3_code 5 = .ok (.aconst_null, 1) := by decide +kernel
theorem own_d1_6 : decode jdk_42_method_3_code 6 = .ok (.invokespecial 27, 3) := by decide +kernel
theorem own_pd_285bCIILjava2flang2fVoid3b29V : parseMethodDescriptor "([CIILjava/lang/Void;)V" = some ⟨[(.array .char), .int, .int, (.object "java/lang/Void")], none⟩ := by decide +kernel
theorem own_d1_9 : decode jdk_42_method_3_code 9 = .ok (.return_, 1) := by decide +kernel
def Q_rmSI1 (Z : State) (x : Addr) (b : Addr) (kz : ClassId) (h0 : Heap) (n0 : Nat) (vq : Option Value) (hhq : Heap) (Lq : List Loc) : Prop := ∃ (t : Addr), ∃ (kb : ClassId), vq = none ∧ Fr n0 Lq ∧ Keep h0 hhq [x] ∧ Fld Z hhq x "java/lang/String" "value" "[B" (.ref t) ∧ Fld Z hhq x "java/lang/String" "coder" "B" (.int (0 : Int32)) ∧ Arv Z hhq t kb .byte (0 : Int32) ((([] : List Int32).map (fun c => c.toInt8.toInt32)).map Value.int) (.int 0)
set_option maxRecDepth 65536 in
set_option maxHeartbeats 40000000 in
theorem rmSI1 (l : Launch) (Z : State) (a0 : Array Value) (hw : ∀ d ∈ tables_1, d.before a0 Z = true) (ws : List Jvm.Cond) (x : Addr) (b : Addr) (kz : ClassId) (h0 : Heap) (n0 : Nat) (Z0 : n0 ≤ h0.size) (hEL : EW Z a0 consts_1) (Pm0 : Exa Z h0 x "java/lang/String") (Pm1 : Fld Z h0 x "java/lang/String" "value" "[B" .null) (Pm2 : Fld Z h0 x "java/lang/String" "coder" "B" (.int (0 : Int32))) (Pm3 : n0 ≤ x) (Pm4 : Arv Z h0 b kz .char (0 : Int32) [] (.int (0 : Int32))) :
    MetFree l (⟨"java/lang/String", "<init>", "([C)V"⟩ : MethodName) (head1 (Jvm.Cond.code (⟨"java/lang/String", "<init>", "([C)V"⟩ : MethodName) jdk_42_method_3_code 2 none :: ws) ({ frames := 2, cells := 4, slots := 8, locals := 29 } : Room)) (fun aq U => aq = #[(.ref x), (.ref b)] ∧ Z.Warmed39 U.vm ∧ U.heap = h0 ∧ CHv Z consts_1 U.vm h0 ∧ ∀ ax ∈ ([x] : List Addr), Safe Z consts_1 U.vm h0 ax) (fun _ _ _ _ _ => True) (fun _ U oq U' => ∃ vq Lq, oq = .returned vq ∧ Q_rmSI1 Z x b kz h0 n0 vq U'.heap Lq ∧ CHr Z consts_1 U.vm U.heap U'.vm U'.heap ∧ ReturnedEndW U oq U' Lq ({ frames := 2, cells := 4, slots := 8, locals := 29 } : Room).cells ({ frames := 2, cells := 4, slots := 8, locals := 29 } : Room).slots) := by
  refine MetFree.of_bodySF (plainFor_of_name own_pn_java_lang_String) hisR ?_
  intro p e s m args below meth c s₁ Bd hml0 hP hK
  obtain ⟨rfl, hZ, hh, hH, hSf⟩ := hP
  have hx := Bd.exec
  have hby := Bd.bytes
  have hml : c.maxLocals = 2 := hml0
  have hown : s.vm.findClass "java/lang/String" = some m.cls := findClass_of_methodNamed Bd.named
  have hnm := (name_of_methodNamed Bd.named Bd.method).1
  have X0 : Stand p l e ({ frames := 2, cells := 4, slots := 8, locals := 29 } : Room) (s.setVm s.vm) m #[(.ref x), (.ref b)] below meth c s₁ [] 0 0 := Stand.of_body Bd
  have e0 : s₁.heap = h0 := by rw [← hh, Bd.state]; rfl
  have N0 := Fr.nil n0
  have K0 : Keep h0 h0 [x] := Keep.refl _ _
  refine own_go (S' := s₁.setTop (mkF m 0 #[.val (.ref x), .val (.ref b)] [])) (fun tq kq => castTop (own_ef_rmSI1 m x b kz) kq) ?_
  have lt1 : @LT.lt Nat _ x h0.size := Pm0.lt
  have lt2 : @LT.lt Nat _ b h0.size := Pm4.lt
  have hS0 : s.Since s.vm h0.size := (State.WarmedH.refl s).since _
  have CR0 : CHr Z consts_1 s.vm h0 s.vm h0 := CHr.refl hH
  have hwS : ∀ d ∈ Bundle.stringAtoms, d.before a0 Z = true := fun d hd => hw d ((by decide +kernel : ∀ d ∈ Bundle.stringAtoms, d ∈ tables_1) d hd)
  have sf_x : Safe Z consts_1 s.vm h0 x := hSf _ (List.mem_of_getElem? (i := 0) rfl)
  refine own_go (fun tq kq => XS.aloadN X0.here hx rfl (hb hby own_d1_0) rfl rfl kq) ?_
  show own_Rn p e below _ (s₁.setTop (mkF m 1 #[.val (.ref x), .val (.ref b)] [(.ref x)]))
  refine own_go (fun tq kq => XS.aloadN X0.here hx rfl (hb hby own_d1_1) rfl rfl kq) ?_
  show own_Rn p e below _ (s₁.setTop (mkF m 2 #[.val (.ref x), .val (.ref b)] [(.ref b), (.ref x)]))
  refine own_go (fun tq kq => XS.iconst X0.here hx rfl (hb hby own_d1_2) kq) ?_
  show own_Rn p e below _ (s₁.setTop (mkF m 3 #[.val (.ref x), .val (.ref b)] [(.int (0 : Int32)), (.ref b), (.ref x)]))
  refine own_go (fun tq kq => XS.aloadN X0.here hx rfl (hb hby own_d1_3) rfl rfl kq) ?_
  show own_Rn p e below _ (s₁.setTop (mkF m 4 #[.val (.ref x), .val (.ref b)] [(.ref b), (.int (0 : Int32)), (.ref b), (.ref x)]))
  obtain ⟨cl3, Ar3, -, Sz3, Nn3, -, -⟩ := id Pm4
  refine own_go (fun tq kq => X0.arraylength hx (cell := cl3) (by rw [e0]; exact Ar3.1) (State.isArrayOf_alike hZ.alike Ar3.2.1) (g := (mkF m 4 #[.val (.ref x), .val (.ref b)] [(.ref b), (.int (0 : Int32)), (.ref b), (.ref x)])) rfl rfl (hb hby own_d1_4) tq kq) ?_
  rw [len_of Sz3 Nn3]
  show own_Rn p e below _ (s₁.setTop (mkF m 5 #[.val (.ref x), .val (.ref b)] [(.int (0 : Int32)), (.int (0 : Int32)), (.ref b), (.ref x)]))
  refine own_go (fun tq kq => XS.aconstNull X0.here hx rfl (hb hby own_d1_5) kq) ?_
  show own_Rn p e below _ (s₁.setTop (mkF m 6 #[.val (.ref x), .val (.ref b)] [.null, (.int (0 : Int32)), (.int (0 : Int32)), (.ref b), (.ref x)]))
  have Zn4 : n0 ≤ h0.size := by omega
  obtain ⟨rv4, _, ⟨T4, L4, k4, n4⟩, -, X4, hS4, hG4, ⟨Lc4, hQ4, l4, y4, z4, CR4q⟩, st4⟩ := X0.specialBackS hx (y := (⟨"java/lang/String", "<init>", "([CIILjava/lang/Void;)V"⟩ : MethodName)) rfl hown (mvT hZ (hw _ (own_mi 11 rfl))) (mvT hZ (hw _ (own_mi 12 rfl))) (mvT hZ (hw _ (own_mi 14 rfl))) (by decide) (own_backSH (W := 0) (rm := ({ frames := 1, cells := 4, slots := 8, locals := 12 } : Room)) (sf := [x]) (h := h0) (rmSI4 l Z a0 hw [] (x) (b) h0 n0 Zn4 hEL Pm0 Pm1 Pm2 Pm3) hZ (hw _ (own_mi 14 rfl)) (hw _ (own_mi 7 rfl)) (by decide) (by decide) hEL CR0.1 (sfS sf_x sf0)) (g := (mkF m 6 #[.val (.ref x), .val (.ref b)] [.null, (.int (0 : Int32)), (.int (0 : Int32)), (.ref b), (.ref x)])) rfl (by rw [hml]; rfl) (Steps.refl _) (a := x) (argsL := [(.ref b), (.int (0 : Int32)), (.int (0 : Int32)), .null]) (rest := []) (lenOf own_pd_285bCIILjava2flang2fVoid3b29V rfl) rfl (by show 2 * 0 + _ ≤ _; exact Nat.le_of_eq rfl) (hb hby own_d1_6) (fun _ _ => ⟨rfl, e0, (by decide : 0 + 4 ≤ _), (by decide : 0 + 8 ≤ _)⟩)
  dsimp only [Pt.U, Pt.locs, Pt.cells, Pt.slots] at X4 l4 y4 z4 st4 hQ4 hS4 hG4 CR4q
  subst l4 y4 z4
  obtain ⟨tt, kk, rfl, Nq4, Kq4, G0_4, G1_4, G2_4⟩ := hQ4
  have N4 := Fr.app N0 Nq4
  obtain ⟨Xr4, hSr4, hZ4, hown4⟩ := rebS hS0 (n1 := s₁.heap.size) (by rw [e0]; omega) X4 hS4 hG4 hZ hown
  have sz6 : h0.size ≤ T4.heap.size := Kq4.1
  have K6 := K0.trans Kq4 (allS (Or.inl (List.mem_of_getElem? (i := 0) rfl)) all0)
  have cr6 : CHr Z consts_1 s.vm h0 T4.vm T4.heap := CR4q
  have CR6 := CR0.trans cr6
  have lt7 : @LT.lt Nat _ tt T4.heap.size := G2_4.lt
  refine own_go (fun tq kq => st4.trans kq) ?_
  show own_Rn p e below _ (T4.setTop (mkF m 9 #[.val (.ref x), .val (.ref b)] []))
  exact own_retS Xr4 hSr4 (by omega) (v := none) (fun _ => rfl) (fun fs hr => Xr4.returnOut hx Bd.returns (hb hby own_d1_9) hr) (⟨tt, kk, rfl, N4, K6, G0_4, G1_4, G2_4⟩) (by rw [hh]; exact CR6.trans (CHv.at Xr4 hZ4 hEL CR6.1)) (by decide) (by decide)
theorem own_ef_rmMake (m : MethodId) (ba : Addr) (ka : ClassId) (b0 : Int32) (b1 : Int32) (b2 : Int32) (b3 : Int32) (b4 : Int32) (b5 : Int32) (N : Nat) (G1 : Int32) : entryFrame m #[(.ref ba), (.int (Int32.ofNat N))] 2 = mkF m 0 #[.val (.ref ba), .val (.int (Int32.ofNat N))] [] := by first | (simp [entryFrame, mkF, argsToLocals, Value.category]; done) | rfl
theorem own_pn_com_example_words_into_queries_wordsintoqueries_formulation_TopicFieldFindPinLaw : plainName "com/example/words_into_queries/wordsintoqueries/formulation/TopicFieldFindPinLaw" = true := by first | (simp [plainName, overriddenIn]; done) | decide +kernel
theorem own_d0_0 : decode method_3_code 0 = .ok (.iload_n 1, 1) := by decide +kernel
theorem own_d0_1 : decode method_3_code 1 = .ok (.ifCond .gt 14, 3) := by decide +kernel
theorem own_d0_4 : decode method_3_code 4 = .ok (.new 17, 3) := by decide +kernel
theorem own_d0_7 : decode method_3_code 7 = .ok (.dup, 1) := by decide +kernel
theorem own_d0_8 : decode method_3_code 8 = .ok (.iconst 0, 1) := by decide +kernel
theorem own_d0_9 : decode method_3_code 9 = .ok (.newarray .char, 2) := by decide +kernel
theorem own_d0_11 : decode method_3_code 11 = .ok (.invokespecial 42, 3) := by decide +kernel
theorem own_pd_285bC29V : parseMethodDescriptor "([C)V" = some ⟨[(.array .char)], none⟩ := by decide +kernel
theorem own_d0_14 : decode method_3_code 14 = .ok (.areturn, 1) := by decide +kernel
theorem own_d0_15 : decode method_3_code 15 = .ok (.iload_n 1, 1) := by decide +kernel
theorem own_d0_16 : decode method_3_code 16 = .ok (.iconst 1, 1) := by decide +kernel
theorem own_d0_17 : decode method_3_code 17 = .ok (.if_icmp .ne 20, 3) := by decide +kernel
theorem own_d0_20 : decode method_3_code 20 = .ok (.new 17, 3) := by decide +kernel
theorem own_d0_23 : decode method_3_code 23 = .ok (.dup, 1) := by decide +kernel
theorem own_d0_24 : decode method_3_code 24 = .ok (.iconst 1, 1) := by decide +kernel
theorem own_d0_25 : decode method_3_code 25 = .ok (.newarray .char, 2) := by decide +kernel
theorem own_d0_27 : decode method_3_code 27 = .ok (.dup, 1) := by decide +kernel
theorem own_d0_28 : decode method_3_code 28 = .ok (.iconst 0, 1) := by decide +kernel
theorem own_d0_29 : decode method_3_code 29 = .ok (.aload_n 0, 1) := by decide +kernel
theorem own_d0_30 : decode method_3_code 30 = .ok (.iconst 0, 1) := by decide +kernel
theorem own_d0_31 : decode method_3_code 31 = .ok (.caload, 1) := by decide +kernel
theorem own_d0_32 : decode method_3_code 32 = .ok (.castore, 1) := by decide +kernel
theorem own_d0_33 : decode method_3_code 33 = .ok (.invokespecial 42, 3) := by decide +kernel
theorem own_d0_36 : decode method_3_code 36 = .ok (.areturn, 1) := by decide +kernel
theorem own_d0_37 : decode method_3_code 37 = .ok (.iload_n 1, 1) := by decide +kernel
theorem own_d0_38 : decode method_3_code 38 = .ok (.iconst 2, 1) := by decide +kernel
theorem own_d0_39 : decode method_3_code 39 = .ok (.if_icmp .ne 26, 3) := by decide +kernel
theorem own_d0_42 : decode method_3_code 42 = .ok (.new 17, 3) := by decide +kernel
theorem own_d0_45 : decode method_3_code 45 = .ok (.dup, 1) := by decide +kernel
theorem own_d0_46 : decode method_3_code 46 = .ok (.iconst 2, 1) := by decide +kernel
theorem own_d0_47 : decode method_3_code 47 = .ok (.newarray .char, 2) := by decide +kernel
theorem own_d0_49 : decode method_3_code 49 = .ok (.dup, 1) := by decide +kernel
theorem own_d0_50 : decode method_3_code 50 = .ok (.iconst 0, 1) := by decide +kernel
theorem own_d0_51 : decode method_3_code 51 = .ok (.aload_n 0, 1) := by decide +kernel
theorem own_d0_52 : decode method_3_code 52 = .ok (.iconst 0, 1) := by decide +kernel
theorem own_d0_53 : decode method_3_code 53 = .ok (.caload, 1) := by decide +kernel
theorem own_d0_54 : decode method_3_code 54 = .ok (.castore, 1) := by decide +kernel
theorem own_d0_55 : decode method_3_code 55 = .ok (.dup, 1) := by decide +kernel
theorem own_d0_56 : decode method_3_code 56 = .ok (.iconst 1, 1) := by decide +kernel
theorem own_d0_57 : decode method_3_code 57 = .ok (.aload_n 0, 1) := by decide +kernel
theorem own_d0_58 : decode method_3_code 58 = .ok (.iconst 1, 1) := by decide +kernel
theorem own_d0_59 : decode method_3_code 59 = .ok (.caload, 1) := by decide +kernel
theorem own_d0_60 : decode method_3_code 60 = .ok (.castore, 1) := by decide +kernel
theorem own_d0_61 : decode method_3_code 61 = .ok (.invokespecial 42, 3) := by decide +kernel
theorem own_d0_64 : decode method_3_code 64 = .ok (.areturn, 1) := by decide +kernel
theorem own_d0_65 : decode method_3_code 65 = .ok (.iload_n 1, 1) := by decide +kernel
theorem own_d0_66 : decode method_3_code 66 = .ok (.iconst 3, 1) := by decide +kernel
theorem own_d0_67 : decode method_3_code 67 = .ok (.if_icmp .ne 32, 3) := by decide +kernel
theorem own_d0_70 : decode method_3_code 70 = .ok (.new 17, 3) := by decide +kernel
theorem own_d0_73 : decode method_3_code 73 = .ok (.dup, 1) := by decide +kernel
theorem own_d0_74 : decode method_3_code 74 = .ok (.iconst 3, 1) := by decide +kernel
theorem own_d0_75 : decode method_3_code 75 = .ok (.newarray .char, 2) := by decide +kernel
theorem own_d0_77 : decode method_3_code 77 = .ok (.dup, 1) := by decide +kernel
theorem own_d0_78 : decode method_3_code 78 = .ok (.iconst 0, 1) := by decide +kernel
theorem own_d0_79 : decode method_3_code 79 = .ok (.aload_n 0, 1) := by decide +kernel
theorem own_d0_80 : decode method_3_code 80 = .ok (.iconst 0, 1) := by decide +kernel
theorem own_d0_81 : decode method_3_code 81 = .ok (.caload, 1) := by decide +kernel
theorem own_d0_82 : decode method_3_code 82 = .ok (.castore, 1) := by decide +kernel
theorem own_d0_83 : decode method_3_code 83 = .ok (.dup, 1) := by decide +kernel
theorem own_d0_84 : decode method_3_code 84 = .ok (.iconst 1, 1) := by decide +kernel
theorem own_d0_85 : decode method_3_code 85 = .ok (.aload_n 0, 1) := by decide +kernel
theorem own_d0_86 : decode method_3_code 86 = .ok (.iconst 1, 1) := by decide +kernel
theorem own_d0_87 : decode method_3_code 87 = .ok (.caload, 1) := by decide +kernel
theorem own_d0_88 : decode method_3_code 88 = .ok (.castore, 1) := by decide +kernel
theorem own_d0_89 : decode method_3_code 89 = .ok (.dup, 1) := by decide +kernel
theorem own_d0_90 : decode method_3_code 90 = .ok (.iconst 2, 1) := by decide +kernel
theorem own_d0_91 : decode method_3_code 91 = .ok (.aload_n 0, 1) := by decide +kernel
theorem own_d0_92 : decode method_3_code 92 = .ok (.iconst 2, 1) := by decide +kernel
theorem own_d0_93 : decode method_3_code 93 = .ok (.caload, 1) := by decide +kernel
theorem own_d0_94 : decode method_3_code 94 = .ok (.castore, 1) := by decide +kernel
theorem own_d0_95 : decode method_3_code 95 = .ok (.invokespecial 42, 3) := by decide +kernel
theorem own_d0_98 : decode method_3_code 98 = .ok (.areturn, 1) := by decide +kernel
theorem own_d0_99 : decode method_3_code 99 = .ok (.iload_n 1, 1) := by decide +kernel
theorem own_d0_100 : decode method_3_code 100 = .ok (.iconst 4, 1) := by decide +kernel
theorem own_d0_101 : decode method_3_code 101 = .ok (.if_icmp .ne 38, 3) := by decide +kernel
theorem own_d0_104 : decode method_3_code 104 = .ok (.new 17, 3) := by decide +kernel
theorem own_d0_107 : decode method_3_code 107 = .ok (.dup, 1) := by decide +kernel
theorem own_d0_108 : decode method_3_code 108 = .ok (.iconst 4, 1) := by decide +kernel
theorem own_d0_109 : decode method_3_code 109 = .ok (.newarray .char, 2) := by decide +kernel
theorem own_d0_111 : decode method_3_code 111 = .ok (.dup, 1) := by decide +kernel
theorem own_d0_112 : decode method_3_code 112 = .ok (.iconst 0, 1) := by decide +kernel
theorem own_d0_113 : decode method_3_code 113 = .ok (.aload_n 0, 1) := by decide +kernel
theorem own_d0_114 : decode method_3_code 114 = .ok (.iconst 0, 1) := by decide +kernel
theorem own_d0_115 : decode method_3_code 115 = .ok (.caload, 1) := by decide +kernel
theorem own_d0_116 : decode method_3_code 116 = .ok (.castore, 1) := by decide +kernel
theorem own_d0_117 : decode method_3_code 117 = .ok (.dup, 1) := by decide +kernel
theorem own_d0_118 : decode method_3_code 118 = .ok (.iconst 1, 1) := by decide +kernel
theorem own_d0_119 : decode method_3_code 119 = .ok (.aload_n 0, 1) := by decide +kernel
theorem own_d0_120 : decode method_3_code 120 = .ok (.iconst 1, 1) := by decide +kernel
theorem own_d0_121 : decode method_3_code 121 = .ok (.caload, 1) := by decide +kernel
theorem own_d0_122 : decode method_3_code 122 = .ok (.castore, 1) := by decide +kernel
theorem own_d0_123 : decode method_3_code 123 = .ok (.dup, 1) := by decide +kernel
theorem own_d0_124 : decode method_3_code 124 = .ok (.iconst 2, 1) := by decide +kernel
theorem own_d0_125 : decode method_3_code 125 = .ok (.aload_n 0, 1) := by decide +kernel
theorem own_d0_126 : decode method_3_code 126 = .ok (.iconst 2, 1) := by decide +kernel
theorem own_d0_127 : decode method_3_code 127 = .ok (.caload, 1) := by decide +kernel
theorem own_d0_128 : decode method_3_code 128 = .ok (.castore, 1) := by decide +kernel
theorem own_d0_129 : decode method_3_code 129 = .ok (.dup, 1) := by decide +kernel
theorem own_d0_130 : decode method_3_code 130 = .ok (.iconst 3, 1) := by decide +kernel
theorem own_d0_131 : decode method_3_code 131 = .ok (.aload_n 0, 1) := by decide +kernel
theorem own_d0_132 : decode method_3_code 132 = .ok (.iconst 3, 1) := by decide +kernel
theorem own_d0_133 : decode method_3_code 133 = .ok (.caload, 1) := by decide +kernel
theorem own_d0_134 : decode method_3_code 134 = .ok (.castore, 1) := by decide +kernel
theorem own_d0_135 : decode method_3_code 135 = .ok (.invokespecial 42, 3) := by decide +kernel
theorem own_d0_138 : decode method_3_code 138 = .ok (.areturn, 1) := by decide +kernel
theorem own_d0_139 : decode method_3_code 139 = .ok (.iload_n 1, 1) := by decide +kernel
theorem own_d0_140 : decode method_3_code 140 = .ok (.iconst 5, 1) := by decide +kernel
theorem own_d0_141 : decode method_3_code 141 = .ok (.if_icmp .ne 44, 3) := by decide +kernel
theorem own_d0_144 : decode method_3_code 144 = .ok (.new 17, 3) := by decide +kernel
theorem own_d0_147 : decode method_3_code 147 = .ok (.dup, 1) := by decide +kernel
theorem own_d0_148 : decode method_3_code 148 = .ok (.iconst 5, 1) := by decide +kernel
theorem own_d0_149 : decode method_3_code 149 = .ok (.newarray .char, 2) := by decide +kernel
theorem own_d0_151 : decode method_3_code 151 = .ok (.dup, 1) := by decide +kernel
theorem own_d0_152 : decode method_3_code 152 = .ok (.iconst 0, 1) := by decide +kernel
theorem own_d0_153 : decode method_3_code 153 = .ok (.aload_n 0, 1) := by decide +kernel
theorem own_d0_154 : decode method_3_code 154 = .ok (.iconst 0, 1) := by decide +kernel
theorem own_d0_155 : decode method_3_code 155 = .ok (.caload, 1) := by decide +kernel
theorem own_d0_156 : decode method_3_code 156 = .ok (.castore, 1) := by decide +kernel
theorem own_d0_157 : decode method_3_code 157 = .ok (.dup, 1) := by decide +kernel
theorem own_d0_158 : decode method_3_code 158 = .ok (.iconst 1, 1) := by decide +kernel
theorem own_d0_159 : decode method_3_code 159 = .ok (.aload_n 0, 1) := by decide +kernel
theorem own_d0_160 : decode method_3_code 160 = .ok (.iconst 1, 1) := by decide +kernel
theorem own_d0_161 : decode method_3_code 161 = .ok (.caload, 1) := by decide +kernel
theorem own_d0_162 : decode method_3_code 162 = .ok (.castore, 1) := by decide +kernel
theorem own_d0_163 : decode method_3_code 163 = .ok (.dup, 1) := by decide +kernel
theorem own_d0_164 : decode method_3_code 164 = .ok (.iconst 2, 1) := by decide +kernel
theorem own_d0_165 : decode method_3_code 165 = .ok (.aload_n 0, 1) := by decide +kernel
theorem own_d0_166 : decode method_3_code 166 = .ok (.iconst 2, 1) := by decide +kernel
theorem own_d0_167 : decode method_3_code 167 = .ok (.caload, 1) := by decide +kernel
theorem own_d0_168 : decode method_3_code 168 = .ok (.castore, 1) := by decide +kernel
theorem own_d0_169 : decode method_3_code 169 = .ok (.dup, 1) := by decide +kernel
theorem own_d0_170 : decode method_3_code 170 = .ok (.iconst 3, 1) := by decide +kernel
theorem own_d0_171 : decode method_3_code 171 = .ok (.aload_n 0, 1) := by decide +kernel
theorem own_d0_172 : decode method_3_code 172 = .ok (.iconst 3, 1) := by decide +kernel
theorem own_d0_173 : decode method_3_code 173 = .ok (.caload, 1) := by decide +kernel
theorem own_d0_174 : decode method_3_code 174 = .ok (.castore, 1) := by decide +kernel
theorem own_d0_175 : decode method_3_code 175 = .ok (.dup, 1) := by decide +kernel
theorem own_d0_176 : decode method_3_code 176 = .ok (.iconst 4, 1) := by decide +kernel
theorem own_d0_177 : decode method_3_code 177 = .ok (.aload_n 0, 1) := by decide +kernel
theorem own_d0_178 : decode method_3_code 178 = .ok (.iconst 4, 1) := by decide +kernel
theorem own_d0_179 : decode method_3_code 179 = .ok (.caload, 1) := by decide +kernel
theorem own_d0_180 : decode method_3_code 180 = .ok (.castore, 1) := by decide +kernel
theorem own_d0_181 : decode method_3_code 181 = .ok (.invokespecial 42, 3) := by decide +kernel
theorem own_d0_184 : decode method_3_code 184 = .ok (.areturn, 1) := by decide +kernel
theorem own_d0_185 : decode method_3_code 185 = .ok (.new 17, 3) := by decide +kernel
theorem own_d0_188 : decode method_3_code 188 = .ok (.dup, 1) := by decide +kernel
theorem own_d0_189 : decode method_3_code 189 = .ok (.bipush 6, 2) := by decide +kernel
theorem own_d0_191 : decode method_3_code 191 = .ok (.newarray .char, 2) := by decide +kernel
theorem own_d0_193 : decode method_3_code 193 = .ok (.dup, 1) := by decide +kernel
theorem own_d0_194 : decode method_3_code 194 = .ok (.iconst 0, 1) := by decide +kernel
theorem own_d0_195 : decode method_3_code 195 = .ok (.aload_n 0, 1) := by decide +kernel
theorem own_d0_196 : decode method_3_code 196 = .ok (.iconst 0, 1) := by decide +kernel
theorem own_d0_197 : decode method_3_code 197 = .ok (.caload, 1) := by decide +kernel
theorem own_d0_198 : decode method_3_code 198 = .ok (.castore, 1) := by decide +kernel
theorem own_d0_199 : decode method_3_code 199 = .ok (.dup, 1) := by decide +kernel
theorem own_d0_200 : decode method_3_code 200 = .ok (.iconst 1, 1) := by decide +kernel
theorem own_d0_201 : decode method_3_code 201 = .ok (.aload_n 0, 1) := by decide +kernel
theorem own_d0_202 : decode method_3_code 202 = .ok (.iconst 1, 1) := by decide +kernel
theorem own_d0_203 : decode method_3_code 203 = .ok (.caload, 1) := by decide +kernel
theorem own_d0_204 : decode method_3_code 204 = .ok (.castore, 1) := by decide +kernel
theorem own_d0_205 : decode method_3_code 205 = .ok (.dup, 1) := by decide +kernel
theorem own_d0_206 : decode method_3_code 206 = .ok (.iconst 2, 1) := by decide +kernel
theorem own_d0_207 : decode method_3_code 207 = .ok (.aload_n 0, 1) := by decide +kernel
theorem own_d0_208 : decode method_3_code 208 = .ok (.iconst 2, 1) := by decide +kernel
theorem own_d0_209 : decode method_3_code 209 = .ok (.caload, 1) := by decide +kernel
theorem own_d0_210 : decode method_3_code 210 = .ok (.castore, 1) := by decide +kernel
theorem own_d0_211 : decode method_3_code 211 = .ok (.dup, 1) := by decide +kernel
theorem own_d0_212 : decode method_3_code 212 = .ok (.iconst 3, 1) := by decide +kernel
theorem own_d0_213 : decode method_3_code 213 = .ok (.aload_n 0, 1) := by decide +kernel
theorem own_d0_214 : decode method_3_code 214 = .ok (.iconst 3, 1) := by decide +kernel
theorem own_d0_215 : decode method_3_code 215 = .ok (.caload, 1) := by decide +kernel
theorem own_d0_216 : decode method_3_code 216 = .ok (.castore, 1) := by decide +kernel
theorem own_d0_217 : decode method_3_code 217 = .ok (.dup, 1) := by decide +kernel
theorem own_d0_218 : decode method_3_code 218 = .ok (.iconst 4, 1) := by decide +kernel
theorem own_d0_219 : decode method_3_code 219 = .ok (.aload_n 0, 1) := by decide +kernel
theorem own_d0_220 : decode method_3_code 220 = .ok (.iconst 4, 1) := by decide +kernel
theorem own_d0_221 : decode method_3_code 221 = .ok (.caload, 1) := by decide +kernel
theorem own_d0_222 : decode method_3_code 222 = .ok (.castore, 1) := by decide +kernel
theorem own_d0_223 : decode method_3_code 223 = .ok (.dup, 1) := by decide +kernel
theorem own_d0_224 : decode method_3_code 224 = .ok (.iconst 5, 1) := by decide +kernel
theorem own_d0_225 : decode method_3_code 225 = .ok (.aload_n 0, 1) := by decide +kernel
theorem own_d0_226 : decode method_3_code 226 = .ok (.iconst 5, 1) := by decide +kernel
theorem own_d0_227 : decode method_3_code 227 = .ok (.caload, 1) := by decide +kernel
theorem own_d0_228 : decode method_3_code 228 = .ok (.castore, 1) := by decide +kernel
theorem own_d0_229 : decode method_3_code 229 = .ok (.invokespecial 42, 3) := by decide +kernel
theorem own_d0_232 : decode method_3_code 232 = .ok (.areturn, 1) := by decide +kernel
def Q_rmMake (Z : State) (ba : Addr) (ka : ClassId) (b0 : Int32) (b1 : Int32) (b2 : Int32) (b3 : Int32) (b4 : Int32) (b5 : Int32) (N : Nat) (G1 : Int32) (h0 : Heap) (n0 : Nat) (vq : Option Value) (hhq : Heap) (Lq : List Loc) : Prop := ∃ (x : Addr), ∃ (t : Addr), ∃ (kt : ClassId), vq = some (.ref x) ∧ Fr n0 Lq ∧ Keep h0 hhq [] ∧ Exa Z hhq x "java/lang/String" ∧ Fld Z hhq x "java/lang/String" "value" "[B" (.ref t) ∧ Fld Z hhq x "java/lang/String" "coder" "B" (.int (0 : Int32)) ∧ Arv Z hhq t kt .byte (Int32.ofNat (([b0, b1, b2, b3, b4, b5] : List Int32).take N).length) (own_bs (([b0, b1, b2, b3, b4, b5] : List Int32).take N)) (.int 0)
set_option maxRecDepth 65536 in
set_option maxHeartbeats 40000000 in
theorem rmMake (l : Launch) (Z : State) (a0 : Array Value) (hw : ∀ d ∈ tables_1, d.before a0 Z = true) (ws : List Jvm.Cond) (ba : Addr) (ka : ClassId) (b0 : Int32) (b1 : Int32) (b2 : Int32) (b3 : Int32) (b4 : Int32) (b5 : Int32) (N : Nat) (G1 : Int32) (h0 : Heap) (n0 : Nat) (Z0 : n0 ≤ h0.size) (hEL : EW Z a0 consts_1) (Pm0 : Arv Z h0 ba ka .char (6 : Int32) [(.int b0), (.int b1), (.int b2), (.int b3), (.int b4), (.int b5)] (.int (0 : Int32))) (hN : (N ≤ 6)) (r0 : (¬ b0 < 0 ∧ ¬ (255 : Int32) < b0)) (r1 : (¬ b1 < 0 ∧ ¬ (255 : Int32) < b1)) (r2 : (¬ b2 < 0 ∧ ¬ (255 : Int32) < b2)) (r3 : (¬ b3 < 0 ∧ ¬ (255 : Int32) < b3)) (r4 : (¬ b4 < 0 ∧ ¬ (255 : Int32) < b4)) (r5 : (¬ b5 < 0 ∧ ¬ (255 : Int32) < b5)) (O2 : Sta Z Z.heap "java/lang/String" "COMPACT_STRINGS" "Z" (.int G1)) (P5 : (¬ (G1 = (0 : Int32)))) (X00 : Old Z n0 h0) :
    MetFree l (⟨"com/example/words_into_queries/wordsintoqueries/formulation/TopicFieldFindPinLaw", "make", "([CI)Ljava/lang/String;"⟩ : MethodName) (head1 (Jvm.Cond.code (⟨"com/example/words_into_queries/wordsintoqueries/formulation/TopicFieldFindPinLaw", "make", "([CI)Ljava/lang/String;"⟩ : MethodName) method_3_code 2 (some (.object "java/lang/String")) :: ws) ({ frames := 4, cells := 6, slots := 16, locals := 66 } : Room)) (fun aq U => aq = #[(.ref ba), (.int (Int32.ofNat N))] ∧ Z.Warmed39 U.vm ∧ U.heap = h0 ∧ CHv Z consts_1 U.vm h0 ∧ ∀ ax ∈ ([] : List Addr), Safe Z consts_1 U.vm h0 ax) (fun _ _ _ _ _ => True) (fun _ U oq U' => ∃ vq Lq, oq = .returned vq ∧ Q_rmMake Z ba ka b0 b1 b2 b3 b4 b5 N G1 h0 n0 vq U'.heap Lq ∧ CHr Z consts_1 U.vm U.heap U'.vm U'.heap ∧ ReturnedEndW U oq U' Lq ({ frames := 4, cells := 6, slots := 16, locals := 66 } : Room).cells ({ frames := 4, cells := 6, slots := 16, locals := 66 } : Room).slots) := by
  refine MetFree.of_bodySF (plainFor_of_name own_pn_com_example_words_into_queries_wordsintoqueries_formulation_TopicFieldFindPinLaw) hisR ?_
  intro p e s m args below meth c s₁ Bd hml0 hP hK
  obtain ⟨rfl, hZ, hh, hH, hSf⟩ := hP
  have hx := Bd.exec
  have hby := Bd.bytes
  have hml : c.maxLocals = 2 := hml0
  have hown : s.vm.findClass "com/example/words_into_queries/wordsintoqueries/formulation/TopicFieldFindPinLaw" = some m.cls := findClass_of_methodNamed Bd.named
  have hnm := (name_of_methodNamed Bd.named Bd.method).1
  have X0 : Stand p l e ({ frames := 4, cells := 6, slots := 16, locals := 66 } : Room) (s.setVm s.vm) m #[(.ref ba), (.int (Int32.ofNat N))] below meth c s₁ [] 0 0 := Stand.of_body Bd
  have e0 : s₁.heap = h0 := by rw [← hh, Bd.state]; rfl
  have N0 := Fr.nil n0
  have K0 : Keep h0 h0 [] := Keep.refl _ _
  refine own_go (S' := s₁.setTop (mkF m 0 #[.val (.ref ba), .val (.int (Int32.ofNat N))] [])) (fun tq kq => castTop (own_ef_rmMake m ba ka b0 b1 b2 b3 b4 b5 N G1) kq) ?_
  have lt1 : @LT.lt Nat _ ba h0.size := Pm0.lt
  have hS0 : s.Since s.vm h0.size := (State.WarmedH.refl s).since _
  have CR0 : CHr Z consts_1 s.vm h0 s.vm h0 := CHr.refl hH
  have hwS : ∀ d ∈ Bundle.stringAtoms, d.before a0 Z = true := fun d hd => hw d ((by decide +kernel : ∀ d ∈ Bundle.stringAtoms, d ∈ tables_1) d hd)
  have hws : ∀ d ∈ StrChars.Road.words, d.before a0 Z = true := fun d hd => hw d ((by decide +kernel : ∀ d ∈ StrChars.Road.words, d ∈ tables_1) d hd)
  have nr0 := own_narC b0 r0
  have nr1 := own_narC b1 r1
  have nr2 := own_narC b2 r2
  have nr3 := own_narC b3 r3
  have nr4 := own_narC b4 r4
  have nr5 := own_narC b5 r5
  obtain rfl | rfl | rfl | rfl | rfl | rfl | rfl : N = 0 ∨ N = 1 ∨ N = 2 ∨ N = 3 ∨ N = 4 ∨ N = 5 ∨ N = 6 := by omega
  · skip
    show own_Rn p e below _ (s₁.setTop (mkF m 0 #[.val (.ref ba), .val (.int (Int32.ofNat 0))] []))
    refine own_go (fun tq kq => XS.iloadN X0.here hx rfl (hb hby own_d0_0) rfl kq) ?_
    show own_Rn p e below _ (s₁.setTop (mkF m 1 #[.val (.ref ba), .val (.int (Int32.ofNat 0))] [(.int (Int32.ofNat 0))]))
    refine own_go (fun tq kq => XS.ifNo X0.here hx rfl (hb hby own_d0_1) rfl ((if0 _ _).trans (flt ((by decide : ¬ ((0 : Int32) < Int32.ofNat 0)) : ¬ ((0 : Int32) < (Int32.ofNat 0)))).2.2.1) kq) ?_
    show own_Rn p e below _ (s₁.setTop (mkF m 4 #[.val (.ref ba), .val (.int (Int32.ofNat 0))] []))
    obtain ⟨T2, h2, X2, e2, E2, A2, D2, -, st2⟩ := newO X0 hx hZ hown (hw _ (own_mi 5 rfl)) (hw _ (own_mi 6 rfl)) (hw _ (own_mi 7 rfl)) e0 (g := (mkF m 4 #[.val (.ref ba), .val (.int (Int32.ofNat 0))] [])) rfl (hb hby own_d0_4) (by decide) (by decide)
    obtain ⟨b2, g2⟩ : ∃ z, z = h0.size := ⟨_, rfl⟩
    rw [← g2] at A2 D2 st2
    refine own_go st2 ?_
    have sz3 : h0.size ≤ h2.size := E2.1
    have K3 := K0.ext E2
    have cr3 : CHr Z consts_1 s.vm h0 s.vm h2 := CHr.ext E2 CR0.1
    have CR3 := CR0.trans cr3
    have sf4 : Safe Z consts_1 s.vm h2 b2 := Safe.ext E2 CR0.1 (Safe.new (by omega))
    have lt5 : @LT.lt Nat _ b2 h2.size := A2.lt
    have gn2 : n0 ≤ b2 := by omega
    have D2_value : Fld Z h2 b2 "java/lang/String" "value" "[B" .null := D2 (Or.inr (hw _ (own_mi 20 rfl))) (ty := (.array .byte)) own_fd_5bB
    have D2_coder : Fld Z h2 b2 "java/lang/String" "coder" "B" (.int (0 : Int32)) := D2 (Or.inr (hw _ (own_mi 21 rfl))) (ty := .byte) own_fd_B
    show own_Rn p e below _ (T2.setTop (mkF m 7 #[.val (.ref ba), .val (.int (Int32.ofNat 0))] [(.ref b2)]))
    refine own_go (fun tq kq => XS.dup X2.here hx rfl (hb hby own_d0_7) rfl rfl kq) ?_
    show own_Rn p e below _ (T2.setTop (mkF m 8 #[.val (.ref ba), .val (.int (Int32.ofNat 0))] [(.ref b2), (.ref b2)]))
    refine own_go (fun tq kq => XS.iconst X2.here hx rfl (hb hby own_d0_8) kq) ?_
    show own_Rn p e below _ (T2.setTop (mkF m 9 #[.val (.ref ba), .val (.int (Int32.ofNat 0))] [(.int (0 : Int32)), (.ref b2), (.ref b2)]))
    obtain ⟨T7, h7, k7, X7, e7, E7, A7, st7⟩ := newP X2 hx hZ (hw _ (own_mi 0 rfl)) e2 (g := (mkF m 9 #[.val (.ref ba), .val (.int (Int32.ofNat 0))] [(.int (0 : Int32)), (.ref b2), (.ref b2)])) rfl (hb hby own_d0_9) rfl (by decide) (cap := 0) (by decide) (by decide) (by decide) (by decide)
    obtain ⟨b7, g7⟩ : ∃ z, z = h2.size := ⟨_, rfl⟩
    rw [← g7] at A7 st7
    refine own_go st7 ?_
    have sz8 : h2.size ≤ h7.size := E7.1
    have K8 := K3.ext E7
    have cr8 : CHr Z consts_1 s.vm h2 s.vm h7 := CHr.ext E7 CR3.1
    have CR8 := CR3.trans cr8
    have gn7 : n0 ≤ b7 := by omega
    have V7 : Arv Z h7 b7 k7 .char (0 : Int32) [] (.int (0 : Int32)) := (Arv.new A7 (by decide)).pad (pad_rep [] _ 0)
    have lt9 : @LT.lt Nat _ b7 h7.size := V7.lt
    show own_Rn p e below _ (T7.setTop (mkF m 11 #[.val (.ref ba), .val (.int (Int32.ofNat 0))] [(.ref b7), (.ref b2), (.ref b2)]))
    have Zn10 : n0 ≤ h7.size := by omega
    have F11 : Exa Z h7 b2 "java/lang/String" := (A2.ext E7)
    have F12 : Fld Z h7 b2 "java/lang/String" "value" "[B" .null := (D2_value.ext E7)
    have F13 : Fld Z h7 b2 "java/lang/String" "coder" "B" (.int (0 : Int32)) := (D2_coder.ext E7)
    have sf15 : Safe Z consts_1 s.vm h7 b2 := (CHr.safe cr8 (show @LT.lt Nat _ _ _ by omega) sf4)
    obtain ⟨rv10, _, ⟨T10, L10, k10, n10⟩, -, X10, hS10, hG10, ⟨Lc10, hQ10, l10, y10, z10, CR10q⟩, st10⟩ := X7.specialBackS hx (y := (⟨"java/lang/String", "<init>", "([C)V"⟩ : MethodName)) rfl hown (mvT hZ (hw _ (own_mi 8 rfl))) (mvT hZ (hw _ (own_mi 9 rfl))) (mvT hZ (hw _ (own_mi 10 rfl))) (by decide) (own_backSH (W := 1) (rm := ({ frames := 2, cells := 4, slots := 8, locals := 29 } : Room)) (sf := [b2]) (h := h7) (rmSI1 l Z a0 hw [] (b2) (b7) (k7) h7 n0 Zn10 hEL F11 F12 F13 gn2 V7) hZ (hw _ (own_mi 10 rfl)) (hw _ (own_mi 7 rfl)) (by decide) (by decide) hEL CR8.1 (sfS sf15 sf0)) (g := (mkF m 11 #[.val (.ref ba), .val (.int (Int32.ofNat 0))] [(.ref b7), (.ref b2), (.ref b2)])) rfl (by rw [hml]; rfl) (Steps.refl _) (a := b2) (argsL := [(.ref b7)]) (rest := [(.ref b2)]) (lenOf own_pd_285bC29V rfl) rfl (by show 2 * 0 + _ ≤ _; exact Nat.le_of_eq rfl) (hb hby own_d0_11) (fun _ _ => ⟨rfl, e7, (by decide : 2 + 4 ≤ _), (by decide : 4 + 8 ≤ _)⟩)
    dsimp only [Pt.U, Pt.locs, Pt.cells, Pt.slots] at X10 l10 y10 z10 st10 hQ10 hS10 hG10 CR10q
    subst l10 y10 z10
    obtain ⟨tt, kk, rfl, Nq10, Kq10, G0_10, G1_10, G2_10⟩ := hQ10
    have N10 := Fr.app N0 Nq10
    obtain ⟨Xr10, hSr10, hZ10, hown10⟩ := rebS hS0 (n1 := T7.heap.size) (by rw [e7]; omega) X10 hS10 hG10 hZ hown
    have sz16 : h7.size ≤ T10.heap.size := Kq10.1
    have K16 := K8.trans Kq10 (allS (Or.inr (by omega)) all0)
    have cr16 : CHr Z consts_1 s.vm h7 T10.vm T10.heap := CR10q
    have CR16 := CR8.trans cr16
    have lt17 : @LT.lt Nat _ tt T10.heap.size := G2_10.lt
    refine own_go (fun tq kq => st10.trans kq) ?_
    show own_Rn p e below _ (T10.setTop (mkF m 14 #[.val (.ref ba), .val (.int (Int32.ofNat 0))] [(.ref b2)]))
    have F18 : Exa Z T10.heap b2 "java/lang/String" := (F11.keep Kq10)
    exact own_retS Xr10 hSr10 (by omega) (v := some (.ref b2)) (fun h => by rw [Bd.returns] at h; cases h) (fun fs hr => Xr10.areturnOut hx rfl Bd.returns rfl (hb hby own_d0_14) hr) (⟨b2, tt, kk, rfl, N10, K16, F18, G0_10, G1_10, G2_10⟩) (by rw [hh]; exact CR16.trans (CHv.at Xr10 hZ10 hEL CR16.1)) (by decide) (by decide)
  · skip
    show own_Rn p e below _ (s₁.setTop (mkF m 0 #[.val (.ref ba), .val (.int (Int32.ofNat 1))] []))
    refine own_go (fun tq kq => XS.iloadN X0.here hx rfl (hb hby own_d0_0) rfl kq) ?_
    show own_Rn p e below _ (s₁.setTop (mkF m 1 #[.val (.ref ba), .val (.int (Int32.ofNat 1))] [(.int (Int32.ofNat 1))]))
    refine own_go (fun tq kq => XS.ifYes X0.here hx rfl (pc0 := 1) (pc' := 15) rfl (hb hby own_d0_1) rfl ((if0 _ _).trans (tlt ((by decide : (0 : Int32) < (Int32.ofNat 1)) : (0 : Int32) < (Int32.ofNat 1))).2.2.1) (by decide) (by decide) kq) ?_
    show own_Rn p e below _ (s₁.setTop (mkF m 15 #[.val (.ref ba), .val (.int (Int32.ofNat 1))] []))
    refine own_go (fun tq kq => XS.iloadN X0.here hx rfl (hb hby own_d0_15) rfl kq) ?_
    show own_Rn p e below _ (s₁.setTop (mkF m 16 #[.val (.ref ba), .val (.int (Int32.ofNat 1))] [(.int (Int32.ofNat 1))]))
    refine own_go (fun tq kq => XS.iconst X0.here hx rfl (hb hby own_d0_16) kq) ?_
    show own_Rn p e below _ (s₁.setTop (mkF m 17 #[.val (.ref ba), .val (.int (Int32.ofNat 1))] [(.int (1 : Int32)), (.int (Int32.ofNat 1))]))
    refine own_go (fun tq kq => XS.icmpNo X0.here hx rfl (hb hby own_d0_17) rfl (teq ((by decide : (Int32.ofNat 1) = (1 : Int32)) : (Int32.ofNat 1) = (1 : Int32))).2 kq) ?_
    show own_Rn p e below _ (s₁.setTop (mkF m 20 #[.val (.ref ba), .val (.int (Int32.ofNat 1))] []))
    obtain ⟨T19, h19, X19, e19, E19, A19, D19, -, st19⟩ := newO X0 hx hZ hown (hw _ (own_mi 5 rfl)) (hw _ (own_mi 6 rfl)) (hw _ (own_mi 7 rfl)) e0 (g := (mkF m 20 #[.val (.ref ba), .val (.int (Int32.ofNat 1))] [])) rfl (hb hby own_d0_20) (by decide) (by decide)
    obtain ⟨b19, g19⟩ : ∃ z, z = h0.size := ⟨_, rfl⟩
    rw [← g19] at A19 D19 st19
    refine own_go st19 ?_
    have sz20 : h0.size ≤ h19.size := E19.1
    have K20 := K0.ext E19
    have cr20 : CHr Z consts_1 s.vm h0 s.vm h19 := CHr.ext E19 CR0.1
    have CR20 := CR0.trans cr20
    have sf21 : Safe Z consts_1 s.vm h19 b19 := Safe.ext E19 CR0.1 (Safe.new (by omega))
    have lt22 : @LT.lt Nat _ b19 h19.size := A19.lt
    have gn19 : n0 ≤ b19 := by omega
    have D19_value : Fld Z h19 b19 "java/lang/String" "value" "[B" .null := D19 (Or.inr (hw _ (own_mi 20 rfl))) (ty := (.array .byte)) own_fd_5bB
    have D19_coder : Fld Z h19 b19 "java/lang/String" "coder" "B" (.int (0 : Int32)) := D19 (Or.inr (hw _ (own_mi 21 rfl))) (ty := .byte) own_fd_B
    show own_Rn p e below _ (T19.setTop (mkF m 23 #[.val (.ref ba), .val (.int (Int32.ofNat 1))] [(.ref b19)]))
    refine own_go (fun tq kq => XS.dup X19.here hx rfl (hb hby own_d0_23) rfl rfl kq) ?_
    show own_Rn p e below _ (T19.setTop (mkF m 24 #[.val (.ref ba), .val (.int (Int32.ofNat 1))] [(.ref b19), (.ref b19)]))
    refine own_go (fun tq kq => XS.iconst X19.here hx rfl (hb hby own_d0_24) kq) ?_
    show own_Rn p e below _ (T19.setTop (mkF m 25 #[.val (.ref ba), .val (.int (Int32.ofNat 1))] [(.int (1 : Int32)), (.ref b19), (.ref b19)]))
    obtain ⟨T24, h24, k24, X24, e24, E24, A24, st24⟩ := newP X19 hx hZ (hw _ (own_mi 0 rfl)) e19 (g := (mkF m 25 #[.val (.ref ba), .val (.int (Int32.ofNat 1))] [(.int (1 : Int32)), (.ref b19), (.ref b19)])) rfl (hb hby own_d0_25) rfl (by decide) (cap := 1) (by decide) (by decide) (by decide) (by decide)
    obtain ⟨b24, g24⟩ : ∃ z, z = h19.size := ⟨_, rfl⟩
    rw [← g24] at A24 st24
    refine own_go st24 ?_
    have sz25 : h19.size ≤ h24.size := E24.1
    have K25 := K20.ext E24
    have cr25 : CHr Z consts_1 s.vm h19 s.vm h24 := CHr.ext E24 CR20.1
    have CR25 := CR20.trans cr25
    have gn24 : n0 ≤ b24 := by omega
    have V24 : Arv Z h24 b24 k24 .char (1 : Int32) [(.int (0 : Int32))] (.int (0 : Int32)) := (Arv.new A24 (by decide)).pad (pad_rep [] _ 1)
    have lt26 : @LT.lt Nat _ b24 h24.size := V24.lt
    show own_Rn p e below _ (T24.setTop (mkF m 27 #[.val (.ref ba), .val (.int (Int32.ofNat 1))] [(.ref b24), (.ref b19), (.ref b19)]))
    refine own_go (fun tq kq => XS.dup X24.here hx rfl (hb hby own_d0_27) rfl rfl kq) ?_
    show own_Rn p e below _ (T24.setTop (mkF m 28 #[.val (.ref ba), .val (.int (Int32.ofNat 1))] [(.ref b24), (.ref b24), (.ref b19), (.ref b19)]))
    refine own_go (fun tq kq => XS.iconst X24.here hx rfl (hb hby own_d0_28) kq) ?_
    show own_Rn p e below _ (T24.setTop (mkF m 29 #[.val (.ref ba), .val (.int (Int32.ofNat 1))] [(.int (0 : Int32)), (.ref b24), (.ref b24), (.ref b19), (.ref b19)]))
    refine own_go (fun tq kq => XS.aloadN X24.here hx rfl (hb hby own_d0_29) rfl rfl kq) ?_
    show own_Rn p e below _ (T24.setTop (mkF m 30 #[.val (.ref ba), .val (.int (Int32.ofNat 1))] [(.ref ba), (.int (0 : Int32)), (.ref b24), (.ref b24), (.ref b19), (.ref b19)]))
    refine own_go (fun tq kq => XS.iconst X24.here hx rfl (hb hby own_d0_30) kq) ?_
    show own_Rn p e below _ (T24.setTop (mkF m 31 #[.val (.ref ba), .val (.int (Int32.ofNat 1))] [(.int (0 : Int32)), (.ref ba), (.int (0 : Int32)), (.ref b24), (.ref b24), (.ref b19), (.ref b19)]))
    have F27 : Arv Z h24 ba ka .char (6 : Int32) [(.int b0), (.int b1), (.int b2), (.int b3), (.int b4), (.int b5)] (.int (0 : Int32)) := ((Pm0.ext E19).ext E24)
    obtain ⟨cl28, Ar28, q28, Sz28, Nn28, Hs28, G28⟩ := id F27
    have in28 := inb_of (j := (0 : Int32)) Sz28 ⟨by decide, by decide⟩
    refine own_go (fun tq kq => X24.caload hx (j := (0 : Int32)) (v := (.int b0)) (by rw [e24]; exact Ar28.1) (State.isArrayOf_alike hZ.alike Ar28.2.1) Ar28.2.2 in28 (Hs28.at in28 rfl) (g := (mkF m 31 #[.val (.ref ba), .val (.int (Int32.ofNat 1))] [(.int (0 : Int32)), (.ref ba), (.int (0 : Int32)), (.ref b24), (.ref b24), (.ref b19), (.ref b19)])) rfl rfl (hb hby own_d0_31) tq kq) ?_
    show own_Rn p e below _ (T24.setTop (mkF m 32 #[.val (.ref ba), .val (.int (Int32.ofNat 1))] [(.int b0), (.int (0 : Int32)), (.ref b24), (.ref b24), (.ref b19), (.ref b19)]))
    obtain ⟨cl29, Ar29, q29, Sz29, Nn29, Hs29, G29⟩ := id V24
    obtain ⟨T29, h29, X29, e29, W29, st29⟩ := stC X24 hx hZ e24 Ar29 (j := (0 : Int32)) (inb_of Sz29 ⟨by decide, by decide⟩) (g := (mkF m 32 #[.val (.ref ba), .val (.int (Int32.ofNat 1))] [(.int b0), (.int (0 : Int32)), (.ref b24), (.ref b24), (.ref b19), (.ref b19)])) rfl rfl (hb hby own_d0_32)
    rw [nr0] at W29
    refine own_go st29 ?_
    have V29 : Arv Z h29 b24 k24 .char (1 : Int32) [(.int b0)] (.int (0 : Int32)) := Arv.set Ar29 q29 Sz29 Nn29 Hs29 G29 (by rw [← nr0]; exact fits_nar_char _) W29 0 rfl (Nat.le_of_ble_eq_true rfl)
    have N29 := Fr.snoc X29 N0 gn24
    have sf30 : Safe Z consts_1 s.vm h24 b24 := Safe.arv hZ.alike V24 (by decide)
    have sz31 : h24.size ≤ h29.size := Nat.le_of_eq (Wr.size W29).symm
    have K31 := K25.wr W29 (Or.inr (by omega))
    have cr31 : CHr Z consts_1 s.vm h24 s.vm h29 := CHr.wr W29 sf30 CR25.1
    have CR31 := CR25.trans cr31
    show own_Rn p e below _ (T29.setTop (mkF m 33 #[.val (.ref ba), .val (.int (Int32.ofNat 1))] [(.ref b24), (.ref b19), (.ref b19)]))
    have hp32 : ∀ c ∈ ([b0] : List Int32), ¬ c < 0 ∧ ¬ (255 : Int32) < c := by
      intro c hc
      simp only [List.mem_cons, List.not_mem_nil, or_false] at hc
      subst hc
      · exact r0
    have F33 : Exa Z h29 b19 "java/lang/String" := ((A19.ext E24).wr W29)
    have ne34 : b19 ≠ b24 := own_nea (by omega)
    have F35 : Fld Z h29 b19 "java/lang/String" "value" "[B" .null := ((D19_value.ext E24).other W29 (Or.inl ne34))
    have F36 : Fld Z h29 b19 "java/lang/String" "coder" "B" (.int (0 : Int32)) := ((D19_coder.ext E24).other W29 (Or.inl ne34))
    have F37 : Old Z n0 h29 := (((X00.ext E19).ext E24).wr W29 gn24)
    have Zs32 : n0 ≤ h29.size := by omega
    obtain ⟨rv38, _, ⟨T38, L38, k38, n38⟩, -, X38, ⟨Lc38, hQ38, l38, y38, z38⟩, st38⟩ := X29.specialBack hx (y := (⟨"java/lang/String", "<init>", "([C)V"⟩ : MethodName)) rfl hown (mvT hZ (hw _ (own_mi 8 rfl))) (mvT hZ (hw _ (own_mi 9 rfl))) (mvT hZ (hw _ (own_mi 10 rfl))) (by decide) (StrChars.Road.backV (W := 1) hZ hws (kI := 4) (hw _ (own_mi 6 rfl)) (cs := [b0]) (bs := ([b0] : List Int32).map (fun c => c.toInt8.toInt32)) (n := 1) gn19 Zs32 F33 F35 F36 V29 (O2.ext F37.2) P5 rfl rfl (by decide) (by decide) hp32 rfl (by decide) (by decide)) (g := (mkF m 33 #[.val (.ref ba), .val (.int (Int32.ofNat 1))] [(.ref b24), (.ref b19), (.ref b19)])) rfl (by rw [hml]; rfl) (Steps.refl _) (a := b19) (argsL := [(.ref b24)]) (rest := [(.ref b19)]) (lenOf own_pd_285bC29V rfl) rfl (by show 2 * 0 + _ ≤ _; exact Nat.le_of_eq rfl) (hb hby own_d0_33) (fun _ _ => ⟨rfl, e29, (by decide : 2 + 1 ≤ _), (by decide : 5 + 1 ≤ _)⟩)
    dsimp only [Pt.U, Pt.locs, Pt.cells, Pt.slots] at X38 l38 y38 z38 st38 hQ38
    subst l38 y38 z38
    obtain ⟨rfl, Nq38, Kq38, Ex38, Co38, t32, kb32, gt38, hs38, nt38, Va38, Ab38⟩ := hQ38
    have N38 := Fr.app N29 Nq38
    have sf40 : Safe Z consts_1 s.vm h29 b19 := (CHr.safe cr31 (show @LT.lt Nat _ _ _ by omega) (CHr.safe cr25 (show @LT.lt Nat _ _ _ by omega) sf21))
    have sz41 : h29.size ≤ T38.heap.size := Kq38.1
    have K41 := K31.trans Kq38 (allS (Or.inr (by omega)) all0)
    have cr41 : CHr Z consts_1 s.vm h29 s.vm T38.heap := CHr.keep Kq38 (sfS sf40 sf0) CR31.1
    have CR41 := CR31.trans cr41
    have sf42 : Safe Z consts_1 s.vm T38.heap t32 := Safe.keep Kq38 (sfS sf40 sf0) CR31.1 (Safe.new (by omega))
    have lt43 : @LT.lt Nat _ t32 T38.heap.size := Ab38.lt
    refine own_go (fun tq kq => st38.trans kq) ?_
    show own_Rn p e below _ (T38.setTop (mkF m 36 #[.val (.ref ba), .val (.int (Int32.ofNat 1))] [(.ref b19)]))
    have hpL32 := hp32
    exact own_retS X38 hS0 (by omega) (v := some (.ref b19)) (fun h => by rw [Bd.returns] at h; cases h) (fun fs hr => X38.areturnOut hx rfl Bd.returns rfl (hb hby own_d0_36) hr) (⟨b19, t32, kb32, rfl, N38, K41, Ex38, Va38, Co38, Ab38⟩) (by rw [hh]; exact CR41.trans (CHv.at X38 hZ hEL CR41.1)) (by decide) (by decide)
  · skip
    show own_Rn p e below _ (s₁.setTop (mkF m 0 #[.val (.ref ba), .val (.int (Int32.ofNat 2))] []))
    refine own_go (fun tq kq => XS.iloadN X0.here hx rfl (hb hby own_d0_0) rfl kq) ?_
    show own_Rn p e below _ (s₁.setTop (mkF m 1 #[.val (.ref ba), .val (.int (Int32.ofNat 2))] [(.int (Int32.ofNat 2))]))
    refine own_go (fun tq kq => XS.ifYes X0.here hx rfl (pc0 := 1) (pc' := 15) rfl (hb hby own_d0_1) rfl ((if0 _ _).trans (tlt ((by decide : (0 : Int32) < (Int32.ofNat 2)) : (0 : Int32) < (Int32.ofNat 2))).2.2.1) (by decide) (by decide) kq) ?_
    show own_Rn p e below _ (s₁.setTop (mkF m 15 #[.val (.ref ba), .val (.int (Int32.ofNat 2))] []))
    refine own_go (fun tq kq => XS.iloadN X0.here hx rfl (hb hby own_d0_15) rfl kq) ?_
    show own_Rn p e below _ (s₁.setTop (mkF m 16 #[.val (.ref ba), .val (.int (Int32.ofNat 2))] [(.int (Int32.ofNat 2))]))
    refine own_go (fun tq kq => XS.iconst X0.here hx rfl (hb hby own_d0_16) kq) ?_
    show own_Rn p e below _ (s₁.setTop (mkF m 17 #[.val (.ref ba), .val (.int (Int32.ofNat 2))] [(.int (1 : Int32)), (.int (Int32.ofNat 2))]))
    refine own_go (fun tq kq => XS.icmpYes X0.here hx rfl (pc0 := 17) (pc' := 37) rfl (hb hby own_d0_17) rfl (feq ((by decide : ¬ ((Int32.ofNat 2) = (1 : Int32))) : ¬ ((Int32.ofNat 2) = (1 : Int32)))).2 (by decide) (by decide) kq) ?_
    show own_Rn p e below _ (s₁.setTop (mkF m 37 #[.val (.ref ba), .val (.int (Int32.ofNat 2))] []))
    refine own_go (fun tq kq => XS.iloadN X0.here hx rfl (hb hby own_d0_37) rfl kq) ?_
    show own_Rn p e below _ (s₁.setTop (mkF m 38 #[.val (.ref ba), .val (.int (Int32.ofNat 2))] [(.int (Int32.ofNat 2))]))
    refine own_go (fun tq kq => XS.iconst X0.here hx rfl (hb hby own_d0_38) kq) ?_
    show own_Rn p e below _ (s₁.setTop (mkF m 39 #[.val (.ref ba), .val (.int (Int32.ofNat 2))] [(.int (2 : Int32)), (.int (Int32.ofNat 2))]))
    refine own_go (fun tq kq => XS.icmpNo X0.here hx rfl (hb hby own_d0_39) rfl (teq ((by decide : (Int32.ofNat 2) = (2 : Int32)) : (Int32.ofNat 2) = (2 : Int32))).2 kq) ?_
    show own_Rn p e below _ (s₁.setTop (mkF m 42 #[.val (.ref ba), .val (.int (Int32.ofNat 2))] []))
    obtain ⟨T44, h44, X44, e44, E44, A44, D44, -, st44⟩ := newO X0 hx hZ hown (hw _ (own_mi 5 rfl)) (hw _ (own_mi 6 rfl)) (hw _ (own_mi 7 rfl)) e0 (g := (mkF m 42 #[.val (.ref ba), .val (.int (Int32.ofNat 2))] [])) rfl (hb hby own_d0_42) (by decide) (by decide)
    obtain ⟨b44, g44⟩ : ∃ z, z = h0.size := ⟨_, rfl⟩
    rw [← g44] at A44 D44 st44
    refine own_go st44 ?_
    have sz45 : h0.size ≤ h44.size := E44.1
    have K45 := K0.ext E44
    have cr45 : CHr Z consts_1 s.vm h0 s.vm h44 := CHr.ext E44 CR0.1
    have CR45 := CR0.trans cr45
    have sf46 : Safe Z consts_1 s.vm h44 b44 := Safe.ext E44 CR0.1 (Safe.new (by omega))
    have lt47 : @LT.lt Nat _ b44 h44.size := A44.lt
    have gn44 : n0 ≤ b44 := by omega
    have D44_value : Fld Z h44 b44 "java/lang/String" "value" "[B" .null := D44 (Or.inr (hw _ (own_mi 20 rfl))) (ty := (.array .byte)) own_fd_5bB
    have D44_coder : Fld Z h44 b44 "java/lang/String" "coder" "B" (.int (0 : Int32)) := D44 (Or.inr (hw _ (own_mi 21 rfl))) (ty := .byte) own_fd_B
    show own_Rn p e below _ (T44.setTop (mkF m 45 #[.val (.ref ba), .val (.int (Int32.ofNat 2))] [(.ref b44)]))
    refine own_go (fun tq kq => XS.dup X44.here hx rfl (hb hby own_d0_45) rfl rfl kq) ?_
    show own_Rn p e below _ (T44.setTop (mkF m 46 #[.val (.ref ba), .val (.int (Int32.ofNat 2))] [(.ref b44), (.ref b44)]))
    refine own_go (fun tq kq => XS.iconst X44.here hx rfl (hb hby own_d0_46) kq) ?_
    show own_Rn p e below _ (T44.setTop (mkF m 47 #[.val (.ref ba), .val (.int (Int32.ofNat 2))] [(.int (2 : Int32)), (.ref b44), (.ref b44)]))
    obtain ⟨T49, h49, k49, X49, e49, E49, A49, st49⟩ := newP X44 hx hZ (hw _ (own_mi 0 rfl)) e44 (g := (mkF m 47 #[.val (.ref ba), .val (.int (Int32.ofNat 2))] [(.int (2 : Int32)), (.ref b44), (.ref b44)])) rfl (hb hby own_d0_47) rfl (by decide) (cap := 2) (by decide) (by decide) (by decide) (by decide)
    obtain ⟨b49, g49⟩ : ∃ z, z = h44.size := ⟨_, rfl⟩
    rw [← g49] at A49 st49
    refine own_go st49 ?_
    have sz50 : h44.size ≤ h49.size := E49.1
    have K50 := K45.ext E49
    have cr50 : CHr Z consts_1 s.vm h44 s.vm h49 := CHr.ext E49 CR45.1
    have CR50 := CR45.trans cr50
    have gn49 : n0 ≤ b49 := by omega
    have V49 : Arv Z h49 b49 k49 .char (2 : Int32) [(.int (0 : Int32)), (.int (0 : Int32))] (.int (0 : Int32)) := (Arv.new A49 (by decide)).pad (pad_rep [] _ 2)
    have lt51 : @LT.lt Nat _ b49 h49.size := V49.lt
    show own_Rn p e below _ (T49.setTop (mkF m 49 #[.val (.ref ba), .val (.int (Int32.ofNat 2))] [(.ref b49), (.ref b44), (.ref b44)]))
    refine own_go (fun tq kq => XS.dup X49.here hx rfl (hb hby own_d0_49) rfl rfl kq) ?_
    show own_Rn p e below _ (T49.setTop (mkF m 50 #[.val (.ref ba), .val (.int (Int32.ofNat 2))] [(.ref b49), (.ref b49), (.ref b44), (.ref b44)]))
    refine own_go (fun tq kq => XS.iconst X49.here hx rfl (hb hby own_d0_50) kq) ?_
    show own_Rn p e below _ (T49.setTop (mkF m 51 #[.val (.ref ba), .val (.int (Int32.ofNat 2))] [(.int (0 : Int32)), (.ref b49), (.ref b49), (.ref b44), (.ref b44)]))
    refine own_go (fun tq kq => XS.aloadN X49.here hx rfl (hb hby own_d0_51) rfl rfl kq) ?_
    show own_Rn p e below _ (T49.setTop (mkF m 52 #[.val (.ref ba), .val (.int (Int32.ofNat 2))] [(.ref ba), (.int (0 : Int32)), (.ref b49), (.ref b49), (.ref b44), (.ref b44)]))
    refine own_go (fun tq kq => XS.iconst X49.here hx rfl (hb hby own_d0_52) kq) ?_
    show own_Rn p e below _ (T49.setTop (mkF m 53 #[.val (.ref ba), .val (.int (Int32.ofNat 2))] [(.int (0 : Int32)), (.ref ba), (.int (0 : Int32)), (.ref b49), (.ref b49), (.ref b44), (.ref b44)]))
    have F52 : Arv Z h49 ba ka .char (6 : Int32) [(.int b0), (.int b1), (.int b2), (.int b3), (.int b4), (.int b5)] (.int (0 : Int32)) := ((Pm0.ext E44).ext E49)
    obtain ⟨cl53, Ar53, q53, Sz53, Nn53, Hs53, G53⟩ := id F52
    have in53 := inb_of (j := (0 : Int32)) Sz53 ⟨by decide, by decide⟩
    refine own_go (fun tq kq => X49.caload hx (j := (0 : Int32)) (v := (.int b0)) (by rw [e49]; exact Ar53.1) (State.isArrayOf_alike hZ.alike Ar53.2.1) Ar53.2.2 in53 (Hs53.at in53 rfl) (g := (mkF m 53 #[.val (.ref ba), .val (.int (Int32.ofNat 2))] [(.int (0 : Int32)), (.ref ba), (.int (0 : Int32)), (.ref b49), (.ref b49), (.ref b44), (.ref b44)])) rfl rfl (hb hby own_d0_53) tq kq) ?_
    show own_Rn p e below _ (T49.setTop (mkF m 54 #[.val (.ref ba), .val (.int (Int32.ofNat 2))] [(.int b0), (.int (0 : Int32)), (.ref b49), (.ref b49), (.ref b44), (.ref b44)]))
    obtain ⟨cl54, Ar54, q54, Sz54, Nn54, Hs54, G54⟩ := id V49
    obtain ⟨T54, h54, X54, e54, W54, st54⟩ := stC X49 hx hZ e49 Ar54 (j := (0 : Int32)) (inb_of Sz54 ⟨by decide, by decide⟩) (g := (mkF m 54 #[.val (.ref ba), .val (.int (Int32.ofNat 2))] [(.int b0), (.int (0 : Int32)), (.ref b49), (.ref b49), (.ref b44), (.ref b44)])) rfl rfl (hb hby own_d0_54)
    rw [nr0] at W54
    refine own_go st54 ?_
    have V54 : Arv Z h54 b49 k49 .char (2 : Int32) [(.int b0), (.int (0 : Int32))] (.int (0 : Int32)) := Arv.set Ar54 q54 Sz54 Nn54 Hs54 G54 (by rw [← nr0]; exact fits_nar_char _) W54 0 rfl (Nat.le_of_ble_eq_true rfl)
    have N54 := Fr.snoc X54 N0 gn49
    have sf55 : Safe Z consts_1 s.vm h49 b49 := Safe.arv hZ.alike V49 (by decide)
    have sz56 : h49.size ≤ h54.size := Nat.le_of_eq (Wr.size W54).symm
    have K56 := K50.wr W54 (Or.inr (by omega))
    have cr56 : CHr Z consts_1 s.vm h49 s.vm h54 := CHr.wr W54 sf55 CR50.1
    have CR56 := CR50.trans cr56
    show own_Rn p e below _ (T54.setTop (mkF m 55 #[.val (.ref ba), .val (.int (Int32.ofNat 2))] [(.ref b49), (.ref b44), (.ref b44)]))
    refine own_go (fun tq kq => XS.dup X54.here hx rfl (hb hby own_d0_55) rfl rfl kq) ?_
    show own_Rn p e below _ (T54.setTop (mkF m 56 #[.val (.ref ba), .val (.int (Int32.ofNat 2))] [(.ref b49), (.ref b49), (.ref b44), (.ref b44)]))
    refine own_go (fun tq kq => XS.iconst X54.here hx rfl (hb hby own_d0_56) kq) ?_
    show own_Rn p e below _ (T54.setTop (mkF m 57 #[.val (.ref ba), .val (.int (Int32.ofNat 2))] [(.int (1 : Int32)), (.ref b49), (.ref b49), (.ref b44), (.ref b44)]))
    refine own_go (fun tq kq => XS.aloadN X54.here hx rfl (hb hby own_d0_57) rfl rfl kq) ?_
    show own_Rn p e below _ (T54.setTop (mkF m 58 #[.val (.ref ba), .val (.int (Int32.ofNat 2))] [(.ref ba), (.int (1 : Int32)), (.ref b49), (.ref b49), (.ref b44), (.ref b44)]))
    refine own_go (fun tq kq => XS.iconst X54.here hx rfl (hb hby own_d0_58) kq) ?_
    show own_Rn p e below _ (T54.setTop (mkF m 59 #[.val (.ref ba), .val (.int (Int32.ofNat 2))] [(.int (1 : Int32)), (.ref ba), (.int (1 : Int32)), (.ref b49), (.ref b49), (.ref b44), (.ref b44)]))
    have ne57 : ba ≠ b49 := own_nea (by omega)
    have F58 : Arv Z h54 ba ka .char (6 : Int32) [(.int b0), (.int b1), (.int b2), (.int b3), (.int b4), (.int b5)] (.int (0 : Int32)) := (F52.other W54 ne57)
    obtain ⟨cl59, Ar59, q59, Sz59, Nn59, Hs59, G59⟩ := id F58
    have in59 := inb_of (j := (1 : Int32)) Sz59 ⟨by decide, by decide⟩
    refine own_go (fun tq kq => X54.caload hx (j := (1 : Int32)) (v := (.int b1)) (by rw [e54]; exact Ar59.1) (State.isArrayOf_alike hZ.alike Ar59.2.1) Ar59.2.2 in59 (Hs59.at in59 rfl) (g := (mkF m 59 #[.val (.ref ba), .val (.int (Int32.ofNat 2))] [(.int (1 : Int32)), (.ref ba), (.int (1 : Int32)), (.ref b49), (.ref b49), (.ref b44), (.ref b44)])) rfl rfl (hb hby own_d0_59) tq kq) ?_
    show own_Rn p e below _ (T54.setTop (mkF m 60 #[.val (.ref ba), .val (.int (Int32.ofNat 2))] [(.int b1), (.int (1 : Int32)), (.ref b49), (.ref b49), (.ref b44), (.ref b44)]))
    obtain ⟨cl60, Ar60, q60, Sz60, Nn60, Hs60, G60⟩ := id V54
    obtain ⟨T60, h60, X60, e60, W60, st60⟩ := stC X54 hx hZ e54 Ar60 (j := (1 : Int32)) (inb_of Sz60 ⟨by decide, by decide⟩) (g := (mkF m 60 #[.val (.ref ba), .val (.int (Int32.ofNat 2))] [(.int b1), (.int (1 : Int32)), (.ref b49), (.ref b49), (.ref b44), (.ref b44)])) rfl rfl (hb hby own_d0_60)
    rw [nr1] at W60
    refine own_go st60 ?_
    have V60 : Arv Z h60 b49 k49 .char (2 : Int32) [(.int b0), (.int b1)] (.int (0 : Int32)) := Arv.set Ar60 q60 Sz60 Nn60 Hs60 G60 (by rw [← nr1]; exact fits_nar_char _) W60 1 rfl (Nat.le_of_ble_eq_true rfl)
    have N60 := Fr.snoc X60 N54 gn49
    have sf61 : Safe Z consts_1 s.vm h54 b49 := Safe.arv hZ.alike V54 (by decide)
    have sz62 : h54.size ≤ h60.size := Nat.le_of_eq (Wr.size W60).symm
    have K62 := K56.wr W60 (Or.inr (by omega))
    have cr62 : CHr Z consts_1 s.vm h54 s.vm h60 := CHr.wr W60 sf61 CR56.1
    have CR62 := CR56.trans cr62
    show own_Rn p e below _ (T60.setTop (mkF m 61 #[.val (.ref ba), .val (.int (Int32.ofNat 2))] [(.ref b49), (.ref b44), (.ref b44)]))
    have hp63 : ∀ c ∈ ([b0, b1] : List Int32), ¬ c < 0 ∧ ¬ (255 : Int32) < c := by
      intro c hc
      simp only [List.mem_cons, List.not_mem_nil, or_false] at hc
      rcases hc with rfl | rfl
      · exact r0
      · exact r1
    have F64 : Exa Z h60 b44 "java/lang/String" := (((A44.ext E49).wr W54).wr W60)
    have ne65 : b44 ≠ b49 := own_nea (by omega)
    have F66 : Fld Z h60 b44 "java/lang/String" "value" "[B" .null := (((D44_value.ext E49).other W54 (Or.inl ne65)).other W60 (Or.inl ne65))
    have F67 : Fld Z h60 b44 "java/lang/String" "coder" "B" (.int (0 : Int32)) := (((D44_coder.ext E49).other W54 (Or.inl ne65)).other W60 (Or.inl ne65))
    have F68 : Old Z n0 h60 := ((((X00.ext E44).ext E49).wr W54 gn49).wr W60 gn49)
    have Zs63 : n0 ≤ h60.size := by omega
    obtain ⟨rv69, _, ⟨T69, L69, k69, n69⟩, -, X69, ⟨Lc69, hQ69, l69, y69, z69⟩, st69⟩ := X60.specialBack hx (y := (⟨"java/lang/String", "<init>", "([C)V"⟩ : MethodName)) rfl hown (mvT hZ (hw _ (own_mi 8 rfl))) (mvT hZ (hw _ (own_mi 9 rfl))) (mvT hZ (hw _ (own_mi 10 rfl))) (by decide) (StrChars.Road.backV (W := 1) hZ hws (kI := 4) (hw _ (own_mi 6 rfl)) (cs := [b0, b1]) (bs := ([b0, b1] : List Int32).map (fun c => c.toInt8.toInt32)) (n := 2) gn44 Zs63 F64 F66 F67 V60 (O2.ext F68.2) P5 rfl rfl (by decide) (by decide) hp63 rfl (by decide) (by decide)) (g := (mkF m 61 #[.val (.ref ba), .val (.int (Int32.ofNat 2))] [(.ref b49), (.ref b44), (.ref b44)])) rfl (by rw [hml]; rfl) (Steps.refl _) (a := b44) (argsL := [(.ref b49)]) (rest := [(.ref b44)]) (lenOf own_pd_285bC29V rfl) rfl (by show 2 * 0 + _ ≤ _; exact Nat.le_of_eq rfl) (hb hby own_d0_61) (fun _ _ => ⟨rfl, e60, (by decide : 2 + 1 ≤ _), (by decide : 6 + 2 ≤ _)⟩)
    dsimp only [Pt.U, Pt.locs, Pt.cells, Pt.slots] at X69 l69 y69 z69 st69 hQ69
    subst l69 y69 z69
    obtain ⟨rfl, Nq69, Kq69, Ex69, Co69, t63, kb63, gt69, hs69, nt69, Va69, Ab69⟩ := hQ69
    have N69 := Fr.app N60 Nq69
    have sf71 : Safe Z consts_1 s.vm h60 b44 := (CHr.safe cr62 (show @LT.lt Nat _ _ _ by omega) (CHr.safe cr56 (show @LT.lt Nat _ _ _ by omega) (CHr.safe cr50 (show @LT.lt Nat _ _ _ by omega) sf46)))
    have sz72 : h60.size ≤ T69.heap.size := Kq69.1
    have K72 := K62.trans Kq69 (allS (Or.inr (by omega)) all0)
    have cr72 : CHr Z consts_1 s.vm h60 s.vm T69.heap := CHr.keep Kq69 (sfS sf71 sf0) CR62.1
    have CR72 := CR62.trans cr72
    have sf73 : Safe Z consts_1 s.vm T69.heap t63 := Safe.keep Kq69 (sfS sf71 sf0) CR62.1 (Safe.new (by omega))
    have lt74 : @LT.lt Nat _ t63 T69.heap.size := Ab69.lt
    refine own_go (fun tq kq => st69.trans kq) ?_
    show own_Rn p e below _ (T69.setTop (mkF m 64 #[.val (.ref ba), .val (.int (Int32.ofNat 2))] [(.ref b44)]))
    have hpL63 := hp63
    exact own_retS X69 hS0 (by omega) (v := some (.ref b44)) (fun h => by rw [Bd.returns] at h; cases h) (fun fs hr => X69.areturnOut hx rfl Bd.returns rfl (hb hby own_d0_64) hr) (⟨b44, t63, kb63, rfl, N69, K72, Ex69, Va69, Co69, Ab69⟩) (by rw [hh]; exact CR72.trans (CHv.at X69 hZ hEL CR72.1)) (by decide) (by decide)
  · skip
    show own_Rn p e below _ (s₁.setTop (mkF m 0 #[.val (.ref ba), .val (.int (Int32.ofNat 3))] []))
    refine own_go (fun tq kq => XS.iloadN X0.here hx rfl (hb hby own_d0_0) rfl kq) ?_
    show own_Rn p e below _ (s₁.setTop (mkF m 1 #[.val (.ref ba), .val (.int (Int32.ofNat 3))] [(.int (Int32.ofNat 3))]))
    refine own_go (fun tq kq => XS.ifYes X0.here hx rfl (pc0 := 1) (pc' := 15) rfl (hb hby own_d0_1) rfl ((if0 _ _).trans (tlt ((by decide : (0 : Int32) < (Int32.ofNat 3)) : (0 : Int32) < (Int32.ofNat 3))).2.2.1) (by decide) (by decide) kq) ?_
    show own_Rn p e below _ (s₁.setTop (mkF m 15 #[.val (.ref ba), .val (.int (Int32.ofNat 3))] []))
    refine own_go (fun tq kq => XS.iloadN X0.here hx rfl (hb hby own_d0_15) rfl kq) ?_
    show own_Rn p e below _ (s₁.setTop (mkF m 16 #[.val (.ref ba), .val (.int (Int32.ofNat 3))] [(.int (Int32.ofNat 3))]))
    refine own_go (fun tq kq => XS.iconst X0.here hx rfl (hb hby own_d0_16) kq) ?_
    show own_Rn p e below _ (s₁.setTop (mkF m 17 #[.val (.ref ba), .val (.int (Int32.ofNat 3))] [(.int (1 : Int32)), (.int (Int32.ofNat 3))]))
    refine own_go (fun tq kq => XS.icmpYes X0.here hx rfl (pc0 := 17) (pc' := 37) rfl (hb hby own_d0_17) rfl (feq ((by decide : ¬ ((Int32.ofNat 3) = (1 : Int32))) : ¬ ((Int32.ofNat 3) = (1 : Int32)))).2 (by decide) (by decide) kq) ?_
    show own_Rn p e below _ (s₁.setTop (mkF m 37 #[.val (.ref ba), .val (.int (Int32.ofNat 3))] []))
    refine own_go (fun tq kq => XS.iloadN X0.here hx rfl (hb hby own_d0_37) rfl kq) ?_
    show own_Rn p e below _ (s₁.setTop (mkF m 38 #[.val (.ref ba), .val (.int (Int32.ofNat 3))] [(.int (Int32.ofNat 3))]))
    refine own_go (fun tq kq => XS.iconst X0.here hx rfl (hb hby own_d0_38) kq) ?_
    show own_Rn p e below _ (s₁.setTop (mkF m 39 #[.val (.ref ba), .val (.int (Int32.ofNat 3))] [(.int (2 : Int32)), (.int (Int32.ofNat 3))]))
    refine own_go (fun tq kq => XS.icmpYes X0.here hx rfl (pc0 := 39) (pc' := 65) rfl (hb hby own_d0_39) rfl (feq ((by decide : ¬ ((Int32.ofNat 3) = (2 : Int32))) : ¬ ((Int32.ofNat 3) = (2 : Int32)))).2 (by decide) (by decide) kq) ?_
    show own_Rn p e below _ (s₁.setTop (mkF m 65 #[.val (.ref ba), .val (.int (Int32.ofNat 3))] []))
    refine own_go (fun tq kq => XS.iloadN X0.here hx rfl (hb hby own_d0_65) rfl kq) ?_
    show own_Rn p e below _ (s₁.setTop (mkF m 66 #[.val (.ref ba), .val (.int (Int32.ofNat 3))] [(.int (Int32.ofNat 3))]))
    refine own_go (fun tq kq => XS.iconst X0.here hx rfl (hb hby own_d0_66) kq) ?_
    show own_Rn p e below _ (s₁.setTop (mkF m 67 #[.val (.ref ba), .val (.int (Int32.ofNat 3))] [(.int (3 : Int32)), (.int (Int32.ofNat 3))]))
    refine own_go (fun tq kq => XS.icmpNo X0.here hx rfl (hb hby own_d0_67) rfl (teq ((by decide : (Int32.ofNat 3) = (3 : Int32)) : (Int32.ofNat 3) = (3 : Int32))).2 kq) ?_
    show own_Rn p e below _ (s₁.setTop (mkF m 70 #[.val (.ref ba), .val (.int (Int32.ofNat 3))] []))
    obtain ⟨T75, h75, X75, e75, E75, A75, D75, -, st75⟩ := newO X0 hx hZ hown (hw _ (own_mi 5 rfl)) (hw _ (own_mi 6 rfl)) (hw _ (own_mi 7 rfl)) e0 (g := (mkF m 70 #[.val (.ref ba), .val (.int (Int32.ofNat 3))] [])) rfl (hb hby own_d0_70) (by decide) (by decide)
    obtain ⟨b75, g75⟩ : ∃ z, z = h0.size := ⟨_, rfl⟩
    rw [← g75] at A75 D75 st75
    refine own_go st75 ?_
    have sz76 : h0.size ≤ h75.size := E75.1
    have K76 := K0.ext E75
    have cr76 : CHr Z consts_1 s.vm h0 s.vm h75 := CHr.ext E75 CR0.1
    have CR76 := CR0.trans cr76
    have sf77 : Safe Z consts_1 s.vm h75 b75 := Safe.ext E75 CR0.1 (Safe.new (by omega))
    have lt78 : @LT.lt Nat _ b75 h75.size := A75.lt
    have gn75 : n0 ≤ b75 := by omega
    have D75_value : Fld Z h75 b75 "java/lang/String" "value" "[B" .null := D75 (Or.inr (hw _ (own_mi 20 rfl))) (ty := (.array .byte)) own_fd_5bB
    have D75_coder : Fld Z h75 b75 "java/lang/String" "coder" "B" (.int (0 : Int32)) := D75 (Or.inr (hw _ (own_mi 21 rfl))) (ty := .byte) own_fd_B
    show own_Rn p e below _ (T75.setTop (mkF m 73 #[.val (.ref ba), .val (.int (Int32.ofNat 3))] [(.ref b75)]))
    refine own_go (fun tq kq => XS.dup X75.here hx rfl (hb hby own_d0_73) rfl rfl kq) ?_
    show own_Rn p e below _ (T75.setTop (mkF m 74 #[.val (.ref ba), .val (.int (Int32.ofNat 3))] [(.ref b75), (.ref b75)]))
    refine own_go (fun tq kq => XS.iconst X75.here hx rfl (hb hby own_d0_74) kq) ?_
    show own_Rn p e below _ (T75.setTop (mkF m 75 #[.val (.ref ba), .val (.int (Int32.ofNat 3))] [(.int (3 : Int32)), (.ref b75), (.ref b75)]))
    obtain ⟨T80, h80, k80, X80, e80, E80, A80, st80⟩ := newP X75 hx hZ (hw _ (own_mi 0 rfl)) e75 (g := (mkF m 75 #[.val (.ref ba), .val (.int (Int32.ofNat 3))] [(.int (3 : Int32)), (.ref b75), (.ref b75)])) rfl (hb hby own_d0_75) rfl (by decide) (cap := 3) (by decide) (by decide) (by decide) (by decide)
    obtain ⟨b80, g80⟩ : ∃ z, z = h75.size := ⟨_, rfl⟩
    rw [← g80] at A80 st80
    refine own_go st80 ?_
    have sz81 : h75.size ≤ h80.size := E80.1
    have K81 := K76.ext E80
    have cr81 : CHr Z consts_1 s.vm h75 s.vm h80 := CHr.ext E80 CR76.1
    have CR81 := CR76.trans cr81
    have gn80 : n0 ≤ b80 := by omega
    have V80 : Arv Z h80 b80 k80 .char (3 : Int32) [(.int (0 : Int32)), (.int (0 : Int32)), (.int (0 : Int32))] (.int (0 : Int32)) := (Arv.new A80 (by decide)).pad (pad_rep [] _ 3)
    have lt82 : @LT.lt Nat _ b80 h80.size := V80.lt
    show own_Rn p e below _ (T80.setTop (mkF m 77 #[.val (.ref ba), .val (.int (Int32.ofNat 3))] [(.ref b80), (.ref b75), (.ref b75)]))
    refine own_go (fun tq kq => XS.dup X80.here hx rfl (hb hby own_d0_77) rfl rfl kq) ?_
    show own_Rn p e below _ (T80.setTop (mkF m 78 #[.val (.ref ba), .val (.int (Int32.ofNat 3))] [(.ref b80), (.ref b80), (.ref b75), (.ref b75)]))
    refine own_go (fun tq kq => XS.iconst X80.here hx rfl (hb hby own_d0_78) kq) ?_
    show own_Rn p e below _ (T80.setTop (mkF m 79 #[.val (.ref ba), .val (.int (Int32.ofNat 3))] [(.int (0 : Int32)), (.ref b80), (.ref b80), (.ref b75), (.ref b75)]))
    refine own_go (fun tq kq => XS.aloadN X80.here hx rfl (hb hby own_d0_79) rfl rfl kq) ?_
    show own_Rn p e below _ (T80.setTop (mkF m 80 #[.val (.ref ba), .val (.int (Int32.ofNat 3))] [(.ref ba), (.int (0 : Int32)), (.ref b80), (.ref b80), (.ref b75), (.ref b75)]))
    refine own_go (fun tq kq => XS.iconst X80.here hx rfl (hb hby own_d0_80) kq) ?_
    show own_Rn p e below _ (T80.setTop (mkF m 81 #[.val (.ref ba), .val (.int (Int32.ofNat 3))] [(.int (0 : Int32)), (.ref ba), (.int (0 : Int32)), (.ref b80), (.ref b80), (.ref b75), (.ref b75)]))
    have F83 : Arv Z h80 ba ka .char (6 : Int32) [(.int b0), (.int b1), (.int b2), (.int b3), (.int b4), (.int b5)] (.int (0 : Int32)) := ((Pm0.ext E75).ext E80)
    obtain ⟨cl84, Ar84, q84, Sz84, Nn84, Hs84, G84⟩ := id F83
    have in84 := inb_of (j := (0 : Int32)) Sz84 ⟨by decide, by decide⟩
    refine own_go (fun tq kq => X80.caload hx (j := (0 : Int32)) (v := (.int b0)) (by rw [e80]; exact Ar84.1) (State.isArrayOf_alike hZ.alike Ar84.2.1) Ar84.2.2 in84 (Hs84.at in84 rfl) (g := (mkF m 81 #[.val (.ref ba), .val (.int (Int32.ofNat 3))] [(.int (0 : Int32)), (.ref ba), (.int (0 : Int32)), (.ref b80), (.ref b80), (.ref b75), (.ref b75)])) rfl rfl (hb hby own_d0_81) tq kq) ?_
    show own_Rn p e below _ (T80.setTop (mkF m 82 #[.val (.ref ba), .val (.int (Int32.ofNat 3))] [(.int b0), (.int (0 : Int32)), (.ref b80), (.ref b80), (.ref b75), (.ref b75)]))
    obtain ⟨cl85, Ar85, q85, Sz85, Nn85, Hs85, G85⟩ := id V80
    obtain ⟨T85, h85, X85, e85, W85, st85⟩ := stC X80 hx hZ e80 Ar85 (j := (0 : Int32)) (inb_of Sz85 ⟨by decide, by decide⟩) (g := (mkF m 82 #[.val (.ref ba), .val (.int (Int32.ofNat 3))] [(.int b0), (.int (0 : Int32)), (.ref b80), (.ref b80), (.ref b75), (.ref b75)])) rfl rfl (hb hby own_d0_82)
    rw [nr0] at W85
    refine own_go st85 ?_
    have V85 : Arv Z h85 b80 k80 .char (3 : Int32) [(.int b0), (.int (0 : Int32)), (.int (0 : Int32))] (.int (0 : Int32)) := Arv.set Ar85 q85 Sz85 Nn85 Hs85 G85 (by rw [← nr0]; exact fits_nar_char _) W85 0 rfl (Nat.le_of_ble_eq_true rfl)
    have N85 := Fr.snoc X85 N0 gn80
    have sf86 : Safe Z consts_1 s.vm h80 b80 := Safe.arv hZ.alike V80 (by decide)
    have sz87 : h80.size ≤ h85.size := Nat.le_of_eq (Wr.size W85).symm
    have K87 := K81.wr W85 (Or.inr (by omega))
    have cr87 : CHr Z consts_1 s.vm h80 s.vm h85 := CHr.wr W85 sf86 CR81.1
    have CR87 := CR81.trans cr87
    show own_Rn p e below _ (T85.setTop (mkF m 83 #[.val (.ref ba), .val (.int (Int32.ofNat 3))] [(.ref b80), (.ref b75), (.ref b75)]))
    refine own_go (fun tq kq => XS.dup X85.here hx rfl (hb hby own_d0_83) rfl rfl kq) ?_
    show own_Rn p e below _ (T85.setTop (mkF m 84 #[.val (.ref ba), .val (.int (Int32.ofNat 3))] [(.ref b80), (.ref b80), (.ref b75), (.ref b75)]))
    refine own_go (fun tq kq => XS.iconst X85.here hx rfl (hb hby own_d0_84) kq) ?_
    show own_Rn p e below _ (T85.setTop (mkF m 85 #[.val (.ref ba), .val (.int (Int32.ofNat 3))] [(.int (1 : Int32)), (.ref b80), (.ref b80), (.ref b75), (.ref b75)]))
    refine own_go (fun tq kq => XS.aloadN X85.here hx rfl (hb hby own_d0_85) rfl rfl kq) ?_
    show own_Rn p e below _ (T85.setTop (mkF m 86 #[.val (.ref ba), .val (.int (Int32.ofNat 3))] [(.ref ba), (.int (1 : Int32)), (.ref b80), (.ref b80), (.ref b75), (.ref b75)]))
    refine own_go (fun tq kq => XS.iconst X85.here hx rfl (hb hby own_d0_86) kq) ?_
    show own_Rn p e below _ (T85.setTop (mkF m 87 #[.val (.ref ba), .val (.int (Int32.ofNat 3))] [(.int (1 : Int32)), (.ref ba), (.int (1 : Int32)), (.ref b80), (.ref b80), (.ref b75), (.ref b75)]))
    have ne88 : ba ≠ b80 := own_nea (by omega)
    have F89 : Arv Z h85 ba ka .char (6 : Int32) [(.int b0), (.int b1), (.int b2), (.int b3), (.int b4), (.int b5)] (.int (0 : Int32)) := (F83.other W85 ne88)
    obtain ⟨cl90, Ar90, q90, Sz90, Nn90, Hs90, G90⟩ := id F89
    have in90 := inb_of (j := (1 : Int32)) Sz90 ⟨by decide, by decide⟩
    refine own_go (fun tq kq => X85.caload hx (j := (1 : Int32)) (v := (.int b1)) (by rw [e85]; exact Ar90.1) (State.isArrayOf_alike hZ.alike Ar90.2.1) Ar90.2.2 in90 (Hs90.at in90 rfl) (g := (mkF m 87 #[.val (.ref ba), .val (.int (Int32.ofNat 3))] [(.int (1 : Int32)), (.ref ba), (.int (1 : Int32)), (.ref b80), (.ref b80), (.ref b75), (.ref b75)])) rfl rfl (hb hby own_d0_87) tq kq) ?_
    show own_Rn p e below _ (T85.setTop (mkF m 88 #[.val (.ref ba), .val (.int (Int32.ofNat 3))] [(.int b1), (.int (1 : Int32)), (.ref b80), (.ref b80), (.ref b75), (.ref b75)]))
    obtain ⟨cl91, Ar91, q91, Sz91, Nn91, Hs91, G91⟩ := id V85
    obtain ⟨T91, h91, X91, e91, W91, st91⟩ := stC X85 hx hZ e85 Ar91 (j := (1 : Int32)) (inb_of Sz91 ⟨by decide, by decide⟩) (g := (mkF m 88 #[.val (.ref ba), .val (.int (Int32.ofNat 3))] [(.int b1), (.int (1 : Int32)), (.ref b80), (.ref b80), (.ref b75), (.ref b75)])) rfl rfl (hb hby own_d0_88)
    rw [nr1] at W91
    refine own_go st91 ?_
    have V91 : Arv Z h91 b80 k80 .char (3 : Int32) [(.int b0), (.int b1), (.int (0 : Int32))] (.int (0 : Int32)) := Arv.set Ar91 q91 Sz91 Nn91 Hs91 G91 (by rw [← nr1]; exact fits_nar_char _) W91 1 rfl (Nat.le_of_ble_eq_true rfl)
    have N91 := Fr.snoc X91 N85 gn80
    have sf92 : Safe Z consts_1 s.vm h85 b80 := Safe.arv hZ.alike V85 (by decide)
    have sz93 : h85.size ≤ h91.size := Nat.le_of_eq (Wr.size W91).symm
    have K93 := K87.wr W91 (Or.inr (by omega))
    have cr93 : CHr Z consts_1 s.vm h85 s.vm h91 := CHr.wr W91 sf92 CR87.1
    have CR93 := CR87.trans cr93
    show own_Rn p e below _ (T91.setTop (mkF m 89 #[.val (.ref ba), .val (.int (Int32.ofNat 3))] [(.ref b80), (.ref b75), (.ref b75)]))
    refine own_go (fun tq kq => XS.dup X91.here hx rfl (hb hby own_d0_89) rfl rfl kq) ?_
    show own_Rn p e below _ (T91.setTop (mkF m 90 #[.val (.ref ba), .val (.int (Int32.ofNat 3))] [(.ref b80), (.ref b80), (.ref b75), (.ref b75)]))
    refine own_go (fun tq kq => XS.iconst X91.here hx rfl (hb hby own_d0_90) kq) ?_
    show own_Rn p e below _ (T91.setTop (mkF m 91 #[.val (.ref ba), .val (.int (Int32.ofNat 3))] [(.int (2 : Int32)), (.ref b80), (.ref b80), (.ref b75), (.ref b75)]))
    refine own_go (fun tq kq => XS.aloadN X91.here hx rfl (hb hby own_d0_91) rfl rfl kq) ?_
    show own_Rn p e below _ (T91.setTop (mkF m 92 #[.val (.ref ba), .val (.int (Int32.ofNat 3))] [(.ref ba), (.int (2 : Int32)), (.ref b80), (.ref b80), (.ref b75), (.ref b75)]))
    refine own_go (fun tq kq => XS.iconst X91.here hx rfl (hb hby own_d0_92) kq) ?_
    show own_Rn p e below _ (T91.setTop (mkF m 93 #[.val (.ref ba), .val (.int (Int32.ofNat 3))] [(.int (2 : Int32)), (.ref ba), (.int (2 : Int32)), (.ref b80), (.ref b80), (.ref b75), (.ref b75)]))
    have F94 : Arv Z h91 ba ka .char (6 : Int32) [(.int b0), (.int b1), (.int b2), (.int b3), (.int b4), (.int b5)] (.int (0 : Int32)) := (F89.other W91 ne88)
    obtain ⟨cl95, Ar95, q95, Sz95, Nn95, Hs95, G95⟩ := id F94
    have in95 := inb_of (j := (2 : Int32)) Sz95 ⟨by decide, by decide⟩
    refine own_go (fun tq kq => X91.caload hx (j := (2 : Int32)) (v := (.int b2)) (by rw [e91]; exact Ar95.1) (State.isArrayOf_alike hZ.alike Ar95.2.1) Ar95.2.2 in95 (Hs95.at in95 rfl) (g := (mkF m 93 #[.val (.ref ba), .val (.int (Int32.ofNat 3))] [(.int (2 : Int32)), (.ref ba), (.int (2 : Int32)), (.ref b80), (.ref b80), (.ref b75), (.ref b75)])) rfl rfl (hb hby own_d0_93) tq kq) ?_
    show own_Rn p e below _ (T91.setTop (mkF m 94 #[.val (.ref ba), .val (.int (Int32.ofNat 3))] [(.int b2), (.int (2 : Int32)), (.ref b80), (.ref b80), (.ref b75), (.ref b75)]))
    obtain ⟨cl96, Ar96, q96, Sz96, Nn96, Hs96, G96⟩ := id V91
    obtain ⟨T96, h96, X96, e96, W96, st96⟩ := stC X91 hx hZ e91 Ar96 (j := (2 : Int32)) (inb_of Sz96 ⟨by decide, by decide⟩) (g := (mkF m 94 #[.val (.ref ba), .val (.int (Int32.ofNat 3))] [(.int b2), (.int (2 : Int32)), (.ref b80), (.ref b80), (.ref b75), (.ref b75)])) rfl rfl (hb hby own_d0_94)
    rw [nr2] at W96
    refine own_go st96 ?_
    have V96 : Arv Z h96 b80 k80 .char (3 : Int32) [(.int b0), (.int b1), (.int b2)] (.int (0 : Int32)) := Arv.set Ar96 q96 Sz96 Nn96 Hs96 G96 (by rw [← nr2]; exact fits_nar_char _) W96 2 rfl (Nat.le_of_ble_eq_true rfl)
    have N96 := Fr.snoc X96 N91 gn80
    have sf97 : Safe Z consts_1 s.vm h91 b80 := Safe.arv hZ.alike V91 (by decide)
    have sz98 : h91.size ≤ h96.size := Nat.le_of_eq (Wr.size W96).symm
    have K98 := K93.wr W96 (Or.inr (by omega))
    have cr98 : CHr Z consts_1 s.vm h91 s.vm h96 := CHr.wr W96 sf97 CR93.1
    have CR98 := CR93.trans cr98
    show own_Rn p e below _ (T96.setTop (mkF m 95 #[.val (.ref ba), .val (.int (Int32.ofNat 3))] [(.ref b80), (.ref b75), (.ref b75)]))
    have hp99 : ∀ c ∈ ([b0, b1, b2] : List Int32), ¬ c < 0 ∧ ¬ (255 : Int32) < c := by
      intro c hc
      simp only [List.mem_cons, List.not_mem_nil, or_false] at hc
      rcases hc with rfl | rfl | rfl
      · exact r0
      · exact r1
      · exact r2
    have F100 : Exa Z h96 b75 "java/lang/String" := ((((A75.ext E80).wr W85).wr W91).wr W96)
    have ne101 : b75 ≠ b80 := own_nea (by omega)
    have F102 : Fld Z h96 b75 "java/lang/String" "value" "[B" .null := ((((D75_value.ext E80).other W85 (Or.inl ne101)).other W91 (Or.inl ne101)).other W96 (Or.inl ne101))
    have F103 : Fld Z h96 b75 "java/lang/String" "coder" "B" (.int (0 : Int32)) := ((((D75_coder.ext E80).other W85 (Or.inl ne101)).other W91 (Or.inl ne101)).other W96 (Or.inl ne101))
    have F104 : Old Z n0 h96 := (((((X00.ext E75).ext E80).wr W85 gn80).wr W91 gn80).wr W96 gn80)
    have Zs99 : n0 ≤ h96.size := by omega
    obtain ⟨rv105, _, ⟨T105, L105, k105, n105⟩, -, X105, ⟨Lc105, hQ105, l105, y105, z105⟩, st105⟩ := X96.specialBack hx (y := (⟨"java/lang/String", "<init>", "([C)V"⟩ : MethodName)) rfl hown (mvT hZ (hw _ (own_mi 8 rfl))) (mvT hZ (hw _ (own_mi 9 rfl))) (mvT hZ (hw _ (own_mi 10 rfl))) (by decide) (StrChars.Road.backV (W := 1) hZ hws (kI := 4) (hw _ (own_mi 6 rfl)) (cs := [b0, b1, b2]) (bs := ([b0, b1, b2] : List Int32).map (fun c => c.toInt8.toInt32)) (n := 3) gn75 Zs99 F100 F102 F103 V96 (O2.ext F104.2) P5 rfl rfl (by decide) (by decide) hp99 rfl (by decide) (by decide)) (g := (mkF m 95 #[.val (.ref ba), .val (.int (Int32.ofNat 3))] [(.ref b80), (.ref b75), (.ref b75)])) rfl (by rw [hml]; rfl) (Steps.refl _) (a := b75) (argsL := [(.ref b80)]) (rest := [(.ref b75)]) (lenOf own_pd_285bC29V rfl) rfl (by show 2 * 0 + _ ≤ _; exact Nat.le_of_eq rfl) (hb hby own_d0_95) (fun _ _ => ⟨rfl, e96, (by decide : 2 + 1 ≤ _), (by decide : 7 + 3 ≤ _)⟩)
    dsimp only [Pt.U, Pt.locs, Pt.cells, Pt.slots] at X105 l105 y105 z105 st105 hQ105
    subst l105 y105 z105
    obtain ⟨rfl, Nq105, Kq105, Ex105, Co105, t99, kb99, gt105, hs105, nt105, Va105, Ab105⟩ := hQ105
    have N105 := Fr.app N96 Nq105
    have sf107 : Safe Z consts_1 s.vm h96 b75 := (CHr.safe cr98 (show @LT.lt Nat _ _ _ by omega) (CHr.safe cr93 (show @LT.lt Nat _ _ _ by omega) (CHr.safe cr87 (show @LT.lt Nat _ _ _ by omega) (CHr.safe cr81 (show @LT.lt Nat _ _ _ by omega) sf77))))
    have sz108 : h96.size ≤ T105.heap.size := Kq105.1
    have K108 := K98.trans Kq105 (allS (Or.inr (by omega)) all0)
    have cr108 : CHr Z consts_1 s.vm h96 s.vm T105.heap := CHr.keep Kq105 (sfS sf107 sf0) CR98.1
    have CR108 := CR98.trans cr108
    have sf109 : Safe Z consts_1 s.vm T105.heap t99 := Safe.keep Kq105 (sfS sf107 sf0) CR98.1 (Safe.new (by omega))
    have lt110 : @LT.lt Nat _ t99 T105.heap.size := Ab105.lt
    refine own_go (fun tq kq => st105.trans kq) ?_
    show own_Rn p e below _ (T105.setTop (mkF m 98 #[.val (.ref ba), .val (.int (Int32.ofNat 3))] [(.ref b75)]))
    have hpL99 := hp99
    exact own_retS X105 hS0 (by omega) (v := some (.ref b75)) (fun h => by rw [Bd.returns] at h; cases h) (fun fs hr => X105.areturnOut hx rfl Bd.returns rfl (hb hby own_d0_98) hr) (⟨b75, t99, kb99, rfl, N105, K108, Ex105, Va105, Co105, Ab105⟩) (by rw [hh]; exact CR108.trans (CHv.at X105 hZ hEL CR108.1)) (by decide) (by decide)
  · skip
    show own_Rn p e below _ (s₁.setTop (mkF m 0 #[.val (.ref ba), .val (.int (Int32.ofNat 4))] []))
    refine own_go (fun tq kq => XS.iloadN X0.here hx rfl (hb hby own_d0_0) rfl kq) ?_
    show own_Rn p e below _ (s₁.setTop (mkF m 1 #[.val (.ref ba), .val (.int (Int32.ofNat 4))] [(.int (Int32.ofNat 4))]))
    refine own_go (fun tq kq => XS.ifYes X0.here hx rfl (pc0 := 1) (pc' := 15) rfl (hb hby own_d0_1) rfl ((if0 _ _).trans (tlt ((by decide : (0 : Int32) < (Int32.ofNat 4)) : (0 : Int32) < (Int32.ofNat 4))).2.2.1) (by decide) (by decide) kq) ?_
    show own_Rn p e below _ (s₁.setTop (mkF m 15 #[.val (.ref ba), .val (.int (Int32.ofNat 4))] []))
    refine own_go (fun tq kq => XS.iloadN X0.here hx rfl (hb hby own_d0_15) rfl kq) ?_
    show own_Rn p e below _ (s₁.setTop (mkF m 16 #[.val (.ref ba), .val (.int (Int32.ofNat 4))] [(.int (Int32.ofNat 4))]))
    refine own_go (fun tq kq => XS.iconst X0.here hx rfl (hb hby own_d0_16) kq) ?_
    show own_Rn p e below _ (s₁.setTop (mkF m 17 #[.val (.ref ba), .val (.int (Int32.ofNat 4))] [(.int (1 : Int32)), (.int (Int32.ofNat 4))]))
    refine own_go (fun tq kq => XS.icmpYes X0.here hx rfl (pc0 := 17) (pc' := 37) rfl (hb hby own_d0_17) rfl (feq ((by decide : ¬ ((Int32.ofNat 4) = (1 : Int32))) : ¬ ((Int32.ofNat 4) = (1 : Int32)))).2 (by decide) (by decide) kq) ?_
    show own_Rn p e below _ (s₁.setTop (mkF m 37 #[.val (.ref ba), .val (.int (Int32.ofNat 4))] []))
    refine own_go (fun tq kq => XS.iloadN X0.here hx rfl (hb hby own_d0_37) rfl kq) ?_
    show own_Rn p e below _ (s₁.setTop (mkF m 38 #[.val (.ref ba), .val (.int (Int32.ofNat 4))] [(.int (Int32.ofNat 4))]))
    refine own_go (fun tq kq => XS.iconst X0.here hx rfl (hb hby own_d0_38) kq) ?_
    show own_Rn p e below _ (s₁.setTop (mkF m 39 #[.val (.ref ba), .val (.int (Int32.ofNat 4))] [(.int (2 : Int32)), (.int (Int32.ofNat 4))]))
    refine own_go (fun tq kq => XS.icmpYes X0.here hx rfl (pc0 := 39) (pc' := 65) rfl (hb hby own_d0_39) rfl (feq ((by decide : ¬ ((Int32.ofNat 4) = (2 : Int32))) : ¬ ((Int32.ofNat 4) = (2 : Int32)))).2 (by decide) (by decide) kq) ?_
    show own_Rn p e below _ (s₁.setTop (mkF m 65 #[.val (.ref ba), .val (.int (Int32.ofNat 4))] []))
    refine own_go (fun tq kq => XS.iloadN X0.here hx rfl (hb hby own_d0_65) rfl kq) ?_
    show own_Rn p e below _ (s₁.setTop (mkF m 66 #[.val (.ref ba), .val (.int (Int32.ofNat 4))] [(.int (Int32.ofNat 4))]))
    refine own_go (fun tq kq => XS.iconst X0.here hx rfl (hb hby own_d0_66) kq) ?_
    show own_Rn p e below _ (s₁.setTop (mkF m 67 #[.val (.ref ba), .val (.int (Int32.ofNat 4))] [(.int (3 : Int32)), (.int (Int32.ofNat 4))]))
    refine own_go (fun tq kq => XS.icmpYes X0.here hx rfl (pc0 := 67) (pc' := 99) rfl (hb hby own_d0_67) rfl (feq ((by decide : ¬ ((Int32.ofNat 4) = (3 : Int32))) : ¬ ((Int32.ofNat 4) = (3 : Int32)))).2 (by decide) (by decide) kq) ?_
    show own_Rn p e below _ (s₁.setTop (mkF m 99 #[.val (.ref ba), .val (.int (Int32.ofNat 4))] []))
    refine own_go (fun tq kq => XS.iloadN X0.here hx rfl (hb hby own_d0_99) rfl kq) ?_
    show own_Rn p e below _ (s₁.setTop (mkF m 100 #[.val (.ref ba), .val (.int (Int32.ofNat 4))] [(.int (Int32.ofNat 4))]))
    refine own_go (fun tq kq => XS.iconst X0.here hx rfl (hb hby own_d0_100) kq) ?_
    show own_Rn p e below _ (s₁.setTop (mkF m 101 #[.val (.ref ba), .val (.int (Int32.ofNat 4))] [(.int (4 : Int32)), (.int (Int32.ofNat 4))]))
    refine own_go (fun tq kq => XS.icmpNo X0.here hx rfl (hb hby own_d0_101) rfl (teq ((by decide : (Int32.ofNat 4) = (4 : Int32)) : (Int32.ofNat 4) = (4 : Int32))).2 kq) ?_
    show own_Rn p e below _ (s₁.setTop (mkF m 104 #[.val (.ref ba), .val (.int (Int32.ofNat 4))] []))
    obtain ⟨T111, h111, X111, e111, E111, A111, D111, -, st111⟩ := newO X0 hx hZ hown (hw _ (own_mi 5 rfl)) (hw _ (own_mi 6 rfl)) (hw _ (own_mi 7 rfl)) e0 (g := (mkF m 104 #[.val (.ref ba), .val (.int (Int32.ofNat 4))] [])) rfl (hb hby own_d0_104) (by decide) (by decide)
    obtain ⟨b111, g111⟩ : ∃ z, z = h0.size := ⟨_, rfl⟩
    rw [← g111] at A111 D111 st111
    refine own_go st111 ?_
    have sz112 : h0.size ≤ h111.size := E111.1
    have K112 := K0.ext E111
    have cr112 : CHr Z consts_1 s.vm h0 s.vm h111 := CHr.ext E111 CR0.1
    have CR112 := CR0.trans cr112
    have sf113 : Safe Z consts_1 s.vm h111 b111 := Safe.ext E111 CR0.1 (Safe.new (by omega))
    have lt114 : @LT.lt Nat _ b111 h111.size := A111.lt
    have gn111 : n0 ≤ b111 := by omega
    have D111_value : Fld Z h111 b111 "java/lang/String" "value" "[B" .null := D111 (Or.inr (hw _ (own_mi 20 rfl))) (ty := (.array .byte)) own_fd_5bB
    have D111_coder : Fld Z h111 b111 "java/lang/String" "coder" "B" (.int (0 : Int32)) := D111 (Or.inr (hw _ (own_mi 21 rfl))) (ty := .byte) own_fd_B
    show own_Rn p e below _ (T111.setTop (mkF m 107 #[.val (.ref ba), .val (.int (Int32.ofNat 4))] [(.ref b111)]))
    refine own_go (fun tq kq => XS.dup X111.here hx rfl (hb hby own_d0_107) rfl rfl kq) ?_
    show own_Rn p e below _ (T111.setTop (mkF m 108 #[.val (.ref ba), .val (.int (Int32.ofNat 4))] [(.ref b111), (.ref b111)]))
    refine own_go (fun tq kq => XS.iconst X111.here hx rfl (hb hby own_d0_108) kq) ?_
    show own_Rn p e below _ (T111.setTop (mkF m 109 #[.val (.ref ba), .val (.int (Int32.ofNat 4))] [(.int (4 : Int32)), (.ref b111), (.ref b111)]))
    obtain ⟨T116, h116, k116, X116, e116, E116, A116, st116⟩ := newP X111 hx hZ (hw _ (own_mi 0 rfl)) e111 (g := (mkF m 109 #[.val (.ref ba), .val (.int (Int32.ofNat 4))] [(.int (4 : Int32)), (.ref b111), (.ref b111)])) rfl (hb hby own_d0_109) rfl (by decide) (cap := 4) (by decide) (by decide) (by decide) (by decide)
    obtain ⟨b116, g116⟩ : ∃ z, z = h111.size := ⟨_, rfl⟩
    rw [← g116] at A116 st116
    refine own_go st116 ?_
    have sz117 : h111.size ≤ h116.size := E116.1
    have K117 := K112.ext E116
    have cr117 : CHr Z consts_1 s.vm h111 s.vm h116 := CHr.ext E116 CR112.1
    have CR117 := CR112.trans cr117
    have gn116 : n0 ≤ b116 := by omega
    have V116 : Arv Z h116 b116 k116 .char (4 : Int32) [(.int (0 : Int32)), (.int (0 : Int32)), (.int (0 : Int32)), (.int (0 : Int32))] (.int (0 : Int32)) := (Arv.new A116 (by decide)).pad (pad_rep [] _ 4)
    have lt118 : @LT.lt Nat _ b116 h116.size := V116.lt
    show own_Rn p e below _ (T116.setTop (mkF m 111 #[.val (.ref ba), .val (.int (Int32.ofNat 4))] [(.ref b116), (.ref b111), (.ref b111)]))
    refine own_go (fun tq kq => XS.dup X116.here hx rfl (hb hby own_d0_111) rfl rfl kq) ?_
    show own_Rn p e below _ (T116.setTop (mkF m 112 #[.val (.ref ba), .val (.int (Int32.ofNat 4))] [(.ref b116), (.ref b116), (.ref b111), (.ref b111)]))
    refine own_go (fun tq kq => XS.iconst X116.here hx rfl (hb hby own_d0_112) kq) ?_
    show own_Rn p e below _ (T116.setTop (mkF m 113 #[.val (.ref ba), .val (.int (Int32.ofNat 4))] [(.int (0 : Int32)), (.ref b116), (.ref b116), (.ref b111), (.ref b111)]))
    refine own_go (fun tq kq => XS.aloadN X116.here hx rfl (hb hby own_d0_113) rfl rfl kq) ?_
    show own_Rn p e below _ (T116.setTop (mkF m 114 #[.val (.ref ba), .val (.int (Int32.ofNat 4))] [(.ref ba), (.int (0 : Int32)), (.ref b116), (.ref b116), (.ref b111), (.ref b111)]))
    refine own_go (fun tq kq => XS.iconst X116.here hx rfl (hb hby own_d0_114) kq) ?_
    show own_Rn p e below _ (T116.setTop (mkF m 115 #[.val (.ref ba), .val (.int (Int32.ofNat 4))] [(.int (0 : Int32)), (.ref ba), (.int (0 : Int32)), (.ref b116), (.ref b116), (.ref b111), (.ref b111)]))
    have F119 : Arv Z h116 ba ka .char (6 : Int32) [(.int b0), (.int b1), (.int b2), (.int b3), (.int b4), (.int b5)] (.int (0 : Int32)) := ((Pm0.ext E111).ext E116)
    obtain ⟨cl120, Ar120, q120, Sz120, Nn120, Hs120, G120⟩ := id F119
    have in120 := inb_of (j := (0 : Int32)) Sz120 ⟨by decide, by decide⟩
    refine own_go (fun tq kq => X116.caload hx (j := (0 : Int32)) (v := (.int b0)) (by rw [e116]; exact Ar120.1) (State.isArrayOf_alike hZ.alike Ar120.2.1) Ar120.2.2 in120 (Hs120.at in120 rfl) (g := (mkF m 115 #[.val (.ref ba), .val (.int (Int32.ofNat 4))] [(.int (0 : Int32)), (.ref ba), (.int (0 : Int32)), (.ref b116), (.ref b116), (.ref b111), (.ref b111)])) rfl rfl (hb hby own_d0_115) tq kq) ?_
    show own_Rn p e below _ (T116.setTop (mkF m 116 #[.val (.ref ba), .val (.int (Int32.ofNat 4))] [(.int b0), (.int (0 : Int32)), (.ref b116), (.ref b116), (.ref b111), (.ref b111)]))
    obtain ⟨cl121, Ar121, q121, Sz121, Nn121, Hs121, G121⟩ := id V116
    obtain ⟨T121, h121, X121, e121, W121, st121⟩ := stC X116 hx hZ e116 Ar121 (j := (0 : Int32)) (inb_of Sz121 ⟨by decide, by decide⟩) (g := (mkF m 116 #[.val (.ref ba), .val (.int (Int32.ofNat 4))] [(.int b0), (.int (0 : Int32)), (.ref b116), (.ref b116), (.ref b111), (.ref b111)])) rfl rfl (hb hby own_d0_116)
    rw [nr0] at W121
    refine own_go st121 ?_
    have V121 : Arv Z h121 b116 k116 .char (4 : Int32) [(.int b0), (.int (0 : Int32)), (.int (0 : Int32)), (.int (0 : Int32))] (.int (0 : Int32)) := Arv.set Ar121 q121 Sz121 Nn121 Hs121 G121 (by rw [← nr0]; exact fits_nar_char _) W121 0 rfl (Nat.le_of_ble_eq_true rfl)
    have N121 := Fr.snoc X121 N0 gn116
    have sf122 : Safe Z consts_1 s.vm h116 b116 := Safe.arv hZ.alike V116 (by decide)
    have sz123 : h116.size ≤ h121.size := Nat.le_of_eq (Wr.size W121).symm
    have K123 := K117.wr W121 (Or.inr (by omega))
    have cr123 : CHr Z consts_1 s.vm h116 s.vm h121 := CHr.wr W121 sf122 CR117.1
    have CR123 := CR117.trans cr123
    show own_Rn p e below _ (T121.setTop (mkF m 117 #[.val (.ref ba), .val (.int (Int32.ofNat 4))] [(.ref b116), (.ref b111), (.ref b111)]))
    refine own_go (fun tq kq => XS.dup X121.here hx rfl (hb hby own_d0_117) rfl rfl kq) ?_
    show own_Rn p e below _ (T121.setTop (mkF m 118 #[.val (.ref ba), .val (.int (Int32.ofNat 4))] [(.ref b116), (.ref b116), (.ref b111), (.ref b111)]))
    refine own_go (fun tq kq => XS.iconst X121.here hx rfl (hb hby own_d0_118) kq) ?_
    show own_Rn p e below _ (T121.setTop (mkF m 119 #[.val (.ref ba), .val (.int (Int32.ofNat 4))] [(.int (1 : Int32)), (.ref b116), (.ref b116), (.ref b111), (.ref b111)]))
    refine own_go (fun tq kq => XS.aloadN X121.here hx rfl (hb hby own_d0_119) rfl rfl kq) ?_
    show own_Rn p e below _ (T121.setTop (mkF m 120 #[.val (.ref ba), .val (.int (Int32.ofNat 4))] [(.ref ba), (.int (1 : Int32)), (.ref b116), (.ref b116), (.ref b111), (.ref b111)]))
    refine own_go (fun tq kq => XS.iconst X121.here hx rfl (hb hby own_d0_120) kq) ?_
    show own_Rn p e below _ (T121.setTop (mkF m 121 #[.val (.ref ba), .val (.int (Int32.ofNat 4))] [(.int (1 : Int32)), (.ref ba), (.int (1 : Int32)), (.ref b116), (.ref b116), (.ref b111), (.ref b111)]))
    have ne124 : ba ≠ b116 := own_nea (by omega)
    have F125 : Arv Z h121 ba ka .char (6 : Int32) [(.int b0), (.int b1), (.int b2), (.int b3), (.int b4), (.int b5)] (.int (0 : Int32)) := (F119.other W121 ne124)
    obtain ⟨cl126, Ar126, q126, Sz126, Nn126, Hs126, G126⟩ := id F125
    have in126 := inb_of (j := (1 : Int32)) Sz126 ⟨by decide, by decide⟩
    refine own_go (fun tq kq => X121.caload hx (j := (1 : Int32)) (v := (.int b1)) (by rw [e121]; exact Ar126.1) (State.isArrayOf_alike hZ.alike Ar126.2.1) Ar126.2.2 in126 (Hs126.at in126 rfl) (g := (mkF m 121 #[.val (.ref ba), .val (.int (Int32.ofNat 4))] [(.int (1 : Int32)), (.ref ba), (.int (1 : Int32)), (.ref b116), (.ref b116), (.ref b111), (.ref b111)])) rfl rfl (hb hby own_d0_121) tq kq) ?_
    show own_Rn p e below _ (T121.setTop (mkF m 122 #[.val (.ref ba), .val (.int (Int32.ofNat 4))] [(.int b1), (.int (1 : Int32)), (.ref b116), (.ref b116), (.ref b111), (.ref b111)]))
    obtain ⟨cl127, Ar127, q127, Sz127, Nn127, Hs127, G127⟩ := id V121
    obtain ⟨T127, h127, X127, e127, W127, st127⟩ := stC X121 hx hZ e121 Ar127 (j := (1 : Int32)) (inb_of Sz127 ⟨by decide, by decide⟩) (g := (mkF m 122 #[.val (.ref ba), .val (.int (Int32.ofNat 4))] [(.int b1), (.int (1 : Int32)), (.ref b116), (.ref b116), (.ref b111), (.ref b111)])) rfl rfl (hb hby own_d0_122)
    rw [nr1] at W127
    refine own_go st127 ?_
    have V127 : Arv Z h127 b116 k116 .char (4 : Int32) [(.int b0), (.int b1), (.int (0 : Int32)), (.int (0 : Int32))] (.int (0 : Int32)) := Arv.set Ar127 q127 Sz127 Nn127 Hs127 G127 (by rw [← nr1]; exact fits_nar_char _) W127 1 rfl (Nat.le_of_ble_eq_true rfl)
    have N127 := Fr.snoc X127 N121 gn116
    have sf128 : Safe Z consts_1 s.vm h121 b116 := Safe.arv hZ.alike V121 (by decide)
    have sz129 : h121.size ≤ h127.size := Nat.le_of_eq (Wr.size W127).symm
    have K129 := K123.wr W127 (Or.inr (by omega))
    have cr129 : CHr Z consts_1 s.vm h121 s.vm h127 := CHr.wr W127 sf128 CR123.1
    have CR129 := CR123.trans cr129
    show own_Rn p e below _ (T127.setTop (mkF m 123 #[.val (.ref ba), .val (.int (Int32.ofNat 4))] [(.ref b116), (.ref b111), (.ref b111)]))
    refine own_go (fun tq kq => XS.dup X127.here hx rfl (hb hby own_d0_123) rfl rfl kq) ?_
    show own_Rn p e below _ (T127.setTop (mkF m 124 #[.val (.ref ba), .val (.int (Int32.ofNat 4))] [(.ref b116), (.ref b116), (.ref b111), (.ref b111)]))
    refine own_go (fun tq kq => XS.iconst X127.here hx rfl (hb hby own_d0_124) kq) ?_
    show own_Rn p e below _ (T127.setTop (mkF m 125 #[.val (.ref ba), .val (.int (Int32.ofNat 4))] [(.int (2 : Int32)), (.ref b116), (.ref b116), (.ref b111), (.ref b111)]))
    refine own_go (fun tq kq => XS.aloadN X127.here hx rfl (hb hby own_d0_125) rfl rfl kq) ?_
    show own_Rn p e below _ (T127.setTop (mkF m 126 #[.val (.ref ba), .val (.int (Int32.ofNat 4))] [(.ref ba), (.int (2 : Int32)), (.ref b116), (.ref b116), (.ref b111), (.ref b111)]))
    refine own_go (fun tq kq => XS.iconst X127.here hx rfl (hb hby own_d0_126) kq) ?_
    show own_Rn p e below _ (T127.setTop (mkF m 127 #[.val (.ref ba), .val (.int (Int32.ofNat 4))] [(.int (2 : Int32)), (.ref ba), (.int (2 : Int32)), (.ref b116), (.ref b116), (.ref b111), (.ref b111)]))
    have F130 : Arv Z h127 ba ka .char (6 : Int32) [(.int b0), (.int b1), (.int b2), (.int b3), (.int b4), (.int b5)] (.int (0 : Int32)) := (F125.other W127 ne124)
    obtain ⟨cl131, Ar131, q131, Sz131, Nn131, Hs131, G131⟩ := id F130
    have in131 := inb_of (j := (2 : Int32)) Sz131 ⟨by decide, by decide⟩
    refine own_go (fun tq kq => X127.caload hx (j := (2 : Int32)) (v := (.int b2)) (by rw [e127]; exact Ar131.1) (State.isArrayOf_alike hZ.alike Ar131.2.1) Ar131.2.2 in131 (Hs131.at in131 rfl) (g := (mkF m 127 #[.val (.ref ba), .val (.int (Int32.ofNat 4))] [(.int (2 : Int32)), (.ref ba), (.int (2 : Int32)), (.ref b116), (.ref b116), (.ref b111), (.ref b111)])) rfl rfl (hb hby own_d0_127) tq kq) ?_
    show own_Rn p e below _ (T127.setTop (mkF m 128 #[.val (.ref ba), .val (.int (Int32.ofNat 4))] [(.int b2), (.int (2 : Int32)), (.ref b116), (.ref b116), (.ref b111), (.ref b111)]))
    obtain ⟨cl132, Ar132, q132, Sz132, Nn132, Hs132, G132⟩ := id V127
    obtain ⟨T132, h132, X132, e132, W132, st132⟩ := stC X127 hx hZ e127 Ar132 (j := (2 : Int32)) (inb_of Sz132 ⟨by decide, by decide⟩) (g := (mkF m 128 #[.val (.ref ba), .val (.int (Int32.ofNat 4))] [(.int b2), (.int (2 : Int32)), (.ref b116), (.ref b116), (.ref b111), (.ref b111)])) rfl rfl (hb hby own_d0_128)
    rw [nr2] at W132
    refine own_go st132 ?_
    have V132 : Arv Z h132 b116 k116 .char (4 : Int32) [(.int b0), (.int b1), (.int b2), (.int (0 : Int32))] (.int (0 : Int32)) := Arv.set Ar132 q132 Sz132 Nn132 Hs132 G132 (by rw [← nr2]; exact fits_nar_char _) W132 2 rfl (Nat.le_of_ble_eq_true rfl)
    have N132 := Fr.snoc X132 N127 gn116
    have sf133 : Safe Z consts_1 s.vm h127 b116 := Safe.arv hZ.alike V127 (by decide)
    have sz134 : h127.size ≤ h132.size := Nat.le_of_eq (Wr.size W132).symm
    have K134 := K129.wr W132 (Or.inr (by omega))
    have cr134 : CHr Z consts_1 s.vm h127 s.vm h132 := CHr.wr W132 sf133 CR129.1
    have CR134 := CR129.trans cr134
    show own_Rn p e below _ (T132.setTop (mkF m 129 #[.val (.ref ba), .val (.int (Int32.ofNat 4))] [(.ref b116), (.ref b111), (.ref b111)]))
    refine own_go (fun tq kq => XS.dup X132.here hx rfl (hb hby own_d0_129) rfl rfl kq) ?_
    show own_Rn p e below _ (T132.setTop (mkF m 130 #[.val (.ref ba), .val (.int (Int32.ofNat 4))] [(.ref b116), (.ref b116), (.ref b111), (.ref b111)]))
    refine own_go (fun tq kq => XS.iconst X132.here hx rfl (hb hby own_d0_130) kq) ?_
    show own_Rn p e below _ (T132.setTop (mkF m 131 #[.val (.ref ba), .val (.int (Int32.ofNat 4))] [(.int (3 : Int32)), (.ref b116), (.ref b116), (.ref b111), (.ref b111)]))
    refine own_go (fun tq kq => XS.aloadN X132.here hx rfl (hb hby own_d0_131) rfl rfl kq) ?_
    show own_Rn p e below _ (T132.setTop (mkF m 132 #[.val (.ref ba), .val (.int (Int32.ofNat 4))] [(.ref ba), (.int (3 : Int32)), (.ref b116), (.ref b116), (.ref b111), (.ref b111)]))
    refine own_go (fun tq kq => XS.iconst X132.here hx rfl (hb hby own_d0_132) kq) ?_
    show own_Rn p e below _ (T132.setTop (mkF m 133 #[.val (.ref ba), .val (.int (Int32.ofNat 4))] [(.int (3 : Int32)), (.ref ba), (.int (3 : Int32)), (.ref b116), (.ref b116), (.ref b111), (.ref b111)]))
    have F135 : Arv Z h132 ba ka .char (6 : Int32) [(.int b0), (.int b1), (.int b2), (.int b3), (.int b4), (.int b5)] (.int (0 : Int32)) := (F130.other W132 ne124)
    obtain ⟨cl136, Ar136, q136, Sz136, Nn136, Hs136, G136⟩ := id F135
    have in136 := inb_of (j := (3 : Int32)) Sz136 ⟨by decide, by decide⟩
    refine own_go (fun tq kq => X132.caload hx (j := (3 : Int32)) (v := (.int b3)) (by rw [e132]; exact Ar136.1) (State.isArrayOf_alike hZ.alike Ar136.2.1) Ar136.2.2 in136 (Hs136.at in136 rfl) (g := (mkF m 133 #[.val (.ref ba), .val (.int (Int32.ofNat 4))] [(.int (3 : Int32)), (.ref ba), (.int (3 : Int32)), (.ref b116), (.ref b116), (.ref b111), (.ref b111)])) rfl rfl (hb hby own_d0_133) tq kq) ?_
    show own_Rn p e below _ (T132.setTop (mkF m 134 #[.val (.ref ba), .val (.int (Int32.ofNat 4))] [(.int b3), (.int (3 : Int32)), (.ref b116), (.ref b116), (.ref b111), (.ref b111)]))
    obtain ⟨cl137, Ar137, q137, Sz137, Nn137, Hs137, G137⟩ := id V132
    obtain ⟨T137, h137, X137, e137, W137, st137⟩ := stC X132 hx hZ e132 Ar137 (j := (3 : Int32)) (inb_of Sz137 ⟨by decide, by decide⟩) (g := (mkF m 134 #[.val (.ref ba), .val (.int (Int32.ofNat 4))] [(.int b3), (.int (3 : Int32)), (.ref b116), (.ref b116), (.ref b111), (.ref b111)])) rfl rfl (hb hby own_d0_134)
    rw [nr3] at W137
    refine own_go st137 ?_
    have V137 : Arv Z h137 b116 k116 .char (4 : Int32) [(.int b0), (.int b1), (.int b2), (.int b3)] (.int (0 : Int32)) := Arv.set Ar137 q137 Sz137 Nn137 Hs137 G137 (by rw [← nr3]; exact fits_nar_char _) W137 3 rfl (Nat.le_of_ble_eq_true rfl)
    have N137 := Fr.snoc X137 N132 gn116
    have sf138 : Safe Z consts_1 s.vm h132 b116 := Safe.arv hZ.alike V132 (by decide)
    have sz139 : h132.size ≤ h137.size := Nat.le_of_eq (Wr.size W137).symm
    have K139 := K134.wr W137 (Or.inr (by omega))
    have cr139 : CHr Z consts_1 s.vm h132 s.vm h137 := CHr.wr W137 sf138 CR134.1
    have CR139 := CR134.trans cr139
    show own_Rn p e below _ (T137.setTop (mkF m 135 #[.val (.ref ba), .val (.int (Int32.ofNat 4))] [(.ref b116), (.ref b111), (.ref b111)]))
    have hp140 : ∀ c ∈ ([b0, b1, b2, b3] : List Int32), ¬ c < 0 ∧ ¬ (255 : Int32) < c := by
      intro c hc
      simp only [List.mem_cons, List.not_mem_nil, or_false] at hc
      rcases hc with rfl | rfl | rfl | rfl
      · exact r0
      · exact r1
      · exact r2
      · exact r3
    have F141 : Exa Z h137 b111 "java/lang/String" := (((((A111.ext E116).wr W121).wr W127).wr W132).wr W137)
    have ne142 : b111 ≠ b116 := own_nea (by omega)
    have F143 : Fld Z h137 b111 "java/lang/String" "value" "[B" .null := (((((D111_value.ext E116).other W121 (Or.inl ne142)).other W127 (Or.inl ne142)).other W132 (Or.inl ne142)).other W137 (Or.inl ne142))
    have F144 : Fld Z h137 b111 "java/lang/String" "coder" "B" (.int (0 : Int32)) := (((((D111_coder.ext E116).other W121 (Or.inl ne142)).other W127 (Or.inl ne142)).other W132 (Or.inl ne142)).other W137 (Or.inl ne142))
    have F145 : Old Z n0 h137 := ((((((X00.ext E111).ext E116).wr W121 gn116).wr W127 gn116).wr W132 gn116).wr W137 gn116)
    have Zs140 : n0 ≤ h137.size := by omega
    obtain ⟨rv146, _, ⟨T146, L146, k146, n146⟩, -, X146, ⟨Lc146, hQ146, l146, y146, z146⟩, st146⟩ := X137.specialBack hx (y := (⟨"java/lang/String", "<init>", "([C)V"⟩ : MethodName)) rfl hown (mvT hZ (hw _ (own_mi 8 rfl))) (mvT hZ (hw _ (own_mi 9 rfl))) (mvT hZ (hw _ (own_mi 10 rfl))) (by decide) (StrChars.Road.backV (W := 1) hZ hws (kI := 4) (hw _ (own_mi 6 rfl)) (cs := [b0, b1, b2, b3]) (bs := ([b0, b1, b2, b3] : List Int32).map (fun c => c.toInt8.toInt32)) (n := 4) gn111 Zs140 F141 F143 F144 V137 (O2.ext F145.2) P5 rfl rfl (by decide) (by decide) hp140 rfl (by decide) (by decide)) (g := (mkF m 135 #[.val (.ref ba), .val (.int (Int32.ofNat 4))] [(.ref b116), (.ref b111), (.ref b111)])) rfl (by rw [hml]; rfl) (Steps.refl _) (a := b111) (argsL := [(.ref b116)]) (rest := [(.ref b111)]) (lenOf own_pd_285bC29V rfl) rfl (by show 2 * 0 + _ ≤ _; exact Nat.le_of_eq rfl) (hb hby own_d0_135) (fun _ _ => ⟨rfl, e137, (by decide : 2 + 1 ≤ _), (by decide : 8 + 4 ≤ _)⟩)
    dsimp only [Pt.U, Pt.locs, Pt.cells, Pt.slots] at X146 l146 y146 z146 st146 hQ146
    subst l146 y146 z146
    obtain ⟨rfl, Nq146, Kq146, Ex146, Co146, t140, kb140, gt146, hs146, nt146, Va146, Ab146⟩ := hQ146
    have N146 := Fr.app N137 Nq146
    have sf148 : Safe Z consts_1 s.vm h137 b111 := (CHr.safe cr139 (show @LT.lt Nat _ _ _ by omega) (CHr.safe cr134 (show @LT.lt Nat _ _ _ by omega) (CHr.safe cr129 (show @LT.lt Nat _ _ _ by omega) (CHr.safe cr123 (show @LT.lt Nat _ _ _ by omega) (CHr.safe cr117 (show @LT.lt Nat _ _ _ by omega) sf113)))))
    have sz149 : h137.size ≤ T146.heap.size := Kq146.1
    have K149 := K139.trans Kq146 (allS (Or.inr (by omega)) all0)
    have cr149 : CHr Z consts_1 s.vm h137 s.vm T146.heap := CHr.keep Kq146 (sfS sf148 sf0) CR139.1
    have CR149 := CR139.trans cr149
    have sf150 : Safe Z consts_1 s.vm T146.heap t140 := Safe.keep Kq146 (sfS sf148 sf0) CR139.1 (Safe.new (by omega))
    have lt151 : @LT.lt Nat _ t140 T146.heap.size := Ab146.lt
    refine own_go (fun tq kq => st146.trans kq) ?_
    show own_Rn p e below _ (T146.setTop (mkF m 138 #[.val (.ref ba), .val (.int (Int32.ofNat 4))] [(.ref b111)]))
    have hpL140 := hp140
    exact own_retS X146 hS0 (by omega) (v := some (.ref b111)) (fun h => by rw [Bd.returns] at h; cases h) (fun fs hr => X146.areturnOut hx rfl Bd.returns rfl (hb hby own_d0_138) hr) (⟨b111, t140, kb140, rfl, N146, K149, Ex146, Va146, Co146, Ab146⟩) (by rw [hh]; exact CR149.trans (CHv.at X146 hZ hEL CR149.1)) (by decide) (by decide)
  · skip
    show own_Rn p e below _ (s₁.setTop (mkF m 0 #[.val (.ref ba), .val (.int (Int32.ofNat 5))] []))
    refine own_go (fun tq kq => XS.iloadN X0.here hx rfl (hb hby own_d0_0) rfl kq) ?_
    show own_Rn p e below _ (s₁.setTop (mkF m 1 #[.val (.ref ba), .val (.int (Int32.ofNat 5))] [(.int (Int32.ofNat 5))]))
    refine own_go (fun tq kq => XS.ifYes X0.here hx rfl (pc0 := 1) (pc' := 15) rfl (hb hby own_d0_1) rfl ((if0 _ _).trans (tlt ((by decide : (0 : Int32) < (Int32.ofNat 5)) : (0 : Int32) < (Int32.ofNat 5))).2.2.1) (by decide) (by decide) kq) ?_
    show own_Rn p e below _ (s₁.setTop (mkF m 15 #[.val (.ref ba), .val (.int (Int32.ofNat 5))] []))
    refine own_go (fun tq kq => XS.iloadN X0.here hx rfl (hb hby own_d0_15) rfl kq) ?_
    show own_Rn p e below _ (s₁.setTop (mkF m 16 #[.val (.ref ba), .val (.int (Int32.ofNat 5))] [(.int (Int32.ofNat 5))]))
    refine own_go (fun tq kq => XS.iconst X0.here hx rfl (hb hby own_d0_16) kq) ?_
    show own_Rn p e below _ (s₁.setTop (mkF m 17 #[.val (.ref ba), .val (.int (Int32.ofNat 5))] [(.int (1 : Int32)), (.int (Int32.ofNat 5))]))
    refine own_go (fun tq kq => XS.icmpYes X0.here hx rfl (pc0 := 17) (pc' := 37) rfl (hb hby own_d0_17) rfl (feq ((by decide : ¬ ((Int32.ofNat 5) = (1 : Int32))) : ¬ ((Int32.ofNat 5) = (1 : Int32)))).2 (by decide) (by decide) kq) ?_
    show own_Rn p e below _ (s₁.setTop (mkF m 37 #[.val (.ref ba), .val (.int (Int32.ofNat 5))] []))
    refine own_go (fun tq kq => XS.iloadN X0.here hx rfl (hb hby own_d0_37) rfl kq) ?_
    show own_Rn p e below _ (s₁.setTop (mkF m 38 #[.val (.ref ba), .val (.int (Int32.ofNat 5))] [(.int (Int32.ofNat 5))]))
    refine own_go (fun tq kq => XS.iconst X0.here hx rfl (hb hby own_d0_38) kq) ?_
    show own_Rn p e below _ (s₁.setTop (mkF m 39 #[.val (.ref ba), .val (.int (Int32.ofNat 5))] [(.int (2 : Int32)), (.int (Int32.ofNat 5))]))
    refine own_go (fun tq kq => XS.icmpYes X0.here hx rfl (pc0 := 39) (pc' := 65) rfl (hb hby own_d0_39) rfl (feq ((by decide : ¬ ((Int32.ofNat 5) = (2 : Int32))) : ¬ ((Int32.ofNat 5) = (2 : Int32)))).2 (by decide) (by decide) kq) ?_
    show own_Rn p e below _ (s₁.setTop (mkF m 65 #[.val (.ref ba), .val (.int (Int32.ofNat 5))] []))
    refine own_go (fun tq kq => XS.iloadN X0.here hx rfl (hb hby own_d0_65) rfl kq) ?_
    show own_Rn p e below _ (s₁.setTop (mkF m 66 #[.val (.ref ba), .val (.int (Int32.ofNat 5))] [(.int (Int32.ofNat 5))]))
    refine own_go (fun tq kq => XS.iconst X0.here hx rfl (hb hby own_d0_66) kq) ?_
    show own_Rn p e below _ (s₁.setTop (mkF m 67 #[.val (.ref ba), .val (.int (Int32.ofNat 5))] [(.int (3 : Int32)), (.int (Int32.ofNat 5))]))
    refine own_go (fun tq kq => XS.icmpYes X0.here hx rfl (pc0 := 67) (pc' := 99) rfl (hb hby own_d0_67) rfl (feq ((by decide : ¬ ((Int32.ofNat 5) = (3 : Int32))) : ¬ ((Int32.ofNat 5) = (3 : Int32)))).2 (by decide) (by decide) kq) ?_
    show own_Rn p e below _ (s₁.setTop (mkF m 99 #[.val (.ref ba), .val (.int (Int32.ofNat 5))] []))
    refine own_go (fun tq kq => XS.iloadN X0.here hx rfl (hb hby own_d0_99) rfl kq) ?_
    show own_Rn p e below _ (s₁.setTop (mkF m 100 #[.val (.ref ba), .val (.int (Int32.ofNat 5))] [(.int (Int32.ofNat 5))]))
    refine own_go (fun tq kq => XS.iconst X0.here hx rfl (hb hby own_d0_100) kq) ?_
    show own_Rn p e below _ (s₁.setTop (mkF m 101 #[.val (.ref ba), .val (.int (Int32.ofNat 5))] [(.int (4 : Int32)), (.int (Int32.ofNat 5))]))
    refine own_go (fun tq kq => XS.icmpYes X0.here hx rfl (pc0 := 101) (pc' := 139) rfl (hb hby own_d0_101) rfl (feq ((by decide : ¬ ((Int32.ofNat 5) = (4 : Int32))) : ¬ ((Int32.ofNat 5) = (4 : Int32)))).2 (by decide) (by decide) kq) ?_
    show own_Rn p e below _ (s₁.setTop (mkF m 139 #[.val (.ref ba), .val (.int (Int32.ofNat 5))] []))
    refine own_go (fun tq kq => XS.iloadN X0.here hx rfl (hb hby own_d0_139) rfl kq) ?_
    show own_Rn p e below _ (s₁.setTop (mkF m 140 #[.val (.ref ba), .val (.int (Int32.ofNat 5))] [(.int (Int32.ofNat 5))]))
    refine own_go (fun tq kq => XS.iconst X0.here hx rfl (hb hby own_d0_140) kq) ?_
    show own_Rn p e below _ (s₁.setTop (mkF m 141 #[.val (.ref ba), .val (.int (Int32.ofNat 5))] [(.int (5 : Int32)), (.int (Int32.ofNat 5))]))
    refine own_go (fun tq kq => XS.icmpNo X0.here hx rfl (hb hby own_d0_141) rfl (teq ((by decide : (Int32.ofNat 5) = (5 : Int32)) : (Int32.ofNat 5) = (5 : Int32))).2 kq) ?_
    show own_Rn p e below _ (s₁.setTop (mkF m 144 #[.val (.ref ba), .val (.int (Int32.ofNat 5))] []))
    obtain ⟨T152, h152, X152, e152, E152, A152, D152, -, st152⟩ := newO X0 hx hZ hown (hw _ (own_mi 5 rfl)) (hw _ (own_mi 6 rfl)) (hw _ (own_mi 7 rfl)) e0 (g := (mkF m 144 #[.val (.ref ba), .val (.int (Int32.ofNat 5))] [])) rfl (hb hby own_d0_144) (by decide) (by decide)
    obtain ⟨b152, g152⟩ : ∃ z, z = h0.size := ⟨_, rfl⟩
    rw [← g152] at A152 D152 st152
    refine own_go st152 ?_
    have sz153 : h0.size ≤ h152.size := E152.1
    have K153 := K0.ext E152
    have cr153 : CHr Z consts_1 s.vm h0 s.vm h152 := CHr.ext E152 CR0.1
    have CR153 := CR0.trans cr153
    have sf154 : Safe Z consts_1 s.vm h152 b152 := Safe.ext E152 CR0.1 (Safe.new (by omega))
    have lt155 : @LT.lt Nat _ b152 h152.size := A152.lt
    have gn152 : n0 ≤ b152 := by omega
    have D152_value : Fld Z h152 b152 "java/lang/String" "value" "[B" .null := D152 (Or.inr (hw _ (own_mi 20 rfl))) (ty := (.array .byte)) own_fd_5bB
    have D152_coder : Fld Z h152 b152 "java/lang/String" "coder" "B" (.int (0 : Int32)) := D152 (Or.inr (hw _ (own_mi 21 rfl))) (ty := .byte) own_fd_B
    show own_Rn p e below _ (T152.setTop (mkF m 147 #[.val (.ref ba), .val (.int (Int32.ofNat 5))] [(.ref b152)]))
    refine own_go (fun tq kq => XS.dup X152.here hx rfl (hb hby own_d0_147) rfl rfl kq) ?_
    show own_Rn p e below _ (T152.setTop (mkF m 148 #[.val (.ref ba), .val (.int (Int32.ofNat 5))] [(.ref b152), (.ref b152)]))
    refine own_go (fun tq kq => XS.iconst X152.here hx rfl (hb hby own_d0_148) kq) ?_
    show own_Rn p e below _ (T152.setTop (mkF m 149 #[.val (.ref ba), .val (.int (Int32.ofNat 5))] [(.int (5 : Int32)), (.ref b152), (.ref b152)]))
    obtain ⟨T157, h157, k157, X157, e157, E157, A157, st157⟩ := newP X152 hx hZ (hw _ (own_mi 0 rfl)) e152 (g := (mkF m 149 #[.val (.ref ba), .val (.int (Int32.ofNat 5))] [(.int (5 : Int32)), (.ref b152), (.ref b152)])) rfl (hb hby own_d0_149) rfl (by decide) (cap := 5) (by decide) (by decide) (by decide) (by decide)
    obtain ⟨b157, g157⟩ : ∃ z, z = h152.size := ⟨_, rfl⟩
    rw [← g157] at A157 st157
    refine own_go st157 ?_
    have sz158 : h152.size ≤ h157.size := E157.1
    have K158 := K153.ext E157
    have cr158 : CHr Z consts_1 s.vm h152 s.vm h157 := CHr.ext E157 CR153.1
    have CR158 := CR153.trans cr158
    have gn157 : n0 ≤ b157 := by omega
    have V157 : Arv Z h157 b157 k157 .char (5 : Int32) [(.int (0 : Int32)), (.int (0 : Int32)), (.int (0 : Int32)), (.int (0 : Int32)), (.int (0 : Int32))] (.int (0 : Int32)) := (Arv.new A157 (by decide)).pad (pad_rep [] _ 5)
    have lt159 : @LT.lt Nat _ b157 h157.size := V157.lt
    show own_Rn p e below _ (T157.setTop (mkF m 151 #[.val (.ref ba), .val (.int (Int32.ofNat 5))] [(.ref b157), (.ref b152), (.ref b152)]))
    refine own_go (fun tq kq => XS.dup X157.here hx rfl (hb hby own_d0_151) rfl rfl kq) ?_
    show own_Rn p e below _ (T157.setTop (mkF m 152 #[.val (.ref ba), .val (.int (Int32.ofNat 5))] [(.ref b157), (.ref b157), (.ref b152), (.ref b152)]))
    refine own_go (fun tq kq => XS.iconst X157.here hx rfl (hb hby own_d0_152) kq) ?_
    show own_Rn p e below _ (T157.setTop (mkF m 153 #[.val (.ref ba), .val (.int (Int32.ofNat 5))] [(.int (0 : Int32)), (.ref b157), (.ref b157), (.ref b152), (.ref b152)]))
    refine own_go (fun tq kq => XS.aloadN X157.here hx rfl (hb hby own_d0_153) rfl rfl kq) ?_
    show own_Rn p e below _ (T157.setTop (mkF m 154 #[.val (.ref ba), .val (.int (Int32.ofNat 5))] [(.ref ba), (.int (0 : Int32)), (.ref b157), (.ref b157), (.ref b152), (.ref b152)]))
    refine own_go (fun tq kq => XS.iconst X157.here hx rfl (hb hby own_d0_154) kq) ?_
    show own_Rn p e below _ (T157.setTop (mkF m 155 #[.val (.ref ba), .val (.int (Int32.ofNat 5))] [(.int (0 : Int32)), (.ref ba), (.int (0 : Int32)), (.ref b157), (.ref b157), (.ref b152), (.ref b152)]))
    have F160 : Arv Z h157 ba ka .char (6 : Int32) [(.int b0), (.int b1), (.int b2), (.int b3), (.int b4), (.int b5)] (.int (0 : Int32)) := ((Pm0.ext E152).ext E157)
    obtain ⟨cl161, Ar161, q161, Sz161, Nn161, Hs161, G161⟩ := id F160
    have in161 := inb_of (j := (0 : Int32)) Sz161 ⟨by decide, by decide⟩
    refine own_go (fun tq kq => X157.caload hx (j := (0 : Int32)) (v := (.int b0)) (by rw [e157]; exact Ar161.1) (State.isArrayOf_alike hZ.alike Ar161.2.1) Ar161.2.2 in161 (Hs161.at in161 rfl) (g := (mkF m 155 #[.val (.ref ba), .val (.int (Int32.ofNat 5))] [(.int (0 : Int32)), (.ref ba), (.int (0 : Int32)), (.ref b157), (.ref b157), (.ref b152), (.ref b152)])) rfl rfl (hb hby own_d0_155) tq kq) ?_
    show own_Rn p e below _ (T157.setTop (mkF m 156 #[.val (.ref ba), .val (.int (Int32.ofNat 5))] [(.int b0), (.int (0 : Int32)), (.ref b157), (.ref b157), (.ref b152), (.ref b152)]))
    obtain ⟨cl162, Ar162, q162, Sz162, Nn162, Hs162, G162⟩ := id V157
    obtain ⟨T162, h162, X162, e162, W162, st162⟩ := stC X157 hx hZ e157 Ar162 (j := (0 : Int32)) (inb_of Sz162 ⟨by decide, by decide⟩) (g := (mkF m 156 #[.val (.ref ba), .val (.int (Int32.ofNat 5))] [(.int b0), (.int (0 : Int32)), (.ref b157), (.ref b157), (.ref b152), (.ref b152)])) rfl rfl (hb hby own_d0_156)
    rw [nr0] at W162
    refine own_go st162 ?_
    have V162 : Arv Z h162 b157 k157 .char (5 : Int32) [(.int b0), (.int (0 : Int32)), (.int (0 : Int32)), (.int (0 : Int32)), (.int (0 : Int32))] (.int (0 : Int32)) := Arv.set Ar162 q162 Sz162 Nn162 Hs162 G162 (by rw [← nr0]; exact fits_nar_char _) W162 0 rfl (Nat.le_of_ble_eq_true rfl)
    have N162 := Fr.snoc X162 N0 gn157
    have sf163 : Safe Z consts_1 s.vm h157 b157 := Safe.arv hZ.alike V157 (by decide)
    have sz164 : h157.size ≤ h162.size := Nat.le_of_eq (Wr.size W162).symm
    have K164 := K158.wr W162 (Or.inr (by omega))
    have cr164 : CHr Z consts_1 s.vm h157 s.vm h162 := CHr.wr W162 sf163 CR158.1
    have CR164 := CR158.trans cr164
    show own_Rn p e below _ (T162.setTop (mkF m 157 #[.val (.ref ba), .val (.int (Int32.ofNat 5))] [(.ref b157), (.ref b152), (.ref b152)]))
    refine own_go (fun tq kq => XS.dup X162.here hx rfl (hb hby own_d0_157) rfl rfl kq) ?_
    show own_Rn p e below _ (T162.setTop (mkF m 158 #[.val (.ref ba), .val (.int (Int32.ofNat 5))] [(.ref b157), (.ref b157), (.ref b152), (.ref b152)]))
    refine own_go (fun tq kq => XS.iconst X162.here hx rfl (hb hby own_d0_158) kq) ?_
    show own_Rn p e below _ (T162.setTop (mkF m 159 #[.val (.ref ba), .val (.int (Int32.ofNat 5))] [(.int (1 : Int32)), (.ref b157), (.ref b157), (.ref b152), (.ref b152)]))
    refine own_go (fun tq kq => XS.aloadN X162.here hx rfl (hb hby own_d0_159) rfl rfl kq) ?_
    show own_Rn p e below _ (T162.setTop (mkF m 160 #[.val (.ref ba), .val (.int (Int32.ofNat 5))] [(.ref ba), (.int (1 : Int32)), (.ref b157), (.ref b157), (.ref b152), (.ref b152)]))
    refine own_go (fun tq kq => XS.iconst X162.here hx rfl (hb hby own_d0_160) kq) ?_
    show own_Rn p e below _ (T162.setTop (mkF m 161 #[.val (.ref ba), .val (.int (Int32.ofNat 5))] [(.int (1 : Int32)), (.ref ba), (.int (1 : Int32)), (.ref b157), (.ref b157), (.ref b152), (.ref b152)]))
    have ne165 : ba ≠ b157 := own_nea (by omega)
    have F166 : Arv Z h162 ba ka .char (6 : Int32) [(.int b0), (.int b1), (.int b2), (.int b3), (.int b4), (.int b5)] (.int (0 : Int32)) := (F160.other W162 ne165)
    obtain ⟨cl167, Ar167, q167, Sz167, Nn167, Hs167, G167⟩ := id F166
    have in167 := inb_of (j := (1 : Int32)) Sz167 ⟨by decide, by decide⟩
    refine own_go (fun tq kq => X162.caload hx (j := (1 : Int32)) (v := (.int b1)) (by rw [e162]; exact Ar167.1) (State.isArrayOf_alike hZ.alike Ar167.2.1) Ar167.2.2 in167 (Hs167.at in167 rfl) (g := (mkF m 161 #[.val (.ref ba), .val (.int (Int32.ofNat 5))] [(.int (1 : Int32)), (.ref ba), (.int (1 : Int32)), (.ref b157), (.ref b157), (.ref b152), (.ref b152)])) rfl rfl (hb hby own_d0_161) tq kq) ?_
    show own_Rn p e below _ (T162.setTop (mkF m 162 #[.val (.ref ba), .val (.int (Int32.ofNat 5))] [(.int b1), (.int (1 : Int32)), (.ref b157), (.ref b157), (.ref b152), (.ref b152)]))
    obtain ⟨cl168, Ar168, q168, Sz168, Nn168, Hs168, G168⟩ := id V162
    obtain ⟨T168, h168, X168, e168, W168, st168⟩ := stC X162 hx hZ e162 Ar168 (j := (1 : Int32)) (inb_of Sz168 ⟨by decide, by decide⟩) (g := (mkF m 162 #[.val (.ref ba), .val (.int (Int32.ofNat 5))] [(.int b1), (.int (1 : Int32)), (.ref b157), (.ref b157), (.ref b152), (.ref b152)])) rfl rfl (hb hby own_d0_162)
    rw [nr1] at W168
    refine own_go st168 ?_
    have V168 : Arv Z h168 b157 k157 .char (5 : Int32) [(.int b0), (.int b1), (.int (0 : Int32)), (.int (0 : Int32)), (.int (0 : Int32))] (.int (0 : Int32)) := Arv.set Ar168 q168 Sz168 Nn168 Hs168 G168 (by rw [← nr1]; exact fits_nar_char _) W168 1 rfl (Nat.le_of_ble_eq_true rfl)
    have N168 := Fr.snoc X168 N162 gn157
    have sf169 : Safe Z consts_1 s.vm h162 b157 := Safe.arv hZ.alike V162 (by decide)
    have sz170 : h162.size ≤ h168.size := Nat.le_of_eq (Wr.size W168).symm
    have K170 := K164.wr W168 (Or.inr (by omega))
    have cr170 : CHr Z consts_1 s.vm h162 s.vm h168 := CHr.wr W168 sf169 CR164.1
    have CR170 := CR164.trans cr170
    show own_Rn p e below _ (T168.setTop (mkF m 163 #[.val (.ref ba), .val (.int (Int32.ofNat 5))] [(.ref b157), (.ref b152), (.ref b152)]))
    refine own_go (fun tq kq => XS.dup X168.here hx rfl (hb hby own_d0_163) rfl rfl kq) ?_
    show own_Rn p e below _ (T168.setTop (mkF m 164 #[.val (.ref ba), .val (.int (Int32.ofNat 5))] [(.ref b157), (.ref b157), (.ref b152), (.ref b152)]))
    refine own_go (fun tq kq => XS.iconst X168.here hx rfl (hb hby own_d0_164) kq) ?_
    show own_Rn p e below _ (T168.setTop (mkF m 165 #[.val (.ref ba), .val (.int (Int32.ofNat 5))] [(.int (2 : Int32)), (.ref b157), (.ref b157), (.ref b152), (.ref b152)]))
    refine own_go (fun tq kq => XS.aloadN X168.here hx rfl (hb hby own_d0_165) rfl rfl kq) ?_
    show own_Rn p e below _ (T168.setTop (mkF m 166 #[.val (.ref ba), .val (.int (Int32.ofNat 5))] [(.ref ba), (.int (2 : Int32)), (.ref b157), (.ref b157), (.ref b152), (.ref b152)]))
    refine own_go (fun tq kq => XS.iconst X168.here hx rfl (hb hby own_d0_166) kq) ?_
    show own_Rn p e below _ (T168.setTop (mkF m 167 #[.val (.ref ba), .val (.int (Int32.ofNat 5))] [(.int (2 : Int32)), (.ref ba), (.int (2 : Int32)), (.ref b157), (.ref b157), (.ref b152), (.ref b152)]))
    have F171 : Arv Z h168 ba ka .char (6 : Int32) [(.int b0), (.int b1), (.int b2), (.int b3), (.int b4), (.int b5)] (.int (0 : Int32)) := (F166.other W168 ne165)
    obtain ⟨cl172, Ar172, q172, Sz172, Nn172, Hs172, G172⟩ := id F171
    have in172 := inb_of (j := (2 : Int32)) Sz172 ⟨by decide, by decide⟩
    refine own_go (fun tq kq => X168.caload hx (j := (2 : Int32)) (v := (.int b2)) (by rw [e168]; exact Ar172.1) (State.isArrayOf_alike hZ.alike Ar172.2.1) Ar172.2.2 in172 (Hs172.at in172 rfl) (g := (mkF m 167 #[.val (.ref ba), .val (.int (Int32.ofNat 5))] [(.int (2 : Int32)), (.ref ba), (.int (2 : Int32)), (.ref b157), (.ref b157), (.ref b152), (.ref b152)])) rfl rfl (hb hby own_d0_167) tq kq) ?_
    show own_Rn p e below _ (T168.setTop (mkF m 168 #[.val (.ref ba), .val (.int (Int32.ofNat 5))] [(.int b2), (.int (2 : Int32)), (.ref b157), (.ref b157), (.ref b152), (.ref b152)]))
    obtain ⟨cl173, Ar173, q173, Sz173, Nn173, Hs173, G173⟩ := id V168
    obtain ⟨T173, h173, X173, e173, W173, st173⟩ := stC X168 hx hZ e168 Ar173 (j := (2 : Int32)) (inb_of Sz173 ⟨by decide, by decide⟩) (g := (mkF m 168 #[.val (.ref ba), .val (.int (Int32.ofNat 5))] [(.int b2), (.int (2 : Int32)), (.ref b157), (.ref b157), (.ref b152), (.ref b152)])) rfl rfl (hb hby own_d0_168)
    rw [nr2] at W173
    refine own_go st173 ?_
    have V173 : Arv Z h173 b157 k157 .char (5 : Int32) [(.int b0), (.int b1), (.int b2), (.int (0 : Int32)), (.int (0 : Int32))] (.int (0 : Int32)) := Arv.set Ar173 q173 Sz173 Nn173 Hs173 G173 (by rw [← nr2]; exact fits_nar_char _) W173 2 rfl (Nat.le_of_ble_eq_true rfl)
    have N173 := Fr.snoc X173 N168 gn157
    have sf174 : Safe Z consts_1 s.vm h168 b157 := Safe.arv hZ.alike V168 (by decide)
    have sz175 : h168.size ≤ h173.size := Nat.le_of_eq (Wr.size W173).symm
    have K175 := K170.wr W173 (Or.inr (by omega))
    have cr175 : CHr Z consts_1 s.vm h168 s.vm h173 := CHr.wr W173 sf174 CR170.1
    have CR175 := CR170.trans cr175
    show own_Rn p e below _ (T173.setTop (mkF m 169 #[.val (.ref ba), .val (.int (Int32.ofNat 5))] [(.ref b157), (.ref b152), (.ref b152)]))
    refine own_go (fun tq kq => XS.dup X173.here hx rfl (hb hby own_d0_169) rfl rfl kq) ?_
    show own_Rn p e below _ (T173.setTop (mkF m 170 #[.val (.ref ba), .val (.int (Int32.ofNat 5))] [(.ref b157), (.ref b157), (.ref b152), (.ref b152)]))
    refine own_go (fun tq kq => XS.iconst X173.here hx rfl (hb hby own_d0_170) kq) ?_
    show own_Rn p e below _ (T173.setTop (mkF m 171 #[.val (.ref ba), .val (.int (Int32.ofNat 5))] [(.int (3 : Int32)), (.ref b157), (.ref b157), (.ref b152), (.ref b152)]))
    refine own_go (fun tq kq => XS.aloadN X173.here hx rfl (hb hby own_d0_171) rfl rfl kq) ?_
    show own_Rn p e below _ (T173.setTop (mkF m 172 #[.val (.ref ba), .val (.int (Int32.ofNat 5))] [(.ref ba), (.int (3 : Int32)), (.ref b157), (.ref b157), (.ref b152), (.ref b152)]))
    refine own_go (fun tq kq => XS.iconst X173.here hx rfl (hb hby own_d0_172) kq) ?_
    show own_Rn p e below _ (T173.setTop (mkF m 173 #[.val (.ref ba), .val (.int (Int32.ofNat 5))] [(.int (3 : Int32)), (.ref ba), (.int (3 : Int32)), (.ref b157), (.ref b157), (.ref b152), (.ref b152)]))
    have F176 : Arv Z h173 ba ka .char (6 : Int32) [(.int b0), (.int b1), (.int b2), (.int b3), (.int b4), (.int b5)] (.int (0 : Int32)) := (F171.other W173 ne165)
    obtain ⟨cl177, Ar177, q177, Sz177, Nn177, Hs177, G177⟩ := id F176
    have in177 := inb_of (j := (3 : Int32)) Sz177 ⟨by decide, by decide⟩
    refine own_go (fun tq kq => X173.caload hx (j := (3 : Int32)) (v := (.int b3)) (by rw [e173]; exact Ar177.1) (State.isArrayOf_alike hZ.alike Ar177.2.1) Ar177.2.2 in177 (Hs177.at in177 rfl) (g := (mkF m 173 #[.val (.ref ba), .val (.int (Int32.ofNat 5))] [(.int (3 : Int32)), (.ref ba), (.int (3 : Int32)), (.ref b157), (.ref b157), (.ref b152), (.ref b152)])) rfl rfl (hb hby own_d0_173) tq kq) ?_
    show own_Rn p e below _ (T173.setTop (mkF m 174 #[.val (.ref ba), .val (.int (Int32.ofNat 5))] [(.int b3), (.int (3 : Int32)), (.ref b157), (.ref b157), (.ref b152), (.ref b152)]))
    obtain ⟨cl178, Ar178, q178, Sz178, Nn178, Hs178, G178⟩ := id V173
    obtain ⟨T178, h178, X178, e178, W178, st178⟩ := stC X173 hx hZ e173 Ar178 (j := (3 : Int32)) (inb_of Sz178 ⟨by decide, by decide⟩) (g := (mkF m 174 #[.val (.ref ba), .val (.int (Int32.ofNat 5))] [(.int b3), (.int (3 : Int32)), (.ref b157), (.ref b157), (.ref b152), (.ref b152)])) rfl rfl (hb hby own_d0_174)
    rw [nr3] at W178
    refine own_go st178 ?_
    have V178 : Arv Z h178 b157 k157 .char (5 : Int32) [(.int b0), (.int b1), (.int b2), (.int b3), (.int (0 : Int32))] (.int (0 : Int32)) := Arv.set Ar178 q178 Sz178 Nn178 Hs178 G178 (by rw [← nr3]; exact fits_nar_char _) W178 3 rfl (Nat.le_of_ble_eq_true rfl)
    have N178 := Fr.snoc X178 N173 gn157
    have sf179 : Safe Z consts_1 s.vm h173 b157 := Safe.arv hZ.alike V173 (by decide)
    have sz180 : h173.size ≤ h178.size := Nat.le_of_eq (Wr.size W178).symm
    have K180 := K175.wr W178 (Or.inr (by omega))
    have cr180 : CHr Z consts_1 s.vm h173 s.vm h178 := CHr.wr W178 sf179 CR175.1
    have CR180 := CR175.trans cr180
    show own_Rn p e below _ (T178.setTop (mkF m 175 #[.val (.ref ba), .val (.int (Int32.ofNat 5))] [(.ref b157), (.ref b152), (.ref b152)]))
    refine own_go (fun tq kq => XS.dup X178.here hx rfl (hb hby own_d0_175) rfl rfl kq) ?_
    show own_Rn p e below _ (T178.setTop (mkF m 176 #[.val (.ref ba), .val (.int (Int32.ofNat 5))] [(.ref b157), (.ref b157), (.ref b152), (.ref b152)]))
    refine own_go (fun tq kq => XS.iconst X178.here hx rfl (hb hby own_d0_176) kq) ?_
    show own_Rn p e below _ (T178.setTop (mkF m 177 #[.val (.ref ba), .val (.int (Int32.ofNat 5))] [(.int (4 : Int32)), (.ref b157), (.ref b157), (.ref b152), (.ref b152)]))
    refine own_go (fun tq kq => XS.aloadN X178.here hx rfl (hb hby own_d0_177) rfl rfl kq) ?_
    show own_Rn p e below _ (T178.setTop (mkF m 178 #[.val (.ref ba), .val (.int (Int32.ofNat 5))] [(.ref ba), (.int (4 : Int32)), (.ref b157), (.ref b157), (.ref b152), (.ref b152)]))
    refine own_go (fun tq kq => XS.iconst X178.here hx rfl (hb hby own_d0_178) kq) ?_
    show own_Rn p e below _ (T178.setTop (mkF m 179 #[.val (.ref ba), .val (.int (Int32.ofNat 5))] [(.int (4 : Int32)), (.ref ba), (.int (4 : Int32)), (.ref b157), (.ref b157), (.ref b152), (.ref b152)]))
    have F181 : Arv Z h178 ba ka .char (6 : Int32) [(.int b0), (.int b1), (.int b2), (.int b3), (.int b4), (.int b5)] (.int (0 : Int32)) := (F176.other W178 ne165)
    obtain ⟨cl182, Ar182, q182, Sz182, Nn182, Hs182, G182⟩ := id F181
    have in182 := inb_of (j := (4 : Int32)) Sz182 ⟨by decide, by decide⟩
    refine own_go (fun tq kq => X178.caload hx (j := (4 : Int32)) (v := (.int b4)) (by rw [e178]; exact Ar182.1) (State.isArrayOf_alike hZ.alike Ar182.2.1) Ar182.2.2 in182 (Hs182.at in182 rfl) (g := (mkF m 179 #[.val (.ref ba), .val (.int (Int32.ofNat 5))] [(.int (4 : Int32)), (.ref ba), (.int (4 : Int32)), (.ref b157), (.ref b157), (.ref b152), (.ref b152)])) rfl rfl (hb hby own_d0_179) tq kq) ?_
    show own_Rn p e below _ (T178.setTop (mkF m 180 #[.val (.ref ba), .val (.int (Int32.ofNat 5))] [(.int b4), (.int (4 : Int32)), (.ref b157), (.ref b157), (.ref b152), (.ref b152)]))
    obtain ⟨cl183, Ar183, q183, Sz183, Nn183, Hs183, G183⟩ := id V178
    obtain ⟨T183, h183, X183, e183, W183, st183⟩ := stC X178 hx hZ e178 Ar183 (j := (4 : Int32)) (inb_of Sz183 ⟨by decide, by decide⟩) (g := (mkF m 180 #[.val (.ref ba), .val (.int (Int32.ofNat 5))] [(.int b4), (.int (4 : Int32)), (.ref b157), (.ref b157), (.ref b152), (.ref b152)])) rfl rfl (hb hby own_d0_180)
    rw [nr4] at W183
    refine own_go st183 ?_
    have V183 : Arv Z h183 b157 k157 .char (5 : Int32) [(.int b0), (.int b1), (.int b2), (.int b3), (.int b4)] (.int (0 : Int32)) := Arv.set Ar183 q183 Sz183 Nn183 Hs183 G183 (by rw [← nr4]; exact fits_nar_char _) W183 4 rfl (Nat.le_of_ble_eq_true rfl)
    have N183 := Fr.snoc X183 N178 gn157
    have sf184 : Safe Z consts_1 s.vm h178 b157 := Safe.arv hZ.alike V178 (by decide)
    have sz185 : h178.size ≤ h183.size := Nat.le_of_eq (Wr.size W183).symm
    have K185 := K180.wr W183 (Or.inr (by omega))
    have cr185 : CHr Z consts_1 s.vm h178 s.vm h183 := CHr.wr W183 sf184 CR180.1
    have CR185 := CR180.trans cr185
    show own_Rn p e below _ (T183.setTop (mkF m 181 #[.val (.ref ba), .val (.int (Int32.ofNat 5))] [(.ref b157), (.ref b152), (.ref b152)]))
    have hp186 : ∀ c ∈ ([b0, b1, b2, b3, b4] : List Int32), ¬ c < 0 ∧ ¬ (255 : Int32) < c := by
      intro c hc
      simp only [List.mem_cons, List.not_mem_nil, or_false] at hc
      rcases hc with rfl | rfl | rfl | rfl | rfl
      · exact r0
      · exact r1
      · exact r2
      · exact r3
      · exact r4
    have F187 : Exa Z h183 b152 "java/lang/String" := ((((((A152.ext E157).wr W162).wr W168).wr W173).wr W178).wr W183)
    have ne188 : b152 ≠ b157 := own_nea (by omega)
    have F189 : Fld Z h183 b152 "java/lang/String" "value" "[B" .null := ((((((D152_value.ext E157).other W162 (Or.inl ne188)).other W168 (Or.inl ne188)).other W173 (Or.inl ne188)).other W178 (Or.inl ne188)).other W183 (Or.inl ne188))
    have F190 : Fld Z h183 b152 "java/lang/String" "coder" "B" (.int (0 : Int32)) := ((((((D152_coder.ext E157).other W162 (Or.inl ne188)).other W168 (Or.inl ne188)).other W173 (Or.inl ne188)).other W178 (Or.inl ne188)).other W183 (Or.inl ne188))
    have F191 : Old Z n0 h183 := (((((((X00.ext E152).ext E157).wr W162 gn157).wr W168 gn157).wr W173 gn157).wr W178 gn157).wr W183 gn157)
    have Zs186 : n0 ≤ h183.size := by omega
    obtain ⟨rv192, _, ⟨T192, L192, k192, n192⟩, -, X192, ⟨Lc192, hQ192, l192, y192, z192⟩, st192⟩ := X183.specialBack hx (y := (⟨"java/lang/String", "<init>", "([C)V"⟩ : MethodName)) rfl hown (mvT hZ (hw _ (own_mi 8 rfl))) (mvT hZ (hw _ (own_mi 9 rfl))) (mvT hZ (hw _ (own_mi 10 rfl))) (by decide) (StrChars.Road.backV (W := 1) hZ hws (kI := 4) (hw _ (own_mi 6 rfl)) (cs := [b0, b1, b2, b3, b4]) (bs := ([b0, b1, b2, b3, b4] : List Int32).map (fun c => c.toInt8.toInt32)) (n := 5) gn152 Zs186 F187 F189 F190 V183 (O2.ext F191.2) P5 rfl rfl (by decide) (by decide) hp186 rfl (by decide) (by decide)) (g := (mkF m 181 #[.val (.ref ba), .val (.int (Int32.ofNat 5))] [(.ref b157), (.ref b152), (.ref b152)])) rfl (by rw [hml]; rfl) (Steps.refl _) (a := b152) (argsL := [(.ref b157)]) (rest := [(.ref b152)]) (lenOf own_pd_285bC29V rfl) rfl (by show 2 * 0 + _ ≤ _; exact Nat.le_of_eq rfl) (hb hby own_d0_181) (fun _ _ => ⟨rfl, e183, (by decide : 2 + 1 ≤ _), (by decide : 9 + 5 ≤ _)⟩)
    dsimp only [Pt.U, Pt.locs, Pt.cells, Pt.slots] at X192 l192 y192 z192 st192 hQ192
    subst l192 y192 z192
    obtain ⟨rfl, Nq192, Kq192, Ex192, Co192, t186, kb186, gt192, hs192, nt192, Va192, Ab192⟩ := hQ192
    have N192 := Fr.app N183 Nq192
    have sf194 : Safe Z consts_1 s.vm h183 b152 := (CHr.safe cr185 (show @LT.lt Nat _ _ _ by omega) (CHr.safe cr180 (show @LT.lt Nat _ _ _ by omega) (CHr.safe cr175 (show @LT.lt Nat _ _ _ by omega) (CHr.safe cr170 (show @LT.lt Nat _ _ _ by omega) (CHr.safe cr164 (show @LT.lt Nat _ _ _ by omega) (CHr.safe cr158 (show @LT.lt Nat _ _ _ by omega) sf154))))))
    have sz195 : h183.size ≤ T192.heap.size := Kq192.1
    have K195 := K185.trans Kq192 (allS (Or.inr (by omega)) all0)
    have cr195 : CHr Z consts_1 s.vm h183 s.vm T192.heap := CHr.keep Kq192 (sfS sf194 sf0) CR185.1
    have CR195 := CR185.trans cr195
    have sf196 : Safe Z consts_1 s.vm T192.heap t186 := Safe.keep Kq192 (sfS sf194 sf0) CR185.1 (Safe.new (by omega))
    have lt197 : @LT.lt Nat _ t186 T192.heap.size := Ab192.lt
    refine own_go (fun tq kq => st192.trans kq) ?_
    show own_Rn p e below _ (T192.setTop (mkF m 184 #[.val (.ref ba), .val (.int (Int32.ofNat 5))] [(.ref b152)]))
    have hpL186 := hp186
    exact own_retS X192 hS0 (by omega) (v := some (.ref b152)) (fun h => by rw [Bd.returns] at h; cases h) (fun fs hr => X192.areturnOut hx rfl Bd.returns rfl (hb hby own_d0_184) hr) (⟨b152, t186, kb186, rfl, N192, K195, Ex192, Va192, Co192, Ab192⟩) (by rw [hh]; exact CR195.trans (CHv.at X192 hZ hEL CR195.1)) (by decide) (by decide)
  · skip
    show own_Rn p e below _ (s₁.setTop (mkF m 0 #[.val (.ref ba), .val (.int (Int32.ofNat 6))] []))
    refine own_go (fun tq kq => XS.iloadN X0.here hx rfl (hb hby own_d0_0) rfl kq) ?_
    show own_Rn p e below _ (s₁.setTop (mkF m 1 #[.val (.ref ba), .val (.int (Int32.ofNat 6))] [(.int (Int32.ofNat 6))]))
    refine own_go (fun tq kq => XS.ifYes X0.here hx rfl (pc0 := 1) (pc' := 15) rfl (hb hby own_d0_1) rfl ((if0 _ _).trans (tlt ((by decide : (0 : Int32) < (Int32.ofNat 6)) : (0 : Int32) < (Int32.ofNat 6))).2.2.1) (by decide) (by decide) kq) ?_
    show own_Rn p e below _ (s₁.setTop (mkF m 15 #[.val (.ref ba), .val (.int (Int32.ofNat 6))] []))
    refine own_go (fun tq kq => XS.iloadN X0.here hx rfl (hb hby own_d0_15) rfl kq) ?_
    show own_Rn p e below _ (s₁.setTop (mkF m 16 #[.val (.ref ba), .val (.int (Int32.ofNat 6))] [(.int (Int32.ofNat 6))]))
    refine own_go (fun tq kq => XS.iconst X0.here hx rfl (hb hby own_d0_16) kq) ?_
    show own_Rn p e below _ (s₁.setTop (mkF m 17 #[.val (.ref ba), .val (.int (Int32.ofNat 6))] [(.int (1 : Int32)), (.int (Int32.ofNat 6))]))
    refine own_go (fun tq kq => XS.icmpYes X0.here hx rfl (pc0 := 17) (pc' := 37) rfl (hb hby own_d0_17) rfl (feq ((by decide : ¬ ((Int32.ofNat 6) = (1 : Int32))) : ¬ ((Int32.ofNat 6) = (1 : Int32)))).2 (by decide) (by decide) kq) ?_
    show own_Rn p e below _ (s₁.setTop (mkF m 37 #[.val (.ref ba), .val (.int (Int32.ofNat 6))] []))
    refine own_go (fun tq kq => XS.iloadN X0.here hx rfl (hb hby own_d0_37) rfl kq) ?_
    show own_Rn p e below _ (s₁.setTop (mkF m 38 #[.val (.ref ba), .val (.int (Int32.ofNat 6))] [(.int (Int32.ofNat 6))]))
    refine own_go (fun tq kq => XS.iconst X0.here hx rfl (hb hby own_d0_38) kq) ?_
    show own_Rn p e below _ (s₁.setTop (mkF m 39 #[.val (.ref ba), .val (.int (Int32.ofNat 6))] [(.int (2 : Int32)), (.int (Int32.ofNat 6))]))
    refine own_go (fun tq kq => XS.icmpYes X0.here hx rfl (pc0 := 39) (pc' := 65) rfl (hb hby own_d0_39) rfl (feq ((by decide : ¬ ((Int32.ofNat 6) = (2 : Int32))) : ¬ ((Int32.ofNat 6) = (2 : Int32)))).2 (by decide) (by decide) kq) ?_
    show own_Rn p e below _ (s₁.setTop (mkF m 65 #[.val (.ref ba), .val (.int (Int32.ofNat 6))] []))
    refine own_go (fun tq kq => XS.iloadN X0.here hx rfl (hb hby own_d0_65) rfl kq) ?_
    show own_Rn p e below _ (s₁.setTop (mkF m 66 #[.val (.ref ba), .val (.int (Int32.ofNat 6))] [(.int (Int32.ofNat 6))]))
    refine own_go (fun tq kq => XS.iconst X0.here hx rfl (hb hby own_d0_66) kq) ?_
    show own_Rn p e below _ (s₁.setTop (mkF m 67 #[.val (.ref ba), .val (.int (Int32.ofNat 6))] [(.int (3 : Int32)), (.int (Int32.ofNat 6))]))
    refine own_go (fun tq kq => XS.icmpYes X0.here hx rfl (pc0 := 67) (pc' := 99) rfl (hb hby own_d0_67) rfl (feq ((by decide : ¬ ((Int32.ofNat 6) = (3 : Int32))) : ¬ ((Int32.ofNat 6) = (3 : Int32)))).2 (by decide) (by decide) kq) ?_
    show own_Rn p e below _ (s₁.setTop (mkF m 99 #[.val (.ref ba), .val (.int (Int32.ofNat 6))] []))
    refine own_go (fun tq kq => XS.iloadN X0.here hx rfl (hb hby own_d0_99) rfl kq) ?_
    show own_Rn p e below _ (s₁.setTop (mkF m 100 #[.val (.ref ba), .val (.int (Int32.ofNat 6))] [(.int (Int32.ofNat 6))]))
    refine own_go (fun tq kq => XS.iconst X0.here hx rfl (hb hby own_d0_100) kq) ?_
    show own_Rn p e below _ (s₁.setTop (mkF m 101 #[.val (.ref ba), .val (.int (Int32.ofNat 6))] [(.int (4 : Int32)), (.int (Int32.ofNat 6))]))
    refine own_go (fun tq kq => XS.icmpYes X0.here hx rfl (pc0 := 101) (pc' := 139) rfl (hb hby own_d0_101) rfl (feq ((by decide : ¬ ((Int32.ofNat 6) = (4 : Int32))) : ¬ ((Int32.ofNat 6) = (4 : Int32)))).2 (by decide) (by decide) kq) ?_
    show own_Rn p e below _ (s₁.setTop (mkF m 139 #[.val (.ref ba), .val (.int (Int32.ofNat 6))] []))
    refine own_go (fun tq kq => XS.iloadN X0.here hx rfl (hb hby own_d0_139) rfl kq) ?_
    show own_Rn p e below _ (s₁.setTop (mkF m 140 #[.val (.ref ba), .val (.int (Int32.ofNat 6))] [(.int (Int32.ofNat 6))]))
    refine own_go (fun tq kq => XS.iconst X0.here hx rfl (hb hby own_d0_140) kq) ?_
    show own_Rn p e below _ (s₁.setTop (mkF m 141 #[.val (.ref ba), .val (.int (Int32.ofNat 6))] [(.int (5 : Int32)), (.int (Int32.ofNat 6))]))
    refine own_go (fun tq kq => XS.icmpYes X0.here hx rfl (pc0 := 141) (pc' := 185) rfl (hb hby own_d0_141) rfl (feq ((by decide : ¬ ((Int32.ofNat 6) = (5 : Int32))) : ¬ ((Int32.ofNat 6) = (5 : Int32)))).2 (by decide) (by decide) kq) ?_
    show own_Rn p e below _ (s₁.setTop (mkF m 185 #[.val (.ref ba), .val (.int (Int32.ofNat 6))] []))
    obtain ⟨T198, h198, X198, e198, E198, A198, D198, -, st198⟩ := newO X0 hx hZ hown (hw _ (own_mi 5 rfl)) (hw _ (own_mi 6 rfl)) (hw _ (own_mi 7 rfl)) e0 (g := (mkF m 185 #[.val (.ref ba), .val (.int (Int32.ofNat 6))] [])) rfl (hb hby own_d0_185) (by decide) (by decide)
    obtain ⟨b198, g198⟩ : ∃ z, z = h0.size := ⟨_, rfl⟩
    rw [← g198] at A198 D198 st198
    refine own_go st198 ?_
    have sz199 : h0.size ≤ h198.size := E198.1
    have K199 := K0.ext E198
    have cr199 : CHr Z consts_1 s.vm h0 s.vm h198 := CHr.ext E198 CR0.1
    have CR199 := CR0.trans cr199
    have sf200 : Safe Z consts_1 s.vm h198 b198 := Safe.ext E198 CR0.1 (Safe.new (by omega))
    have lt201 : @LT.lt Nat _ b198 h198.size := A198.lt
    have gn198 : n0 ≤ b198 := by omega
    have D198_value : Fld Z h198 b198 "java/lang/String" "value" "[B" .null := D198 (Or.inr (hw _ (own_mi 20 rfl))) (ty := (.array .byte)) own_fd_5bB
    have D198_coder : Fld Z h198 b198 "java/lang/String" "coder" "B" (.int (0 : Int32)) := D198 (Or.inr (hw _ (own_mi 21 rfl))) (ty := .byte) own_fd_B
    show own_Rn p e below _ (T198.setTop (mkF m 188 #[.val (.ref ba), .val (.int (Int32.ofNat 6))] [(.ref b198)]))
    refine own_go (fun tq kq => XS.dup X198.here hx rfl (hb hby own_d0_188) rfl rfl kq) ?_
    show own_Rn p e below _ (T198.setTop (mkF m 189 #[.val (.ref ba), .val (.int (Int32.ofNat 6))] [(.ref b198), (.ref b198)]))
    refine own_go (fun tq kq => XS.bipush X198.here hx rfl (hb hby own_d0_189) kq) ?_
    show own_Rn p e below _ (T198.setTop (mkF m 191 #[.val (.ref ba), .val (.int (Int32.ofNat 6))] [(.int (6 : Int32)), (.ref b198), (.ref b198)]))
    obtain ⟨T203, h203, k203, X203, e203, E203, A203, st203⟩ := newP X198 hx hZ (hw _ (own_mi 0 rfl)) e198 (g := (mkF m 191 #[.val (.ref ba), .val (.int (Int32.ofNat 6))] [(.int (6 : Int32)), (.ref b198), (.ref b198)])) rfl (hb hby own_d0_191) rfl (by decide) (cap := 6) (by decide) (by decide) (by decide) (by decide)
    obtain ⟨b203, g203⟩ : ∃ z, z = h198.size := ⟨_, rfl⟩
    rw [← g203] at A203 st203
    refine own_go st203 ?_
    have sz204 : h198.size ≤ h203.size := E203.1
    have K204 := K199.ext E203
    have cr204 : CHr Z consts_1 s.vm h198 s.vm h203 := CHr.ext E203 CR199.1
    have CR204 := CR199.trans cr204
    have gn203 : n0 ≤ b203 := by omega
    have V203 : Arv Z h203 b203 k203 .char (6 : Int32) [(.int (0 : Int32)), (.int (0 : Int32)), (.int (0 : Int32)), (.int (0 : Int32)), (.int (0 : Int32)), (.int (0 : Int32))] (.int (0 : Int32)) := (Arv.new A203 (by decide)).pad (pad_rep [] _ 6)
    have lt205 : @LT.lt Nat _ b203 h203.size := V203.lt
    show own_Rn p e below _ (T203.setTop (mkF m 193 #[.val (.ref ba), .val (.int (Int32.ofNat 6))] [(.ref b203), (.ref b198), (.ref b198)]))
    refine own_go (fun tq kq => XS.dup X203.here hx rfl (hb hby own_d0_193) rfl rfl kq) ?_
    show own_Rn p e below _ (T203.setTop (mkF m 194 #[.val (.ref ba), .val (.int (Int32.ofNat 6))] [(.ref b203), (.ref b203), (.ref b198), (.ref b198)]))
    refine own_go (fun tq kq => XS.iconst X203.here hx rfl (hb hby own_d0_194) kq) ?_
    show own_Rn p e below _ (T203.setTop (mkF m 195 #[.val (.ref ba), .val (.int (Int32.ofNat 6))] [(.int (0 : Int32)), (.ref b203), (.ref b203), (.ref b198), (.ref b198)]))
    refine own_go (fun tq kq => XS.aloadN X203.here hx rfl (hb hby own_d0_195) rfl rfl kq) ?_
    show own_Rn p e below _ (T203.setTop (mkF m 196 #[.val (.ref ba), .val (.int (Int32.ofNat 6))] [(.ref ba), (.int (0 : Int32)), (.ref b203), (.ref b203), (.ref b198), (.ref b198)]))
    refine own_go (fun tq kq => XS.iconst X203.here hx rfl (hb hby own_d0_196) kq) ?_
    show own_Rn p e below _ (T203.setTop (mkF m 197 #[.val (.ref ba), .val (.int (Int32.ofNat 6))] [(.int (0 : Int32)), (.ref ba), (.int (0 : Int32)), (.ref b203), (.ref b203), (.ref b198), (.ref b198)]))
    have F206 : Arv Z h203 ba ka .char (6 : Int32) [(.int b0), (.int b1), (.int b2), (.int b3), (.int b4), (.int b5)] (.int (0 : Int32)) := ((Pm0.ext E198).ext E203)
    obtain ⟨cl207, Ar207, q207, Sz207, Nn207, Hs207, G207⟩ := id F206
    have in207 := inb_of (j := (0 : Int32)) Sz207 ⟨by decide, by decide⟩
    refine own_go (fun tq kq => X203.caload hx (j := (0 : Int32)) (v := (.int b0)) (by rw [e203]; exact Ar207.1) (State.isArrayOf_alike hZ.alike Ar207.2.1) Ar207.2.2 in207 (Hs207.at in207 rfl) (g := (mkF m 197 #[.val (.ref ba), .val (.int (Int32.ofNat 6))] [(.int (0 : Int32)), (.ref ba), (.int (0 : Int32)), (.ref b203), (.ref b203), (.ref b198), (.ref b198)])) rfl rfl (hb hby own_d0_197) tq kq) ?_
    show own_Rn p e below _ (T203.setTop (mkF m 198 #[.val (.ref ba), .val (.int (Int32.ofNat 6))] [(.int b0), (.int (0 : Int32)), (.ref b203), (.ref b203), (.ref b198), (.ref b198)]))
    obtain ⟨cl208, Ar208, q208, Sz208, Nn208, Hs208, G208⟩ := id V203
    obtain ⟨T208, h208, X208, e208, W208, st208⟩ := stC X203 hx hZ e203 Ar208 (j := (0 : Int32)) (inb_of Sz208 ⟨by decide, by decide⟩) (g := (mkF m 198 #[.val (.ref ba), .val (.int (Int32.ofNat 6))] [(.int b0), (.int (0 : Int32)), (.ref b203), (.ref b203), (.ref b198), (.ref b198)])) rfl rfl (hb hby own_d0_198)
    rw [nr0] at W208
    refine own_go st208 ?_
    have V208 : Arv Z h208 b203 k203 .char (6 : Int32) [(.int b0), (.int (0 : Int32)), (.int (0 : Int32)), (.int (0 : Int32)), (.int (0 : Int32)), (.int (0 : Int32))] (.int (0 : Int32)) := Arv.set Ar208 q208 Sz208 Nn208 Hs208 G208 (by rw [← nr0]; exact fits_nar_char _) W208 0 rfl (Nat.le_of_ble_eq_true rfl)
    have N208 := Fr.snoc X208 N0 gn203
    have sf209 : Safe Z consts_1 s.vm h203 b203 := Safe.arv hZ.alike V203 (by decide)
    have sz210 : h203.size ≤ h208.size := Nat.le_of_eq (Wr.size W208).symm
    have K210 := K204.wr W208 (Or.inr (by omega))
    have cr210 : CHr Z consts_1 s.vm h203 s.vm h208 := CHr.wr W208 sf209 CR204.1
    have CR210 := CR204.trans cr210
    show own_Rn p e below _ (T208.setTop (mkF m 199 #[.val (.ref ba), .val (.int (Int32.ofNat 6))] [(.ref b203), (.ref b198), (.ref b198)]))
    refine own_go (fun tq kq => XS.dup X208.here hx rfl (hb hby own_d0_199) rfl rfl kq) ?_
    show own_Rn p e below _ (T208.setTop (mkF m 200 #[.val (.ref ba), .val (.int (Int32.ofNat 6))] [(.ref b203), (.ref b203), (.ref b198), (.ref b198)]))
    refine own_go (fun tq kq => XS.iconst X208.here hx rfl (hb hby own_d0_200) kq) ?_
    show own_Rn p e below _ (T208.setTop (mkF m 201 #[.val (.ref ba), .val (.int (Int32.ofNat 6))] [(.int (1 : Int32)), (.ref b203), (.ref b203), (.ref b198), (.ref b198)]))
    refine own_go (fun tq kq => XS.aloadN X208.here hx rfl (hb hby own_d0_201) rfl rfl kq) ?_
    show own_Rn p e below _ (T208.setTop (mkF m 202 #[.val (.ref ba), .val (.int (Int32.ofNat 6))] [(.ref ba), (.int (1 : Int32)), (.ref b203), (.ref b203), (.ref b198), (.ref b198)]))
    refine own_go (fun tq kq => XS.iconst X208.here hx rfl (hb hby own_d0_202) kq) ?_
    show own_Rn p e below _ (T208.setTop (mkF m 203 #[.val (.ref ba), .val (.int (Int32.ofNat 6))] [(.int (1 : Int32)), (.ref ba), (.int (1 : Int32)), (.ref b203), (.ref b203), (.ref b198), (.ref b198)]))
    have ne211 : ba ≠ b203 := own_nea (by omega)
    have F212 : Arv Z h208 ba ka .char (6 : Int32) [(.int b0), (.int b1), (.int b2), (.int b3), (.int b4), (.int b5)] (.int (0 : Int32)) := (F206.other W208 ne211)
    obtain ⟨cl213, Ar213, q213, Sz213, Nn213, Hs213, G213⟩ := id F212
    have in213 := inb_of (j := (1 : Int32)) Sz213 ⟨by decide, by decide⟩
    refine own_go (fun tq kq => X208.caload hx (j := (1 : Int32)) (v := (.int b1)) (by rw [e208]; exact Ar213.1) (State.isArrayOf_alike hZ.alike Ar213.2.1) Ar213.2.2 in213 (Hs213.at in213 rfl) (g := (mkF m 203 #[.val (.ref ba), .val (.int (Int32.ofNat 6))] [(.int (1 : Int32)), (.ref ba), (.int (1 : Int32)), (.ref b203), (.ref b203), (.ref b198), (.ref b198)])) rfl rfl (hb hby own_d0_203) tq kq) ?_
    show own_Rn p e below _ (T208.setTop (mkF m 204 #[.val (.ref ba), .val (.int (Int32.ofNat 6))] [(.int b1), (.int (1 : Int32)), (.ref b203), (.ref b203), (.ref b198), (.ref b198)]))
    obtain ⟨cl214, Ar214, q214, Sz214, Nn214, Hs214, G214⟩ := id V208
    obtain ⟨T214, h214, X214, e214, W214, st214⟩ := stC X208 hx hZ e208 Ar214 (j := (1 : Int32)) (inb_of Sz214 ⟨by decide, by decide⟩) (g := (mkF m 204 #[.val (.ref ba), .val (.int (Int32.ofNat 6))] [(.int b1), (.int (1 : Int32)), (.ref b203), (.ref b203), (.ref b198), (.ref b198)])) rfl rfl (hb hby own_d0_204)
    rw [nr1] at W214
    refine own_go st214 ?_
    have V214 : Arv Z h214 b203 k203 .char (6 : Int32) [(.int b0), (.int b1), (.int (0 : Int32)), (.int (0 : Int32)), (.int (0 : Int32)), (.int (0 : Int32))] (.int (0 : Int32)) := Arv.set Ar214 q214 Sz214 Nn214 Hs214 G214 (by rw [← nr1]; exact fits_nar_char _) W214 1 rfl (Nat.le_of_ble_eq_true rfl)
    have N214 := Fr.snoc X214 N208 gn203
    have sf215 : Safe Z consts_1 s.vm h208 b203 := Safe.arv hZ.alike V208 (by decide)
    have sz216 : h208.size ≤ h214.size := Nat.le_of_eq (Wr.size W214).symm
    have K216 := K210.wr W214 (Or.inr (by omega))
    have cr216 : CHr Z consts_1 s.vm h208 s.vm h214 := CHr.wr W214 sf215 CR210.1
    have CR216 := CR210.trans cr216
    show own_Rn p e below _ (T214.setTop (mkF m 205 #[.val (.ref ba), .val (.int (Int32.ofNat 6))] [(.ref b203), (.ref b198), (.ref b198)]))
    refine own_go (fun tq kq => XS.dup X214.here hx rfl (hb hby own_d0_205) rfl rfl kq) ?_
    show own_Rn p e below _ (T214.setTop (mkF m 206 #[.val (.ref ba), .val (.int (Int32.ofNat 6))] [(.ref b203), (.ref b203), (.ref b198), (.ref b198)]))
    refine own_go (fun tq kq => XS.iconst X214.here hx rfl (hb hby own_d0_206) kq) ?_
    show own_Rn p e below _ (T214.setTop (mkF m 207 #[.val (.ref ba), .val (.int (Int32.ofNat 6))] [(.int (2 : Int32)), (.ref b203), (.ref b203), (.ref b198), (.ref b198)]))
    refine own_go (fun tq kq => XS.aloadN X214.here hx rfl (hb hby own_d0_207) rfl rfl kq) ?_
    show own_Rn p e below _ (T214.setTop (mkF m 208 #[.val (.ref ba), .val (.int (Int32.ofNat 6))] [(.ref ba), (.int (2 : Int32)), (.ref b203), (.ref b203), (.ref b198), (.ref b198)]))
    refine own_go (fun tq kq => XS.iconst X214.here hx rfl (hb hby own_d0_208) kq) ?_
    show own_Rn p e below _ (T214.setTop (mkF m 209 #[.val (.ref ba), .val (.int (Int32.ofNat 6))] [(.int (2 : Int32)), (.ref ba), (.int (2 : Int32)), (.ref b203), (.ref b203), (.ref b198), (.ref b198)]))
    have F217 : Arv Z h214 ba ka .char (6 : Int32) [(.int b0), (.int b1), (.int b2), (.int b3), (.int b4), (.int b5)] (.int (0 : Int32)) := (F212.other W214 ne211)
    obtain ⟨cl218, Ar218, q218, Sz218, Nn218, Hs218, G218⟩ := id F217
    have in218 := inb_of (j := (2 : Int32)) Sz218 ⟨by decide, by decide⟩
    refine own_go (fun tq kq => X214.caload hx (j := (2 : Int32)) (v := (.int b2)) (by rw [e214]; exact Ar218.1) (State.isArrayOf_alike hZ.alike Ar218.2.1) Ar218.2.2 in218 (Hs218.at in218 rfl) (g := (mkF m 209 #[.val (.ref ba), .val (.int (Int32.ofNat 6))] [(.int (2 : Int32)), (.ref ba), (.int (2 : Int32)), (.ref b203), (.ref b203), (.ref b198), (.ref b198)])) rfl rfl (hb hby own_d0_209) tq kq) ?_
    show own_Rn p e below _ (T214.setTop (mkF m 210 #[.val (.ref ba), .val (.int (Int32.ofNat 6))] [(.int b2), (.int (2 : Int32)), (.ref b203), (.ref b203), (.ref b198), (.ref b198)]))
    obtain ⟨cl219, Ar219, q219, Sz219, Nn219, Hs219, G219⟩ := id V214
    obtain ⟨T219, h219, X219, e219, W219, st219⟩ := stC X214 hx hZ e214 Ar219 (j := (2 : Int32)) (inb_of Sz219 ⟨by decide, by decide⟩) (g := (mkF m 210 #[.val (.ref ba), .val (.int (Int32.ofNat 6))] [(.int b2), (.int (2 : Int32)), (.ref b203), (.ref b203), (.ref b198), (.ref b198)])) rfl rfl (hb hby own_d0_210)
    rw [nr2] at W219
    refine own_go st219 ?_
    have V219 : Arv Z h219 b203 k203 .char (6 : Int32) [(.int b0), (.int b1), (.int b2), (.int (0 : Int32)), (.int (0 : Int32)), (.int (0 : Int32))] (.int (0 : Int32)) := Arv.set Ar219 q219 Sz219 Nn219 Hs219 G219 (by rw [← nr2]; exact fits_nar_char _) W219 2 rfl (Nat.le_of_ble_eq_true rfl)
    have N219 := Fr.snoc X219 N214 gn203
    have sf220 : Safe Z consts_1 s.vm h214 b203 := Safe.arv hZ.alike V214 (by decide)
    have sz221 : h214.size ≤ h219.size := Nat.le_of_eq (Wr.size W219).symm
    have K221 := K216.wr W219 (Or.inr (by omega))
    have cr221 : CHr Z consts_1 s.vm h214 s.vm h219 := CHr.wr W219 sf220 CR216.1
    have CR221 := CR216.trans cr221
    show own_Rn p e below _ (T219.setTop (mkF m 211 #[.val (.ref ba), .val (.int (Int32.ofNat 6))] [(.ref b203), (.ref b198), (.ref b198)]))
    refine own_go (fun tq kq => XS.dup X219.here hx rfl (hb hby own_d0_211) rfl rfl kq) ?_
    show own_Rn p e below _ (T219.setTop (mkF m 212 #[.val (.ref ba), .val (.int (Int32.ofNat 6))] [(.ref b203), (.ref b203), (.ref b198), (.ref b198)]))
    refine own_go (fun tq kq => XS.iconst X219.here hx rfl (hb hby own_d0_212) kq) ?_
    show own_Rn p e below _ (T219.setTop (mkF m 213 #[.val (.ref ba), .val (.int (Int32.ofNat 6))] [(.int (3 : Int32)), (.ref b203), (.ref b203), (.ref b198), (.ref b198)]))
    refine own_go (fun tq kq => XS.aloadN X219.here hx rfl (hb hby own_d0_213) rfl rfl kq) ?_
    show own_Rn p e below _ (T219.setTop (mkF m 214 #[.val (.ref ba), .val (.int (Int32.ofNat 6))] [(.ref ba), (.int (3 : Int32)), (.ref b203), (.ref b203), (.ref b198), (.ref b198)]))
    refine own_go (fun tq kq => XS.iconst X219.here hx rfl (hb hby own_d0_214) kq) ?_
    show own_Rn p e below _ (T219.setTop (mkF m 215 #[.val (.ref ba), .val (.int (Int32.ofNat 6))] [(.int (3 : Int32)), (.ref ba), (.int (3 : Int32)), (.ref b203), (.ref b203), (.ref b198), (.ref b198)]))
    have F222 : Arv Z h219 ba ka .char (6 : Int32) [(.int b0), (.int b1), (.int b2), (.int b3), (.int b4), (.int b5)] (.int (0 : Int32)) := (F217.other W219 ne211)
    obtain ⟨cl223, Ar223, q223, Sz223, Nn223, Hs223, G223⟩ := id F222
    have in223 := inb_of (j := (3 : Int32)) Sz223 ⟨by decide, by decide⟩
    refine own_go (fun tq kq => X219.caload hx (j := (3 : Int32)) (v := (.int b3)) (by rw [e219]; exact Ar223.1) (State.isArrayOf_alike hZ.alike Ar223.2.1) Ar223.2.2 in223 (Hs223.at in223 rfl) (g := (mkF m 215 #[.val (.ref ba), .val (.int (Int32.ofNat 6))] [(.int (3 : Int32)), (.ref ba), (.int (3 : Int32)), (.ref b203), (.ref b203), (.ref b198), (.ref b198)])) rfl rfl (hb hby own_d0_215) tq kq) ?_
    show own_Rn p e below _ (T219.setTop (mkF m 216 #[.val (.ref ba), .val (.int (Int32.ofNat 6))] [(.int b3), (.int (3 : Int32)), (.ref b203), (.ref b203), (.ref b198), (.ref b198)]))
    obtain ⟨cl224, Ar224, q224, Sz224, Nn224, Hs224, G224⟩ := id V219
    obtain ⟨T224, h224, X224, e224, W224, st224⟩ := stC X219 hx hZ e219 Ar224 (j := (3 : Int32)) (inb_of Sz224 ⟨by decide, by decide⟩) (g := (mkF m 216 #[.val (.ref ba), .val (.int (Int32.ofNat 6))] [(.int b3), (.int (3 : Int32)), (.ref b203), (.ref b203), (.ref b198), (.ref b198)])) rfl rfl (hb hby own_d0_216)
    rw [nr3] at W224
    refine own_go st224 ?_
    have V224 : Arv Z h224 b203 k203 .char (6 : Int32) [(.int b0), (.int b1), (.int b2), (.int b3), (.int (0 : Int32)), (.int (0 : Int32))] (.int (0 : Int32)) := Arv.set Ar224 q224 Sz224 Nn224 Hs224 G224 (by rw [← nr3]; exact fits_nar_char _) W224 3 rfl (Nat.le_of_ble_eq_true rfl)
    have N224 := Fr.snoc X224 N219 gn203
    have sf225 : Safe Z consts_1 s.vm h219 b203 := Safe.arv hZ.alike V219 (by decide)
    have sz226 : h219.size ≤ h224.size := Nat.le_of_eq (Wr.size W224).symm
    have K226 := K221.wr W224 (Or.inr (by omega))
    have cr226 : CHr Z consts_1 s.vm h219 s.vm h224 := CHr.wr W224 sf225 CR221.1
    have CR226 := CR221.trans cr226
    show own_Rn p e below _ (T224.setTop (mkF m 217 #[.val (.ref ba), .val (.int (Int32.ofNat 6))] [(.ref b203), (.ref b198), (.ref b198)]))
    refine own_go (fun tq kq => XS.dup X224.here hx rfl (hb hby own_d0_217) rfl rfl kq) ?_
    show own_Rn p e below _ (T224.setTop (mkF m 218 #[.val (.ref ba), .val (.int (Int32.ofNat 6))] [(.ref b203), (.ref b203), (.ref b198), (.ref b198)]))
    refine own_go (fun tq kq => XS.iconst X224.here hx rfl (hb hby own_d0_218) kq) ?_
    show own_Rn p e below _ (T224.setTop (mkF m 219 #[.val (.ref ba), .val (.int (Int32.ofNat 6))] [(.int (4 : Int32)), (.ref b203), (.ref b203), (.ref b198), (.ref b198)]))
    refine own_go (fun tq kq => XS.aloadN X224.here hx rfl (hb hby own_d0_219) rfl rfl kq) ?_
    show own_Rn p e below _ (T224.setTop (mkF m 220 #[.val (.ref ba), .val (.int (Int32.ofNat 6))] [(.ref ba), (.int (4 : Int32)), (.ref b203), (.ref b203), (.ref b198), (.ref b198)]))
    refine own_go (fun tq kq => XS.iconst X224.here hx rfl (hb hby own_d0_220) kq) ?_
    show own_Rn p e below _ (T224.setTop (mkF m 221 #[.val (.ref ba), .val (.int (Int32.ofNat 6))] [(.int (4 : Int32)), (.ref ba), (.int (4 : Int32)), (.ref b203), (.ref b203), (.ref b198), (.ref b198)]))
    have F227 : Arv Z h224 ba ka .char (6 : Int32) [(.int b0), (.int b1), (.int b2), (.int b3), (.int b4), (.int b5)] (.int (0 : Int32)) := (F222.other W224 ne211)
    obtain ⟨cl228, Ar228, q228, Sz228, Nn228, Hs228, G228⟩ := id F227
    have in228 := inb_of (j := (4 : Int32)) Sz228 ⟨by decide, by decide⟩
    refine own_go (fun tq kq => X224.caload hx (j := (4 : Int32)) (v := (.int b4)) (by rw [e224]; exact Ar228.1) (State.isArrayOf_alike hZ.alike Ar228.2.1) Ar228.2.2 in228 (Hs228.at in228 rfl) (g := (mkF m 221 #[.val (.ref ba), .val (.int (Int32.ofNat 6))] [(.int (4 : Int32)), (.ref ba), (.int (4 : Int32)), (.ref b203), (.ref b203), (.ref b198), (.ref b198)])) rfl rfl (hb hby own_d0_221) tq kq) ?_
    show own_Rn p e below _ (T224.setTop (mkF m 222 #[.val (.ref ba), .val (.int (Int32.ofNat 6))] [(.int b4), (.int (4 : Int32)), (.ref b203), (.ref b203), (.ref b198), (.ref b198)]))
    obtain ⟨cl229, Ar229, q229, Sz229, Nn229, Hs229, G229⟩ := id V224
    obtain ⟨T229, h229, X229, e229, W229, st229⟩ := stC X224 hx hZ e224 Ar229 (j := (4 : Int32)) (inb_of Sz229 ⟨by decide, by decide⟩) (g := (mkF m 222 #[.val (.ref ba), .val (.int (Int32.ofNat 6))] [(.int b4), (.int (4 : Int32)), (.ref b203), (.ref b203), (.ref b198), (.ref b198)])) rfl rfl (hb hby own_d0_222)
    rw [nr4] at W229
    refine own_go st229 ?_
    have V229 : Arv Z h229 b203 k203 .char (6 : Int32) [(.int b0), (.int b1), (.int b2), (.int b3), (.int b4), (.int (0 : Int32))] (.int (0 : Int32)) := Arv.set Ar229 q229 Sz229 Nn229 Hs229 G229 (by rw [← nr4]; exact fits_nar_char _) W229 4 rfl (Nat.le_of_ble_eq_true rfl)
    have N229 := Fr.snoc X229 N224 gn203
    have sf230 : Safe Z consts_1 s.vm h224 b203 := Safe.arv hZ.alike V224 (by decide)
    have sz231 : h224.size ≤ h229.size := Nat.le_of_eq (Wr.size W229).symm
    have K231 := K226.wr W229 (Or.inr (by omega))
    have cr231 : CHr Z consts_1 s.vm h224 s.vm h229 := CHr.wr W229 sf230 CR226.1
    have CR231 := CR226.trans cr231
    show own_Rn p e below _ (T229.setTop (mkF m 223 #[.val (.ref ba), .val (.int (Int32.ofNat 6))] [(.ref b203), (.ref b198), (.ref b198)]))
    refine own_go (fun tq kq => XS.dup X229.here hx rfl (hb hby own_d0_223) rfl rfl kq) ?_
    show own_Rn p e below _ (T229.setTop (mkF m 224 #[.val (.ref ba), .val (.int (Int32.ofNat 6))] [(.ref b203), (.ref b203), (.ref b198), (.ref b198)]))
    refine own_go (fun tq kq => XS.iconst X229.here hx rfl (hb hby own_d0_224) kq) ?_
    show own_Rn p e below _ (T229.setTop (mkF m 225 #[.val (.ref ba), .val (.int (Int32.ofNat 6))] [(.int (5 : Int32)), (.ref b203), (.ref b203), (.ref b198), (.ref b198)]))
    refine own_go (fun tq kq => XS.aloadN X229.here hx rfl (hb hby own_d0_225) rfl rfl kq) ?_
    show own_Rn p e below _ (T229.setTop (mkF m 226 #[.val (.ref ba), .val (.int (Int32.ofNat 6))] [(.ref ba), (.int (5 : Int32)), (.ref b203), (.ref b203), (.ref b198), (.ref b198)]))
    refine own_go (fun tq kq => XS.iconst X229.here hx rfl (hb hby own_d0_226) kq) ?_
    show own_Rn p e below _ (T229.setTop (mkF m 227 #[.val (.ref ba), .val (.int (Int32.ofNat 6))] [(.int (5 : Int32)), (.ref ba), (.int (5 : Int32)), (.ref b203), (.ref b203), (.ref b198), (.ref b198)]))
    have F232 : Arv Z h229 ba ka .char (6 : Int32) [(.int b0), (.int b1), (.int b2), (.int b3), (.int b4), (.int b5)] (.int (0 : Int32)) := (F227.other W229 ne211)
    obtain ⟨cl233, Ar233, q233, Sz233, Nn233, Hs233, G233⟩ := id F232
    have in233 := inb_of (j := (5 : Int32)) Sz233 ⟨by decide, by decide⟩
    refine own_go (fun tq kq => X229.caload hx (j := (5 : Int32)) (v := (.int b5)) (by rw [e229]; exact Ar233.1) (State.isArrayOf_alike hZ.alike Ar233.2.1) Ar233.2.2 in233 (Hs233.at in233 rfl) (g := (mkF m 227 #[.val (.ref ba), .val (.int (Int32.ofNat 6))] [(.int (5 : Int32)), (.ref ba), (.int (5 : Int32)), (.ref b203), (.ref b203), (.ref b198), (.ref b198)])) rfl rfl (hb hby own_d0_227) tq kq) ?_
    show own_Rn p e below _ (T229.setTop (mkF m 228 #[.val (.ref ba), .val (.int (Int32.ofNat 6))] [(.int b5), (.int (5 : Int32)), (.ref b203), (.ref b203), (.ref b198), (.ref b198)]))
    obtain ⟨cl234, Ar234, q234, Sz234, Nn234, Hs234, G234⟩ := id V229
    obtain ⟨T234, h234, X234, e234, W234, st234⟩ := stC X229 hx hZ e229 Ar234 (j := (5 : Int32)) (inb_of Sz234 ⟨by decide, by decide⟩) (g := (mkF m 228 #[.val (.ref ba), .val (.int (Int32.ofNat 6))] [(.int b5), (.int (5 : Int32)), (.ref b203), (.ref b203), (.ref b198), (.ref b198)])) rfl rfl (hb hby own_d0_228)
    rw [nr5] at W234
    refine own_go st234 ?_
    have V234 : Arv Z h234 b203 k203 .char (6 : Int32) [(.int b0), (.int b1), (.int b2), (.int b3), (.int b4), (.int b5)] (.int (0 : Int32)) := Arv.set Ar234 q234 Sz234 Nn234 Hs234 G234 (by rw [← nr5]; exact fits_nar_char _) W234 5 rfl (Nat.le_of_ble_eq_true rfl)
    have N234 := Fr.snoc X234 N229 gn203
    have sf235 : Safe Z consts_1 s.vm h229 b203 := Safe.arv hZ.alike V229 (by decide)
    have sz236 : h229.size ≤ h234.size := Nat.le_of_eq (Wr.size W234).symm
    have K236 := K231.wr W234 (Or.inr (by omega))
    have cr236 : CHr Z consts_1 s.vm h229 s.vm h234 := CHr.wr W234 sf235 CR231.1
    have CR236 := CR231.trans cr236
    show own_Rn p e below _ (T234.setTop (mkF m 229 #[.val (.ref ba), .val (.int (Int32.ofNat 6))] [(.ref b203), (.ref b198), (.ref b198)]))
    have hp237 : ∀ c ∈ ([b0, b1, b2, b3, b4, b5] : List Int32), ¬ c < 0 ∧ ¬ (255 : Int32) < c := by
      intro c hc
      simp only [List.mem_cons, List.not_mem_nil, or_false] at hc
      rcases hc with rfl | rfl | rfl | rfl | rfl | rfl
      · exact r0
      · exact r1
      · exact r2
      · exact r3
      · exact r4
      · exact r5
    have F238 : Exa Z h234 b198 "java/lang/String" := (((((((A198.ext E203).wr W208).wr W214).wr W219).wr W224).wr W229).wr W234)
    have ne239 : b198 ≠ b203 := own_nea (by omega)
    have F240 : Fld Z h234 b198 "java/lang/String" "value" "[B" .null := (((((((D198_value.ext E203).other W208 (Or.inl ne239)).other W214 (Or.inl ne239)).other W219 (Or.inl ne239)).other W224 (Or.inl ne239)).other W229 (Or.inl ne239)).other W234 (Or.inl ne239))
    have F241 : Fld Z h234 b198 "java/lang/String" "coder" "B" (.int (0 : Int32)) := (((((((D198_coder.ext E203).other W208 (Or.inl ne239)).other W214 (Or.inl ne239)).other W219 (Or.inl ne239)).other W224 (Or.inl ne239)).other W229 (Or.inl ne239)).other W234 (Or.inl ne239))
    have F242 : Old Z n0 h234 := ((((((((X00.ext E198).ext E203).wr W208 gn203).wr W214 gn203).wr W219 gn203).wr W224 gn203).wr W229 gn203).wr W234 gn203)
    have Zs237 : n0 ≤ h234.size := by omega
    obtain ⟨rv243, _, ⟨T243, L243, k243, n243⟩, -, X243, ⟨Lc243, hQ243, l243, y243, z243⟩, st243⟩ := X234.specialBack hx (y := (⟨"java/lang/String", "<init>", "([C)V"⟩ : MethodName)) rfl hown (mvT hZ (hw _ (own_mi 8 rfl))) (mvT hZ (hw _ (own_mi 9 rfl))) (mvT hZ (hw _ (own_mi 10 rfl))) (by decide) (StrChars.Road.backV (W := 1) hZ hws (kI := 4) (hw _ (own_mi 6 rfl)) (cs := [b0, b1, b2, b3, b4, b5]) (bs := ([b0, b1, b2, b3, b4, b5] : List Int32).map (fun c => c.toInt8.toInt32)) (n := 6) gn198 Zs237 F238 F240 F241 V234 (O2.ext F242.2) P5 rfl rfl (by decide) (by decide) hp237 rfl (by decide) (by decide)) (g := (mkF m 229 #[.val (.ref ba), .val (.int (Int32.ofNat 6))] [(.ref b203), (.ref b198), (.ref b198)])) rfl (by rw [hml]; rfl) (Steps.refl _) (a := b198) (argsL := [(.ref b203)]) (rest := [(.ref b198)]) (lenOf own_pd_285bC29V rfl) rfl (by show 2 * 0 + _ ≤ _; exact Nat.le_of_eq rfl) (hb hby own_d0_229) (fun _ _ => ⟨rfl, e234, (by decide : 2 + 1 ≤ _), (by decide : 10 + 6 ≤ _)⟩)
    dsimp only [Pt.U, Pt.locs, Pt.cells, Pt.slots] at X243 l243 y243 z243 st243 hQ243
    subst l243 y243 z243
    obtain ⟨rfl, Nq243, Kq243, Ex243, Co243, t237, kb237, gt243, hs243, nt243, Va243, Ab243⟩ := hQ243
    have N243 := Fr.app N234 Nq243
    have sf245 : Safe Z consts_1 s.vm h234 b198 := (CHr.safe cr236 (show @LT.lt Nat _ _ _ by omega) (CHr.safe cr231 (show @LT.lt Nat _ _ _ by omega) (CHr.safe cr226 (show @LT.lt Nat _ _ _ by omega) (CHr.safe cr221 (show @LT.lt Nat _ _ _ by omega) (CHr.safe cr216 (show @LT.lt Nat _ _ _ by omega) (CHr.safe cr210 (show @LT.lt Nat _ _ _ by omega) (CHr.safe cr204 (show @LT.lt Nat _ _ _ by omega) sf200)))))))
    have sz246 : h234.size ≤ T243.heap.size := Kq243.1
    have K246 := K236.trans Kq243 (allS (Or.inr (by omega)) all0)
    have cr246 : CHr Z consts_1 s.vm h234 s.vm T243.heap := CHr.keep Kq243 (sfS sf245 sf0) CR236.1
    have CR246 := CR236.trans cr246
    have sf247 : Safe Z consts_1 s.vm T243.heap t237 := Safe.keep Kq243 (sfS sf245 sf0) CR236.1 (Safe.new (by omega))
    have lt248 : @LT.lt Nat _ t237 T243.heap.size := Ab243.lt
    refine own_go (fun tq kq => st243.trans kq) ?_
    show own_Rn p e below _ (T243.setTop (mkF m 232 #[.val (.ref ba), .val (.int (Int32.ofNat 6))] [(.ref b198)]))
    have hpL237 := hp237
    exact own_retS X243 hS0 (by omega) (v := some (.ref b198)) (fun h => by rw [Bd.returns] at h; cases h) (fun fs hr => X243.areturnOut hx rfl Bd.returns rfl (hb hby own_d0_232) hr) (⟨b198, t237, kb237, rfl, N243, K246, Ex243, Va243, Co243, Ab243⟩) (by rw [hh]; exact CR246.trans (CHv.at X243 hZ hEL CR246.1)) (by decide) (by decide)
theorem own_ef_rmVals (m : MethodId) (va : Addr) (kv : ClassId) (t0 : Addr) (t1 : Addr) (t2 : Addr) : entryFrame m #[] 0 = mkF m 0 #[] [] := by first | (simp [entryFrame, mkF, argsToLocals, Value.category]; done) | rfl
theorem own_pn_com_example_words_into_queries_wordsintoqueries_formulation_TopicField : plainName "com/example/words_into_queries/wordsintoqueries/formulation/TopicField" = true := by first | (simp [plainName, overriddenIn]; done) | decide +kernel
theorem own_d7_0 : decode prog_22_method_1_code 0 = .ok (.getstatic 13, 3) := by decide +kernel
theorem own_d7_3 : decode prog_22_method_1_code 3 = .ok (.invokevirtual 17, 3) := by decide +kernel
theorem own_d7_6 : decode prog_22_method_1_code 6 = .ok (.checkcast 18, 3) := by decide +kernel
theorem own_d7_9 : decode prog_22_method_1_code 9 = .ok (.areturn, 1) := by decide +kernel
def Q_rmVals (Z : State) (va : Addr) (kv : ClassId) (t0 : Addr) (t1 : Addr) (t2 : Addr) (h0 : Heap) (n0 : Nat) (vq : Option Value) (hhq : Heap) (Lq : List Loc) : Prop := ∃ (v : Addr), vq = some (.ref v) ∧ Fr n0 Lq ∧ Keep h0 hhq [] ∧ Arv Z hhq v kv (.object "com/example/words_into_queries/wordsintoqueries/formulation/TopicField") (3 : Int32) [(.ref t0), (.ref t1), (.ref t2)] .null
set_option maxRecDepth 65536 in
set_option maxHeartbeats 40000000 in
theorem rmVals (l : Launch) (Z : State) (a0 : Array Value) (hw : ∀ d ∈ tables_1, d.before a0 Z = true) (ws : List Jvm.Cond) (va : Addr) (kv : ClassId) (t0 : Addr) (t1 : Addr) (t2 : Addr) (h0 : Heap) (n0 : Nat) (Z0 : n0 ≤ h0.size) (OV : Sta Z Z.heap "com/example/words_into_queries/wordsintoqueries/formulation/TopicField" "$VALUES" "[Lcom/example/words_into_queries/wordsintoqueries/formulation/TopicField;" (.ref va)) (EV : Exa Z Z.heap va "[Lcom/example/words_into_queries/wordsintoqueries/formulation/TopicField;") (AV : Arv Z Z.heap va kv (.object "com/example/words_into_queries/wordsintoqueries/formulation/TopicField") (3 : Int32) [(.ref t0), (.ref t1), (.ref t2)] .null) (X00 : Old Z n0 h0) :
    MetFree l (⟨"com/example/words_into_queries/wordsintoqueries/formulation/TopicField", "values", "()[Lcom/example/words_into_queries/wordsintoqueries/formulation/TopicField;"⟩ : MethodName) (head1 (Jvm.Cond.code (⟨"com/example/words_into_queries/wordsintoqueries/formulation/TopicField", "values", "()[Lcom/example/words_into_queries/wordsintoqueries/formulation/TopicField;"⟩ : MethodName) prog_22_method_1_code 0 (some (.array (.object "com/example/words_into_queries/wordsintoqueries/formulation/TopicField"))) :: ws) ({ frames := 1, cells := 1, slots := 3, locals := 14 } : Room)) (fun aq U => aq = #[] ∧ Z.Warmed39 U.vm ∧ U.heap = h0) (fun _ _ _ _ _ => True) (fun _ U oq U' => ∃ vq Lq, oq = .returned vq ∧ Q_rmVals Z va kv t0 t1 t2 h0 n0 vq U'.heap Lq ∧ FrameEnd U oq U' Lq ({ frames := 1, cells := 1, slots := 3, locals := 14 } : Room).cells ({ frames := 1, cells := 1, slots := 3, locals := 14 } : Room).slots) := by
  refine MetFree.of_bodySF (plainFor_of_name own_pn_com_example_words_into_queries_wordsintoqueries_formulation_TopicField) hisR ?_
  intro p e s m args below meth c s₁ Bd hml0 hP hK
  obtain ⟨rfl, hZ, hh⟩ := hP
  have hx := Bd.exec
  have hby := Bd.bytes
  have hml : c.maxLocals = 0 := hml0
  have hown : s.vm.findClass "com/example/words_into_queries/wordsintoqueries/formulation/TopicField" = some m.cls := findClass_of_methodNamed Bd.named
  have hnm := (name_of_methodNamed Bd.named Bd.method).1
  have X0 : Stand p l e ({ frames := 1, cells := 1, slots := 3, locals := 14 } : Room) s m #[] below meth c s₁ [] 0 0 := Stand.of_body Bd
  have e0 : s₁.heap = h0 := by rw [← hh, Bd.state]; rfl
  have N0 := Fr.nil n0
  have K0 : Keep h0 h0 [] := Keep.refl _ _
  refine own_go (S' := s₁.setTop (mkF m 0 #[] [])) (fun tq kq => castTop (own_ef_rmVals m va kv t0 t1 t2) kq) ?_
  obtain ⟨T1, X1, e1, st1⟩ := getS2 X0 hx hZ hown (host := "") (Or.inl (hw _ (own_mi 47 rfl))) Via.refl e0 (OV.ext X00.2) (g := (mkF m 0 #[] [])) rfl (hb hby own_d7_0)
  refine own_go st1 ?_
  show own_Rn p e below _ (T1.setTop (mkF m 3 #[] [(.ref va)]))
  have F2 : Arv Z h0 va kv (.object "com/example/words_into_queries/wordsintoqueries/formulation/TopicField") (3 : Int32) [(.ref t0), (.ref t1), (.ref t2)] .null := AV.ext X00.2
  have F3 : Exa Z h0 va "[Lcom/example/words_into_queries/wordsintoqueries/formulation/TopicField;" := EV.ext X00.2
  obtain ⟨T4, h4, X4, e4, E4, R4, A4, st4⟩ := cloneH X1 hx hZ hown (hw _ (own_mi 49 rfl)) (hw _ (own_mi 50 rfl)) (hw _ (own_mi 54 rfl)) (hw _ (own_mi 52 rfl)) (hw _ (own_mi 53 rfl)) (hw _ (own_mi 55 rfl)) e1 F2.arh F3 (g := (mkF m 3 #[] [(.ref va)])) rfl (by rw [hml]; rfl) rfl (hb hby own_d7_3) (by decide) (W := 0) (cap := 3) (by show 2 * 0 + _ ≤ _; exact Nat.le_of_eq rfl) (by decide) (by decide) (by decide) (by decide)
  obtain ⟨b4, g4⟩ : ∃ z, z = h0.size := ⟨_, rfl⟩
  rw [← g4] at R4 A4 st4
  refine own_go st4 ?_
  have sz5 : h0.size ≤ h4.size := E4.1
  have K5 := K0.ext E4
  have gn4 : n0 ≤ b4 := by omega
  have V4 := own_arvH R4
  have lt6 : @LT.lt Nat _ b4 h4.size := A4.lt
  show own_Rn p e below _ (T4.setTop (mkF m 6 #[] [(.ref b4)]))
  obtain ⟨T7, X7, e7, st7⟩ := castY X4 hx hZ hown (hw _ (own_mi 60 rfl)) e4 (Ins.self A4) (g := (mkF m 6 #[] [(.ref b4)])) rfl rfl (hb hby own_d7_6)
  refine own_go st7 ?_
  show own_Rn p e below _ (T7.setTop (mkF m 9 #[] [(.ref b4)]))
  exact own_ret X7 (v := some (.ref b4)) (fun h => by rw [Bd.returns] at h; cases h) (fun fs hr => X7.areturnOut hx rfl Bd.returns rfl (hb hby own_d7_9) hr) (by rw [e7]; exact ⟨b4, rfl, N0, K5, V4⟩) (by decide) (by decide)
theorem own_ef_rmTN (m : MethodId) (o : Addr) (v : Addr) : entryFrame m #[(.ref o)] 1 = mkF m 0 #[.val (.ref o)] [] := by first | (simp [entryFrame, mkF, argsToLocals, Value.category]; done) | rfl
theorem own_pn_com_example_words_into_queries_wordsintoqueries_query_TermSource : plainName "com/example/words_into_queries/wordsintoqueries/query/TermSource" = true := by first | (simp [plainName, overriddenIn]; done) | decide +kernel
theorem own_d9_0 : decode prog_36_method_4_code 0 = .ok (.aload_n 0, 1) := by decide +kernel
theorem own_d9_1 : decode prog_36_method_4_code 1 = .ok (.getfield 47, 3) := by decide +kernel
theorem own_d9_4 : decode prog_36_method_4_code 4 = .ok (.areturn, 1) := by decide +kernel
def Q_rmTN (Z : State) (o : Addr) (v : Addr) (h0 : Heap) (n0 : Nat) (vq : Option Value) (hhq : Heap) (Lq : List Loc) : Prop := vq = some (.ref v) ∧ Fr n0 Lq ∧ hhq = h0
set_option maxRecDepth 65536 in
set_option maxHeartbeats 40000000 in
theorem rmTN (l : Launch) (Z : State) (a0 : Array Value) (hw : ∀ d ∈ tables_1, d.before a0 Z = true) (ws : List Jvm.Cond) (o : Addr) (v : Addr) (h0 : Heap) (n0 : Nat) (Z0 : n0 ≤ h0.size) (Pm0 : Fld Z h0 o "com/example/words_into_queries/wordsintoqueries/query/TermSource" "m_name" "Ljava/lang/String;" (.ref v)) :
    MetFree l (⟨"com/example/words_into_queries/wordsintoqueries/query/TermSource", "getName", "()Ljava/lang/String;"⟩ : MethodName) (head1 (Jvm.Cond.code (⟨"com/example/words_into_queries/wordsintoqueries/query/TermSource", "getName", "()Ljava/lang/String;"⟩ : MethodName) prog_36_method_4_code 1 (some (.object "java/lang/String")) :: ws) ({ frames := 0, cells := 0, slots := 0, locals := 0 } : Room)) (fun aq U => aq = #[(.ref o)] ∧ Z.Warmed39 U.vm ∧ U.heap = h0) (fun _ _ _ _ _ => True) (fun _ U oq U' => ∃ vq Lq, oq = .returned vq ∧ Q_rmTN Z o v h0 n0 vq U'.heap Lq ∧ FrameEnd U oq U' Lq ({ frames := 0, cells := 0, slots := 0, locals := 0 } : Room).cells ({ frames := 0, cells := 0, slots := 0, locals := 0 } : Room).slots) := by
  refine MetFree.of_bodySF (plainFor_of_name own_pn_com_example_words_into_queries_wordsintoqueries_query_TermSource) hisR ?_
  intro p e s m args below meth c s₁ Bd hml0 hP hK
  obtain ⟨rfl, hZ, hh⟩ := hP
  have hx := Bd.exec
  have hby := Bd.bytes
  have hml : c.maxLocals = 1 := hml0
  have hown : s.vm.findClass "com/example/words_into_queries/wordsintoqueries/query/TermSource" = some m.cls := findClass_of_methodNamed Bd.named
  have hnm := (name_of_methodNamed Bd.named Bd.method).1
  have X0 : Stand p l e ({ frames := 0, cells := 0, slots := 0, locals := 0 } : Room) s m #[(.ref o)] below meth c s₁ [] 0 0 := Stand.of_body Bd
  have e0 : s₁.heap = h0 := by rw [← hh, Bd.state]; rfl
  have N0 := Fr.nil n0
  have K0 : Keep h0 h0 [] := Keep.refl _ _
  refine own_go (S' := s₁.setTop (mkF m 0 #[.val (.ref o)] [])) (fun tq kq => castTop (own_ef_rmTN m o v) kq) ?_
  have lt1 : @LT.lt Nat _ o h0.size := Pm0.lt
  refine own_go (fun tq kq => XS.aloadN X0.here hx rfl (hb hby own_d9_0) rfl rfl kq) ?_
  show own_Rn p e below _ (s₁.setTop (mkF m 1 #[.val (.ref o)] [(.ref o)]))
  obtain ⟨T2, X2, e2, st2⟩ := getF X0 hx hZ hown (host := "") (Or.inl (hw _ (own_mi 76 rfl))) Via.refl e0 Pm0 (g := (mkF m 1 #[.val (.ref o)] [(.ref o)])) rfl rfl (hb hby own_d9_1)
  refine own_go st2 ?_
  show own_Rn p e below _ (T2.setTop (mkF m 4 #[.val (.ref o)] [(.ref v)]))
  exact own_ret X2 (v := some (.ref v)) (fun h => by rw [Bd.returns] at h; cases h) (fun fs hr => X2.areturnOut hx rfl Bd.returns rfl (hb hby own_d9_4) hr) (by rw [e2]; exact ⟨rfl, N0, rfl⟩) (by decide) (by decide)
theorem own_ef_rmGN (m : MethodId) (o : Addr) (sr : Addr) (v : Addr) : entryFrame m #[(.ref o)] 1 = mkF m 0 #[.val (.ref o)] [] := by first | (simp [entryFrame, mkF, argsToLocals, Value.category]; done) | rfl
theorem own_d8_0 : decode prog_22_method_5_code 0 = .ok (.aload_n 0, 1) := by decide +kernel
theorem own_d8_1 : decode prog_22_method_5_code 1 = .ok (.getfield 32, 3) := by decide +kernel
theorem own_d8_4 : decode prog_22_method_5_code 4 = .ok (.invokevirtual 62, 3) := by decide +kernel
theorem own_pd_2829Ljava2flang2fString3b : parseMethodDescriptor "()Ljava/lang/String;" = some ⟨[], some (.object "java/lang/String")⟩ := by decide +kernel
theorem own_d8_7 : decode prog_22_method_5_code 7 = .ok (.areturn, 1) := by decide +kernel
def Q_rmGN (Z : State) (o : Addr) (sr : Addr) (v : Addr) (h0 : Heap) (n0 : Nat) (vq : Option Value) (hhq : Heap) (Lq : List Loc) : Prop := vq = some (.ref v) ∧ Fr n0 Lq ∧ hhq = h0
set_option maxRecDepth 65536 in
set_option maxHeartbeats 40000000 in
theorem rmGN (l : Launch) (Z : State) (a0 : Array Value) (hw : ∀ d ∈ tables_1, d.before a0 Z = true) (ws : List Jvm.Cond) (o : Addr) (sr : Addr) (v : Addr) (h0 : Heap) (n0 : Nat) (Z0 : n0 ≤ h0.size) (Pm0 : Fld Z h0 o "com/example/words_into_queries/wordsintoqueries/formulation/TopicField" "m_source" "Lcom/example/words_into_queries/wordsintoqueries/query/TermSource;" (.ref sr)) (Pm1 : Exa Z h0 sr "com/example/words_into_queries/wordsintoqueries/query/TermSource") (Pm2 : Fld Z h0 sr "com/example/words_into_queries/wordsintoqueries/query/TermSource" "m_name" "Ljava/lang/String;" (.ref v)) :
    MetFree l (⟨"com/example/words_into_queries/wordsintoqueries/formulation/TopicField", "getName", "()Ljava/lang/String;"⟩ : MethodName) (head1 (Jvm.Cond.code (⟨"com/example/words_into_queries/wordsintoqueries/formulation/TopicField", "getName", "()Ljava/lang/String;"⟩ : MethodName) prog_22_method_5_code 1 (some (.object "java/lang/String")) :: ws) ({ frames := 1, cells := 0, slots := 0, locals := 12 } : Room)) (fun aq U => aq = #[(.ref o)] ∧ Z.Warmed39 U.vm ∧ U.heap = h0) (fun _ _ _ _ _ => True) (fun _ U oq U' => ∃ vq Lq, oq = .returned vq ∧ Q_rmGN Z o sr v h0 n0 vq U'.heap Lq ∧ FrameEnd U oq U' Lq ({ frames := 1, cells := 0, slots := 0, locals := 12 } : Room).cells ({ frames := 1, cells := 0, slots := 0, locals := 12 } : Room).slots) := by
  refine MetFree.of_bodySF (plainFor_of_name own_pn_com_example_words_into_queries_wordsintoqueries_formulation_TopicField) hisR ?_
  intro p e s m args below meth c s₁ Bd hml0 hP hK
  obtain ⟨rfl, hZ, hh⟩ := hP
  have hx := Bd.exec
  have hby := Bd.bytes
  have hml : c.maxLocals = 1 := hml0
  have hown : s.vm.findClass "com/example/words_into_queries/wordsintoqueries/formulation/TopicField" = some m.cls := findClass_of_methodNamed Bd.named
  have hnm := (name_of_methodNamed Bd.named Bd.method).1
  have X0 : Stand p l e ({ frames := 1, cells := 0, slots := 0, locals := 12 } : Room) s m #[(.ref o)] below meth c s₁ [] 0 0 := Stand.of_body Bd
  have e0 : s₁.heap = h0 := by rw [← hh, Bd.state]; rfl
  have N0 := Fr.nil n0
  have K0 : Keep h0 h0 [] := Keep.refl _ _
  refine own_go (S' := s₁.setTop (mkF m 0 #[.val (.ref o)] [])) (fun tq kq => castTop (own_ef_rmGN m o sr v) kq) ?_
  have lt1 : @LT.lt Nat _ o h0.size := Pm0.lt
  have lt2 : @LT.lt Nat _ sr h0.size := Pm1.lt
  refine own_go (fun tq kq => XS.aloadN X0.here hx rfl (hb hby own_d8_0) rfl rfl kq) ?_
  show own_Rn p e below _ (s₁.setTop (mkF m 1 #[.val (.ref o)] [(.ref o)]))
  obtain ⟨T3, X3, e3, st3⟩ := getF X0 hx hZ hown (host := "") (Or.inl (hw _ (own_mi 67 rfl))) Via.refl e0 Pm0 (g := (mkF m 1 #[.val (.ref o)] [(.ref o)])) rfl rfl (hb hby own_d8_1)
  refine own_go st3 ?_
  show own_Rn p e below _ (T3.setTop (mkF m 4 #[.val (.ref o)] [(.ref sr)]))
  have Zn4 : n0 ≤ h0.size := by omega
  obtain ⟨cq4, kq4, qa4, qb4, qc4⟩ := isOf hZ e3 Pm1
  obtain ⟨rv4, _, ⟨T4, L4, k4, n4⟩, -, X4, ⟨Lc4, hQ4, l4, y4, z4⟩, st4⟩ := X3.virtualBack hx (y := (⟨"com/example/words_into_queries/wordsintoqueries/query/TermSource", "getName", "()Ljava/lang/String;"⟩ : MethodName)) (z := (⟨"com/example/words_into_queries/wordsintoqueries/query/TermSource", "getName", "()Ljava/lang/String;"⟩ : MethodName)) hown (mvT hZ (hw _ (own_mi 71 rfl))) (mvT hZ (hw _ (own_mi 72 rfl))) (notFace_of_selects (args := #[]) (mvT hZ (hw _ (own_mi 74 rfl)))) (mvT hZ (hw _ (own_mi 74 rfl))) (mvT hZ (hw _ (own_mi 73 rfl))) (by decide) (backOf (W := 0) (rmTN l Z a0 hw [] (sr) (v) h0 n0 Zn4 Pm2) hZ (hw _ (own_mi 75 rfl)) (hw _ (own_mi 69 rfl)) (by decide) (by decide)) qa4 qc4 (g := (mkF m 4 #[.val (.ref o)] [(.ref sr)])) rfl (by rw [hml]; rfl) (Steps.refl _) (argsL := []) (rest := []) (lenOf own_pd_2829Ljava2flang2fString3b rfl) rfl (by show 2 * 0 + _ ≤ _; exact Nat.le_of_eq rfl) (hb hby own_d8_4) (fun _ _ => ⟨rfl, e3, (by decide : 0 + 0 ≤ _), (by decide : 0 + 0 ≤ _)⟩)
  dsimp only [Pt.U, Pt.locs, Pt.cells, Pt.slots] at X4 l4 y4 z4 st4 hQ4
  subst l4 y4 z4
  obtain ⟨rfl, Nq4, eh4⟩ := hQ4
  have N4 := Fr.app N0 Nq4
  refine own_go (fun tq kq => st4.trans kq) ?_
  show own_Rn p e below _ (T4.setTop (mkF m 7 #[.val (.ref o)] [(.ref v)]))
  exact own_ret X4 (v := some (.ref v)) (fun h => by rw [Bd.returns] at h; cases h) (fun fs hr => X4.areturnOut hx rfl Bd.returns rfl (hb hby own_d8_7) hr) (by rw [eh4]; exact ⟨rfl, N4, rfl⟩) (by decide) (by decide)
theorem own_ef_rmFind (m : MethodId) (va : Addr) (kv : ClassId) (t0 : Addr) (t1 : Addr) (t2 : Addr) (s0 : Addr) (x0 : Addr) (y0 : Addr) (k0 : ClassId) (s1 : Addr) (x1 : Addr) (y1 : Addr) (k1 : ClassId) (s2 : Addr) (x2 : Addr) (y2 : Addr) (k2 : ClassId) (st : Addr) (tt : Addr) (kk : ClassId) (ds : List Int32) (G1 : Int32) : entryFrame m #[(.ref st)] 5 = mkF m 0 #[.val (.ref st), .unset, .unset, .unset, .unset] [] := by first | (simp [entryFrame, mkF, argsToLocals, Value.category]; done) | rfl
theorem own_d6_0 : decode prog_22_method_4_code 0 = .ok (.invokestatic 48, 3) := by decide +kernel
theorem own_pd_28295bLcom2fexample2fwords_into_queries2fwordsintoqueries2fformulation2fTopicField3b : parseMethodDescriptor "()[Lcom/example/words_into_queries/wordsintoqueries/formulation/TopicField;" = some ⟨[], some (.array (.object "com/example/words_into_queries/wordsintoqueries/formulation/TopicField"))⟩ := by decide +kernel
theorem own_d6_3 : decode prog_22_method_4_code 3 = .ok (.astore_n 1, 1) := by decide +kernel
theorem own_d6_4 : decode prog_22_method_4_code 4 = .ok (.aload_n 1, 1) := by decide +kernel
theorem own_d6_5 : decode prog_22_method_4_code 5 = .ok (.arraylength, 1) := by decide +kernel
theorem own_d6_6 : decode prog_22_method_4_code 6 = .ok (.istore_n 2, 1) := by decide +kernel
theorem own_d6_7 : decode prog_22_method_4_code 7 = .ok (.iconst 0, 1) := by decide +kernel
theorem own_d6_8 : decode prog_22_method_4_code 8 = .ok (.istore_n 3, 1) := by decide +kernel
theorem own_d6_9 : decode prog_22_method_4_code 9 = .ok (.iload_n 3, 1) := by decide +kernel
theorem own_d6_10 : decode prog_22_method_4_code 10 = .ok (.iload_n 2, 1) := by decide +kernel
theorem own_d6_11 : decode prog_22_method_4_code 11 = .ok (.if_icmp .ge 29, 3) := by decide +kernel
theorem own_d6_14 : decode prog_22_method_4_code 14 = .ok (.aload_n 1, 1) := by decide +kernel
theorem own_d6_15 : decode prog_22_method_4_code 15 = .ok (.iload_n 3, 1) := by decide +kernel
theorem own_d6_16 : decode prog_22_method_4_code 16 = .ok (.aaload, 1) := by decide +kernel
theorem own_d6_17 : decode prog_22_method_4_code 17 = .ok (.astore 4, 2) := by decide +kernel
theorem own_d6_19 : decode prog_22_method_4_code 19 = .ok (.aload 4, 2) := by decide +kernel
theorem own_d6_21 : decode prog_22_method_4_code 21 = .ok (.invokevirtual 52, 3) := by decide +kernel
theorem own_d6_24 : decode prog_22_method_4_code 24 = .ok (.aload_n 0, 1) := by decide +kernel
theorem own_d6_25 : decode prog_22_method_4_code 25 = .ok (.invokevirtual 56, 3) := by decide +kernel
theorem own_pd_28Ljava2flang2fObject3b29Z : parseMethodDescriptor "(Ljava/lang/Object;)Z" = some ⟨[(.object "java/lang/Object")], some .boolean⟩ := by decide +kernel
theorem own_d6_28 : decode prog_22_method_4_code 28 = .ok (.ifCond .eq 6, 3) := by decide +kernel
theorem own_d6_31 : decode prog_22_method_4_code 31 = .ok (.aload 4, 2) := by decide +kernel
theorem own_d6_33 : decode prog_22_method_4_code 33 = .ok (.areturn, 1) := by decide +kernel
theorem own_d6_34 : decode prog_22_method_4_code 34 = .ok (.iinc 3 1, 3) := by decide +kernel
theorem own_d6_37 : decode prog_22_method_4_code 37 = .ok (.goto (-28), 3) := by decide +kernel
theorem own_d6_40 : decode prog_22_method_4_code 40 = .ok (.aconst_null, 1) := by decide +kernel
theorem own_d6_41 : decode prog_22_method_4_code 41 = .ok (.areturn, 1) := by decide +kernel
def Q_rmFind (Z : State) (va : Addr) (kv : ClassId) (t0 : Addr) (t1 : Addr) (t2 : Addr) (s0 : Addr) (x0 : Addr) (y0 : Addr) (k0 : ClassId) (s1 : Addr) (x1 : Addr) (y1 : Addr) (k1 : ClassId) (s2 : Addr) (x2 : Addr) (y2 : Addr) (k2 : ClassId) (st : Addr) (tt : Addr) (kk : ClassId) (ds : List Int32) (G1 : Int32) (h0 : Heap) (n0 : Nat) (vq : Option Value) (hhq : Heap) (Lq : List Loc) : Prop := vq = some (own_fv ds t0 t1 t2) ∧ Fr n0 Lq ∧ Keep h0 hhq []
set_option maxRecDepth 65536 in
set_option maxHeartbeats 40000000 in
theorem rmFind (l : Launch) (Z : State) (a0 : Array Value) (hw : ∀ d ∈ tables_1, d.before a0 Z = true) (ws : List Jvm.Cond) (va : Addr) (kv : ClassId) (t0 : Addr) (t1 : Addr) (t2 : Addr) (s0 : Addr) (x0 : Addr) (y0 : Addr) (k0 : ClassId) (s1 : Addr) (x1 : Addr) (y1 : Addr) (k1 : ClassId) (s2 : Addr) (x2 : Addr) (y2 : Addr) (k2 : ClassId) (st : Addr) (tt : Addr) (kk : ClassId) (ds : List Int32) (G1 : Int32) (h0 : Heap) (n0 : Nat) (Z0 : n0 ≤ h0.size) (OV : Sta Z Z.heap "com/example/words_into_queries/wordsintoqueries/formulation/TopicField" "$VALUES" "[Lcom/example/words_into_queries/wordsintoqueries/formulation/TopicField;" (.ref va)) (EV : Exa Z Z.heap va "[Lcom/example/words_into_queries/wordsintoqueries/formulation/TopicField;") (AV : Arv Z Z.heap va kv (.object "com/example/words_into_queries/wordsintoqueries/formulation/TopicField") (3 : Int32) [(.ref t0), (.ref t1), (.ref t2)] .null) (ZT0 : Exa Z Z.heap t0 "com/example/words_into_queries/wordsintoqueries/formulation/TopicField") (ZM0 : Fld Z Z.heap t0 "com/example/words_into_queries/wordsintoqueries/formulation/TopicField" "m_source" "Lcom/example/words_into_queries/wordsintoqueries/query/TermSource;" (.ref s0)) (ZS0 : Exa Z Z.heap s0 "com/example/words_into_queries/wordsintoqueries/query/TermSource") (ZN0 : Fld Z Z.heap s0 "com/example/words_into_queries/wordsintoqueries/query/TermSource" "m_name" "Ljava/lang/String;" (.ref x0)) (ZX00 : Exa Z Z.heap x0 "java/lang/String") (ZX01 : Fld Z Z.heap x0 "java/lang/String" "value" "[B" (.ref y0)) (ZX02 : Fld Z Z.heap x0 "java/lang/String" "coder" "B" (.int (0 : Int32))) (ZX03 : Arv Z Z.heap y0 k0 .byte (Int32.ofNat ([116, 105, 116, 108, 101] : List Int32).length) (own_bs ([116, 105, 116, 108, 101] : List Int32)) (.int 0)) (ZT1 : Exa Z Z.heap t1 "com/example/words_into_queries/wordsintoqueries/formulation/TopicField") (ZM1 : Fld Z Z.heap t1 "com/example/words_into_queries/wordsintoqueries/formulation/TopicField" "m_source" "Lcom/example/words_into_queries/wordsintoqueries/query/TermSource;" (.ref s1)) (ZS1 : Exa Z Z.heap s1 "com/example/words_into_queries/wordsintoqueries/query/TermSource") (ZN1 : Fld Z Z.heap s1 "com/example/words_into_queries/wordsintoqueries/query/TermSource" "m_name" "Ljava/lang/String;" (.ref x1)) (ZX10 : Exa Z Z.heap x1 "java/lang/String") (ZX11 : Fld Z Z.heap x1 "java/lang/String" "value" "[B" (.ref y1)) (ZX12 : Fld Z Z.heap x1 "java/lang/String" "coder" "B" (.int (0 : Int32))) (ZX13 : Arv Z Z.heap y1 k1 .byte (Int32.ofNat ([100, 101, 115, 99] : List Int32).length) (own_bs ([100, 101, 115, 99] : List Int32)) (.int 0)) (ZT2 : Exa Z Z.heap t2 "com/example/words_into_queries/wordsintoqueries/formulation/TopicField") (ZM2 : Fld Z Z.heap t2 "com/example/words_into_queries/wordsintoqueries/formulation/TopicField" "m_source" "Lcom/example/words_into_queries/wordsintoqueries/query/TermSource;" (.ref s2)) (ZS2 : Exa Z Z.heap s2 "com/example/words_into_queries/wordsintoqueries/query/TermSource") (ZN2 : Fld Z Z.heap s2 "com/example/words_into_queries/wordsintoqueries/query/TermSource" "m_name" "Ljava/lang/String;" (.ref x2)) (ZX20 : Exa Z Z.heap x2 "java/lang/String") (ZX21 : Fld Z Z.heap x2 "java/lang/String" "value" "[B" (.ref y2)) (ZX22 : Fld Z Z.heap x2 "java/lang/String" "coder" "B" (.int (0 : Int32))) (ZX23 : Arv Z Z.heap y2 k2 .byte (Int32.ofNat ([110, 97, 114, 114] : List Int32).length) (own_bs ([110, 97, 114, 114] : List Int32)) (.int 0)) (Pm27 : Exa Z h0 st "java/lang/String") (Pm28 : Fld Z h0 st "java/lang/String" "value" "[B" (.ref tt)) (Pm29 : Fld Z h0 st "java/lang/String" "coder" "B" (.int (0 : Int32))) (Pm30 : Arv Z h0 tt kk .byte (Int32.ofNat ds.length) (own_bs ds) (.int 0)) (hd : (∀ c ∈ ds, ¬ c < 0 ∧ ¬ (255 : Int32) < c)) (hl : (ds.length ≤ 6)) (O2 : Sta Z Z.heap "java/lang/String" "COMPACT_STRINGS" "Z" (.int G1)) (P5 : (¬ (G1 = (0 : Int32)))) (X00 : Old Z n0 h0) :
    MetFree l (⟨"com/example/words_into_queries/wordsintoqueries/formulation/TopicField", "find", "(Ljava/lang/String;)Lcom/example/words_into_queries/wordsintoqueries/formulation/TopicField;"⟩ : MethodName) (head1 (Jvm.Cond.code (⟨"com/example/words_into_queries/wordsintoqueries/formulation/TopicField", "find", "(Ljava/lang/String;)Lcom/example/words_into_queries/wordsintoqueries/formulation/TopicField;"⟩ : MethodName) prog_22_method_4_code 5 (some (.object "com/example/words_into_queries/wordsintoqueries/formulation/TopicField")) :: ws) ({ frames := 2, cells := 1, slots := 3, locals := 28 } : Room)) (fun aq U => aq = #[(.ref st)] ∧ Z.Warmed39 U.vm ∧ U.heap = h0) (fun _ _ _ _ _ => True) (fun _ U oq U' => ∃ vq Lq, oq = .returned vq ∧ Q_rmFind Z va kv t0 t1 t2 s0 x0 y0 k0 s1 x1 y1 k1 s2 x2 y2 k2 st tt kk ds G1 h0 n0 vq U'.heap Lq ∧ FrameEnd U oq U' Lq ({ frames := 2, cells := 1, slots := 3, locals := 28 } : Room).cells ({ frames := 2, cells := 1, slots := 3, locals := 28 } : Room).slots) := by
  refine MetFree.of_bodySF (plainFor_of_name own_pn_com_example_words_into_queries_wordsintoqueries_formulation_TopicField) hisR ?_
  intro p e s m args below meth c s₁ Bd hml0 hP hK
  obtain ⟨rfl, hZ, hh⟩ := hP
  have hx := Bd.exec
  have hby := Bd.bytes
  have hml : c.maxLocals = 5 := hml0
  have hown : s.vm.findClass "com/example/words_into_queries/wordsintoqueries/formulation/TopicField" = some m.cls := findClass_of_methodNamed Bd.named
  have hnm := (name_of_methodNamed Bd.named Bd.method).1
  have X0 : Stand p l e ({ frames := 2, cells := 1, slots := 3, locals := 28 } : Room) s m #[(.ref st)] below meth c s₁ [] 0 0 := Stand.of_body Bd
  have e0 : s₁.heap = h0 := by rw [← hh, Bd.state]; rfl
  have N0 := Fr.nil n0
  have K0 : Keep h0 h0 [] := Keep.refl _ _
  refine own_go (S' := s₁.setTop (mkF m 0 #[.val (.ref st), .unset, .unset, .unset, .unset] [])) (fun tq kq => castTop (own_ef_rmFind m va kv t0 t1 t2 s0 x0 y0 k0 s1 x1 y1 k1 s2 x2 y2 k2 st tt kk ds G1) kq) ?_
  have lt1 : @LT.lt Nat _ st h0.size := Pm27.lt
  have lt2 : @LT.lt Nat _ tt h0.size := Pm30.lt
  have heq : ∀ d ∈ StrChars.Road.wordsEq, d.before a0 Z = true := fun d hd => hw d ((by decide +kernel : ∀ d ∈ StrChars.Road.wordsEq, d ∈ tables_1) d hd)
  have hp3 : ∀ c ∈ ([116, 105, 116, 108, 101] : List Int32), ¬ c < 0 ∧ ¬ (255 : Int32) < c := by
    intro c hc
    simp only [List.mem_cons, List.not_mem_nil, or_false] at hc
    rcases hc with rfl | rfl | rfl | rfl | rfl
    · exact (by decide)
    · exact (by decide)
    · exact (by decide)
    · exact (by decide)
    · exact (by decide)
  have hp4 : ∀ c ∈ ([100, 101, 115, 99] : List Int32), ¬ c < 0 ∧ ¬ (255 : Int32) < c := by
    intro c hc
    simp only [List.mem_cons, List.not_mem_nil, or_false] at hc
    rcases hc with rfl | rfl | rfl | rfl
    · exact (by decide)
    · exact (by decide)
    · exact (by decide)
    · exact (by decide)
  have hp5 : ∀ c ∈ ([110, 97, 114, 114] : List Int32), ¬ c < 0 ∧ ¬ (255 : Int32) < c := by
    intro c hc
    simp only [List.mem_cons, List.not_mem_nil, or_false] at hc
    rcases hc with rfl | rfl | rfl | rfl
    · exact (by decide)
    · exact (by decide)
    · exact (by decide)
    · exact (by decide)
  have Zn6 : n0 ≤ h0.size := by omega
  obtain ⟨rv6, _, ⟨T6, L6, k6, n6⟩, -, X6, ⟨Lc6, hQ6, l6, y6, z6⟩, st6⟩ := Jvm.LawKit.callS X0 hx (y := (⟨"com/example/words_into_queries/wordsintoqueries/formulation/TopicField", "values", "()[Lcom/example/words_into_queries/wordsintoqueries/formulation/TopicField;"⟩ : MethodName)) hown (mvT hZ (hw _ (own_mi 44 rfl))) (mvT hZ (hw _ (own_mi 45 rfl))) (mvT hZ (hw _ (own_mi 42 rfl))) (mvT hZ (hw _ (own_mi 46 rfl))) (by decide) (backOf (W := 0) (rmVals l Z a0 hw [] (va) (kv) (t0) (t1) (t2) h0 n0 Zn6 (OV) EV AV X00) hZ (hw _ (own_mi 46 rfl)) (hw _ (own_mi 42 rfl)) (by decide) (by decide)) (g := (mkF m 0 #[.val (.ref st), .unset, .unset, .unset, .unset] [])) rfl (by rw [hml]; rfl) (argsL := []) (rest := []) (lenOf own_pd_28295bLcom2fexample2fwords_into_queries2fwordsintoqueries2fformulation2fTopicField3b rfl) rfl (by show 2 * 0 + _ ≤ _; exact Nat.le_of_eq rfl) (hb hby own_d6_0) (fun _ _ => ⟨rfl, e0, (by decide : 0 + 1 ≤ _), (by decide : 0 + 3 ≤ _)⟩)
  dsimp only [Pt.U, Pt.locs, Pt.cells, Pt.slots] at X6 l6 y6 z6 st6 hQ6
  subst l6 y6 z6
  obtain ⟨vv, rfl, Nq6, Kq6, G0_6⟩ := hQ6
  have N6 := Fr.app N0 Nq6
  have sz7 : h0.size ≤ T6.heap.size := Kq6.1
  have K7 := K0.trans Kq6 all0
  have lt8 : @LT.lt Nat _ vv T6.heap.size := G0_6.lt
  refine own_go st6 ?_
  show own_Rn p e below _ (T6.setTop (mkF m 3 #[.val (.ref st), .unset, .unset, .unset, .unset] [(.ref vv)]))
  refine own_go (fun tq kq => XS.astoreN X6.here hx rfl (hb hby own_d6_3) rfl rfl (l' := #[.val (.ref st), .val (.ref vv), .unset, .unset, .unset]) rfl kq) ?_
  show own_Rn p e below _ (T6.setTop (mkF m 4 #[.val (.ref st), .val (.ref vv), .unset, .unset, .unset] []))
  refine own_go (fun tq kq => XS.aloadN X6.here hx rfl (hb hby own_d6_4) rfl rfl kq) ?_
  show own_Rn p e below _ (T6.setTop (mkF m 5 #[.val (.ref st), .val (.ref vv), .unset, .unset, .unset] [(.ref vv)]))
  obtain ⟨cl9, Ar9, -, Sz9, Nn9, -, -⟩ := id G0_6
  refine own_go (fun tq kq => X6.arraylength hx (cell := cl9) Ar9.1 (State.isArrayOf_alike hZ.alike Ar9.2.1) (g := (mkF m 5 #[.val (.ref st), .val (.ref vv), .unset, .unset, .unset] [(.ref vv)])) rfl rfl (hb hby own_d6_5) tq kq) ?_
  rw [len_of Sz9 Nn9]
  show own_Rn p e below _ (T6.setTop (mkF m 6 #[.val (.ref st), .val (.ref vv), .unset, .unset, .unset] [(.int (3 : Int32))]))
  refine own_go (fun tq kq => XS.istoreN X6.here hx rfl (hb hby own_d6_6) rfl (l' := #[.val (.ref st), .val (.ref vv), .val (.int (3 : Int32)), .unset, .unset]) rfl kq) ?_
  show own_Rn p e below _ (T6.setTop (mkF m 7 #[.val (.ref st), .val (.ref vv), .val (.int (3 : Int32)), .unset, .unset] []))
  refine own_go (fun tq kq => XS.iconst X6.here hx rfl (hb hby own_d6_7) kq) ?_
  show own_Rn p e below _ (T6.setTop (mkF m 8 #[.val (.ref st), .val (.ref vv), .val (.int (3 : Int32)), .unset, .unset] [(.int (0 : Int32))]))
  refine own_go (fun tq kq => XS.istoreN X6.here hx rfl (hb hby own_d6_8) rfl (l' := #[.val (.ref st), .val (.ref vv), .val (.int (3 : Int32)), .val (.int (0 : Int32)), .unset]) rfl kq) ?_
  show own_Rn p e below _ (T6.setTop (mkF m 9 #[.val (.ref st), .val (.ref vv), .val (.int (3 : Int32)), .val (.int (0 : Int32)), .unset] []))
  refine own_go (fun tq kq => XS.iloadN X6.here hx rfl (hb hby own_d6_9) rfl kq) ?_
  show own_Rn p e below _ (T6.setTop (mkF m 10 #[.val (.ref st), .val (.ref vv), .val (.int (3 : Int32)), .val (.int (0 : Int32)), .unset] [(.int (0 : Int32))]))
  refine own_go (fun tq kq => XS.iloadN X6.here hx rfl (hb hby own_d6_10) rfl kq) ?_
  show own_Rn p e below _ (T6.setTop (mkF m 11 #[.val (.ref st), .val (.ref vv), .val (.int (3 : Int32)), .val (.int (0 : Int32)), .unset] [(.int (3 : Int32)), (.int (0 : Int32))]))
  refine own_go (fun tq kq => XS.icmpNo X6.here hx rfl (hb hby own_d6_11) rfl (tlt (by decide : (0 : Int32) < (3 : Int32))).2.1 kq) ?_
  show own_Rn p e below _ (T6.setTop (mkF m 14 #[.val (.ref st), .val (.ref vv), .val (.int (3 : Int32)), .val (.int (0 : Int32)), .unset] []))
  refine own_go (fun tq kq => XS.aloadN X6.here hx rfl (hb hby own_d6_14) rfl rfl kq) ?_
  show own_Rn p e below _ (T6.setTop (mkF m 15 #[.val (.ref st), .val (.ref vv), .val (.int (3 : Int32)), .val (.int (0 : Int32)), .unset] [(.ref vv)]))
  refine own_go (fun tq kq => XS.iloadN X6.here hx rfl (hb hby own_d6_15) rfl kq) ?_
  show own_Rn p e below _ (T6.setTop (mkF m 16 #[.val (.ref st), .val (.ref vv), .val (.int (3 : Int32)), .val (.int (0 : Int32)), .unset] [(.int (0 : Int32)), (.ref vv)]))
  obtain ⟨cl10, Ar10, q10, Sz10, Nn10, Hs10, G10⟩ := id G0_6
  have in10 := inb_of (j := (0 : Int32)) Sz10 ⟨by decide, by decide⟩
  refine own_go (fun tq kq => X6.aaload hx (j := (0 : Int32)) (v := (.ref t0)) Ar10.1 (State.isArrayOf_alike hZ.alike Ar10.2.1) rfl Ar10.2.2 in10 (Hs10.at in10 rfl) (g := (mkF m 16 #[.val (.ref st), .val (.ref vv), .val (.int (3 : Int32)), .val (.int (0 : Int32)), .unset] [(.int (0 : Int32)), (.ref vv)])) rfl rfl (hb hby own_d6_16) tq kq) ?_
  show own_Rn p e below _ (T6.setTop (mkF m 17 #[.val (.ref st), .val (.ref vv), .val (.int (3 : Int32)), .val (.int (0 : Int32)), .unset] [(.ref t0)]))
  refine own_go (fun tq kq => XS.astore X6.here hx rfl (hb hby own_d6_17) rfl rfl (l' := #[.val (.ref st), .val (.ref vv), .val (.int (3 : Int32)), .val (.int (0 : Int32)), .val (.ref t0)]) rfl kq) ?_
  show own_Rn p e below _ (T6.setTop (mkF m 19 #[.val (.ref st), .val (.ref vv), .val (.int (3 : Int32)), .val (.int (0 : Int32)), .val (.ref t0)] []))
  refine own_go (fun tq kq => XS.aload X6.here hx rfl (hb hby own_d6_19) rfl rfl kq) ?_
  show own_Rn p e below _ (T6.setTop (mkF m 21 #[.val (.ref st), .val (.ref vv), .val (.int (3 : Int32)), .val (.int (0 : Int32)), .val (.ref t0)] [(.ref t0)]))
  have Zn11 : n0 ≤ T6.heap.size := by omega
  have F13 : Old Z n0 T6.heap := (X00.keep Kq6 all0)
  have F12 : Fld Z T6.heap t0 "com/example/words_into_queries/wordsintoqueries/formulation/TopicField" "m_source" "Lcom/example/words_into_queries/wordsintoqueries/query/TermSource;" (.ref s0) := ZM0.ext F13.2
  have F14 : Exa Z T6.heap s0 "com/example/words_into_queries/wordsintoqueries/query/TermSource" := ZS0.ext F13.2
  have F15 : Fld Z T6.heap s0 "com/example/words_into_queries/wordsintoqueries/query/TermSource" "m_name" "Ljava/lang/String;" (.ref x0) := ZN0.ext F13.2
  have F16 : Exa Z T6.heap t0 "com/example/words_into_queries/wordsintoqueries/formulation/TopicField" := ZT0.ext F13.2
  obtain ⟨cq11, kq11, qa11, qb11, qc11⟩ := isOf hZ rfl F16
  obtain ⟨rv11, _, ⟨T11, L11, k11, n11⟩, -, X11, ⟨Lc11, hQ11, l11, y11, z11⟩, st11⟩ := X6.virtualBack hx (y := (⟨"com/example/words_into_queries/wordsintoqueries/formulation/TopicField", "getName", "()Ljava/lang/String;"⟩ : MethodName)) (z := (⟨"com/example/words_into_queries/wordsintoqueries/formulation/TopicField", "getName", "()Ljava/lang/String;"⟩ : MethodName)) hown (mvT hZ (hw _ (own_mi 62 rfl))) (mvT hZ (hw _ (own_mi 63 rfl))) (notFace_of_selects (args := #[]) (mvT hZ (hw _ (own_mi 65 rfl)))) (mvT hZ (hw _ (own_mi 65 rfl))) (mvT hZ (hw _ (own_mi 64 rfl))) (by decide) (backOf (W := 0) (rmGN l Z a0 hw [] (t0) (s0) (x0) T6.heap n0 Zn11 F12 F14 F15) hZ (hw _ (own_mi 66 rfl)) (hw _ (own_mi 42 rfl)) (by decide) (by decide)) qa11 qc11 (g := (mkF m 21 #[.val (.ref st), .val (.ref vv), .val (.int (3 : Int32)), .val (.int (0 : Int32)), .val (.ref t0)] [(.ref t0)])) rfl (by rw [hml]; rfl) (Steps.refl _) (argsL := []) (rest := []) (lenOf own_pd_2829Ljava2flang2fString3b rfl) rfl (by show 2 * 0 + _ ≤ _; exact Nat.le_of_eq rfl) (hb hby own_d6_21) (fun _ _ => ⟨rfl, rfl, (by decide : 1 + 0 ≤ _), (by decide : 3 + 0 ≤ _)⟩)
  dsimp only [Pt.U, Pt.locs, Pt.cells, Pt.slots] at X11 l11 y11 z11 st11 hQ11
  subst l11 y11 z11
  obtain ⟨rfl, Nq11, eh11⟩ := hQ11
  have N11 := Fr.app N6 Nq11
  refine own_go (fun tq kq => st11.trans kq) ?_
  show own_Rn p e below _ (T11.setTop (mkF m 24 #[.val (.ref st), .val (.ref vv), .val (.int (3 : Int32)), .val (.int (0 : Int32)), .val (.ref t0)] [(.ref x0)]))
  refine own_go (fun tq kq => XS.aloadN X11.here hx rfl (hb hby own_d6_24) rfl rfl kq) ?_
  show own_Rn p e below _ (T11.setTop (mkF m 25 #[.val (.ref st), .val (.ref vv), .val (.int (3 : Int32)), .val (.int (0 : Int32)), .val (.ref t0)] [(.ref st), (.ref x0)]))
  have F17 : Exa Z T6.heap x0 "java/lang/String" := ZX00.ext F13.2
  have F18 : Fld Z T6.heap x0 "java/lang/String" "value" "[B" (.ref y0) := ZX01.ext F13.2
  have F19 : Fld Z T6.heap x0 "java/lang/String" "coder" "B" (.int (0 : Int32)) := ZX02.ext F13.2
  have F20 : Arv Z T6.heap y0 k0 .byte (Int32.ofNat ([116, 105, 116, 108, 101] : List Int32).length) (own_bs ([116, 105, 116, 108, 101] : List Int32)) (.int 0) := ZX03.ext F13.2
  have F21 : Exa Z T6.heap st "java/lang/String" := (Pm27.keep Kq6)
  have F22 : Fld Z T6.heap st "java/lang/String" "value" "[B" (.ref tt) := (Pm28.keep Kq6 nin0)
  have F23 : Fld Z T6.heap st "java/lang/String" "coder" "B" (.int (0 : Int32)) := (Pm29.keep Kq6 nin0)
  have F24 : Arv Z T6.heap tt kk .byte (Int32.ofNat ds.length) (own_bs ds) (.int 0) := (Pm30.keep Kq6 nin0)
  obtain ⟨cq25, kq25, qa25, qb25, qc25⟩ := isOf hZ eh11 F17
  obtain ⟨rv25, _, ⟨T25, L25, k25, n25⟩, -, X25, ⟨Lc25, hQ25, l25, y25, z25⟩, st25⟩ := X11.virtualBack hx (y := (⟨"java/lang/String", "equals", "(Ljava/lang/Object;)Z"⟩ : MethodName)) (z := (⟨"java/lang/String", "equals", "(Ljava/lang/Object;)Z"⟩ : MethodName)) hown (mvT hZ (hw _ (own_mi 78 rfl))) (mvT hZ (hw _ (own_mi 28 rfl))) (notFace_of_selects (args := #[]) (mvT hZ (hw _ (own_mi 30 rfl)))) (mvT hZ (hw _ (own_mi 30 rfl))) (mvT hZ (hw _ (own_mi 29 rfl))) (by decide) (StrChars.Road.eqW (W := 0) hZ heq (kI := 4) (hw _ (own_mi 6 rfl)) F17 F18 F19 F20 (cs := ([116, 105, 116, 108, 101] : List Int32)) (StrChars.Road.codOf rfl (fun c hc => (hp3 c hc).2)) (fun c hc => own_up c (hp3 c hc)) (by decide) F21 F22 F23 F24 (ds := ds) (StrChars.Road.codOf rfl (fun c hc => (hd c hc).2)) (fun c hc => own_up c (hd c hc)) (by omega) (O2.ext F13.2) P5 (by decide) (by decide)) qa25 qc25 (g := (mkF m 25 #[.val (.ref st), .val (.ref vv), .val (.int (3 : Int32)), .val (.int (0 : Int32)), .val (.ref t0)] [(.ref st), (.ref x0)])) rfl (by rw [hml]; rfl) (Steps.refl _) (argsL := [(.ref st)]) (rest := []) (lenOf own_pd_28Ljava2flang2fObject3b29Z rfl) rfl (by show 2 * 0 + _ ≤ _; exact Nat.le_of_eq rfl) (hb hby own_d6_25) (fun _ _ => ⟨rfl, eh11, (by decide : 1 + 0 ≤ _), (by decide : 3 + 0 ≤ _)⟩)
  dsimp only [Pt.U, Pt.locs, Pt.cells, Pt.slots] at X25 l25 y25 z25 st25 hQ25
  subst l25 y25 z25
  obtain ⟨hv25, rfl, eh25⟩ := hQ25
  have N25 := Fr.app N11 (Fr.nil n0)
  obtain ⟨ev25, rfl, hev25⟩ : ∃ z : Int32, rv25 = some (.int z) ∧ ((z = 1 ∧ ([116, 105, 116, 108, 101] : List Int32) = ds) ∨ (z = 0 ∧ ¬ ([116, 105, 116, 108, 101] : List Int32) = ds)) := by
    rcases hv25 with ⟨h, h2⟩ | ⟨h, h2⟩
    · exact ⟨1, h, Or.inl ⟨rfl, h2⟩⟩
    · exact ⟨0, h, Or.inr ⟨rfl, h2⟩⟩
  refine own_go (fun tq kq => st25.trans kq) ?_
  show own_Rn p e below _ (T25.setTop (mkF m 28 #[.val (.ref st), .val (.ref vv), .val (.int (3 : Int32)), .val (.int (0 : Int32)), .val (.ref t0)] [(.int ev25)]))
  rcases hev25 with ⟨ee25, hq0⟩ | ⟨ee25, hq0⟩
  · skip
    refine own_go (fun tq kq => XS.ifNo X25.here hx rfl (hb hby own_d6_28) rfl ((if0 _ _).trans (feq (by rw [ee25]; decide : ¬ (ev25 = (0 : Int32)))).1) kq) ?_
    show own_Rn p e below _ (T25.setTop (mkF m 31 #[.val (.ref st), .val (.ref vv), .val (.int (3 : Int32)), .val (.int (0 : Int32)), .val (.ref t0)] []))
    refine own_go (fun tq kq => XS.aload X25.here hx rfl (hb hby own_d6_31) rfl rfl kq) ?_
    show own_Rn p e below _ (T25.setTop (mkF m 33 #[.val (.ref st), .val (.ref vv), .val (.int (3 : Int32)), .val (.int (0 : Int32)), .val (.ref t0)] [(.ref t0)]))
    exact own_ret X25 (v := some (.ref t0)) (fun h => by rw [Bd.returns] at h; cases h) (fun fs hr => X25.areturnOut hx rfl Bd.returns rfl (hb hby own_d6_33) hr) (by rw [eh25]; exact ⟨by rw [own_fv, if_pos hq0], N25, K7⟩) (by decide) (by decide)
  · skip
    refine own_go (fun tq kq => XS.ifYes X25.here hx rfl (pc0 := 28) (pc' := 34) rfl (hb hby own_d6_28) rfl ((if0 _ _).trans (teq (ee25 : ev25 = (0 : Int32))).1) (by decide) (by decide) kq) ?_
    show own_Rn p e below _ (T25.setTop (mkF m 34 #[.val (.ref st), .val (.ref vv), .val (.int (3 : Int32)), .val (.int (0 : Int32)), .val (.ref t0)] []))
    refine own_go (fun tq kq => XS.iinc X25.here hx rfl (hb hby own_d6_34) rfl (l' := #[.val (.ref st), .val (.ref vv), .val (.int (3 : Int32)), .val (.int ((0 : Int32) + (1 : Int32))), .val (.ref t0)]) rfl kq) ?_
    show own_Rn p e below _ (T25.setTop (mkF m 37 #[.val (.ref st), .val (.ref vv), .val (.int (3 : Int32)), .val (.int ((0 : Int32) + (1 : Int32))), .val (.ref t0)] []))
    refine own_go (fun tq kq => XS.goto X25.here hx rfl (pc0 := 37) (pc' := 9) rfl (hb hby own_d6_37) (by decide) (by decide) kq) ?_
    show own_Rn p e below _ (T25.setTop (mkF m 9 #[.val (.ref st), .val (.ref vv), .val (.int (3 : Int32)), .val (.int ((0 : Int32) + (1 : Int32))), .val (.ref t0)] []))
    refine own_go (fun tq kq => XS.iloadN X25.here hx rfl (hb hby own_d6_9) rfl kq) ?_
    show own_Rn p e below _ (T25.setTop (mkF m 10 #[.val (.ref st), .val (.ref vv), .val (.int (3 : Int32)), .val (.int ((0 : Int32) + (1 : Int32))), .val (.ref t0)] [(.int ((0 : Int32) + (1 : Int32)))]))
    refine own_go (fun tq kq => XS.iloadN X25.here hx rfl (hb hby own_d6_10) rfl kq) ?_
    show own_Rn p e below _ (T25.setTop (mkF m 11 #[.val (.ref st), .val (.ref vv), .val (.int (3 : Int32)), .val (.int ((0 : Int32) + (1 : Int32))), .val (.ref t0)] [(.int (3 : Int32)), (.int ((0 : Int32) + (1 : Int32)))]))
    refine own_go (fun tq kq => XS.icmpNo X25.here hx rfl (hb hby own_d6_11) rfl (tlt (by decide : ((0 : Int32) + (1 : Int32)) < (3 : Int32))).2.1 kq) ?_
    show own_Rn p e below _ (T25.setTop (mkF m 14 #[.val (.ref st), .val (.ref vv), .val (.int (3 : Int32)), .val (.int ((0 : Int32) + (1 : Int32))), .val (.ref t0)] []))
    refine own_go (fun tq kq => XS.aloadN X25.here hx rfl (hb hby own_d6_14) rfl rfl kq) ?_
    show own_Rn p e below _ (T25.setTop (mkF m 15 #[.val (.ref st), .val (.ref vv), .val (.int (3 : Int32)), .val (.int ((0 : Int32) + (1 : Int32))), .val (.ref t0)] [(.ref vv)]))
    refine own_go (fun tq kq => XS.iloadN X25.here hx rfl (hb hby own_d6_15) rfl kq) ?_
    show own_Rn p e below _ (T25.setTop (mkF m 16 #[.val (.ref st), .val (.ref vv), .val (.int (3 : Int32)), .val (.int ((0 : Int32) + (1 : Int32))), .val (.ref t0)] [(.int ((0 : Int32) + (1 : Int32))), (.ref vv)]))
    obtain ⟨cl26, Ar26, q26, Sz26, Nn26, Hs26, G26⟩ := id G0_6
    have in26 := inb_of (j := ((0 : Int32) + (1 : Int32))) Sz26 ⟨by decide, by decide⟩
    refine own_go (fun tq kq => X25.aaload hx (j := ((0 : Int32) + (1 : Int32))) (v := (.ref t1)) (by rw [eh25]; exact Ar26.1) (State.isArrayOf_alike hZ.alike Ar26.2.1) rfl Ar26.2.2 in26 (Hs26.at in26 rfl) (g := (mkF m 16 #[.val (.ref st), .val (.ref vv), .val (.int (3 : Int32)), .val (.int ((0 : Int32) + (1 : Int32))), .val (.ref t0)] [(.int ((0 : Int32) + (1 : Int32))), (.ref vv)])) rfl rfl (hb hby own_d6_16) tq kq) ?_
    show own_Rn p e below _ (T25.setTop (mkF m 17 #[.val (.ref st), .val (.ref vv), .val (.int (3 : Int32)), .val (.int ((0 : Int32) + (1 : Int32))), .val (.ref t0)] [(.ref t1)]))
    refine own_go (fun tq kq => XS.astore X25.here hx rfl (hb hby own_d6_17) rfl rfl (l' := #[.val (.ref st), .val (.ref vv), .val (.int (3 : Int32)), .val (.int ((0 : Int32) + (1 : Int32))), .val (.ref t1)]) rfl kq) ?_
    show own_Rn p e below _ (T25.setTop (mkF m 19 #[.val (.ref st), .val (.ref vv), .val (.int (3 : Int32)), .val (.int ((0 : Int32) + (1 : Int32))), .val (.ref t1)] []))
    refine own_go (fun tq kq => XS.aload X25.here hx rfl (hb hby own_d6_19) rfl rfl kq) ?_
    show own_Rn p e below _ (T25.setTop (mkF m 21 #[.val (.ref st), .val (.ref vv), .val (.int (3 : Int32)), .val (.int ((0 : Int32) + (1 : Int32))), .val (.ref t1)] [(.ref t1)]))
    have Zn27 : n0 ≤ T6.heap.size := by omega
    have F28 : Fld Z T6.heap t1 "com/example/words_into_queries/wordsintoqueries/formulation/TopicField" "m_source" "Lcom/example/words_into_queries/wordsintoqueries/query/TermSource;" (.ref s1) := ZM1.ext F13.2
    have F29 : Exa Z T6.heap s1 "com/example/words_into_queries/wordsintoqueries/query/TermSource" := ZS1.ext F13.2
    have F30 : Fld Z T6.heap s1 "com/example/words_into_queries/wordsintoqueries/query/TermSource" "m_name" "Ljava/lang/String;" (.ref x1) := ZN1.ext F13.2
    have F31 : Exa Z T6.heap t1 "com/example/words_into_queries/wordsintoqueries/formulation/TopicField" := ZT1.ext F13.2
    obtain ⟨cq27, kq27, qa27, qb27, qc27⟩ := isOf hZ eh25 F31
    obtain ⟨rv27, _, ⟨T27, L27, k27, n27⟩, -, X27, ⟨Lc27, hQ27, l27, y27, z27⟩, st27⟩ := X25.virtualBack hx (y := (⟨"com/example/words_into_queries/wordsintoqueries/formulation/TopicField", "getName", "()Ljava/lang/String;"⟩ : MethodName)) (z := (⟨"com/example/words_into_queries/wordsintoqueries/formulation/TopicField", "getName", "()Ljava/lang/String;"⟩ : MethodName)) hown (mvT hZ (hw _ (own_mi 62 rfl))) (mvT hZ (hw _ (own_mi 63 rfl))) (notFace_of_selects (args := #[]) (mvT hZ (hw _ (own_mi 65 rfl)))) (mvT hZ (hw _ (own_mi 65 rfl))) (mvT hZ (hw _ (own_mi 64 rfl))) (by decide) (backOf (W := 0) (rmGN l Z a0 hw [] (t1) (s1) (x1) T6.heap n0 Zn27 F28 F29 F30) hZ (hw _ (own_mi 66 rfl)) (hw _ (own_mi 42 rfl)) (by decide) (by decide)) qa27 qc27 (g := (mkF m 21 #[.val (.ref st), .val (.ref vv), .val (.int (3 : Int32)), .val (.int ((0 : Int32) + (1 : Int32))), .val (.ref t1)] [(.ref t1)])) rfl (by rw [hml]; rfl) (Steps.refl _) (argsL := []) (rest := []) (lenOf own_pd_2829Ljava2flang2fString3b rfl) rfl (by show 2 * 0 + _ ≤ _; exact Nat.le_of_eq rfl) (hb hby own_d6_21) (fun _ _ => ⟨rfl, eh25, (by decide : 1 + 0 ≤ _), (by decide : 3 + 0 ≤ _)⟩)
    dsimp only [Pt.U, Pt.locs, Pt.cells, Pt.slots] at X27 l27 y27 z27 st27 hQ27
    subst l27 y27 z27
    obtain ⟨rfl, Nq27, eh27⟩ := hQ27
    have N27 := Fr.app N25 Nq27
    refine own_go (fun tq kq => st27.trans kq) ?_
    show own_Rn p e below _ (T27.setTop (mkF m 24 #[.val (.ref st), .val (.ref vv), .val (.int (3 : Int32)), .val (.int ((0 : Int32) + (1 : Int32))), .val (.ref t1)] [(.ref x1)]))
    refine own_go (fun tq kq => XS.aloadN X27.here hx rfl (hb hby own_d6_24) rfl rfl kq) ?_
    show own_Rn p e below _ (T27.setTop (mkF m 25 #[.val (.ref st), .val (.ref vv), .val (.int (3 : Int32)), .val (.int ((0 : Int32) + (1 : Int32))), .val (.ref t1)] [(.ref st), (.ref x1)]))
    have F32 : Exa Z T6.heap x1 "java/lang/String" := ZX10.ext F13.2
    have F33 : Fld Z T6.heap x1 "java/lang/String" "value" "[B" (.ref y1) := ZX11.ext F13.2
    have F34 : Fld Z T6.heap x1 "java/lang/String" "coder" "B" (.int (0 : Int32)) := ZX12.ext F13.2
    have F35 : Arv Z T6.heap y1 k1 .byte (Int32.ofNat ([100, 101, 115, 99] : List Int32).length) (own_bs ([100, 101, 115, 99] : List Int32)) (.int 0) := ZX13.ext F13.2
    obtain ⟨cq36, kq36, qa36, qb36, qc36⟩ := isOf hZ eh27 F32
    obtain ⟨rv36, _, ⟨T36, L36, k36, n36⟩, -, X36, ⟨Lc36, hQ36, l36, y36, z36⟩, st36⟩ := X27.virtualBack hx (y := (⟨"java/lang/String", "equals", "(Ljava/lang/Object;)Z"⟩ : MethodName)) (z := (⟨"java/lang/String", "equals", "(Ljava/lang/Object;)Z"⟩ : MethodName)) hown (mvT hZ (hw _ (own_mi 78 rfl))) (mvT hZ (hw _ (own_mi 28 rfl))) (notFace_of_selects (args := #[]) (mvT hZ (hw _ (own_mi 30 rfl)))) (mvT hZ (hw _ (own_mi 30 rfl))) (mvT hZ (hw _ (own_mi 29 rfl))) (by decide) (StrChars.Road.eqW (W := 0) hZ heq (kI := 4) (hw _ (own_mi 6 rfl)) F32 F33 F34 F35 (cs := ([100, 101, 115, 99] : List Int32)) (StrChars.Road.codOf rfl (fun c hc => (hp4 c hc).2)) (fun c hc => own_up c (hp4 c hc)) (by decide) F21 F22 F23 F24 (ds := ds) (StrChars.Road.codOf rfl (fun c hc => (hd c hc).2)) (fun c hc => own_up c (hd c hc)) (by omega) (O2.ext F13.2) P5 (by decide) (by decide)) qa36 qc36 (g := (mkF m 25 #[.val (.ref st), .val (.ref vv), .val (.int (3 : Int32)), .val (.int ((0 : Int32) + (1 : Int32))), .val (.ref t1)] [(.ref st), (.ref x1)])) rfl (by rw [hml]; rfl) (Steps.refl _) (argsL := [(.ref st)]) (rest := []) (lenOf own_pd_28Ljava2flang2fObject3b29Z rfl) rfl (by show 2 * 0 + _ ≤ _; exact Nat.le_of_eq rfl) (hb hby own_d6_25) (fun _ _ => ⟨rfl, eh27, (by decide : 1 + 0 ≤ _), (by decide : 3 + 0 ≤ _)⟩)
    dsimp only [Pt.U, Pt.locs, Pt.cells, Pt.slots] at X36 l36 y36 z36 st36 hQ36
    subst l36 y36 z36
    obtain ⟨hv36, rfl, eh36⟩ := hQ36
    have N36 := Fr.app N27 (Fr.nil n0)
    obtain ⟨ev36, rfl, hev36⟩ : ∃ z : Int32, rv36 = some (.int z) ∧ ((z = 1 ∧ ([100, 101, 115, 99] : List Int32) = ds) ∨ (z = 0 ∧ ¬ ([100, 101, 115, 99] : List Int32) = ds)) := by
      rcases hv36 with ⟨h, h2⟩ | ⟨h, h2⟩
      · exact ⟨1, h, Or.inl ⟨rfl, h2⟩⟩
      · exact ⟨0, h, Or.inr ⟨rfl, h2⟩⟩
    refine own_go (fun tq kq => st36.trans kq) ?_
    show own_Rn p e below _ (T36.setTop (mkF m 28 #[.val (.ref st), .val (.ref vv), .val (.int (3 : Int32)), .val (.int ((0 : Int32) + (1 : Int32))), .val (.ref t1)] [(.int ev36)]))
    rcases hev36 with ⟨ee36, hq1⟩ | ⟨ee36, hq1⟩
    · skip
      refine own_go (fun tq kq => XS.ifNo X36.here hx rfl (hb hby own_d6_28) rfl ((if0 _ _).trans (feq (by rw [ee36]; decide : ¬ (ev36 = (0 : Int32)))).1) kq) ?_
      show own_Rn p e below _ (T36.setTop (mkF m 31 #[.val (.ref st), .val (.ref vv), .val (.int (3 : Int32)), .val (.int ((0 : Int32) + (1 : Int32))), .val (.ref t1)] []))
      refine own_go (fun tq kq => XS.aload X36.here hx rfl (hb hby own_d6_31) rfl rfl kq) ?_
      show own_Rn p e below _ (T36.setTop (mkF m 33 #[.val (.ref st), .val (.ref vv), .val (.int (3 : Int32)), .val (.int ((0 : Int32) + (1 : Int32))), .val (.ref t1)] [(.ref t1)]))
      exact own_ret X36 (v := some (.ref t1)) (fun h => by rw [Bd.returns] at h; cases h) (fun fs hr => X36.areturnOut hx rfl Bd.returns rfl (hb hby own_d6_33) hr) (by rw [eh36]; exact ⟨by rw [own_fv, if_neg hq0, if_pos hq1], N36, K7⟩) (by decide) (by decide)
    · skip
      refine own_go (fun tq kq => XS.ifYes X36.here hx rfl (pc0 := 28) (pc' := 34) rfl (hb hby own_d6_28) rfl ((if0 _ _).trans (teq (ee36 : ev36 = (0 : Int32))).1) (by decide) (by decide) kq) ?_
      show own_Rn p e below _ (T36.setTop (mkF m 34 #[.val (.ref st), .val (.ref vv), .val (.int (3 : Int32)), .val (.int ((0 : Int32) + (1 : Int32))), .val (.ref t1)] []))
      refine own_go (fun tq kq => XS.iinc X36.here hx rfl (hb hby own_d6_34) rfl (l' := #[.val (.ref st), .val (.ref vv), .val (.int (3 : Int32)), .val (.int (((0 : Int32) + (1 : Int32)) + (1 : Int32))), .val (.ref t1)]) rfl kq) ?_
      show own_Rn p e below _ (T36.setTop (mkF m 37 #[.val (.ref st), .val (.ref vv), .val (.int (3 : Int32)), .val (.int (((0 : Int32) + (1 : Int32)) + (1 : Int32))), .val (.ref t1)] []))
      refine own_go (fun tq kq => XS.goto X36.here hx rfl (pc0 := 37) (pc' := 9) rfl (hb hby own_d6_37) (by decide) (by decide) kq) ?_
      show own_Rn p e below _ (T36.setTop (mkF m 9 #[.val (.ref st), .val (.ref vv), .val (.int (3 : Int32)), .val (.int (((0 : Int32) + (1 : Int32)) + (1 : Int32))), .val (.ref t1)] []))
      refine own_go (fun tq kq => XS.iloadN X36.here hx rfl (hb hby own_d6_9) rfl kq) ?_
      show own_Rn p e below _ (T36.setTop (mkF m 10 #[.val (.ref st), .val (.ref vv), .val (.int (3 : Int32)), .val (.int (((0 : Int32) + (1 : Int32)) + (1 : Int32))), .val (.ref t1)] [(.int (((0 : Int32) + (1 : Int32)) + (1 : Int32)))]))
      refine own_go (fun tq kq => XS.iloadN X36.here hx rfl (hb hby own_d6_10) rfl kq) ?_
      show own_Rn p e below _ (T36.setTop (mkF m 11 #[.val (.ref st), .val (.ref vv), .val (.int (3 : Int32)), .val (.int (((0 : Int32) + (1 : Int32)) + (1 : Int32))), .val (.ref t1)] [(.int (3 : Int32)), (.int (((0 : Int32) + (1 : Int32)) + (1 : Int32)))]))
      refine own_go (fun tq kq => XS.icmpNo X36.here hx rfl (hb hby own_d6_11) rfl (tlt (by decide : (((0 : Int32) + (1 : Int32)) + (1 : Int32)) < (3 : Int32))).2.1 kq) ?_
      show own_Rn p e below _ (T36.setTop (mkF m 14 #[.val (.ref st), .val (.ref vv), .val (.int (3 : Int32)), .val (.int (((0 : Int32) + (1 : Int32)) + (1 : Int32))), .val (.ref t1)] []))
      refine own_go (fun tq kq => XS.aloadN X36.here hx rfl (hb hby own_d6_14) rfl rfl kq) ?_
      show own_Rn p e below _ (T36.setTop (mkF m 15 #[.val (.ref st), .val (.ref vv), .val (.int (3 : Int32)), .val (.int (((0 : Int32) + (1 : Int32)) + (1 : Int32))), .val (.ref t1)] [(.ref vv)]))
      refine own_go (fun tq kq => XS.iloadN X36.here hx rfl (hb hby own_d6_15) rfl kq) ?_
      show own_Rn p e below _ (T36.setTop (mkF m 16 #[.val (.ref st), .val (.ref vv), .val (.int (3 : Int32)), .val (.int (((0 : Int32) + (1 : Int32)) + (1 : Int32))), .val (.ref t1)] [(.int (((0 : Int32) + (1 : Int32)) + (1 : Int32))), (.ref vv)]))
      obtain ⟨cl37, Ar37, q37, Sz37, Nn37, Hs37, G37⟩ := id G0_6
      have in37 := inb_of (j := (((0 : Int32) + (1 : Int32)) + (1 : Int32))) Sz37 ⟨by decide, by decide⟩
      refine own_go (fun tq kq => X36.aaload hx (j := (((0 : Int32) + (1 : Int32)) + (1 : Int32))) (v := (.ref t2)) (by rw [eh36]; exact Ar37.1) (State.isArrayOf_alike hZ.alike Ar37.2.1) rfl Ar37.2.2 in37 (Hs37.at in37 rfl) (g := (mkF m 16 #[.val (.ref st), .val (.ref vv), .val (.int (3 : Int32)), .val (.int (((0 : Int32) + (1 : Int32)) + (1 : Int32))), .val (.ref t1)] [(.int (((0 : Int32) + (1 : Int32)) + (1 : Int32))), (.ref vv)])) rfl rfl (hb hby own_d6_16) tq kq) ?_
      show own_Rn p e below _ (T36.setTop (mkF m 17 #[.val (.ref st), .val (.ref vv), .val (.int (3 : Int32)), .val (.int (((0 : Int32) + (1 : Int32)) + (1 : Int32))), .val (.ref t1)] [(.ref t2)]))
      refine own_go (fun tq kq => XS.astore X36.here hx rfl (hb hby own_d6_17) rfl rfl (l' := #[.val (.ref st), .val (.ref vv), .val (.int (3 : Int32)), .val (.int (((0 : Int32) + (1 : Int32)) + (1 : Int32))), .val (.ref t2)]) rfl kq) ?_
      show own_Rn p e below _ (T36.setTop (mkF m 19 #[.val (.ref st), .val (.ref vv), .val (.int (3 : Int32)), .val (.int (((0 : Int32) + (1 : Int32)) + (1 : Int32))), .val (.ref t2)] []))
      refine own_go (fun tq kq => XS.aload X36.here hx rfl (hb hby own_d6_19) rfl rfl kq) ?_
      show own_Rn p e below _ (T36.setTop (mkF m 21 #[.val (.ref st), .val (.ref vv), .val (.int (3 : Int32)), .val (.int (((0 : Int32) + (1 : Int32)) + (1 : Int32))), .val (.ref t2)] [(.ref t2)]))
      have Zn38 : n0 ≤ T6.heap.size := by omega
      have F39 : Fld Z T6.heap t2 "com/example/words_into_queries/wordsintoqueries/formulation/TopicField" "m_source" "Lcom/example/words_into_queries/wordsintoqueries/query/TermSource;" (.ref s2) := ZM2.ext F13.2
      have F40 : Exa Z T6.heap s2 "com/example/words_into_queries/wordsintoqueries/query/TermSource" := ZS2.ext F13.2
      have F41 : Fld Z T6.heap s2 "com/example/words_into_queries/wordsintoqueries/query/TermSource" "m_name" "Ljava/lang/String;" (.ref x2) := ZN2.ext F13.2
      have F42 : Exa Z T6.heap t2 "com/example/words_into_queries/wordsintoqueries/formulation/TopicField" := ZT2.ext F13.2
      obtain ⟨cq38, kq38, qa38, qb38, qc38⟩ := isOf hZ eh36 F42
      obtain ⟨rv38, _, ⟨T38, L38, k38, n38⟩, -, X38, ⟨Lc38, hQ38, l38, y38, z38⟩, st38⟩ := X36.virtualBack hx (y := (⟨"com/example/words_into_queries/wordsintoqueries/formulation/TopicField", "getName", "()Ljava/lang/String;"⟩ : MethodName)) (z := (⟨"com/example/words_into_queries/wordsintoqueries/formulation/TopicField", "getName", "()Ljava/lang/String;"⟩ : MethodName)) hown (mvT hZ (hw _ (own_mi 62 rfl))) (mvT hZ (hw _ (own_mi 63 rfl))) (notFace_of_selects (args := #[]) (mvT hZ (hw _ (own_mi 65 rfl)))) (mvT hZ (hw _ (own_mi 65 rfl))) (mvT hZ (hw _ (own_mi 64 rfl))) (by decide) (backOf (W := 0) (rmGN l Z a0 hw [] (t2) (s2) (x2) T6.heap n0 Zn38 F39 F40 F41) hZ (hw _ (own_mi 66 rfl)) (hw _ (own_mi 42 rfl)) (by decide) (by decide)) qa38 qc38 (g := (mkF m 21 #[.val (.ref st), .val (.ref vv), .val (.int (3 : Int32)), .val (.int (((0 : Int32) + (1 : Int32)) + (1 : Int32))), .val (.ref t2)] [(.ref t2)])) rfl (by rw [hml]; rfl) (Steps.refl _) (argsL := []) (rest := []) (lenOf own_pd_2829Ljava2flang2fString3b rfl) rfl (by show 2 * 0 + _ ≤ _; exact Nat.le_of_eq rfl) (hb hby own_d6_21) (fun _ _ => ⟨rfl, eh36, (by decide : 1 + 0 ≤ _), (by decide : 3 + 0 ≤ _)⟩)
      dsimp only [Pt.U, Pt.locs, Pt.cells, Pt.slots] at X38 l38 y38 z38 st38 hQ38
      subst l38 y38 z38
      obtain ⟨rfl, Nq38, eh38⟩ := hQ38
      have N38 := Fr.app N36 Nq38
      refine own_go (fun tq kq => st38.trans kq) ?_
      show own_Rn p e below _ (T38.setTop (mkF m 24 #[.val (.ref st), .val (.ref vv), .val (.int (3 : Int32)), .val (.int (((0 : Int32) + (1 : Int32)) + (1 : Int32))), .val (.ref t2)] [(.ref x2)]))
      refine own_go (fun tq kq => XS.aloadN X38.here hx rfl (hb hby own_d6_24) rfl rfl kq) ?_
      show own_Rn p e below _ (T38.setTop (mkF m 25 #[.val (.ref st), .val (.ref vv), .val (.int (3 : Int32)), .val (.int (((0 : Int32) + (1 : Int32)) + (1 : Int32))), .val (.ref t2)] [(.ref st), (.ref x2)]))
      have F43 : Exa Z T6.heap x2 "java/lang/String" := ZX20.ext F13.2
      have F44 : Fld Z T6.heap x2 "java/lang/String" "value" "[B" (.ref y2) := ZX21.ext F13.2
      have F45 : Fld Z T6.heap x2 "java/lang/String" "coder" "B" (.int (0 : Int32)) := ZX22.ext F13.2
      have F46 : Arv Z T6.heap y2 k2 .byte (Int32.ofNat ([110, 97, 114, 114] : List Int32).length) (own_bs ([110, 97, 114, 114] : List Int32)) (.int 0) := ZX23.ext F13.2
      obtain ⟨cq47, kq47, qa47, qb47, qc47⟩ := isOf hZ eh38 F43
      obtain ⟨rv47, _, ⟨T47, L47, k47, n47⟩, -, X47, ⟨Lc47, hQ47, l47, y47, z47⟩, st47⟩ := X38.virtualBack hx (y := (⟨"java/lang/String", "equals", "(Ljava/lang/Object;)Z"⟩ : MethodName)) (z := (⟨"java/lang/String", "equals", "(Ljava/lang/Object;)Z"⟩ : MethodName)) hown (mvT hZ (hw _ (own_mi 78 rfl))) (mvT hZ (hw _ (own_mi 28 rfl))) (notFace_of_selects (args := #[]) (mvT hZ (hw _ (own_mi 30 rfl)))) (mvT hZ (hw _ (own_mi 30 rfl))) (mvT hZ (hw _ (own_mi 29 rfl))) (by decide) (StrChars.Road.eqW (W := 0) hZ heq (kI := 4) (hw _ (own_mi 6 rfl)) F43 F44 F45 F46 (cs := ([110, 97, 114, 114] : List Int32)) (StrChars.Road.codOf rfl (fun c hc => (hp5 c hc).2)) (fun c hc => own_up c (hp5 c hc)) (by decide) F21 F22 F23 F24 (ds := ds) (StrChars.Road.codOf rfl (fun c hc => (hd c hc).2)) (fun c hc => own_up c (hd c hc)) (by omega) (O2.ext F13.2) P5 (by decide) (by decide)) qa47 qc47 (g := (mkF m 25 #[.val (.ref st), .val (.ref vv), .val (.int (3 : Int32)), .val (.int (((0 : Int32) + (1 : Int32)) + (1 : Int32))), .val (.ref t2)] [(.ref st), (.ref x2)])) rfl (by rw [hml]; rfl) (Steps.refl _) (argsL := [(.ref st)]) (rest := []) (lenOf own_pd_28Ljava2flang2fObject3b29Z rfl) rfl (by show 2 * 0 + _ ≤ _; exact Nat.le_of_eq rfl) (hb hby own_d6_25) (fun _ _ => ⟨rfl, eh38, (by decide : 1 + 0 ≤ _), (by decide : 3 + 0 ≤ _)⟩)
      dsimp only [Pt.U, Pt.locs, Pt.cells, Pt.slots] at X47 l47 y47 z47 st47 hQ47
      subst l47 y47 z47
      obtain ⟨hv47, rfl, eh47⟩ := hQ47
      have N47 := Fr.app N38 (Fr.nil n0)
      obtain ⟨ev47, rfl, hev47⟩ : ∃ z : Int32, rv47 = some (.int z) ∧ ((z = 1 ∧ ([110, 97, 114, 114] : List Int32) = ds) ∨ (z = 0 ∧ ¬ ([110, 97, 114, 114] : List Int32) = ds)) := by
        rcases hv47 with ⟨h, h2⟩ | ⟨h, h2⟩
        · exact ⟨1, h, Or.inl ⟨rfl, h2⟩⟩
        · exact ⟨0, h, Or.inr ⟨rfl, h2⟩⟩
      refine own_go (fun tq kq => st47.trans kq) ?_
      show own_Rn p e below _ (T47.setTop (mkF m 28 #[.val (.ref st), .val (.ref vv), .val (.int (3 : Int32)), .val (.int (((0 : Int32) + (1 : Int32)) + (1 : Int32))), .val (.ref t2)] [(.int ev47)]))
      rcases hev47 with ⟨ee47, hq2⟩ | ⟨ee47, hq2⟩
      · skip
        refine own_go (fun tq kq => XS.ifNo X47.here hx rfl (hb hby own_d6_28) rfl ((if0 _ _).trans (feq (by rw [ee47]; decide : ¬ (ev47 = (0 : Int32)))).1) kq) ?_
        show own_Rn p e below _ (T47.setTop (mkF m 31 #[.val (.ref st), .val (.ref vv), .val (.int (3 : Int32)), .val (.int (((0 : Int32) + (1 : Int32)) + (1 : Int32))), .val (.ref t2)] []))
        refine own_go (fun tq kq => XS.aload X47.here hx rfl (hb hby own_d6_31) rfl rfl kq) ?_
        show own_Rn p e below _ (T47.setTop (mkF m 33 #[.val (.ref st), .val (.ref vv), .val (.int (3 : Int32)), .val (.int (((0 : Int32) + (1 : Int32)) + (1 : Int32))), .val (.ref t2)] [(.ref t2)]))
        exact own_ret X47 (v := some (.ref t2)) (fun h => by rw [Bd.returns] at h; cases h) (fun fs hr => X47.areturnOut hx rfl Bd.returns rfl (hb hby own_d6_33) hr) (by rw [eh47]; exact ⟨by rw [own_fv, if_neg hq0, if_neg hq1, if_pos hq2], N47, K7⟩) (by decide) (by decide)
      · skip
        refine own_go (fun tq kq => XS.ifYes X47.here hx rfl (pc0 := 28) (pc' := 34) rfl (hb hby own_d6_28) rfl ((if0 _ _).trans (teq (ee47 : ev47 = (0 : Int32))).1) (by decide) (by decide) kq) ?_
        show own_Rn p e below _ (T47.setTop (mkF m 34 #[.val (.ref st), .val (.ref vv), .val (.int (3 : Int32)), .val (.int (((0 : Int32) + (1 : Int32)) + (1 : Int32))), .val (.ref t2)] []))
        refine own_go (fun tq kq => XS.iinc X47.here hx rfl (hb hby own_d6_34) rfl (l' := #[.val (.ref st), .val (.ref vv), .val (.int (3 : Int32)), .val (.int ((((0 : Int32) + (1 : Int32)) + (1 : Int32)) + (1 : Int32))), .val (.ref t2)]) rfl kq) ?_
        show own_Rn p e below _ (T47.setTop (mkF m 37 #[.val (.ref st), .val (.ref vv), .val (.int (3 : Int32)), .val (.int ((((0 : Int32) + (1 : Int32)) + (1 : Int32)) + (1 : Int32))), .val (.ref t2)] []))
        refine own_go (fun tq kq => XS.goto X47.here hx rfl (pc0 := 37) (pc' := 9) rfl (hb hby own_d6_37) (by decide) (by decide) kq) ?_
        show own_Rn p e below _ (T47.setTop (mkF m 9 #[.val (.ref st), .val (.ref vv), .val (.int (3 : Int32)), .val (.int ((((0 : Int32) + (1 : Int32)) + (1 : Int32)) + (1 : Int32))), .val (.ref t2)] []))
        refine own_go (fun tq kq => XS.iloadN X47.here hx rfl (hb hby own_d6_9) rfl kq) ?_
        show own_Rn p e below _ (T47.setTop (mkF m 10 #[.val (.ref st), .val (.ref vv), .val (.int (3 : Int32)), .val (.int ((((0 : Int32) + (1 : Int32)) + (1 : Int32)) + (1 : Int32))), .val (.ref t2)] [(.int ((((0 : Int32) + (1 : Int32)) + (1 : Int32)) + (1 : Int32)))]))
        refine own_go (fun tq kq => XS.iloadN X47.here hx rfl (hb hby own_d6_10) rfl kq) ?_
        show own_Rn p e below _ (T47.setTop (mkF m 11 #[.val (.ref st), .val (.ref vv), .val (.int (3 : Int32)), .val (.int ((((0 : Int32) + (1 : Int32)) + (1 : Int32)) + (1 : Int32))), .val (.ref t2)] [(.int (3 : Int32)), (.int ((((0 : Int32) + (1 : Int32)) + (1 : Int32)) + (1 : Int32)))]))
        refine own_go (fun tq kq => XS.icmpYes X47.here hx rfl (pc0 := 11) (pc' := 40) rfl (hb hby own_d6_11) rfl (flt (by decide : ¬ (((((0 : Int32) + (1 : Int32)) + (1 : Int32)) + (1 : Int32)) < (3 : Int32)))).2.1 (by decide) (by decide) kq) ?_
        show own_Rn p e below _ (T47.setTop (mkF m 40 #[.val (.ref st), .val (.ref vv), .val (.int (3 : Int32)), .val (.int ((((0 : Int32) + (1 : Int32)) + (1 : Int32)) + (1 : Int32))), .val (.ref t2)] []))
        refine own_go (fun tq kq => XS.aconstNull X47.here hx rfl (hb hby own_d6_40) kq) ?_
        show own_Rn p e below _ (T47.setTop (mkF m 41 #[.val (.ref st), .val (.ref vv), .val (.int (3 : Int32)), .val (.int ((((0 : Int32) + (1 : Int32)) + (1 : Int32)) + (1 : Int32))), .val (.ref t2)] [.null]))
        exact own_ret X47 (v := some .null) (fun h => by rw [Bd.returns] at h; cases h) (fun fs hr => X47.areturnOut hx rfl Bd.returns rfl (hb hby own_d6_41) hr) (by rw [eh47]; exact ⟨by rw [own_fv, if_neg hq0, if_neg hq1, if_neg hq2], N47, K7⟩) (by decide) (by decide)
theorem own_ef_rm0 (m : MethodId) (i0 : Int32) (i1 : Int32) (i2 : Int32) (i3 : Int32) (i4 : Int32) (i5 : Int32) (G1 : Int32) (va : Addr) (kv : ClassId) (t0 : Addr) (t1 : Addr) (t2 : Addr) (s0 : Addr) (x0 : Addr) (y0 : Addr) (k0 : ClassId) (s1 : Addr) (x1 : Addr) (y1 : Addr) (k1 : ClassId) (s2 : Addr) (x2 : Addr) (y2 : Addr) (k2 : ClassId) : entryFrame m #[(.int i0), (.int i1), (.int i2), (.int i3), (.int i4), (.int i5)] maxLocals = mkF m 0 #[.val (.int i0), .val (.int i1), .val (.int i2), .val (.int i3), .val (.int i4), .val (.int i5), .unset, .unset, .unset, .unset, .unset, .unset, .unset, .unset, .unset, .unset, .unset] [] := by first | (simp [entryFrame, mkF, argsToLocals, Value.category, maxLocals]; done) | rfl
theorem own_pd_285bCI29Ljava2flang2fString3b : parseMethodDescriptor "([CI)Ljava/lang/String;" = some ⟨[(.array .char), .int], some (.object "java/lang/String")⟩ := by decide +kernel
theorem own_pd_28Ljava2flang2fString3b29Lcom2fexample2fwords_into_queries2fwordsintoqueries2fformulation2fTopicField3b : parseMethodDescriptor "(Ljava/lang/String;)Lcom/example/words_into_queries/wordsintoqueries/formulation/TopicField;" = some ⟨[(.object "java/lang/String")], some (.object "com/example/words_into_queries/wordsintoqueries/formulation/TopicField")⟩ := by decide +kernel
def Q_rm0 (Z : State) (i0 : Int32) (i1 : Int32) (i2 : Int32) (i3 : Int32) (i4 : Int32) (i5 : Int32) (G1 : Int32) (va : Addr) (kv : ClassId) (t0 : Addr) (t1 : Addr) (t2 : Addr) (s0 : Addr) (x0 : Addr) (y0 : Addr) (k0 : ClassId) (s1 : Addr) (x1 : Addr) (y1 : Addr) (k1 : ClassId) (s2 : Addr) (x2 : Addr) (y2 : Addr) (k2 : ClassId) (h0 : Heap) (n0 : Nat) (vq : Option Value) (hhq : Heap) (Lq : List Loc) : Prop := vq = some (.int (1 : Int32)) ∧ Fr n0 Lq
set_option maxRecDepth 65536 in
set_option maxHeartbeats 40000000 in
theorem rm0 (l : Launch) (Z : State) (a0 : Array Value) (hw : ∀ d ∈ tables_1, d.before a0 Z = true) (ws : List Jvm.Cond) (i0 : Int32) (i1 : Int32) (i2 : Int32) (i3 : Int32) (i4 : Int32) (i5 : Int32) (G1 : Int32) (va : Addr) (kv : ClassId) (t0 : Addr) (t1 : Addr) (t2 : Addr) (s0 : Addr) (x0 : Addr) (y0 : Addr) (k0 : ClassId) (s1 : Addr) (x1 : Addr) (y1 : Addr) (k1 : ClassId) (s2 : Addr) (x2 : Addr) (y2 : Addr) (k2 : ClassId) (h0 : Heap) (n0 : Nat) (Z0 : n0 ≤ h0.size) (hEL : EW Z a0 consts_1) (O2 : Sta Z Z.heap "java/lang/String" "COMPACT_STRINGS" "Z" (.int G1)) (P5 : (¬ (G1 = (0 : Int32)))) (X00 : Old Z n0 h0) (OV : Sta Z Z.heap "com/example/words_into_queries/wordsintoqueries/formulation/TopicField" "$VALUES" "[Lcom/example/words_into_queries/wordsintoqueries/formulation/TopicField;" (.ref va)) (EV : Exa Z Z.heap va "[Lcom/example/words_into_queries/wordsintoqueries/formulation/TopicField;") (AV : Arv Z Z.heap va kv (.object "com/example/words_into_queries/wordsintoqueries/formulation/TopicField") (3 : Int32) [(.ref t0), (.ref t1), (.ref t2)] .null) (ZT0 : Exa Z Z.heap t0 "com/example/words_into_queries/wordsintoqueries/formulation/TopicField") (ZM0 : Fld Z Z.heap t0 "com/example/words_into_queries/wordsintoqueries/formulation/TopicField" "m_source" "Lcom/example/words_into_queries/wordsintoqueries/query/TermSource;" (.ref s0)) (ZS0 : Exa Z Z.heap s0 "com/example/words_into_queries/wordsintoqueries/query/TermSource") (ZN0 : Fld Z Z.heap s0 "com/example/words_into_queries/wordsintoqueries/query/TermSource" "m_name" "Ljava/lang/String;" (.ref x0)) (ZX00 : Exa Z Z.heap x0 "java/lang/String") (ZX01 : Fld Z Z.heap x0 "java/lang/String" "value" "[B" (.ref y0)) (ZX02 : Fld Z Z.heap x0 "java/lang/String" "coder" "B" (.int (0 : Int32))) (ZX03 : Arv Z Z.heap y0 k0 .byte (Int32.ofNat ([116, 105, 116, 108, 101] : List Int32).length) (own_bs ([116, 105, 116, 108, 101] : List Int32)) (.int 0)) (ZT1 : Exa Z Z.heap t1 "com/example/words_into_queries/wordsintoqueries/formulation/TopicField") (ZM1 : Fld Z Z.heap t1 "com/example/words_into_queries/wordsintoqueries/formulation/TopicField" "m_source" "Lcom/example/words_into_queries/wordsintoqueries/query/TermSource;" (.ref s1)) (ZS1 : Exa Z Z.heap s1 "com/example/words_into_queries/wordsintoqueries/query/TermSource") (ZN1 : Fld Z Z.heap s1 "com/example/words_into_queries/wordsintoqueries/query/TermSource" "m_name" "Ljava/lang/String;" (.ref x1)) (ZX10 : Exa Z Z.heap x1 "java/lang/String") (ZX11 : Fld Z Z.heap x1 "java/lang/String" "value" "[B" (.ref y1)) (ZX12 : Fld Z Z.heap x1 "java/lang/String" "coder" "B" (.int (0 : Int32))) (ZX13 : Arv Z Z.heap y1 k1 .byte (Int32.ofNat ([100, 101, 115, 99] : List Int32).length) (own_bs ([100, 101, 115, 99] : List Int32)) (.int 0)) (ZT2 : Exa Z Z.heap t2 "com/example/words_into_queries/wordsintoqueries/formulation/TopicField") (ZM2 : Fld Z Z.heap t2 "com/example/words_into_queries/wordsintoqueries/formulation/TopicField" "m_source" "Lcom/example/words_into_queries/wordsintoqueries/query/TermSource;" (.ref s2)) (ZS2 : Exa Z Z.heap s2 "com/example/words_into_queries/wordsintoqueries/query/TermSource") (ZN2 : Fld Z Z.heap s2 "com/example/words_into_queries/wordsintoqueries/query/TermSource" "m_name" "Ljava/lang/String;" (.ref x2)) (ZX20 : Exa Z Z.heap x2 "java/lang/String") (ZX21 : Fld Z Z.heap x2 "java/lang/String" "value" "[B" (.ref y2)) (ZX22 : Fld Z Z.heap x2 "java/lang/String" "coder" "B" (.int (0 : Int32))) (ZX23 : Arv Z Z.heap y2 k2 .byte (Int32.ofNat ([110, 97, 114, 114] : List Int32).length) (own_bs ([110, 97, 114, 114] : List Int32)) (.int 0)) (OT0 : Sta Z Z.heap "com/example/words_into_queries/wordsintoqueries/formulation/TopicField" "TITLE" "Lcom/example/words_into_queries/wordsintoqueries/formulation/TopicField;" (.ref t0)) (OT1 : Sta Z Z.heap "com/example/words_into_queries/wordsintoqueries/formulation/TopicField" "DESC" "Lcom/example/words_into_queries/wordsintoqueries/formulation/TopicField;" (.ref t1)) (OT2 : Sta Z Z.heap "com/example/words_into_queries/wordsintoqueries/formulation/TopicField" "NARR" "Lcom/example/words_into_queries/wordsintoqueries/formulation/TopicField;" (.ref t2)) :
    MetFree l x (head1 (Jvm.Cond.code x code maxLocals ret :: ws) room_1) (fun aq U => aq = #[(.int i0), (.int i1), (.int i2), (.int i3), (.int i4), (.int i5)] ∧ Z.Warmed39 U.vm ∧ U.heap = h0 ∧ CHv Z consts_1 U.vm h0 ∧ ∀ ax ∈ ([] : List Addr), Safe Z consts_1 U.vm h0 ax) (fun _ _ _ _ _ => True) (fun _ U oq U' => ∃ vq Lq, oq = .returned vq ∧ Q_rm0 Z i0 i1 i2 i3 i4 i5 G1 va kv t0 t1 t2 s0 x0 y0 k0 s1 x1 y1 k1 s2 x2 y2 k2 h0 n0 vq U'.heap Lq ∧ CHr Z consts_1 U.vm U.heap U'.vm U'.heap ∧ ReturnedEndW U oq U' Lq 32 4288) := by
  refine MetFree.of_bodySF (plainFor_of_name own_pn_com_example_words_into_queries_wordsintoqueries_formulation_TopicFieldFindPinLaw) hisR ?_
  intro p e s m args below meth c s₁ Bd hml0 hP hK
  obtain ⟨rfl, hZ, hh, hH, hSf⟩ := hP
  have hx := Bd.exec
  have hby := Bd.bytes
  have hml : c.maxLocals = 17 := hml0
  have hown : s.vm.findClass "com/example/words_into_queries/wordsintoqueries/formulation/TopicFieldFindPinLaw" = some m.cls := findClass_of_methodNamed Bd.named
  have hnm := (name_of_methodNamed Bd.named Bd.method).1
  have X0 : Stand p l e room_1 (s.setVm s.vm) m #[(.int i0), (.int i1), (.int i2), (.int i3), (.int i4), (.int i5)] below meth c s₁ [] 0 0 := Stand.of_body Bd
  have e0 : s₁.heap = h0 := by rw [← hh, Bd.state]; rfl
  have N0 := Fr.nil n0
  have K0 : Keep h0 h0 [] := Keep.refl _ _
  refine own_go (S' := s₁.setTop (mkF m 0 #[.val (.int i0), .val (.int i1), .val (.int i2), .val (.int i3), .val (.int i4), .val (.int i5), .unset, .unset, .unset, .unset, .unset, .unset, .unset, .unset, .unset, .unset, .unset] [])) (fun tq kq => castTop (own_ef_rm0 m i0 i1 i2 i3 i4 i5 G1 va kv t0 t1 t2 s0 x0 y0 k0 s1 x1 y1 k1 s2 x2 y2 k2) kq) ?_
  have hS0 : s.Since s.vm h0.size := (State.WarmedH.refl s).since _
  have CR0 : CHr Z consts_1 s.vm h0 s.vm h0 := CHr.refl hH
  have hwS : ∀ d ∈ Bundle.stringAtoms, d.before a0 Z = true := fun d hd => hw d ((by decide +kernel : ∀ d ∈ Bundle.stringAtoms, d ∈ tables_1) d hd)
  have heq : ∀ d ∈ StrChars.Road.wordsEq, d.before a0 Z = true := fun d hd => hw d ((by decide +kernel : ∀ d ∈ StrChars.Road.wordsEq, d ∈ tables_1) d hd)
  refine own_go (fun tq kq => XS.iloadN X0.here hx rfl (hb hby at_0) rfl kq) ?_
  show own_Rn p e below _ (s₁.setTop (mkF m 1 #[.val (.int i0), .val (.int i1), .val (.int i2), .val (.int i3), .val (.int i4), .val (.int i5), .unset, .unset, .unset, .unset, .unset, .unset, .unset, .unset, .unset, .unset, .unset] [(.int i0)]))
  refine own_go (fun tq kq => XS.iconst X0.here hx rfl (hb hby at_1) kq) ?_
  show own_Rn p e below _ (s₁.setTop (mkF m 2 #[.val (.int i0), .val (.int i1), .val (.int i2), .val (.int i3), .val (.int i4), .val (.int i5), .unset, .unset, .unset, .unset, .unset, .unset, .unset, .unset, .unset, .unset, .unset] [(.int (3 : Int32)), (.int i0)]))
  refine own_go (fun tq kq => XS.iand X0.here hx rfl (hb hby at_2) rfl kq) ?_
  show own_Rn p e below _ (s₁.setTop (mkF m 3 #[.val (.int i0), .val (.int i1), .val (.int i2), .val (.int i3), .val (.int i4), .val (.int i5), .unset, .unset, .unset, .unset, .unset, .unset, .unset, .unset, .unset, .unset, .unset] [(.int (i0 &&& (3 : Int32)))]))
  obtain ⟨md, hmd⟩ : ∃ z : Int32, z = (i0 &&& (3 : Int32)) := ⟨_, rfl⟩
  rw [← hmd]
  show own_Rn p e below _ (s₁.setTop (mkF m 3 #[.val (.int i0), .val (.int i1), .val (.int i2), .val (.int i3), .val (.int i4), .val (.int i5), .unset, .unset, .unset, .unset, .unset, .unset, .unset, .unset, .unset, .unset, .unset] [(.int md)]))
  refine own_go (fun tq kq => XS.istore X0.here hx rfl (hb hby at_3) rfl (l' := #[.val (.int i0), .val (.int i1), .val (.int i2), .val (.int i3), .val (.int i4), .val (.int i5), .val (.int md), .unset, .unset, .unset, .unset, .unset, .unset, .unset, .unset, .unset, .unset]) rfl kq) ?_
  show own_Rn p e below _ (s₁.setTop (mkF m 5 #[.val (.int i0), .val (.int i1), .val (.int i2), .val (.int i3), .val (.int i4), .val (.int i5), .val (.int md), .unset, .unset, .unset, .unset, .unset, .unset, .unset, .unset, .unset, .unset] []))
  refine own_go (fun tq kq => XS.iloadN X0.here hx rfl (hb hby at_5) rfl kq) ?_
  show own_Rn p e below _ (s₁.setTop (mkF m 6 #[.val (.int i0), .val (.int i1), .val (.int i2), .val (.int i3), .val (.int i4), .val (.int i5), .val (.int md), .unset, .unset, .unset, .unset, .unset, .unset, .unset, .unset, .unset, .unset] [(.int i3)]))
  refine own_go (fun tq kq => XS.sipush X0.here hx rfl (hb hby at_6) kq) ?_
  show own_Rn p e below _ (s₁.setTop (mkF m 9 #[.val (.int i0), .val (.int i1), .val (.int i2), .val (.int i3), .val (.int i4), .val (.int i5), .val (.int md), .unset, .unset, .unset, .unset, .unset, .unset, .unset, .unset, .unset, .unset] [(.int (255 : Int32)), (.int i3)]))
  refine own_go (fun tq kq => XS.iand X0.here hx rfl (hb hby at_9) rfl kq) ?_
  show own_Rn p e below _ (s₁.setTop (mkF m 10 #[.val (.int i0), .val (.int i1), .val (.int i2), .val (.int i3), .val (.int i4), .val (.int i5), .val (.int md), .unset, .unset, .unset, .unset, .unset, .unset, .unset, .unset, .unset, .unset] [(.int (i3 &&& (255 : Int32)))]))
  refine own_go (fun tq kq => XS.i2c X0.here hx rfl (hb hby at_10) rfl kq) ?_
  show own_Rn p e below _ (s₁.setTop (mkF m 11 #[.val (.int i0), .val (.int i1), .val (.int i2), .val (.int i3), .val (.int i4), .val (.int i5), .val (.int md), .unset, .unset, .unset, .unset, .unset, .unset, .unset, .unset, .unset, .unset] [(.int ((i3 &&& (255 : Int32)).toUInt32.toUInt16.toUInt32.toInt32))]))
  obtain ⟨d0, hd0⟩ : ∃ z : Int32, z = ((i3 &&& (255 : Int32)).toUInt32.toUInt16.toUInt32.toInt32) := ⟨_, rfl⟩
  rw [← hd0]
  show own_Rn p e below _ (s₁.setTop (mkF m 11 #[.val (.int i0), .val (.int i1), .val (.int i2), .val (.int i3), .val (.int i4), .val (.int i5), .val (.int md), .unset, .unset, .unset, .unset, .unset, .unset, .unset, .unset, .unset, .unset] [(.int d0)]))
  have rd0 : ¬ d0 < 0 ∧ ¬ (255 : Int32) < d0 := by rw [hd0]; exact own_chr_rng _
  have nd0 := own_narC d0 rd0
  refine own_go (fun tq kq => XS.istore X0.here hx rfl (hb hby at_11) rfl (l' := #[.val (.int i0), .val (.int i1), .val (.int i2), .val (.int i3), .val (.int i4), .val (.int i5), .val (.int md), .val (.int d0), .unset, .unset, .unset, .unset, .unset, .unset, .unset, .unset, .unset]) rfl kq) ?_
  show own_Rn p e below _ (s₁.setTop (mkF m 13 #[.val (.int i0), .val (.int i1), .val (.int i2), .val (.int i3), .val (.int i4), .val (.int i5), .val (.int md), .val (.int d0), .unset, .unset, .unset, .unset, .unset, .unset, .unset, .unset, .unset] []))
  refine own_go (fun tq kq => XS.iloadN X0.here hx rfl (hb hby at_13) rfl kq) ?_
  show own_Rn p e below _ (s₁.setTop (mkF m 14 #[.val (.int i0), .val (.int i1), .val (.int i2), .val (.int i3), .val (.int i4), .val (.int i5), .val (.int md), .val (.int d0), .unset, .unset, .unset, .unset, .unset, .unset, .unset, .unset, .unset] [(.int i3)]))
  refine own_go (fun tq kq => XS.bipush X0.here hx rfl (hb hby at_14) kq) ?_
  show own_Rn p e below _ (s₁.setTop (mkF m 16 #[.val (.int i0), .val (.int i1), .val (.int i2), .val (.int i3), .val (.int i4), .val (.int i5), .val (.int md), .val (.int d0), .unset, .unset, .unset, .unset, .unset, .unset, .unset, .unset, .unset] [(.int (8 : Int32)), (.int i3)]))
  refine own_go (fun tq kq => XS.iushr X0.here hx rfl (hb hby at_16) rfl kq) ?_
  show own_Rn p e below _ (s₁.setTop (mkF m 17 #[.val (.int i0), .val (.int i1), .val (.int i2), .val (.int i3), .val (.int i4), .val (.int i5), .val (.int md), .val (.int d0), .unset, .unset, .unset, .unset, .unset, .unset, .unset, .unset, .unset] [(.int ((i3.toUInt32 >>> ((8 : Int32) &&& 31).toUInt32).toInt32))]))
  refine own_go (fun tq kq => XS.sipush X0.here hx rfl (hb hby at_17) kq) ?_
  show own_Rn p e below _ (s₁.setTop (mkF m 20 #[.val (.int i0), .val (.int i1), .val (.int i2), .val (.int i3), .val (.int i4), .val (.int i5), .val (.int md), .val (.int d0), .unset, .unset, .unset, .unset, .unset, .unset, .unset, .unset, .unset] [(.int (255 : Int32)), (.int ((i3.toUInt32 >>> ((8 : Int32) &&& 31).toUInt32).toInt32))]))
  refine own_go (fun tq kq => XS.iand X0.here hx rfl (hb hby at_20) rfl kq) ?_
  show own_Rn p e below _ (s₁.setTop (mkF m 21 #[.val (.int i0), .val (.int i1), .val (.int i2), .val (.int i3), .val (.int i4), .val (.int i5), .val (.int md), .val (.int d0), .unset, .unset, .unset, .unset, .unset, .unset, .unset, .unset, .unset] [(.int (((i3.toUInt32 >>> ((8 : Int32) &&& 31).toUInt32).toInt32) &&& (255 : Int32)))]))
  refine own_go (fun tq kq => XS.i2c X0.here hx rfl (hb hby at_21) rfl kq) ?_
  show own_Rn p e below _ (s₁.setTop (mkF m 22 #[.val (.int i0), .val (.int i1), .val (.int i2), .val (.int i3), .val (.int i4), .val (.int i5), .val (.int md), .val (.int d0), .unset, .unset, .unset, .unset, .unset, .unset, .unset, .unset, .unset] [(.int ((((i3.toUInt32 >>> ((8 : Int32) &&& 31).toUInt32).toInt32) &&& (255 : Int32)).toUInt32.toUInt16.toUInt32.toInt32))]))
  obtain ⟨d1, hd1⟩ : ∃ z : Int32, z = ((((i3.toUInt32 >>> ((8 : Int32) &&& 31).toUInt32).toInt32) &&& (255 : Int32)).toUInt32.toUInt16.toUInt32.toInt32) := ⟨_, rfl⟩
  rw [← hd1]
  show own_Rn p e below _ (s₁.setTop (mkF m 22 #[.val (.int i0), .val (.int i1), .val (.int i2), .val (.int i3), .val (.int i4), .val (.int i5), .val (.int md), .val (.int d0), .unset, .unset, .unset, .unset, .unset, .unset, .unset, .unset, .unset] [(.int d1)]))
  have rd1 : ¬ d1 < 0 ∧ ¬ (255 : Int32) < d1 := by rw [hd1]; exact own_chr_rng _
  have nd1 := own_narC d1 rd1
  refine own_go (fun tq kq => XS.istore X0.here hx rfl (hb hby at_22) rfl (l' := #[.val (.int i0), .val (.int i1), .val (.int i2), .val (.int i3), .val (.int i4), .val (.int i5), .val (.int md), .val (.int d0), .val (.int d1), .unset, .unset, .unset, .unset, .unset, .unset, .unset, .unset]) rfl kq) ?_
  show own_Rn p e below _ (s₁.setTop (mkF m 24 #[.val (.int i0), .val (.int i1), .val (.int i2), .val (.int i3), .val (.int i4), .val (.int i5), .val (.int md), .val (.int d0), .val (.int d1), .unset, .unset, .unset, .unset, .unset, .unset, .unset, .unset] []))
  refine own_go (fun tq kq => XS.iload X0.here hx rfl (hb hby at_24) rfl kq) ?_
  show own_Rn p e below _ (s₁.setTop (mkF m 26 #[.val (.int i0), .val (.int i1), .val (.int i2), .val (.int i3), .val (.int i4), .val (.int i5), .val (.int md), .val (.int d0), .val (.int d1), .unset, .unset, .unset, .unset, .unset, .unset, .unset, .unset] [(.int i4)]))
  refine own_go (fun tq kq => XS.sipush X0.here hx rfl (hb hby at_26) kq) ?_
  show own_Rn p e below _ (s₁.setTop (mkF m 29 #[.val (.int i0), .val (.int i1), .val (.int i2), .val (.int i3), .val (.int i4), .val (.int i5), .val (.int md), .val (.int d0), .val (.int d1), .unset, .unset, .unset, .unset, .unset, .unset, .unset, .unset] [(.int (255 : Int32)), (.int i4)]))
  refine own_go (fun tq kq => XS.iand X0.here hx rfl (hb hby at_29) rfl kq) ?_
  show own_Rn p e below _ (s₁.setTop (mkF m 30 #[.val (.int i0), .val (.int i1), .val (.int i2), .val (.int i3), .val (.int i4), .val (.int i5), .val (.int md), .val (.int d0), .val (.int d1), .unset, .unset, .unset, .unset, .unset, .unset, .unset, .unset] [(.int (i4 &&& (255 : Int32)))]))
  refine own_go (fun tq kq => XS.i2c X0.here hx rfl (hb hby at_30) rfl kq) ?_
  show own_Rn p e below _ (s₁.setTop (mkF m 31 #[.val (.int i0), .val (.int i1), .val (.int i2), .val (.int i3), .val (.int i4), .val (.int i5), .val (.int md), .val (.int d0), .val (.int d1), .unset, .unset, .unset, .unset, .unset, .unset, .unset, .unset] [(.int ((i4 &&& (255 : Int32)).toUInt32.toUInt16.toUInt32.toInt32))]))
  obtain ⟨d2, hd2⟩ : ∃ z : Int32, z = ((i4 &&& (255 : Int32)).toUInt32.toUInt16.toUInt32.toInt32) := ⟨_, rfl⟩
  rw [← hd2]
  show own_Rn p e below _ (s₁.setTop (mkF m 31 #[.val (.int i0), .val (.int i1), .val (.int i2), .val (.int i3), .val (.int i4), .val (.int i5), .val (.int md), .val (.int d0), .val (.int d1), .unset, .unset, .unset, .unset, .unset, .unset, .unset, .unset] [(.int d2)]))
  have rd2 : ¬ d2 < 0 ∧ ¬ (255 : Int32) < d2 := by rw [hd2]; exact own_chr_rng _
  have nd2 := own_narC d2 rd2
  refine own_go (fun tq kq => XS.istore X0.here hx rfl (hb hby at_31) rfl (l' := #[.val (.int i0), .val (.int i1), .val (.int i2), .val (.int i3), .val (.int i4), .val (.int i5), .val (.int md), .val (.int d0), .val (.int d1), .val (.int d2), .unset, .unset, .unset, .unset, .unset, .unset, .unset]) rfl kq) ?_
  show own_Rn p e below _ (s₁.setTop (mkF m 33 #[.val (.int i0), .val (.int i1), .val (.int i2), .val (.int i3), .val (.int i4), .val (.int i5), .val (.int md), .val (.int d0), .val (.int d1), .val (.int d2), .unset, .unset, .unset, .unset, .unset, .unset, .unset] []))
  refine own_go (fun tq kq => XS.iload X0.here hx rfl (hb hby at_33) rfl kq) ?_
  show own_Rn p e below _ (s₁.setTop (mkF m 35 #[.val (.int i0), .val (.int i1), .val (.int i2), .val (.int i3), .val (.int i4), .val (.int i5), .val (.int md), .val (.int d0), .val (.int d1), .val (.int d2), .unset, .unset, .unset, .unset, .unset, .unset, .unset] [(.int i4)]))
  refine own_go (fun tq kq => XS.bipush X0.here hx rfl (hb hby at_35) kq) ?_
  show own_Rn p e below _ (s₁.setTop (mkF m 37 #[.val (.int i0), .val (.int i1), .val (.int i2), .val (.int i3), .val (.int i4), .val (.int i5), .val (.int md), .val (.int d0), .val (.int d1), .val (.int d2), .unset, .unset, .unset, .unset, .unset, .unset, .unset] [(.int (8 : Int32)), (.int i4)]))
  refine own_go (fun tq kq => XS.iushr X0.here hx rfl (hb hby at_37) rfl kq) ?_
  show own_Rn p e below _ (s₁.setTop (mkF m 38 #[.val (.int i0), .val (.int i1), .val (.int i2), .val (.int i3), .val (.int i4), .val (.int i5), .val (.int md), .val (.int d0), .val (.int d1), .val (.int d2), .unset, .unset, .unset, .unset, .unset, .unset, .unset] [(.int ((i4.toUInt32 >>> ((8 : Int32) &&& 31).toUInt32).toInt32))]))
  refine own_go (fun tq kq => XS.sipush X0.here hx rfl (hb hby at_38) kq) ?_
  show own_Rn p e below _ (s₁.setTop (mkF m 41 #[.val (.int i0), .val (.int i1), .val (.int i2), .val (.int i3), .val (.int i4), .val (.int i5), .val (.int md), .val (.int d0), .val (.int d1), .val (.int d2), .unset, .unset, .unset, .unset, .unset, .unset, .unset] [(.int (255 : Int32)), (.int ((i4.toUInt32 >>> ((8 : Int32) &&& 31).toUInt32).toInt32))]))
  refine own_go (fun tq kq => XS.iand X0.here hx rfl (hb hby at_41) rfl kq) ?_
  show own_Rn p e below _ (s₁.setTop (mkF m 42 #[.val (.int i0), .val (.int i1), .val (.int i2), .val (.int i3), .val (.int i4), .val (.int i5), .val (.int md), .val (.int d0), .val (.int d1), .val (.int d2), .unset, .unset, .unset, .unset, .unset, .unset, .unset] [(.int (((i4.toUInt32 >>> ((8 : Int32) &&& 31).toUInt32).toInt32) &&& (255 : Int32)))]))
  refine own_go (fun tq kq => XS.i2c X0.here hx rfl (hb hby at_42) rfl kq) ?_
  show own_Rn p e below _ (s₁.setTop (mkF m 43 #[.val (.int i0), .val (.int i1), .val (.int i2), .val (.int i3), .val (.int i4), .val (.int i5), .val (.int md), .val (.int d0), .val (.int d1), .val (.int d2), .unset, .unset, .unset, .unset, .unset, .unset, .unset] [(.int ((((i4.toUInt32 >>> ((8 : Int32) &&& 31).toUInt32).toInt32) &&& (255 : Int32)).toUInt32.toUInt16.toUInt32.toInt32))]))
  obtain ⟨d3, hd3⟩ : ∃ z : Int32, z = ((((i4.toUInt32 >>> ((8 : Int32) &&& 31).toUInt32).toInt32) &&& (255 : Int32)).toUInt32.toUInt16.toUInt32.toInt32) := ⟨_, rfl⟩
  rw [← hd3]
  show own_Rn p e below _ (s₁.setTop (mkF m 43 #[.val (.int i0), .val (.int i1), .val (.int i2), .val (.int i3), .val (.int i4), .val (.int i5), .val (.int md), .val (.int d0), .val (.int d1), .val (.int d2), .unset, .unset, .unset, .unset, .unset, .unset, .unset] [(.int d3)]))
  have rd3 : ¬ d3 < 0 ∧ ¬ (255 : Int32) < d3 := by rw [hd3]; exact own_chr_rng _
  have nd3 := own_narC d3 rd3
  refine own_go (fun tq kq => XS.istore X0.here hx rfl (hb hby at_43) rfl (l' := #[.val (.int i0), .val (.int i1), .val (.int i2), .val (.int i3), .val (.int i4), .val (.int i5), .val (.int md), .val (.int d0), .val (.int d1), .val (.int d2), .val (.int d3), .unset, .unset, .unset, .unset, .unset, .unset]) rfl kq) ?_
  show own_Rn p e below _ (s₁.setTop (mkF m 45 #[.val (.int i0), .val (.int i1), .val (.int i2), .val (.int i3), .val (.int i4), .val (.int i5), .val (.int md), .val (.int d0), .val (.int d1), .val (.int d2), .val (.int d3), .unset, .unset, .unset, .unset, .unset, .unset] []))
  refine own_go (fun tq kq => XS.iload X0.here hx rfl (hb hby at_45) rfl kq) ?_
  show own_Rn p e below _ (s₁.setTop (mkF m 47 #[.val (.int i0), .val (.int i1), .val (.int i2), .val (.int i3), .val (.int i4), .val (.int i5), .val (.int md), .val (.int d0), .val (.int d1), .val (.int d2), .val (.int d3), .unset, .unset, .unset, .unset, .unset, .unset] [(.int i5)]))
  refine own_go (fun tq kq => XS.sipush X0.here hx rfl (hb hby at_47) kq) ?_
  show own_Rn p e below _ (s₁.setTop (mkF m 50 #[.val (.int i0), .val (.int i1), .val (.int i2), .val (.int i3), .val (.int i4), .val (.int i5), .val (.int md), .val (.int d0), .val (.int d1), .val (.int d2), .val (.int d3), .unset, .unset, .unset, .unset, .unset, .unset] [(.int (255 : Int32)), (.int i5)]))
  refine own_go (fun tq kq => XS.iand X0.here hx rfl (hb hby at_50) rfl kq) ?_
  show own_Rn p e below _ (s₁.setTop (mkF m 51 #[.val (.int i0), .val (.int i1), .val (.int i2), .val (.int i3), .val (.int i4), .val (.int i5), .val (.int md), .val (.int d0), .val (.int d1), .val (.int d2), .val (.int d3), .unset, .unset, .unset, .unset, .unset, .unset] [(.int (i5 &&& (255 : Int32)))]))
  refine own_go (fun tq kq => XS.i2c X0.here hx rfl (hb hby at_51) rfl kq) ?_
  show own_Rn p e below _ (s₁.setTop (mkF m 52 #[.val (.int i0), .val (.int i1), .val (.int i2), .val (.int i3), .val (.int i4), .val (.int i5), .val (.int md), .val (.int d0), .val (.int d1), .val (.int d2), .val (.int d3), .unset, .unset, .unset, .unset, .unset, .unset] [(.int ((i5 &&& (255 : Int32)).toUInt32.toUInt16.toUInt32.toInt32))]))
  obtain ⟨d4, hd4⟩ : ∃ z : Int32, z = ((i5 &&& (255 : Int32)).toUInt32.toUInt16.toUInt32.toInt32) := ⟨_, rfl⟩
  rw [← hd4]
  show own_Rn p e below _ (s₁.setTop (mkF m 52 #[.val (.int i0), .val (.int i1), .val (.int i2), .val (.int i3), .val (.int i4), .val (.int i5), .val (.int md), .val (.int d0), .val (.int d1), .val (.int d2), .val (.int d3), .unset, .unset, .unset, .unset, .unset, .unset] [(.int d4)]))
  have rd4 : ¬ d4 < 0 ∧ ¬ (255 : Int32) < d4 := by rw [hd4]; exact own_chr_rng _
  have nd4 := own_narC d4 rd4
  refine own_go (fun tq kq => XS.istore X0.here hx rfl (hb hby at_52) rfl (l' := #[.val (.int i0), .val (.int i1), .val (.int i2), .val (.int i3), .val (.int i4), .val (.int i5), .val (.int md), .val (.int d0), .val (.int d1), .val (.int d2), .val (.int d3), .val (.int d4), .unset, .unset, .unset, .unset, .unset]) rfl kq) ?_
  show own_Rn p e below _ (s₁.setTop (mkF m 54 #[.val (.int i0), .val (.int i1), .val (.int i2), .val (.int i3), .val (.int i4), .val (.int i5), .val (.int md), .val (.int d0), .val (.int d1), .val (.int d2), .val (.int d3), .val (.int d4), .unset, .unset, .unset, .unset, .unset] []))
  refine own_go (fun tq kq => XS.iload X0.here hx rfl (hb hby at_54) rfl kq) ?_
  show own_Rn p e below _ (s₁.setTop (mkF m 56 #[.val (.int i0), .val (.int i1), .val (.int i2), .val (.int i3), .val (.int i4), .val (.int i5), .val (.int md), .val (.int d0), .val (.int d1), .val (.int d2), .val (.int d3), .val (.int d4), .unset, .unset, .unset, .unset, .unset] [(.int i5)]))
  refine own_go (fun tq kq => XS.bipush X0.here hx rfl (hb hby at_56) kq) ?_
  show own_Rn p e below _ (s₁.setTop (mkF m 58 #[.val (.int i0), .val (.int i1), .val (.int i2), .val (.int i3), .val (.int i4), .val (.int i5), .val (.int md), .val (.int d0), .val (.int d1), .val (.int d2), .val (.int d3), .val (.int d4), .unset, .unset, .unset, .unset, .unset] [(.int (8 : Int32)), (.int i5)]))
  refine own_go (fun tq kq => XS.iushr X0.here hx rfl (hb hby at_58) rfl kq) ?_
  show own_Rn p e below _ (s₁.setTop (mkF m 59 #[.val (.int i0), .val (.int i1), .val (.int i2), .val (.int i3), .val (.int i4), .val (.int i5), .val (.int md), .val (.int d0), .val (.int d1), .val (.int d2), .val (.int d3), .val (.int d4), .unset, .unset, .unset, .unset, .unset] [(.int ((i5.toUInt32 >>> ((8 : Int32) &&& 31).toUInt32).toInt32))]))
  refine own_go (fun tq kq => XS.sipush X0.here hx rfl (hb hby at_59) kq) ?_
  show own_Rn p e below _ (s₁.setTop (mkF m 62 #[.val (.int i0), .val (.int i1), .val (.int i2), .val (.int i3), .val (.int i4), .val (.int i5), .val (.int md), .val (.int d0), .val (.int d1), .val (.int d2), .val (.int d3), .val (.int d4), .unset, .unset, .unset, .unset, .unset] [(.int (255 : Int32)), (.int ((i5.toUInt32 >>> ((8 : Int32) &&& 31).toUInt32).toInt32))]))
  refine own_go (fun tq kq => XS.iand X0.here hx rfl (hb hby at_62) rfl kq) ?_
  show own_Rn p e below _ (s₁.setTop (mkF m 63 #[.val (.int i0), .val (.int i1), .val (.int i2), .val (.int i3), .val (.int i4), .val (.int i5), .val (.int md), .val (.int d0), .val (.int d1), .val (.int d2), .val (.int d3), .val (.int d4), .unset, .unset, .unset, .unset, .unset] [(.int (((i5.toUInt32 >>> ((8 : Int32) &&& 31).toUInt32).toInt32) &&& (255 : Int32)))]))
  refine own_go (fun tq kq => XS.i2c X0.here hx rfl (hb hby at_63) rfl kq) ?_
  show own_Rn p e below _ (s₁.setTop (mkF m 64 #[.val (.int i0), .val (.int i1), .val (.int i2), .val (.int i3), .val (.int i4), .val (.int i5), .val (.int md), .val (.int d0), .val (.int d1), .val (.int d2), .val (.int d3), .val (.int d4), .unset, .unset, .unset, .unset, .unset] [(.int ((((i5.toUInt32 >>> ((8 : Int32) &&& 31).toUInt32).toInt32) &&& (255 : Int32)).toUInt32.toUInt16.toUInt32.toInt32))]))
  obtain ⟨d5, hd5⟩ : ∃ z : Int32, z = ((((i5.toUInt32 >>> ((8 : Int32) &&& 31).toUInt32).toInt32) &&& (255 : Int32)).toUInt32.toUInt16.toUInt32.toInt32) := ⟨_, rfl⟩
  rw [← hd5]
  show own_Rn p e below _ (s₁.setTop (mkF m 64 #[.val (.int i0), .val (.int i1), .val (.int i2), .val (.int i3), .val (.int i4), .val (.int i5), .val (.int md), .val (.int d0), .val (.int d1), .val (.int d2), .val (.int d3), .val (.int d4), .unset, .unset, .unset, .unset, .unset] [(.int d5)]))
  have rd5 : ¬ d5 < 0 ∧ ¬ (255 : Int32) < d5 := by rw [hd5]; exact own_chr_rng _
  have nd5 := own_narC d5 rd5
  have jn : ∀ (Tj : State) (hj : Heap) (lj : List Loc) (ba : Addr) (ka : ClassId) (b0 b1 b2 b3 b4 b5 : Int32) (N : Nat) (z15 z16 : Slot), Stand p l e room_1 (s.setVm s.vm) m #[(.int i0), (.int i1), (.int i2), (.int i3), (.int i4), (.int i5)] below meth c Tj lj 1 6 → Tj.heap = hj → Fr n0 lj → h0.size ≤ hj.size → CHr Z consts_1 s.vm h0 s.vm hj → Old Z n0 hj → Arv Z hj ba ka .char (6 : Int32) [(.int b0), (.int b1), (.int b2), (.int b3), (.int b4), (.int b5)] (.int (0 : Int32)) → ((¬ b0 < 0 ∧ ¬ (255 : Int32) < b0) ∧ (¬ b1 < 0 ∧ ¬ (255 : Int32) < b1) ∧ (¬ b2 < 0 ∧ ¬ (255 : Int32) < b2) ∧ (¬ b3 < 0 ∧ ¬ (255 : Int32) < b3) ∧ (¬ b4 < 0 ∧ ¬ (255 : Int32) < b4) ∧ (¬ b5 < 0 ∧ ¬ (255 : Int32) < b5)) → N ≤ 6 → One z15 → One z16 → own_Rn p e below (fun o U' => ∃ v L, o = .returned v ∧ Q_rm0 Z i0 i1 i2 i3 i4 i5 G1 va kv t0 t1 t2 s0 x0 y0 k0 s1 x1 y1 k1 s2 x2 y2 k2 h0 n0 v U'.heap L ∧ CHr Z consts_1 s.vm s.heap U'.vm U'.heap ∧ ReturnedEndW s o U' L 32 4288) (Tj.setTop (mkF m 317 #[.val (.int i0), .val (.int i1), .val (.int i2), .val (.int i3), .val (.int i4), .val (.int i5), .val (.int md), .val (.int d0), .val (.int d1), .val (.int d2), .val (.int d3), .val (.int d4), .val (.int d5), .val (.ref ba), .val (.int (Int32.ofNat N)), z15, z16] [])) := by
    intro Tj hj lj ba ka b0 b1 b2 b3 b4 b5 N z15 z16 Xj ej Nj szj CRj Oj Aj ⟨rb0, rb1, rb2, rb3, rb4, rb5⟩ hN o15 o16
    have lt1 : @LT.lt Nat _ ba hj.size := Aj.lt
    have hpb : ∀ c ∈ (([b0, b1, b2, b3, b4, b5] : List Int32).take N), ¬ c < 0 ∧ ¬ (255 : Int32) < c := by
      intro c hc
      have hc2 := List.mem_of_mem_take hc
      simp only [List.mem_cons, List.not_mem_nil, or_false] at hc2
      rcases hc2 with rfl | rfl | rfl | rfl | rfl | rfl
      · exact rb0
      · exact rb1
      · exact rb2
      · exact rb3
      · exact rb4
      · exact rb5
    have hlb : (([b0, b1, b2, b3, b4, b5] : List Int32).take N).length ≤ 6 := by rw [List.length_take]; exact Nat.min_le_right _ _
    have hp2 : ∀ c ∈ ([116, 105, 116, 108, 101] : List Int32), ¬ c < 0 ∧ ¬ (255 : Int32) < c := by
      intro c hc
      simp only [List.mem_cons, List.not_mem_nil, or_false] at hc
      rcases hc with rfl | rfl | rfl | rfl | rfl
      · exact (by decide)
      · exact (by decide)
      · exact (by decide)
      · exact (by decide)
      · exact (by decide)
    have hp3 : ∀ c ∈ ([100, 101, 115, 99] : List Int32), ¬ c < 0 ∧ ¬ (255 : Int32) < c := by
      intro c hc
      simp only [List.mem_cons, List.not_mem_nil, or_false] at hc
      rcases hc with rfl | rfl | rfl | rfl
      · exact (by decide)
      · exact (by decide)
      · exact (by decide)
      · exact (by decide)
    have hp4 : ∀ c ∈ ([110, 97, 114, 114] : List Int32), ¬ c < 0 ∧ ¬ (255 : Int32) < c := by
      intro c hc
      simp only [List.mem_cons, List.not_mem_nil, or_false] at hc
      rcases hc with rfl | rfl | rfl | rfl
      · exact (by decide)
      · exact (by decide)
      · exact (by decide)
      · exact (by decide)
    show own_Rn p e below _ (Tj.setTop (mkF m 317 #[.val (.int i0), .val (.int i1), .val (.int i2), .val (.int i3), .val (.int i4), .val (.int i5), .val (.int md), .val (.int d0), .val (.int d1), .val (.int d2), .val (.int d3), .val (.int d4), .val (.int d5), .val (.ref ba), .val (.int (Int32.ofNat N)), z15, z16] []))
    refine own_go (fun tq kq => XS.aload Xj.here hx rfl (hb hby at_317) rfl rfl kq) ?_
    show own_Rn p e below _ (Tj.setTop (mkF m 319 #[.val (.int i0), .val (.int i1), .val (.int i2), .val (.int i3), .val (.int i4), .val (.int i5), .val (.int md), .val (.int d0), .val (.int d1), .val (.int d2), .val (.int d3), .val (.int d4), .val (.int d5), .val (.ref ba), .val (.int (Int32.ofNat N)), z15, z16] [(.ref ba)]))
    refine own_go (fun tq kq => XS.iload Xj.here hx rfl (hb hby at_319) rfl kq) ?_
    show own_Rn p e below _ (Tj.setTop (mkF m 321 #[.val (.int i0), .val (.int i1), .val (.int i2), .val (.int i3), .val (.int i4), .val (.int i5), .val (.int md), .val (.int d0), .val (.int d1), .val (.int d2), .val (.int d3), .val (.int d4), .val (.int d5), .val (.ref ba), .val (.int (Int32.ofNat N)), z15, z16] [(.int (Int32.ofNat N)), (.ref ba)]))
    have Zn5 : n0 ≤ hj.size := by omega
    obtain ⟨rv5, _, ⟨T5, L5, k5, n5⟩, -, X5, hS5, hG5, ⟨Lc5, hQ5, l5, y5, z5, CR5q⟩, st5⟩ := Jvm.RoadKit.callSS Xj hx (y := (⟨"com/example/words_into_queries/wordsintoqueries/formulation/TopicFieldFindPinLaw", "make", "([CI)Ljava/lang/String;"⟩ : MethodName)) hown (mvT hZ (hw _ (own_mi 1 rfl))) (mvT hZ (hw _ (own_mi 2 rfl))) (mvT hZ (hw _ (own_mi 3 rfl))) (mvT hZ (hw _ (own_mi 4 rfl))) (by decide) (own_backSH (W := 0) (rm := ({ frames := 4, cells := 6, slots := 16, locals := 66 } : Room)) (sf := []) (h := hj) (rmMake l Z a0 hw [] (ba) (ka) (b0) (b1) (b2) (b3) (b4) (b5) (N) (G1) hj n0 Zn5 hEL Aj (hN) (rb0) (rb1) (rb2) (rb3) (rb4) (rb5) (O2) (P5) Oj) hZ (hw _ (own_mi 4 rfl)) (hw _ (own_mi 3 rfl)) (by decide) (by decide) hEL CRj.1 sf0) (g := (mkF m 321 #[.val (.int i0), .val (.int i1), .val (.int i2), .val (.int i3), .val (.int i4), .val (.int i5), .val (.int md), .val (.int d0), .val (.int d1), .val (.int d2), .val (.int d3), .val (.int d4), .val (.int d5), .val (.ref ba), .val (.int (Int32.ofNat N)), z15, z16] [(.int (Int32.ofNat N)), (.ref ba)])) rfl (by rw [hml]; rfl) (argsL := [(.ref ba), (.int (Int32.ofNat N))]) (rest := []) (lenOf own_pd_285bCI29Ljava2flang2fString3b rfl) rfl (by show 2 * 0 + _ ≤ _; exact Nat.le_of_eq rfl) (hb hby at_321) (fun _ _ => ⟨rfl, ej, (by decide : 1 + 6 ≤ _), (by decide : 6 + 16 ≤ _)⟩)
    dsimp only [Pt.U, Pt.locs, Pt.cells, Pt.slots] at X5 l5 y5 z5 st5 hQ5 hS5 hG5 CR5q
    subst l5 y5 z5
    obtain ⟨sx, sy, sk, rfl, Nq5, Kq5, G0_5, G1_5, G2_5, G3_5⟩ := hQ5
    have N5 := Fr.app Nj Nq5
    obtain ⟨Xr5, hSr5, hZ5, hown5⟩ := rebS hS0 (n1 := Tj.heap.size) (by rw [ej]; omega) X5 hS5 hG5 hZ hown
    have sz6 : hj.size ≤ T5.heap.size := Kq5.1
    have cr6 : CHr Z consts_1 s.vm hj T5.vm T5.heap := CR5q
    have CR6 := CRj.trans cr6
    have lt7 : @LT.lt Nat _ sx T5.heap.size := G0_5.lt
    have lt8 : @LT.lt Nat _ sy T5.heap.size := G3_5.lt
    refine own_go (fun tq kq => st5.trans kq) ?_
    show own_Rn p e below _ (T5.setTop (mkF m 324 #[.val (.int i0), .val (.int i1), .val (.int i2), .val (.int i3), .val (.int i4), .val (.int i5), .val (.int md), .val (.int d0), .val (.int d1), .val (.int d2), .val (.int d3), .val (.int d4), .val (.int d5), .val (.ref ba), .val (.int (Int32.ofNat N)), z15, z16] [(.ref sx)]))
    have os9 : storeLocals #[.val (.int i0), .val (.int i1), .val (.int i2), .val (.int i3), .val (.int i4), .val (.int i5), .val (.int md), .val (.int d0), .val (.int d1), .val (.int d2), .val (.int d3), .val (.int d4), .val (.int d5), .val (.ref ba), .val (.int (Int32.ofNat N)), z15, z16] 15 (.ref sx) = some #[.val (.int i0), .val (.int i1), .val (.int i2), .val (.int i3), .val (.int i4), .val (.int i5), .val (.int md), .val (.int d0), .val (.int d1), .val (.int d2), .val (.int d3), .val (.int d4), .val (.int d5), .val (.ref ba), .val (.int (Int32.ofNat N)), .val (.ref sx), z16] := by
      rcases o15 with rfl | ⟨w, rfl, hw⟩
      · rfl
      · cases w <;> first | rfl | (simp [Value.category] at hw)
    refine own_go (fun tq kq => XS.astore Xr5.here hx rfl (hb hby at_324) rfl rfl (l' := #[.val (.int i0), .val (.int i1), .val (.int i2), .val (.int i3), .val (.int i4), .val (.int i5), .val (.int md), .val (.int d0), .val (.int d1), .val (.int d2), .val (.int d3), .val (.int d4), .val (.int d5), .val (.ref ba), .val (.int (Int32.ofNat N)), .val (.ref sx), z16]) os9 kq) ?_
    show own_Rn p e below _ (T5.setTop (mkF m 326 #[.val (.int i0), .val (.int i1), .val (.int i2), .val (.int i3), .val (.int i4), .val (.int i5), .val (.int md), .val (.int d0), .val (.int d1), .val (.int d2), .val (.int d3), .val (.int d4), .val (.int d5), .val (.ref ba), .val (.int (Int32.ofNat N)), .val (.ref sx), z16] []))
    refine own_go (fun tq kq => XS.aload Xr5.here hx rfl (hb hby at_326) rfl rfl kq) ?_
    show own_Rn p e below _ (T5.setTop (mkF m 328 #[.val (.int i0), .val (.int i1), .val (.int i2), .val (.int i3), .val (.int i4), .val (.int i5), .val (.int md), .val (.int d0), .val (.int d1), .val (.int d2), .val (.int d3), .val (.int d4), .val (.int d5), .val (.ref ba), .val (.int (Int32.ofNat N)), .val (.ref sx), z16] [(.ref sx)]))
    obtain ⟨a10, T10, h10, kk10, bb10, kc10, X10, e10, E10, hS10, hk10, hZ10, hown10, Ex10, Co10, Va10, Ab10, la10, lb10, crq10, Li10, sn10, st10⟩ := ldcCH Xr5 hx hZ5 hown5 (hw _ (own_mi 26 rfl)) hwS rfl hSr5 (by omega) hEL (List.mem_of_getElem? (i := 0) rfl) CR6.1 (vs := ((([116, 105, 116, 108, 101] : List Int32).map (fun c => c.toInt8.toInt32)).map Value.int)) (z := (5 : Int32)) ⟨by decide, by decide⟩ (by decide) (by decide) (g := (mkF m 328 #[.val (.int i0), .val (.int i1), .val (.int i2), .val (.int i3), .val (.int i4), .val (.int i5), .val (.int md), .val (.int d0), .val (.int d1), .val (.int d2), .val (.int d3), .val (.int d4), .val (.int d5), .val (.ref ba), .val (.int (Int32.ofNat N)), .val (.ref sx), z16] [(.ref sx)])) rfl (hb hby at_328) (n := 20) (by decide) (by decide) (by decide) (by decide)
    refine own_go st10 ?_
    have sz11 : T5.heap.size ≤ h10.size := E10.1
    have cr11 : CHr Z consts_1 T5.vm T5.heap T10.vm h10 := crq10
    have CR11 := CR6.trans cr11
    have lt12 : @LT.lt Nat _ a10 h10.size := Ex10.lt
    have lt13 : @LT.lt Nat _ bb10 h10.size := Ab10.lt
    show own_Rn p e below _ (T10.setTop (mkF m 330 #[.val (.int i0), .val (.int i1), .val (.int i2), .val (.int i3), .val (.int i4), .val (.int i5), .val (.int md), .val (.int d0), .val (.int d1), .val (.int d2), .val (.int d3), .val (.int d4), .val (.int d5), .val (.ref ba), .val (.int (Int32.ofNat N)), .val (.ref sx), z16] [(.ref a10), (.ref sx)]))
    have F14 : Exa Z h10 sx "java/lang/String" := (G0_5.ext E10)
    have F15 : Fld Z h10 sx "java/lang/String" "value" "[B" (.ref sy) := (G1_5.ext E10)
    have F16 : Fld Z h10 sx "java/lang/String" "coder" "B" (.int (0 : Int32)) := (G2_5.ext E10)
    have F17 : Arv Z h10 sy sk .byte (Int32.ofNat (([b0, b1, b2, b3, b4, b5] : List Int32).take N).length) (own_bs (([b0, b1, b2, b3, b4, b5] : List Int32).take N)) (.int 0) := (G3_5.ext E10)
    have F18 : Old Z n0 h10 := ((Oj.keep Kq5 all0).ext E10)
    obtain ⟨cq19, kq19, qa19, qb19, qc19⟩ := isOf hZ10 e10 F14
    obtain ⟨rv19, _, ⟨T19, L19, k19, n19⟩, -, X19, ⟨Lc19, hQ19, l19, y19, z19⟩, st19⟩ := X10.virtualBack hx (y := (⟨"java/lang/String", "equals", "(Ljava/lang/Object;)Z"⟩ : MethodName)) (z := (⟨"java/lang/String", "equals", "(Ljava/lang/Object;)Z"⟩ : MethodName)) hown10 (mvT hZ10 (hw _ (own_mi 27 rfl))) (mvT hZ10 (hw _ (own_mi 28 rfl))) (notFace_of_selects (args := #[]) (mvT hZ10 (hw _ (own_mi 30 rfl)))) (mvT hZ10 (hw _ (own_mi 30 rfl))) (mvT hZ10 (hw _ (own_mi 29 rfl))) (by decide) (StrChars.Road.eqW (W := 0) hZ10 heq (kI := 4) (hw _ (own_mi 6 rfl)) F14 F15 F16 F17 (cs := (([b0, b1, b2, b3, b4, b5] : List Int32).take N)) (StrChars.Road.codOf rfl (fun c hc => (hpb c hc).2)) (fun c hc => own_up c (hpb c hc)) (by omega) Ex10 Va10 Co10 Ab10 (ds := ([116, 105, 116, 108, 101] : List Int32)) (StrChars.Road.codOf rfl (fun c hc => (hp2 c hc).2)) (fun c hc => own_up c (hp2 c hc)) (by decide) (O2.ext F18.2) P5 (by decide) (by decide)) qa19 qc19 (g := (mkF m 330 #[.val (.int i0), .val (.int i1), .val (.int i2), .val (.int i3), .val (.int i4), .val (.int i5), .val (.int md), .val (.int d0), .val (.int d1), .val (.int d2), .val (.int d3), .val (.int d4), .val (.int d5), .val (.ref ba), .val (.int (Int32.ofNat N)), .val (.ref sx), z16] [(.ref a10), (.ref sx)])) rfl (by rw [hml]; rfl) (Steps.refl _) (argsL := [(.ref a10)]) (rest := []) (lenOf own_pd_28Ljava2flang2fObject3b29Z rfl) rfl (by show 2 * 0 + _ ≤ _; exact Nat.le_of_eq rfl) (hb hby at_330) (fun _ _ => ⟨rfl, e10, (by decide : 9 + 0 ≤ _), (by decide : 46 + 0 ≤ _)⟩)
    dsimp only [Pt.U, Pt.locs, Pt.cells, Pt.slots] at X19 l19 y19 z19 st19 hQ19
    subst l19 y19 z19
    obtain ⟨hv19, rfl, eh19⟩ := hQ19
    have N19 := Fr.app N5 (Fr.nil n0)
    obtain ⟨ev19, rfl, hev19⟩ : ∃ z : Int32, rv19 = some (.int z) ∧ ((z = 1 ∧ (([b0, b1, b2, b3, b4, b5] : List Int32).take N) = ([116, 105, 116, 108, 101] : List Int32)) ∨ (z = 0 ∧ ¬ (([b0, b1, b2, b3, b4, b5] : List Int32).take N) = ([116, 105, 116, 108, 101] : List Int32))) := by
      rcases hv19 with ⟨h, h2⟩ | ⟨h, h2⟩
      · exact ⟨1, h, Or.inl ⟨rfl, h2⟩⟩
      · exact ⟨0, h, Or.inr ⟨rfl, h2⟩⟩
    refine own_go (fun tq kq => st19.trans kq) ?_
    show own_Rn p e below _ (T19.setTop (mkF m 333 #[.val (.int i0), .val (.int i1), .val (.int i2), .val (.int i3), .val (.int i4), .val (.int i5), .val (.int md), .val (.int d0), .val (.int d1), .val (.int d2), .val (.int d3), .val (.int d4), .val (.int d5), .val (.ref ba), .val (.int (Int32.ofNat N)), .val (.ref sx), z16] [(.int ev19)]))
    rcases hev19 with ⟨ee19, hw0⟩ | ⟨ee19, hw0⟩
    · skip
      refine own_go (fun tq kq => XS.ifNo X19.here hx rfl (hb hby at_333) rfl ((if0 _ _).trans (feq (by rw [ee19]; decide : ¬ (ev19 = (0 : Int32)))).1) kq) ?_
      show own_Rn p e below _ (T19.setTop (mkF m 336 #[.val (.int i0), .val (.int i1), .val (.int i2), .val (.int i3), .val (.int i4), .val (.int i5), .val (.int md), .val (.int d0), .val (.int d1), .val (.int d2), .val (.int d3), .val (.int d4), .val (.int d5), .val (.ref ba), .val (.int (Int32.ofNat N)), .val (.ref sx), z16] []))
      obtain ⟨T20, X20, e20, st20⟩ := getS2 X19 hx hZ10 hown10 (host := "") (Or.inl (hw _ (own_mi 91 rfl))) Via.refl eh19 (OT0.ext F18.2) (g := (mkF m 336 #[.val (.int i0), .val (.int i1), .val (.int i2), .val (.int i3), .val (.int i4), .val (.int i5), .val (.int md), .val (.int d0), .val (.int d1), .val (.int d2), .val (.int d3), .val (.int d4), .val (.int d5), .val (.ref ba), .val (.int (Int32.ofNat N)), .val (.ref sx), z16] [])) rfl (hb hby at_336)
      refine own_go st20 ?_
      show own_Rn p e below _ (T20.setTop (mkF m 339 #[.val (.int i0), .val (.int i1), .val (.int i2), .val (.int i3), .val (.int i4), .val (.int i5), .val (.int md), .val (.int d0), .val (.int d1), .val (.int d2), .val (.int d3), .val (.int d4), .val (.int d5), .val (.ref ba), .val (.int (Int32.ofNat N)), .val (.ref sx), z16] [(.ref t0)]))
      have os21 : storeLocals #[.val (.int i0), .val (.int i1), .val (.int i2), .val (.int i3), .val (.int i4), .val (.int i5), .val (.int md), .val (.int d0), .val (.int d1), .val (.int d2), .val (.int d3), .val (.int d4), .val (.int d5), .val (.ref ba), .val (.int (Int32.ofNat N)), .val (.ref sx), z16] 16 (.ref t0) = some #[.val (.int i0), .val (.int i1), .val (.int i2), .val (.int i3), .val (.int i4), .val (.int i5), .val (.int md), .val (.int d0), .val (.int d1), .val (.int d2), .val (.int d3), .val (.int d4), .val (.int d5), .val (.ref ba), .val (.int (Int32.ofNat N)), .val (.ref sx), .val (.ref t0)] := by
        rcases o16 with rfl | ⟨w, rfl, hw⟩
        · rfl
        · cases w <;> first | rfl | (simp [Value.category] at hw)
      refine own_go (fun tq kq => XS.astore X20.here hx rfl (hb hby at_339) rfl rfl (l' := #[.val (.int i0), .val (.int i1), .val (.int i2), .val (.int i3), .val (.int i4), .val (.int i5), .val (.int md), .val (.int d0), .val (.int d1), .val (.int d2), .val (.int d3), .val (.int d4), .val (.int d5), .val (.ref ba), .val (.int (Int32.ofNat N)), .val (.ref sx), .val (.ref t0)]) os21 kq) ?_
      show own_Rn p e below _ (T20.setTop (mkF m 341 #[.val (.int i0), .val (.int i1), .val (.int i2), .val (.int i3), .val (.int i4), .val (.int i5), .val (.int md), .val (.int d0), .val (.int d1), .val (.int d2), .val (.int d3), .val (.int d4), .val (.int d5), .val (.ref ba), .val (.int (Int32.ofNat N)), .val (.ref sx), .val (.ref t0)] []))
      refine own_go (fun tq kq => XS.goto X20.here hx rfl (pc0 := 341) (pc' := 383) rfl (hb hby at_341) (by decide) (by decide) kq) ?_
      show own_Rn p e below _ (T20.setTop (mkF m 383 #[.val (.int i0), .val (.int i1), .val (.int i2), .val (.int i3), .val (.int i4), .val (.int i5), .val (.int md), .val (.int d0), .val (.int d1), .val (.int d2), .val (.int d3), .val (.int d4), .val (.int d5), .val (.ref ba), .val (.int (Int32.ofNat N)), .val (.ref sx), .val (.ref t0)] []))
      refine own_go (fun tq kq => XS.aload X20.here hx rfl (hb hby at_383) rfl rfl kq) ?_
      show own_Rn p e below _ (T20.setTop (mkF m 385 #[.val (.int i0), .val (.int i1), .val (.int i2), .val (.int i3), .val (.int i4), .val (.int i5), .val (.int md), .val (.int d0), .val (.int d1), .val (.int d2), .val (.int d3), .val (.int d4), .val (.int d5), .val (.ref ba), .val (.int (Int32.ofNat N)), .val (.ref sx), .val (.ref t0)] [(.ref sx)]))
      have Zn22 : n0 ≤ h10.size := by omega
      obtain ⟨rv22, _, ⟨T22, L22, k22, n22⟩, -, X22, ⟨Lc22, hQ22, l22, y22, z22⟩, st22⟩ := Jvm.LawKit.callS X20 hx (y := (⟨"com/example/words_into_queries/wordsintoqueries/formulation/TopicField", "find", "(Ljava/lang/String;)Lcom/example/words_into_queries/wordsintoqueries/formulation/TopicField;"⟩ : MethodName)) hown10 (mvT hZ10 (hw _ (own_mi 40 rfl))) (mvT hZ10 (hw _ (own_mi 41 rfl))) (mvT hZ10 (hw _ (own_mi 42 rfl))) (mvT hZ10 (hw _ (own_mi 43 rfl))) (by decide) (backOf (W := 0) (rmFind l Z a0 hw [] (va) (kv) (t0) (t1) (t2) (s0) (x0) (y0) (k0) (s1) (x1) (y1) (k1) (s2) (x2) (y2) (k2) (sx) (sy) (sk) ((([b0, b1, b2, b3, b4, b5] : List Int32).take N)) (G1) h10 n0 Zn22 (OV) EV AV ZT0 ZM0 ZS0 ZN0 ZX00 ZX01 ZX02 ZX03 ZT1 ZM1 ZS1 ZN1 ZX10 ZX11 ZX12 ZX13 ZT2 ZM2 ZS2 ZN2 ZX20 ZX21 ZX22 ZX23 F14 F15 F16 F17 (hpb) (hlb) (O2) (P5) F18) hZ10 (hw _ (own_mi 43 rfl)) (hw _ (own_mi 42 rfl)) (by decide) (by decide)) (g := (mkF m 385 #[.val (.int i0), .val (.int i1), .val (.int i2), .val (.int i3), .val (.int i4), .val (.int i5), .val (.int md), .val (.int d0), .val (.int d1), .val (.int d2), .val (.int d3), .val (.int d4), .val (.int d5), .val (.ref ba), .val (.int (Int32.ofNat N)), .val (.ref sx), .val (.ref t0)] [(.ref sx)])) rfl (by rw [hml]; rfl) (argsL := [(.ref sx)]) (rest := []) (lenOf own_pd_28Ljava2flang2fString3b29Lcom2fexample2fwords_into_queries2fwordsintoqueries2fformulation2fTopicField3b rfl) rfl (by show 2 * 0 + _ ≤ _; exact Nat.le_of_eq rfl) (hb hby at_385) (fun _ _ => ⟨rfl, e20, (by decide : 9 + 1 ≤ _), (by decide : 46 + 3 ≤ _)⟩)
      dsimp only [Pt.U, Pt.locs, Pt.cells, Pt.slots] at X22 l22 y22 z22 st22 hQ22
      subst l22 y22 z22
      obtain ⟨rfl, Nq22, Kq22⟩ := hQ22
      have N22 := Fr.app N19 Nq22
      have sz23 : h10.size ≤ T22.heap.size := Kq22.1
      have cr23 : CHr Z consts_1 T10.vm h10 T10.vm T22.heap := CHr.keep Kq22 sf0 CR11.1
      have CR23 := CR11.trans cr23
      refine own_go st22 ?_
      show own_Rn p e below _ (T22.setTop (mkF m 388 #[.val (.int i0), .val (.int i1), .val (.int i2), .val (.int i3), .val (.int i4), .val (.int i5), .val (.int md), .val (.int d0), .val (.int d1), .val (.int d2), .val (.int d3), .val (.int d4), .val (.int d5), .val (.ref ba), .val (.int (Int32.ofNat N)), .val (.ref sx), .val (.ref t0)] [(own_fv (([b0, b1, b2, b3, b4, b5] : List Int32).take N) t0 t1 t2)]))
      refine own_go (fun tq kq => XS.aload X22.here hx rfl (hb hby at_388) rfl rfl kq) ?_
      show own_Rn p e below _ (T22.setTop (mkF m 390 #[.val (.int i0), .val (.int i1), .val (.int i2), .val (.int i3), .val (.int i4), .val (.int i5), .val (.int md), .val (.int d0), .val (.int d1), .val (.int d2), .val (.int d3), .val (.int d4), .val (.int d5), .val (.ref ba), .val (.int (Int32.ofNat N)), .val (.ref sx), .val (.ref t0)] [(.ref t0), (own_fv (([b0, b1, b2, b3, b4, b5] : List Int32).take N) t0 t1 t2)]))
      rw [show own_fv (([b0, b1, b2, b3, b4, b5] : List Int32).take N) t0 t1 t2 = (.ref t0) by rw [own_fv, if_pos hw0.symm]]
      show own_Rn p e below _ (T22.setTop (mkF m 390 #[.val (.int i0), .val (.int i1), .val (.int i2), .val (.int i3), .val (.int i4), .val (.int i5), .val (.int md), .val (.int d0), .val (.int d1), .val (.int d2), .val (.int d3), .val (.int d4), .val (.int d5), .val (.ref ba), .val (.int (Int32.ofNat N)), .val (.ref sx), .val (.ref t0)] [(.ref t0), (.ref t0)]))
      refine own_go (fun tq kq => Jvm.RoadKit.acmp (g := (mkF m 390 #[.val (.int i0), .val (.int i1), .val (.int i2), .val (.int i3), .val (.int i4), .val (.int i5), .val (.int md), .val (.int d0), .val (.int d1), .val (.int d2), .val (.int d3), .val (.int d4), .val (.int d5), .val (.ref ba), .val (.int (Int32.ofNat N)), .val (.ref sx), .val (.ref t0)] [(.ref t0), (.ref t0)])) X22 hx rfl rfl rfl (pc0 := 390) (pc' := 393) (same := true) rfl (hb hby at_390) rfl (decide_eq_true rfl) (by decide) (by decide) kq) ?_
      show own_Rn p e below _ (T22.setTop (mkF m 393 #[.val (.int i0), .val (.int i1), .val (.int i2), .val (.int i3), .val (.int i4), .val (.int i5), .val (.int md), .val (.int d0), .val (.int d1), .val (.int d2), .val (.int d3), .val (.int d4), .val (.int d5), .val (.ref ba), .val (.int (Int32.ofNat N)), .val (.ref sx), .val (.ref t0)] []))
      refine own_go (fun tq kq => XS.iconst X22.here hx rfl (hb hby at_393) kq) ?_
      show own_Rn p e below _ (T22.setTop (mkF m 394 #[.val (.int i0), .val (.int i1), .val (.int i2), .val (.int i3), .val (.int i4), .val (.int i5), .val (.int md), .val (.int d0), .val (.int d1), .val (.int d2), .val (.int d3), .val (.int d4), .val (.int d5), .val (.ref ba), .val (.int (Int32.ofNat N)), .val (.ref sx), .val (.ref t0)] [(.int (1 : Int32))]))
      refine own_go (fun tq kq => XS.goto X22.here hx rfl (pc0 := 394) (pc' := 398) rfl (hb hby at_394) (by decide) (by decide) kq) ?_
      show own_Rn p e below _ (T22.setTop (mkF m 398 #[.val (.int i0), .val (.int i1), .val (.int i2), .val (.int i3), .val (.int i4), .val (.int i5), .val (.int md), .val (.int d0), .val (.int d1), .val (.int d2), .val (.int d3), .val (.int d4), .val (.int d5), .val (.ref ba), .val (.int (Int32.ofNat N)), .val (.ref sx), .val (.ref t0)] [(.int (1 : Int32))]))
      exact own_retS X22 hS10 (by omega) (v := some (.int (nar .boolean (1 : Int32)))) (fun h => by rw [Bd.returns] at h; cases h) (fun fs hr => retN X22 hx (t := .boolean) Bd.returns (by simp) (hb hby at_398) hr) (⟨rfl, N22⟩) (by rw [hh]; exact CR23.trans (CHv.at X22 hZ10 hEL CR23.1)) (by decide) (by decide)
    · skip
      refine own_go (fun tq kq => XS.ifYes X19.here hx rfl (pc0 := 333) (pc' := 344) rfl (hb hby at_333) rfl ((if0 _ _).trans (teq (ee19 : ev19 = (0 : Int32))).1) (by decide) (by decide) kq) ?_
      show own_Rn p e below _ (T19.setTop (mkF m 344 #[.val (.int i0), .val (.int i1), .val (.int i2), .val (.int i3), .val (.int i4), .val (.int i5), .val (.int md), .val (.int d0), .val (.int d1), .val (.int d2), .val (.int d3), .val (.int d4), .val (.int d5), .val (.ref ba), .val (.int (Int32.ofNat N)), .val (.ref sx), z16] []))
      refine own_go (fun tq kq => XS.aload X19.here hx rfl (hb hby at_344) rfl rfl kq) ?_
      show own_Rn p e below _ (T19.setTop (mkF m 346 #[.val (.int i0), .val (.int i1), .val (.int i2), .val (.int i3), .val (.int i4), .val (.int i5), .val (.int md), .val (.int d0), .val (.int d1), .val (.int d2), .val (.int d3), .val (.int d4), .val (.int d5), .val (.ref ba), .val (.int (Int32.ofNat N)), .val (.ref sx), z16] [(.ref sx)]))
      obtain ⟨a24, T24, h24, kk24, bb24, kc24, X24, e24, E24, hS24, hk24, hZ24, hown24, Ex24, Co24, Va24, Ab24, la24, lb24, crq24, Li24, sn24, st24⟩ := ldcCH X19 hx hZ10 hown10 (hw _ (own_mi 38 rfl)) hwS eh19 hS10 (by omega) hEL (List.mem_of_getElem? (i := 1) rfl) CR11.1 (vs := ((([100, 101, 115, 99] : List Int32).map (fun c => c.toInt8.toInt32)).map Value.int)) (z := (4 : Int32)) ⟨by decide, by decide⟩ (by decide) (by decide) (g := (mkF m 346 #[.val (.int i0), .val (.int i1), .val (.int i2), .val (.int i3), .val (.int i4), .val (.int i5), .val (.int md), .val (.int d0), .val (.int d1), .val (.int d2), .val (.int d3), .val (.int d4), .val (.int d5), .val (.ref ba), .val (.int (Int32.ofNat N)), .val (.ref sx), z16] [(.ref sx)])) rfl (hb hby at_346) (n := 16) (by decide) (by decide) (by decide) (by decide)
      refine own_go st24 ?_
      have sz25 : h10.size ≤ h24.size := E24.1
      have cr25 : CHr Z consts_1 T10.vm h10 T24.vm h24 := crq24
      have CR25 := CR11.trans cr25
      have lt26 : @LT.lt Nat _ a24 h24.size := Ex24.lt
      have lt27 : @LT.lt Nat _ bb24 h24.size := Ab24.lt
      show own_Rn p e below _ (T24.setTop (mkF m 348 #[.val (.int i0), .val (.int i1), .val (.int i2), .val (.int i3), .val (.int i4), .val (.int i5), .val (.int md), .val (.int d0), .val (.int d1), .val (.int d2), .val (.int d3), .val (.int d4), .val (.int d5), .val (.ref ba), .val (.int (Int32.ofNat N)), .val (.ref sx), z16] [(.ref a24), (.ref sx)]))
      have F28 : Exa Z h24 sx "java/lang/String" := (F14.ext E24)
      have F29 : Fld Z h24 sx "java/lang/String" "value" "[B" (.ref sy) := (F15.ext E24)
      have F30 : Fld Z h24 sx "java/lang/String" "coder" "B" (.int (0 : Int32)) := (F16.ext E24)
      have F31 : Arv Z h24 sy sk .byte (Int32.ofNat (([b0, b1, b2, b3, b4, b5] : List Int32).take N).length) (own_bs (([b0, b1, b2, b3, b4, b5] : List Int32).take N)) (.int 0) := (F17.ext E24)
      have F32 : Old Z n0 h24 := (F18.ext E24)
      obtain ⟨cq33, kq33, qa33, qb33, qc33⟩ := isOf hZ24 e24 F28
      obtain ⟨rv33, _, ⟨T33, L33, k33, n33⟩, -, X33, ⟨Lc33, hQ33, l33, y33, z33⟩, st33⟩ := X24.virtualBack hx (y := (⟨"java/lang/String", "equals", "(Ljava/lang/Object;)Z"⟩ : MethodName)) (z := (⟨"java/lang/String", "equals", "(Ljava/lang/Object;)Z"⟩ : MethodName)) hown24 (mvT hZ24 (hw _ (own_mi 27 rfl))) (mvT hZ24 (hw _ (own_mi 28 rfl))) (notFace_of_selects (args := #[]) (mvT hZ24 (hw _ (own_mi 30 rfl)))) (mvT hZ24 (hw _ (own_mi 30 rfl))) (mvT hZ24 (hw _ (own_mi 29 rfl))) (by decide) (StrChars.Road.eqW (W := 0) hZ24 heq (kI := 4) (hw _ (own_mi 6 rfl)) F28 F29 F30 F31 (cs := (([b0, b1, b2, b3, b4, b5] : List Int32).take N)) (StrChars.Road.codOf rfl (fun c hc => (hpb c hc).2)) (fun c hc => own_up c (hpb c hc)) (by omega) Ex24 Va24 Co24 Ab24 (ds := ([100, 101, 115, 99] : List Int32)) (StrChars.Road.codOf rfl (fun c hc => (hp3 c hc).2)) (fun c hc => own_up c (hp3 c hc)) (by decide) (O2.ext F32.2) P5 (by decide) (by decide)) qa33 qc33 (g := (mkF m 348 #[.val (.int i0), .val (.int i1), .val (.int i2), .val (.int i3), .val (.int i4), .val (.int i5), .val (.int md), .val (.int d0), .val (.int d1), .val (.int d2), .val (.int d3), .val (.int d4), .val (.int d5), .val (.ref ba), .val (.int (Int32.ofNat N)), .val (.ref sx), z16] [(.ref a24), (.ref sx)])) rfl (by rw [hml]; rfl) (Steps.refl _) (argsL := [(.ref a24)]) (rest := []) (lenOf own_pd_28Ljava2flang2fObject3b29Z rfl) rfl (by show 2 * 0 + _ ≤ _; exact Nat.le_of_eq rfl) (hb hby at_348) (fun _ _ => ⟨rfl, e24, (by decide : 11 + 0 ≤ _), (by decide : 66 + 0 ≤ _)⟩)
      dsimp only [Pt.U, Pt.locs, Pt.cells, Pt.slots] at X33 l33 y33 z33 st33 hQ33
      subst l33 y33 z33
      obtain ⟨hv33, rfl, eh33⟩ := hQ33
      have N33 := Fr.app N19 (Fr.nil n0)
      obtain ⟨ev33, rfl, hev33⟩ : ∃ z : Int32, rv33 = some (.int z) ∧ ((z = 1 ∧ (([b0, b1, b2, b3, b4, b5] : List Int32).take N) = ([100, 101, 115, 99] : List Int32)) ∨ (z = 0 ∧ ¬ (([b0, b1, b2, b3, b4, b5] : List Int32).take N) = ([100, 101, 115, 99] : List Int32))) := by
        rcases hv33 with ⟨h, h2⟩ | ⟨h, h2⟩
        · exact ⟨1, h, Or.inl ⟨rfl, h2⟩⟩
        · exact ⟨0, h, Or.inr ⟨rfl, h2⟩⟩
      refine own_go (fun tq kq => st33.trans kq) ?_
      show own_Rn p e below _ (T33.setTop (mkF m 351 #[.val (.int i0), .val (.int i1), .val (.int i2), .val (.int i3), .val (.int i4), .val (.int i5), .val (.int md), .val (.int d0), .val (.int d1), .val (.int d2), .val (.int d3), .val (.int d4), .val (.int d5), .val (.ref ba), .val (.int (Int32.ofNat N)), .val (.ref sx), z16] [(.int ev33)]))
      rcases hev33 with ⟨ee33, hw1⟩ | ⟨ee33, hw1⟩
      · skip
        refine own_go (fun tq kq => XS.ifNo X33.here hx rfl (hb hby at_351) rfl ((if0 _ _).trans (feq (by rw [ee33]; decide : ¬ (ev33 = (0 : Int32)))).1) kq) ?_
        show own_Rn p e below _ (T33.setTop (mkF m 354 #[.val (.int i0), .val (.int i1), .val (.int i2), .val (.int i3), .val (.int i4), .val (.int i5), .val (.int md), .val (.int d0), .val (.int d1), .val (.int d2), .val (.int d3), .val (.int d4), .val (.int d5), .val (.ref ba), .val (.int (Int32.ofNat N)), .val (.ref sx), z16] []))
        obtain ⟨T34, X34, e34, st34⟩ := getS2 X33 hx hZ24 hown24 (host := "") (Or.inl (hw _ (own_mi 92 rfl))) Via.refl eh33 (OT1.ext F32.2) (g := (mkF m 354 #[.val (.int i0), .val (.int i1), .val (.int i2), .val (.int i3), .val (.int i4), .val (.int i5), .val (.int md), .val (.int d0), .val (.int d1), .val (.int d2), .val (.int d3), .val (.int d4), .val (.int d5), .val (.ref ba), .val (.int (Int32.ofNat N)), .val (.ref sx), z16] [])) rfl (hb hby at_354)
        refine own_go st34 ?_
        show own_Rn p e below _ (T34.setTop (mkF m 357 #[.val (.int i0), .val (.int i1), .val (.int i2), .val (.int i3), .val (.int i4), .val (.int i5), .val (.int md), .val (.int d0), .val (.int d1), .val (.int d2), .val (.int d3), .val (.int d4), .val (.int d5), .val (.ref ba), .val (.int (Int32.ofNat N)), .val (.ref sx), z16] [(.ref t1)]))
        have os35 : storeLocals #[.val (.int i0), .val (.int i1), .val (.int i2), .val (.int i3), .val (.int i4), .val (.int i5), .val (.int md), .val (.int d0), .val (.int d1), .val (.int d2), .val (.int d3), .val (.int d4), .val (.int d5), .val (.ref ba), .val (.int (Int32.ofNat N)), .val (.ref sx), z16] 16 (.ref t1) = some #[.val (.int i0), .val (.int i1), .val (.int i2), .val (.int i3), .val (.int i4), .val (.int i5), .val (.int md), .val (.int d0), .val (.int d1), .val (.int d2), .val (.int d3), .val (.int d4), .val (.int d5), .val (.ref ba), .val (.int (Int32.ofNat N)), .val (.ref sx), .val (.ref t1)] := by
          rcases o16 with rfl | ⟨w, rfl, hw⟩
          · rfl
          · cases w <;> first | rfl | (simp [Value.category] at hw)
        refine own_go (fun tq kq => XS.astore X34.here hx rfl (hb hby at_357) rfl rfl (l' := #[.val (.int i0), .val (.int i1), .val (.int i2), .val (.int i3), .val (.int i4), .val (.int i5), .val (.int md), .val (.int d0), .val (.int d1), .val (.int d2), .val (.int d3), .val (.int d4), .val (.int d5), .val (.ref ba), .val (.int (Int32.ofNat N)), .val (.ref sx), .val (.ref t1)]) os35 kq) ?_
        show own_Rn p e below _ (T34.setTop (mkF m 359 #[.val (.int i0), .val (.int i1), .val (.int i2), .val (.int i3), .val (.int i4), .val (.int i5), .val (.int md), .val (.int d0), .val (.int d1), .val (.int d2), .val (.int d3), .val (.int d4), .val (.int d5), .val (.ref ba), .val (.int (Int32.ofNat N)), .val (.ref sx), .val (.ref t1)] []))
        refine own_go (fun tq kq => XS.goto X34.here hx rfl (pc0 := 359) (pc' := 383) rfl (hb hby at_359) (by decide) (by decide) kq) ?_
        show own_Rn p e below _ (T34.setTop (mkF m 383 #[.val (.int i0), .val (.int i1), .val (.int i2), .val (.int i3), .val (.int i4), .val (.int i5), .val (.int md), .val (.int d0), .val (.int d1), .val (.int d2), .val (.int d3), .val (.int d4), .val (.int d5), .val (.ref ba), .val (.int (Int32.ofNat N)), .val (.ref sx), .val (.ref t1)] []))
        refine own_go (fun tq kq => XS.aload X34.here hx rfl (hb hby at_383) rfl rfl kq) ?_
        show own_Rn p e below _ (T34.setTop (mkF m 385 #[.val (.int i0), .val (.int i1), .val (.int i2), .val (.int i3), .val (.int i4), .val (.int i5), .val (.int md), .val (.int d0), .val (.int d1), .val (.int d2), .val (.int d3), .val (.int d4), .val (.int d5), .val (.ref ba), .val (.int (Int32.ofNat N)), .val (.ref sx), .val (.ref t1)] [(.ref sx)]))
        have Zn36 : n0 ≤ h24.size := by omega
        obtain ⟨rv36, _, ⟨T36, L36, k36, n36⟩, -, X36, ⟨Lc36, hQ36, l36, y36, z36⟩, st36⟩ := Jvm.LawKit.callS X34 hx (y := (⟨"com/example/words_into_queries/wordsintoqueries/formulation/TopicField", "find", "(Ljava/lang/String;)Lcom/example/words_into_queries/wordsintoqueries/formulation/TopicField;"⟩ : MethodName)) hown24 (mvT hZ24 (hw _ (own_mi 40 rfl))) (mvT hZ24 (hw _ (own_mi 41 rfl))) (mvT hZ24 (hw _ (own_mi 42 rfl))) (mvT hZ24 (hw _ (own_mi 43 rfl))) (by decide) (backOf (W := 0) (rmFind l Z a0 hw [] (va) (kv) (t0) (t1) (t2) (s0) (x0) (y0) (k0) (s1) (x1) (y1) (k1) (s2) (x2) (y2) (k2) (sx) (sy) (sk) ((([b0, b1, b2, b3, b4, b5] : List Int32).take N)) (G1) h24 n0 Zn36 (OV) EV AV ZT0 ZM0 ZS0 ZN0 ZX00 ZX01 ZX02 ZX03 ZT1 ZM1 ZS1 ZN1 ZX10 ZX11 ZX12 ZX13 ZT2 ZM2 ZS2 ZN2 ZX20 ZX21 ZX22 ZX23 F28 F29 F30 F31 (hpb) (hlb) (O2) (P5) F32) hZ24 (hw _ (own_mi 43 rfl)) (hw _ (own_mi 42 rfl)) (by decide) (by decide)) (g := (mkF m 385 #[.val (.int i0), .val (.int i1), .val (.int i2), .val (.int i3), .val (.int i4), .val (.int i5), .val (.int md), .val (.int d0), .val (.int d1), .val (.int d2), .val (.int d3), .val (.int d4), .val (.int d5), .val (.ref ba), .val (.int (Int32.ofNat N)), .val (.ref sx), .val (.ref t1)] [(.ref sx)])) rfl (by rw [hml]; rfl) (argsL := [(.ref sx)]) (rest := []) (lenOf own_pd_28Ljava2flang2fString3b29Lcom2fexample2fwords_into_queries2fwordsintoqueries2fformulation2fTopicField3b rfl) rfl (by show 2 * 0 + _ ≤ _; exact Nat.le_of_eq rfl) (hb hby at_385) (fun _ _ => ⟨rfl, e34, (by decide : 11 + 1 ≤ _), (by decide : 66 + 3 ≤ _)⟩)
        dsimp only [Pt.U, Pt.locs, Pt.cells, Pt.slots] at X36 l36 y36 z36 st36 hQ36
        subst l36 y36 z36
        obtain ⟨rfl, Nq36, Kq36⟩ := hQ36
        have N36 := Fr.app N33 Nq36
        have sz37 : h24.size ≤ T36.heap.size := Kq36.1
        have cr37 : CHr Z consts_1 T24.vm h24 T24.vm T36.heap := CHr.keep Kq36 sf0 CR25.1
        have CR37 := CR25.trans cr37
        refine own_go st36 ?_
        show own_Rn p e below _ (T36.setTop (mkF m 388 #[.val (.int i0), .val (.int i1), .val (.int i2), .val (.int i3), .val (.int i4), .val (.int i5), .val (.int md), .val (.int d0), .val (.int d1), .val (.int d2), .val (.int d3), .val (.int d4), .val (.int d5), .val (.ref ba), .val (.int (Int32.ofNat N)), .val (.ref sx), .val (.ref t1)] [(own_fv (([b0, b1, b2, b3, b4, b5] : List Int32).take N) t0 t1 t2)]))
        refine own_go (fun tq kq => XS.aload X36.here hx rfl (hb hby at_388) rfl rfl kq) ?_
        show own_Rn p e below _ (T36.setTop (mkF m 390 #[.val (.int i0), .val (.int i1), .val (.int i2), .val (.int i3), .val (.int i4), .val (.int i5), .val (.int md), .val (.int d0), .val (.int d1), .val (.int d2), .val (.int d3), .val (.int d4), .val (.int d5), .val (.ref ba), .val (.int (Int32.ofNat N)), .val (.ref sx), .val (.ref t1)] [(.ref t1), (own_fv (([b0, b1, b2, b3, b4, b5] : List Int32).take N) t0 t1 t2)]))
        rw [show own_fv (([b0, b1, b2, b3, b4, b5] : List Int32).take N) t0 t1 t2 = (.ref t1) by rw [own_fv, if_neg (fun q => hw0 q.symm), if_pos hw1.symm]]
        show own_Rn p e below _ (T36.setTop (mkF m 390 #[.val (.int i0), .val (.int i1), .val (.int i2), .val (.int i3), .val (.int i4), .val (.int i5), .val (.int md), .val (.int d0), .val (.int d1), .val (.int d2), .val (.int d3), .val (.int d4), .val (.int d5), .val (.ref ba), .val (.int (Int32.ofNat N)), .val (.ref sx), .val (.ref t1)] [(.ref t1), (.ref t1)]))
        refine own_go (fun tq kq => Jvm.RoadKit.acmp (g := (mkF m 390 #[.val (.int i0), .val (.int i1), .val (.int i2), .val (.int i3), .val (.int i4), .val (.int i5), .val (.int md), .val (.int d0), .val (.int d1), .val (.int d2), .val (.int d3), .val (.int d4), .val (.int d5), .val (.ref ba), .val (.int (Int32.ofNat N)), .val (.ref sx), .val (.ref t1)] [(.ref t1), (.ref t1)])) X36 hx rfl rfl rfl (pc0 := 390) (pc' := 393) (same := true) rfl (hb hby at_390) rfl (decide_eq_true rfl) (by decide) (by decide) kq) ?_
        show own_Rn p e below _ (T36.setTop (mkF m 393 #[.val (.int i0), .val (.int i1), .val (.int i2), .val (.int i3), .val (.int i4), .val (.int i5), .val (.int md), .val (.int d0), .val (.int d1), .val (.int d2), .val (.int d3), .val (.int d4), .val (.int d5), .val (.ref ba), .val (.int (Int32.ofNat N)), .val (.ref sx), .val (.ref t1)] []))
        refine own_go (fun tq kq => XS.iconst X36.here hx rfl (hb hby at_393) kq) ?_
        show own_Rn p e below _ (T36.setTop (mkF m 394 #[.val (.int i0), .val (.int i1), .val (.int i2), .val (.int i3), .val (.int i4), .val (.int i5), .val (.int md), .val (.int d0), .val (.int d1), .val (.int d2), .val (.int d3), .val (.int d4), .val (.int d5), .val (.ref ba), .val (.int (Int32.ofNat N)), .val (.ref sx), .val (.ref t1)] [(.int (1 : Int32))]))
        refine own_go (fun tq kq => XS.goto X36.here hx rfl (pc0 := 394) (pc' := 398) rfl (hb hby at_394) (by decide) (by decide) kq) ?_
        show own_Rn p e below _ (T36.setTop (mkF m 398 #[.val (.int i0), .val (.int i1), .val (.int i2), .val (.int i3), .val (.int i4), .val (.int i5), .val (.int md), .val (.int d0), .val (.int d1), .val (.int d2), .val (.int d3), .val (.int d4), .val (.int d5), .val (.ref ba), .val (.int (Int32.ofNat N)), .val (.ref sx), .val (.ref t1)] [(.int (1 : Int32))]))
        exact own_retS X36 hS24 (by omega) (v := some (.int (nar .boolean (1 : Int32)))) (fun h => by rw [Bd.returns] at h; cases h) (fun fs hr => retN X36 hx (t := .boolean) Bd.returns (by simp) (hb hby at_398) hr) (⟨rfl, N36⟩) (by rw [hh]; exact CR37.trans (CHv.at X36 hZ24 hEL CR37.1)) (by decide) (by decide)
      · skip
        refine own_go (fun tq kq => XS.ifYes X33.here hx rfl (pc0 := 351) (pc' := 362) rfl (hb hby at_351) rfl ((if0 _ _).trans (teq (ee33 : ev33 = (0 : Int32))).1) (by decide) (by decide) kq) ?_
        show own_Rn p e below _ (T33.setTop (mkF m 362 #[.val (.int i0), .val (.int i1), .val (.int i2), .val (.int i3), .val (.int i4), .val (.int i5), .val (.int md), .val (.int d0), .val (.int d1), .val (.int d2), .val (.int d3), .val (.int d4), .val (.int d5), .val (.ref ba), .val (.int (Int32.ofNat N)), .val (.ref sx), z16] []))
        refine own_go (fun tq kq => XS.aload X33.here hx rfl (hb hby at_362) rfl rfl kq) ?_
        show own_Rn p e below _ (T33.setTop (mkF m 364 #[.val (.int i0), .val (.int i1), .val (.int i2), .val (.int i3), .val (.int i4), .val (.int i5), .val (.int md), .val (.int d0), .val (.int d1), .val (.int d2), .val (.int d3), .val (.int d4), .val (.int d5), .val (.ref ba), .val (.int (Int32.ofNat N)), .val (.ref sx), z16] [(.ref sx)]))
        obtain ⟨a38, T38, h38, kk38, bb38, kc38, X38, e38, E38, hS38, hk38, hZ38, hown38, Ex38, Co38, Va38, Ab38, la38, lb38, crq38, Li38, sn38, st38⟩ := ldcCH X33 hx hZ24 hown24 (hw _ (own_mi 39 rfl)) hwS eh33 hS24 (by omega) hEL (List.mem_of_getElem? (i := 2) rfl) CR25.1 (vs := ((([110, 97, 114, 114] : List Int32).map (fun c => c.toInt8.toInt32)).map Value.int)) (z := (4 : Int32)) ⟨by decide, by decide⟩ (by decide) (by decide) (g := (mkF m 364 #[.val (.int i0), .val (.int i1), .val (.int i2), .val (.int i3), .val (.int i4), .val (.int i5), .val (.int md), .val (.int d0), .val (.int d1), .val (.int d2), .val (.int d3), .val (.int d4), .val (.int d5), .val (.ref ba), .val (.int (Int32.ofNat N)), .val (.ref sx), z16] [(.ref sx)])) rfl (hb hby at_364) (n := 16) (by decide) (by decide) (by decide) (by decide)
        refine own_go st38 ?_
        have sz39 : h24.size ≤ h38.size := E38.1
        have cr39 : CHr Z consts_1 T24.vm h24 T38.vm h38 := crq38
        have CR39 := CR25.trans cr39
        have lt40 : @LT.lt Nat _ a38 h38.size := Ex38.lt
        have lt41 : @LT.lt Nat _ bb38 h38.size := Ab38.lt
        show own_Rn p e below _ (T38.setTop (mkF m 366 #[.val (.int i0), .val (.int i1), .val (.int i2), .val (.int i3), .val (.int i4), .val (.int i5), .val (.int md), .val (.int d0), .val (.int d1), .val (.int d2), .val (.int d3), .val (.int d4), .val (.int d5), .val (.ref ba), .val (.int (Int32.ofNat N)), .val (.ref sx), z16] [(.ref a38), (.ref sx)]))
        have F42 : Exa Z h38 sx "java/lang/String" := (F28.ext E38)
        have F43 : Fld Z h38 sx "java/lang/String" "value" "[B" (.ref sy) := (F29.ext E38)
        have F44 : Fld Z h38 sx "java/lang/String" "coder" "B" (.int (0 : Int32)) := (F30.ext E38)
        have F45 : Arv Z h38 sy sk .byte (Int32.ofNat (([b0, b1, b2, b3, b4, b5] : List Int32).take N).length) (own_bs (([b0, b1, b2, b3, b4, b5] : List Int32).take N)) (.int 0) := (F31.ext E38)
        have F46 : Old Z n0 h38 := (F32.ext E38)
        obtain ⟨cq47, kq47, qa47, qb47, qc47⟩ := isOf hZ38 e38 F42
        obtain ⟨rv47, _, ⟨T47, L47, k47, n47⟩, -, X47, ⟨Lc47, hQ47, l47, y47, z47⟩, st47⟩ := X38.virtualBack hx (y := (⟨"java/lang/String", "equals", "(Ljava/lang/Object;)Z"⟩ : MethodName)) (z := (⟨"java/lang/String", "equals", "(Ljava/lang/Object;)Z"⟩ : MethodName)) hown38 (mvT hZ38 (hw _ (own_mi 27 rfl))) (mvT hZ38 (hw _ (own_mi 28 rfl))) (notFace_of_selects (args := #[]) (mvT hZ38 (hw _ (own_mi 30 rfl)))) (mvT hZ38 (hw _ (own_mi 30 rfl))) (mvT hZ38 (hw _ (own_mi 29 rfl))) (by decide) (StrChars.Road.eqW (W := 0) hZ38 heq (kI := 4) (hw _ (own_mi 6 rfl)) F42 F43 F44 F45 (cs := (([b0, b1, b2, b3, b4, b5] : List Int32).take N)) (StrChars.Road.codOf rfl (fun c hc => (hpb c hc).2)) (fun c hc => own_up c (hpb c hc)) (by omega) Ex38 Va38 Co38 Ab38 (ds := ([110, 97, 114, 114] : List Int32)) (StrChars.Road.codOf rfl (fun c hc => (hp4 c hc).2)) (fun c hc => own_up c (hp4 c hc)) (by decide) (O2.ext F46.2) P5 (by decide) (by decide)) qa47 qc47 (g := (mkF m 366 #[.val (.int i0), .val (.int i1), .val (.int i2), .val (.int i3), .val (.int i4), .val (.int i5), .val (.int md), .val (.int d0), .val (.int d1), .val (.int d2), .val (.int d3), .val (.int d4), .val (.int d5), .val (.ref ba), .val (.int (Int32.ofNat N)), .val (.ref sx), z16] [(.ref a38), (.ref sx)])) rfl (by rw [hml]; rfl) (Steps.refl _) (argsL := [(.ref a38)]) (rest := []) (lenOf own_pd_28Ljava2flang2fObject3b29Z rfl) rfl (by show 2 * 0 + _ ≤ _; exact Nat.le_of_eq rfl) (hb hby at_366) (fun _ _ => ⟨rfl, e38, (by decide : 13 + 0 ≤ _), (by decide : 86 + 0 ≤ _)⟩)
        dsimp only [Pt.U, Pt.locs, Pt.cells, Pt.slots] at X47 l47 y47 z47 st47 hQ47
        subst l47 y47 z47
        obtain ⟨hv47, rfl, eh47⟩ := hQ47
        have N47 := Fr.app N33 (Fr.nil n0)
        obtain ⟨ev47, rfl, hev47⟩ : ∃ z : Int32, rv47 = some (.int z) ∧ ((z = 1 ∧ (([b0, b1, b2, b3, b4, b5] : List Int32).take N) = ([110, 97, 114, 114] : List Int32)) ∨ (z = 0 ∧ ¬ (([b0, b1, b2, b3, b4, b5] : List Int32).take N) = ([110, 97, 114, 114] : List Int32))) := by
          rcases hv47 with ⟨h, h2⟩ | ⟨h, h2⟩
          · exact ⟨1, h, Or.inl ⟨rfl, h2⟩⟩
          · exact ⟨0, h, Or.inr ⟨rfl, h2⟩⟩
        refine own_go (fun tq kq => st47.trans kq) ?_
        show own_Rn p e below _ (T47.setTop (mkF m 369 #[.val (.int i0), .val (.int i1), .val (.int i2), .val (.int i3), .val (.int i4), .val (.int i5), .val (.int md), .val (.int d0), .val (.int d1), .val (.int d2), .val (.int d3), .val (.int d4), .val (.int d5), .val (.ref ba), .val (.int (Int32.ofNat N)), .val (.ref sx), z16] [(.int ev47)]))
        rcases hev47 with ⟨ee47, hw2⟩ | ⟨ee47, hw2⟩
        · skip
          refine own_go (fun tq kq => XS.ifNo X47.here hx rfl (hb hby at_369) rfl ((if0 _ _).trans (feq (by rw [ee47]; decide : ¬ (ev47 = (0 : Int32)))).1) kq) ?_
          show own_Rn p e below _ (T47.setTop (mkF m 372 #[.val (.int i0), .val (.int i1), .val (.int i2), .val (.int i3), .val (.int i4), .val (.int i5), .val (.int md), .val (.int d0), .val (.int d1), .val (.int d2), .val (.int d3), .val (.int d4), .val (.int d5), .val (.ref ba), .val (.int (Int32.ofNat N)), .val (.ref sx), z16] []))
          obtain ⟨T48, X48, e48, st48⟩ := getS2 X47 hx hZ38 hown38 (host := "") (Or.inl (hw _ (own_mi 94 rfl))) Via.refl eh47 (OT2.ext F46.2) (g := (mkF m 372 #[.val (.int i0), .val (.int i1), .val (.int i2), .val (.int i3), .val (.int i4), .val (.int i5), .val (.int md), .val (.int d0), .val (.int d1), .val (.int d2), .val (.int d3), .val (.int d4), .val (.int d5), .val (.ref ba), .val (.int (Int32.ofNat N)), .val (.ref sx), z16] [])) rfl (hb hby at_372)
          refine own_go st48 ?_
          show own_Rn p e below _ (T48.setTop (mkF m 375 #[.val (.int i0), .val (.int i1), .val (.int i2), .val (.int i3), .val (.int i4), .val (.int i5), .val (.int md), .val (.int d0), .val (.int d1), .val (.int d2), .val (.int d3), .val (.int d4), .val (.int d5), .val (.ref ba), .val (.int (Int32.ofNat N)), .val (.ref sx), z16] [(.ref t2)]))
          have os49 : storeLocals #[.val (.int i0), .val (.int i1), .val (.int i2), .val (.int i3), .val (.int i4), .val (.int i5), .val (.int md), .val (.int d0), .val (.int d1), .val (.int d2), .val (.int d3), .val (.int d4), .val (.int d5), .val (.ref ba), .val (.int (Int32.ofNat N)), .val (.ref sx), z16] 16 (.ref t2) = some #[.val (.int i0), .val (.int i1), .val (.int i2), .val (.int i3), .val (.int i4), .val (.int i5), .val (.int md), .val (.int d0), .val (.int d1), .val (.int d2), .val (.int d3), .val (.int d4), .val (.int d5), .val (.ref ba), .val (.int (Int32.ofNat N)), .val (.ref sx), .val (.ref t2)] := by
            rcases o16 with rfl | ⟨w, rfl, hw⟩
            · rfl
            · cases w <;> first | rfl | (simp [Value.category] at hw)
          refine own_go (fun tq kq => XS.astore X48.here hx rfl (hb hby at_375) rfl rfl (l' := #[.val (.int i0), .val (.int i1), .val (.int i2), .val (.int i3), .val (.int i4), .val (.int i5), .val (.int md), .val (.int d0), .val (.int d1), .val (.int d2), .val (.int d3), .val (.int d4), .val (.int d5), .val (.ref ba), .val (.int (Int32.ofNat N)), .val (.ref sx), .val (.ref t2)]) os49 kq) ?_
          show own_Rn p e below _ (T48.setTop (mkF m 377 #[.val (.int i0), .val (.int i1), .val (.int i2), .val (.int i3), .val (.int i4), .val (.int i5), .val (.int md), .val (.int d0), .val (.int d1), .val (.int d2), .val (.int d3), .val (.int d4), .val (.int d5), .val (.ref ba), .val (.int (Int32.ofNat N)), .val (.ref sx), .val (.ref t2)] []))
          refine own_go (fun tq kq => XS.goto X48.here hx rfl (pc0 := 377) (pc' := 383) rfl (hb hby at_377) (by decide) (by decide) kq) ?_
          show own_Rn p e below _ (T48.setTop (mkF m 383 #[.val (.int i0), .val (.int i1), .val (.int i2), .val (.int i3), .val (.int i4), .val (.int i5), .val (.int md), .val (.int d0), .val (.int d1), .val (.int d2), .val (.int d3), .val (.int d4), .val (.int d5), .val (.ref ba), .val (.int (Int32.ofNat N)), .val (.ref sx), .val (.ref t2)] []))
          refine own_go (fun tq kq => XS.aload X48.here hx rfl (hb hby at_383) rfl rfl kq) ?_
          show own_Rn p e below _ (T48.setTop (mkF m 385 #[.val (.int i0), .val (.int i1), .val (.int i2), .val (.int i3), .val (.int i4), .val (.int i5), .val (.int md), .val (.int d0), .val (.int d1), .val (.int d2), .val (.int d3), .val (.int d4), .val (.int d5), .val (.ref ba), .val (.int (Int32.ofNat N)), .val (.ref sx), .val (.ref t2)] [(.ref sx)]))
          have Zn50 : n0 ≤ h38.size := by omega
          obtain ⟨rv50, _, ⟨T50, L50, k50, n50⟩, -, X50, ⟨Lc50, hQ50, l50, y50, z50⟩, st50⟩ := Jvm.LawKit.callS X48 hx (y := (⟨"com/example/words_into_queries/wordsintoqueries/formulation/TopicField", "find", "(Ljava/lang/String;)Lcom/example/words_into_queries/wordsintoqueries/formulation/TopicField;"⟩ : MethodName)) hown38 (mvT hZ38 (hw _ (own_mi 40 rfl))) (mvT hZ38 (hw _ (own_mi 41 rfl))) (mvT hZ38 (hw _ (own_mi 42 rfl))) (mvT hZ38 (hw _ (own_mi 43 rfl))) (by decide) (backOf (W := 0) (rmFind l Z a0 hw [] (va) (kv) (t0) (t1) (t2) (s0) (x0) (y0) (k0) (s1) (x1) (y1) (k1) (s2) (x2) (y2) (k2) (sx) (sy) (sk) ((([b0, b1, b2, b3, b4, b5] : List Int32).take N)) (G1) h38 n0 Zn50 (OV) EV AV ZT0 ZM0 ZS0 ZN0 ZX00 ZX01 ZX02 ZX03 ZT1 ZM1 ZS1 ZN1 ZX10 ZX11 ZX12 ZX13 ZT2 ZM2 ZS2 ZN2 ZX20 ZX21 ZX22 ZX23 F42 F43 F44 F45 (hpb) (hlb) (O2) (P5) F46) hZ38 (hw _ (own_mi 43 rfl)) (hw _ (own_mi 42 rfl)) (by decide) (by decide)) (g := (mkF m 385 #[.val (.int i0), .val (.int i1), .val (.int i2), .val (.int i3), .val (.int i4), .val (.int i5), .val (.int md), .val (.int d0), .val (.int d1), .val (.int d2), .val (.int d3), .val (.int d4), .val (.int d5), .val (.ref ba), .val (.int (Int32.ofNat N)), .val (.ref sx), .val (.ref t2)] [(.ref sx)])) rfl (by rw [hml]; rfl) (argsL := [(.ref sx)]) (rest := []) (lenOf own_pd_28Ljava2flang2fString3b29Lcom2fexample2fwords_into_queries2fwordsintoqueries2fformulation2fTopicField3b rfl) rfl (by show 2 * 0 + _ ≤ _; exact Nat.le_of_eq rfl) (hb hby at_385) (fun _ _ => ⟨rfl, e48, (by decide : 13 + 1 ≤ _), (by decide : 86 + 3 ≤ _)⟩)
          dsimp only [Pt.U, Pt.locs, Pt.cells, Pt.slots] at X50 l50 y50 z50 st50 hQ50
          subst l50 y50 z50
          obtain ⟨rfl, Nq50, Kq50⟩ := hQ50
          have N50 := Fr.app N47 Nq50
          have sz51 : h38.size ≤ T50.heap.size := Kq50.1
          have cr51 : CHr Z consts_1 T38.vm h38 T38.vm T50.heap := CHr.keep Kq50 sf0 CR39.1
          have CR51 := CR39.trans cr51
          refine own_go st50 ?_
          show own_Rn p e below _ (T50.setTop (mkF m 388 #[.val (.int i0), .val (.int i1), .val (.int i2), .val (.int i3), .val (.int i4), .val (.int i5), .val (.int md), .val (.int d0), .val (.int d1), .val (.int d2), .val (.int d3), .val (.int d4), .val (.int d5), .val (.ref ba), .val (.int (Int32.ofNat N)), .val (.ref sx), .val (.ref t2)] [(own_fv (([b0, b1, b2, b3, b4, b5] : List Int32).take N) t0 t1 t2)]))
          refine own_go (fun tq kq => XS.aload X50.here hx rfl (hb hby at_388) rfl rfl kq) ?_
          show own_Rn p e below _ (T50.setTop (mkF m 390 #[.val (.int i0), .val (.int i1), .val (.int i2), .val (.int i3), .val (.int i4), .val (.int i5), .val (.int md), .val (.int d0), .val (.int d1), .val (.int d2), .val (.int d3), .val (.int d4), .val (.int d5), .val (.ref ba), .val (.int (Int32.ofNat N)), .val (.ref sx), .val (.ref t2)] [(.ref t2), (own_fv (([b0, b1, b2, b3, b4, b5] : List Int32).take N) t0 t1 t2)]))
          rw [show own_fv (([b0, b1, b2, b3, b4, b5] : List Int32).take N) t0 t1 t2 = (.ref t2) by rw [own_fv, if_neg (fun q => hw0 q.symm), if_neg (fun q => hw1 q.symm), if_pos hw2.symm]]
          show own_Rn p e below _ (T50.setTop (mkF m 390 #[.val (.int i0), .val (.int i1), .val (.int i2), .val (.int i3), .val (.int i4), .val (.int i5), .val (.int md), .val (.int d0), .val (.int d1), .val (.int d2), .val (.int d3), .val (.int d4), .val (.int d5), .val (.ref ba), .val (.int (Int32.ofNat N)), .val (.ref sx), .val (.ref t2)] [(.ref t2), (.ref t2)]))
          refine own_go (fun tq kq => Jvm.RoadKit.acmp (g := (mkF m 390 #[.val (.int i0), .val (.int i1), .val (.int i2), .val (.int i3), .val (.int i4), .val (.int i5), .val (.int md), .val (.int d0), .val (.int d1), .val (.int d2), .val (.int d3), .val (.int d4), .val (.int d5), .val (.ref ba), .val (.int (Int32.ofNat N)), .val (.ref sx), .val (.ref t2)] [(.ref t2), (.ref t2)])) X50 hx rfl rfl rfl (pc0 := 390) (pc' := 393) (same := true) rfl (hb hby at_390) rfl (decide_eq_true rfl) (by decide) (by decide) kq) ?_
          show own_Rn p e below _ (T50.setTop (mkF m 393 #[.val (.int i0), .val (.int i1), .val (.int i2), .val (.int i3), .val (.int i4), .val (.int i5), .val (.int md), .val (.int d0), .val (.int d1), .val (.int d2), .val (.int d3), .val (.int d4), .val (.int d5), .val (.ref ba), .val (.int (Int32.ofNat N)), .val (.ref sx), .val (.ref t2)] []))
          refine own_go (fun tq kq => XS.iconst X50.here hx rfl (hb hby at_393) kq) ?_
          show own_Rn p e below _ (T50.setTop (mkF m 394 #[.val (.int i0), .val (.int i1), .val (.int i2), .val (.int i3), .val (.int i4), .val (.int i5), .val (.int md), .val (.int d0), .val (.int d1), .val (.int d2), .val (.int d3), .val (.int d4), .val (.int d5), .val (.ref ba), .val (.int (Int32.ofNat N)), .val (.ref sx), .val (.ref t2)] [(.int (1 : Int32))]))
          refine own_go (fun tq kq => XS.goto X50.here hx rfl (pc0 := 394) (pc' := 398) rfl (hb hby at_394) (by decide) (by decide) kq) ?_
          show own_Rn p e below _ (T50.setTop (mkF m 398 #[.val (.int i0), .val (.int i1), .val (.int i2), .val (.int i3), .val (.int i4), .val (.int i5), .val (.int md), .val (.int d0), .val (.int d1), .val (.int d2), .val (.int d3), .val (.int d4), .val (.int d5), .val (.ref ba), .val (.int (Int32.ofNat N)), .val (.ref sx), .val (.ref t2)] [(.int (1 : Int32))]))
          exact own_retS X50 hS38 (by omega) (v := some (.int (nar .boolean (1 : Int32)))) (fun h => by rw [Bd.returns] at h; cases h) (fun fs hr => retN X50 hx (t := .boolean) Bd.returns (by simp) (hb hby at_398) hr) (⟨rfl, N50⟩) (by rw [hh]; exact CR51.trans (CHv.at X50 hZ38 hEL CR51.1)) (by decide) (by decide)
        · skip
          refine own_go (fun tq kq => XS.ifYes X47.here hx rfl (pc0 := 369) (pc' := 380) rfl (hb hby at_369) rfl ((if0 _ _).trans (teq (ee47 : ev47 = (0 : Int32))).1) (by decide) (by decide) kq) ?_
          show own_Rn p e below _ (T47.setTop (mkF m 380 #[.val (.int i0), .val (.int i1), .val (.int i2), .val (.int i3), .val (.int i4), .val (.int i5), .val (.int md), .val (.int d0), .val (.int d1), .val (.int d2), .val (.int d3), .val (.int d4), .val (.int d5), .val (.ref ba), .val (.int (Int32.ofNat N)), .val (.ref sx), z16] []))
          refine own_go (fun tq kq => XS.aconstNull X47.here hx rfl (hb hby at_380) kq) ?_
          show own_Rn p e below _ (T47.setTop (mkF m 381 #[.val (.int i0), .val (.int i1), .val (.int i2), .val (.int i3), .val (.int i4), .val (.int i5), .val (.int md), .val (.int d0), .val (.int d1), .val (.int d2), .val (.int d3), .val (.int d4), .val (.int d5), .val (.ref ba), .val (.int (Int32.ofNat N)), .val (.ref sx), z16] [.null]))
          have os52 : storeLocals #[.val (.int i0), .val (.int i1), .val (.int i2), .val (.int i3), .val (.int i4), .val (.int i5), .val (.int md), .val (.int d0), .val (.int d1), .val (.int d2), .val (.int d3), .val (.int d4), .val (.int d5), .val (.ref ba), .val (.int (Int32.ofNat N)), .val (.ref sx), z16] 16 .null = some #[.val (.int i0), .val (.int i1), .val (.int i2), .val (.int i3), .val (.int i4), .val (.int i5), .val (.int md), .val (.int d0), .val (.int d1), .val (.int d2), .val (.int d3), .val (.int d4), .val (.int d5), .val (.ref ba), .val (.int (Int32.ofNat N)), .val (.ref sx), .val .null] := by
            rcases o16 with rfl | ⟨w, rfl, hw⟩
            · rfl
            · cases w <;> first | rfl | (simp [Value.category] at hw)
          refine own_go (fun tq kq => XS.astore X47.here hx rfl (hb hby at_381) rfl rfl (l' := #[.val (.int i0), .val (.int i1), .val (.int i2), .val (.int i3), .val (.int i4), .val (.int i5), .val (.int md), .val (.int d0), .val (.int d1), .val (.int d2), .val (.int d3), .val (.int d4), .val (.int d5), .val (.ref ba), .val (.int (Int32.ofNat N)), .val (.ref sx), .val .null]) os52 kq) ?_
          show own_Rn p e below _ (T47.setTop (mkF m 383 #[.val (.int i0), .val (.int i1), .val (.int i2), .val (.int i3), .val (.int i4), .val (.int i5), .val (.int md), .val (.int d0), .val (.int d1), .val (.int d2), .val (.int d3), .val (.int d4), .val (.int d5), .val (.ref ba), .val (.int (Int32.ofNat N)), .val (.ref sx), .val .null] []))
          refine own_go (fun tq kq => XS.aload X47.here hx rfl (hb hby at_383) rfl rfl kq) ?_
          show own_Rn p e below _ (T47.setTop (mkF m 385 #[.val (.int i0), .val (.int i1), .val (.int i2), .val (.int i3), .val (.int i4), .val (.int i5), .val (.int md), .val (.int d0), .val (.int d1), .val (.int d2), .val (.int d3), .val (.int d4), .val (.int d5), .val (.ref ba), .val (.int (Int32.ofNat N)), .val (.ref sx), .val .null] [(.ref sx)]))
          have Zn53 : n0 ≤ h38.size := by omega
          obtain ⟨rv53, _, ⟨T53, L53, k53, n53⟩, -, X53, ⟨Lc53, hQ53, l53, y53, z53⟩, st53⟩ := Jvm.LawKit.callS X47 hx (y := (⟨"com/example/words_into_queries/wordsintoqueries/formulation/TopicField", "find", "(Ljava/lang/String;)Lcom/example/words_into_queries/wordsintoqueries/formulation/TopicField;"⟩ : MethodName)) hown38 (mvT hZ38 (hw _ (own_mi 40 rfl))) (mvT hZ38 (hw _ (own_mi 41 rfl))) (mvT hZ38 (hw _ (own_mi 42 rfl))) (mvT hZ38 (hw _ (own_mi 43 rfl))) (by decide) (backOf (W := 0) (rmFind l Z a0 hw [] (va) (kv) (t0) (t1) (t2) (s0) (x0) (y0) (k0) (s1) (x1) (y1) (k1) (s2) (x2) (y2) (k2) (sx) (sy) (sk) ((([b0, b1, b2, b3, b4, b5] : List Int32).take N)) (G1) h38 n0 Zn53 (OV) EV AV ZT0 ZM0 ZS0 ZN0 ZX00 ZX01 ZX02 ZX03 ZT1 ZM1 ZS1 ZN1 ZX10 ZX11 ZX12 ZX13 ZT2 ZM2 ZS2 ZN2 ZX20 ZX21 ZX22 ZX23 F42 F43 F44 F45 (hpb) (hlb) (O2) (P5) F46) hZ38 (hw _ (own_mi 43 rfl)) (hw _ (own_mi 42 rfl)) (by decide) (by decide)) (g := (mkF m 385 #[.val (.int i0), .val (.int i1), .val (.int i2), .val (.int i3), .val (.int i4), .val (.int i5), .val (.int md), .val (.int d0), .val (.int d1), .val (.int d2), .val (.int d3), .val (.int d4), .val (.int d5), .val (.ref ba), .val (.int (Int32.ofNat N)), .val (.ref sx), .val .null] [(.ref sx)])) rfl (by rw [hml]; rfl) (argsL := [(.ref sx)]) (rest := []) (lenOf own_pd_28Ljava2flang2fString3b29Lcom2fexample2fwords_into_queries2fwordsintoqueries2fformulation2fTopicField3b rfl) rfl (by show 2 * 0 + _ ≤ _; exact Nat.le_of_eq rfl) (hb hby at_385) (fun _ _ => ⟨rfl, eh47, (by decide : 13 + 1 ≤ _), (by decide : 86 + 3 ≤ _)⟩)
          dsimp only [Pt.U, Pt.locs, Pt.cells, Pt.slots] at X53 l53 y53 z53 st53 hQ53
          subst l53 y53 z53
          obtain ⟨rfl, Nq53, Kq53⟩ := hQ53
          have N53 := Fr.app N47 Nq53
          have sz54 : h38.size ≤ T53.heap.size := Kq53.1
          have cr54 : CHr Z consts_1 T38.vm h38 T38.vm T53.heap := CHr.keep Kq53 sf0 CR39.1
          have CR54 := CR39.trans cr54
          refine own_go st53 ?_
          show own_Rn p e below _ (T53.setTop (mkF m 388 #[.val (.int i0), .val (.int i1), .val (.int i2), .val (.int i3), .val (.int i4), .val (.int i5), .val (.int md), .val (.int d0), .val (.int d1), .val (.int d2), .val (.int d3), .val (.int d4), .val (.int d5), .val (.ref ba), .val (.int (Int32.ofNat N)), .val (.ref sx), .val .null] [(own_fv (([b0, b1, b2, b3, b4, b5] : List Int32).take N) t0 t1 t2)]))
          refine own_go (fun tq kq => XS.aload X53.here hx rfl (hb hby at_388) rfl rfl kq) ?_
          show own_Rn p e below _ (T53.setTop (mkF m 390 #[.val (.int i0), .val (.int i1), .val (.int i2), .val (.int i3), .val (.int i4), .val (.int i5), .val (.int md), .val (.int d0), .val (.int d1), .val (.int d2), .val (.int d3), .val (.int d4), .val (.int d5), .val (.ref ba), .val (.int (Int32.ofNat N)), .val (.ref sx), .val .null] [.null, (own_fv (([b0, b1, b2, b3, b4, b5] : List Int32).take N) t0 t1 t2)]))
          rw [show own_fv (([b0, b1, b2, b3, b4, b5] : List Int32).take N) t0 t1 t2 = .null by rw [own_fv, if_neg (fun q => hw0 q.symm), if_neg (fun q => hw1 q.symm), if_neg (fun q => hw2 q.symm)]]
          show own_Rn p e below _ (T53.setTop (mkF m 390 #[.val (.int i0), .val (.int i1), .val (.int i2), .val (.int i3), .val (.int i4), .val (.int i5), .val (.int md), .val (.int d0), .val (.int d1), .val (.int d2), .val (.int d3), .val (.int d4), .val (.int d5), .val (.ref ba), .val (.int (Int32.ofNat N)), .val (.ref sx), .val .null] [.null, .null]))
          refine own_go (fun tq kq => Jvm.RoadKit.acmp (g := (mkF m 390 #[.val (.int i0), .val (.int i1), .val (.int i2), .val (.int i3), .val (.int i4), .val (.int i5), .val (.int md), .val (.int d0), .val (.int d1), .val (.int d2), .val (.int d3), .val (.int d4), .val (.int d5), .val (.ref ba), .val (.int (Int32.ofNat N)), .val (.ref sx), .val .null] [.null, .null])) X53 hx rfl rfl rfl (pc0 := 390) (pc' := 393) (same := true) rfl (hb hby at_390) rfl (decide_eq_true rfl) (by decide) (by decide) kq) ?_
          show own_Rn p e below _ (T53.setTop (mkF m 393 #[.val (.int i0), .val (.int i1), .val (.int i2), .val (.int i3), .val (.int i4), .val (.int i5), .val (.int md), .val (.int d0), .val (.int d1), .val (.int d2), .val (.int d3), .val (.int d4), .val (.int d5), .val (.ref ba), .val (.int (Int32.ofNat N)), .val (.ref sx), .val .null] []))
          refine own_go (fun tq kq => XS.iconst X53.here hx rfl (hb hby at_393) kq) ?_
          show own_Rn p e below _ (T53.setTop (mkF m 394 #[.val (.int i0), .val (.int i1), .val (.int i2), .val (.int i3), .val (.int i4), .val (.int i5), .val (.int md), .val (.int d0), .val (.int d1), .val (.int d2), .val (.int d3), .val (.int d4), .val (.int d5), .val (.ref ba), .val (.int (Int32.ofNat N)), .val (.ref sx), .val .null] [(.int (1 : Int32))]))
          refine own_go (fun tq kq => XS.goto X53.here hx rfl (pc0 := 394) (pc' := 398) rfl (hb hby at_394) (by decide) (by decide) kq) ?_
          show own_Rn p e below _ (T53.setTop (mkF m 398 #[.val (.int i0), .val (.int i1), .val (.int i2), .val (.int i3), .val (.int i4), .val (.int i5), .val (.int md), .val (.int d0), .val (.int d1), .val (.int d2), .val (.int d3), .val (.int d4), .val (.int d5), .val (.ref ba), .val (.int (Int32.ofNat N)), .val (.ref sx), .val .null] [(.int (1 : Int32))]))
          exact own_retS X53 hS38 (by omega) (v := some (.int (nar .boolean (1 : Int32)))) (fun h => by rw [Bd.returns] at h; cases h) (fun fs hr => retN X53 hx (t := .boolean) Bd.returns (by simp) (hb hby at_398) hr) (⟨rfl, N53⟩) (by rw [hh]; exact CR54.trans (CHv.at X53 hZ38 hEL CR54.1)) (by decide) (by decide)
  refine own_go (fun tq kq => XS.istore X0.here hx rfl (hb hby at_64) rfl (l' := #[.val (.int i0), .val (.int i1), .val (.int i2), .val (.int i3), .val (.int i4), .val (.int i5), .val (.int md), .val (.int d0), .val (.int d1), .val (.int d2), .val (.int d3), .val (.int d4), .val (.int d5), .unset, .unset, .unset, .unset]) rfl kq) ?_
  show own_Rn p e below _ (s₁.setTop (mkF m 66 #[.val (.int i0), .val (.int i1), .val (.int i2), .val (.int i3), .val (.int i4), .val (.int i5), .val (.int md), .val (.int d0), .val (.int d1), .val (.int d2), .val (.int d3), .val (.int d4), .val (.int d5), .unset, .unset, .unset, .unset] []))
  refine own_go (fun tq kq => XS.iload X0.here hx rfl (hb hby at_66) rfl kq) ?_
  show own_Rn p e below _ (s₁.setTop (mkF m 68 #[.val (.int i0), .val (.int i1), .val (.int i2), .val (.int i3), .val (.int i4), .val (.int i5), .val (.int md), .val (.int d0), .val (.int d1), .val (.int d2), .val (.int d3), .val (.int d4), .val (.int d5), .unset, .unset, .unset, .unset] [(.int md)]))
  by_cases hc55 : md = (0 : Int32)
  · skip
    refine own_go (fun tq kq => XS.ifNo X0.here hx rfl (hb hby at_68) rfl ((if0 _ _).trans (teq (hc55 : md = (0 : Int32))).2) kq) ?_
    show own_Rn p e below _ (s₁.setTop (mkF m 71 #[.val (.int i0), .val (.int i1), .val (.int i2), .val (.int i3), .val (.int i4), .val (.int i5), .val (.int md), .val (.int d0), .val (.int d1), .val (.int d2), .val (.int d3), .val (.int d4), .val (.int d5), .unset, .unset, .unset, .unset] []))
    refine own_go (fun tq kq => XS.bipush X0.here hx rfl (hb hby at_71) kq) ?_
    show own_Rn p e below _ (s₁.setTop (mkF m 73 #[.val (.int i0), .val (.int i1), .val (.int i2), .val (.int i3), .val (.int i4), .val (.int i5), .val (.int md), .val (.int d0), .val (.int d1), .val (.int d2), .val (.int d3), .val (.int d4), .val (.int d5), .unset, .unset, .unset, .unset] [(.int (6 : Int32))]))
    obtain ⟨T57, h57, k57, X57, e57, E57, A57, st57⟩ := newP X0 hx hZ (hw _ (own_mi 0 rfl)) e0 (g := (mkF m 73 #[.val (.int i0), .val (.int i1), .val (.int i2), .val (.int i3), .val (.int i4), .val (.int i5), .val (.int md), .val (.int d0), .val (.int d1), .val (.int d2), .val (.int d3), .val (.int d4), .val (.int d5), .unset, .unset, .unset, .unset] [(.int (6 : Int32))])) rfl (hb hby at_73) rfl (by decide) (cap := 6) (by decide) (by decide) (by decide) (by decide)
    obtain ⟨b57, g57⟩ : ∃ z, z = h0.size := ⟨_, rfl⟩
    rw [← g57] at A57 st57
    refine own_go st57 ?_
    have sz58 : h0.size ≤ h57.size := E57.1
    have cr58 : CHr Z consts_1 s.vm h0 s.vm h57 := CHr.ext E57 CR0.1
    have CR58 := CR0.trans cr58
    have gn57 : n0 ≤ b57 := by omega
    have V57 : Arv Z h57 b57 k57 .char (6 : Int32) [(.int (0 : Int32)), (.int (0 : Int32)), (.int (0 : Int32)), (.int (0 : Int32)), (.int (0 : Int32)), (.int (0 : Int32))] (.int (0 : Int32)) := (Arv.new A57 (by decide)).pad (pad_rep [] _ 6)
    have lt59 : @LT.lt Nat _ b57 h57.size := V57.lt
    show own_Rn p e below _ (T57.setTop (mkF m 75 #[.val (.int i0), .val (.int i1), .val (.int i2), .val (.int i3), .val (.int i4), .val (.int i5), .val (.int md), .val (.int d0), .val (.int d1), .val (.int d2), .val (.int d3), .val (.int d4), .val (.int d5), .unset, .unset, .unset, .unset] [(.ref b57)]))
    refine own_go (fun tq kq => XS.dup X57.here hx rfl (hb hby at_75) rfl rfl kq) ?_
    show own_Rn p e below _ (T57.setTop (mkF m 76 #[.val (.int i0), .val (.int i1), .val (.int i2), .val (.int i3), .val (.int i4), .val (.int i5), .val (.int md), .val (.int d0), .val (.int d1), .val (.int d2), .val (.int d3), .val (.int d4), .val (.int d5), .unset, .unset, .unset, .unset] [(.ref b57), (.ref b57)]))
    refine own_go (fun tq kq => XS.iconst X57.here hx rfl (hb hby at_76) kq) ?_
    show own_Rn p e below _ (T57.setTop (mkF m 77 #[.val (.int i0), .val (.int i1), .val (.int i2), .val (.int i3), .val (.int i4), .val (.int i5), .val (.int md), .val (.int d0), .val (.int d1), .val (.int d2), .val (.int d3), .val (.int d4), .val (.int d5), .unset, .unset, .unset, .unset] [(.int (0 : Int32)), (.ref b57), (.ref b57)]))
    refine own_go (fun tq kq => XS.iload X57.here hx rfl (hb hby at_77) rfl kq) ?_
    show own_Rn p e below _ (T57.setTop (mkF m 79 #[.val (.int i0), .val (.int i1), .val (.int i2), .val (.int i3), .val (.int i4), .val (.int i5), .val (.int md), .val (.int d0), .val (.int d1), .val (.int d2), .val (.int d3), .val (.int d4), .val (.int d5), .unset, .unset, .unset, .unset] [(.int d0), (.int (0 : Int32)), (.ref b57), (.ref b57)]))
    obtain ⟨cl60, Ar60, q60, Sz60, Nn60, Hs60, G60⟩ := id V57
    obtain ⟨T60, h60, X60, e60, W60, st60⟩ := stC X57 hx hZ e57 Ar60 (j := (0 : Int32)) (inb_of Sz60 ⟨by decide, by decide⟩) (g := (mkF m 79 #[.val (.int i0), .val (.int i1), .val (.int i2), .val (.int i3), .val (.int i4), .val (.int i5), .val (.int md), .val (.int d0), .val (.int d1), .val (.int d2), .val (.int d3), .val (.int d4), .val (.int d5), .unset, .unset, .unset, .unset] [(.int d0), (.int (0 : Int32)), (.ref b57), (.ref b57)])) rfl rfl (hb hby at_79)
    rw [nd0] at W60
    refine own_go st60 ?_
    have V60 : Arv Z h60 b57 k57 .char (6 : Int32) [(.int d0), (.int (0 : Int32)), (.int (0 : Int32)), (.int (0 : Int32)), (.int (0 : Int32)), (.int (0 : Int32))] (.int (0 : Int32)) := Arv.set Ar60 q60 Sz60 Nn60 Hs60 G60 (by rw [← nd0]; exact fits_nar_char _) W60 0 rfl (Nat.le_of_ble_eq_true rfl)
    have N60 := Fr.snoc X60 N0 gn57
    have sf61 : Safe Z consts_1 s.vm h57 b57 := Safe.arv hZ.alike V57 (by decide)
    have sz62 : h57.size ≤ h60.size := Nat.le_of_eq (Wr.size W60).symm
    have cr62 : CHr Z consts_1 s.vm h57 s.vm h60 := CHr.wr W60 sf61 CR58.1
    have CR62 := CR58.trans cr62
    show own_Rn p e below _ (T60.setTop (mkF m 80 #[.val (.int i0), .val (.int i1), .val (.int i2), .val (.int i3), .val (.int i4), .val (.int i5), .val (.int md), .val (.int d0), .val (.int d1), .val (.int d2), .val (.int d3), .val (.int d4), .val (.int d5), .unset, .unset, .unset, .unset] [(.ref b57)]))
    refine own_go (fun tq kq => XS.dup X60.here hx rfl (hb hby at_80) rfl rfl kq) ?_
    show own_Rn p e below _ (T60.setTop (mkF m 81 #[.val (.int i0), .val (.int i1), .val (.int i2), .val (.int i3), .val (.int i4), .val (.int i5), .val (.int md), .val (.int d0), .val (.int d1), .val (.int d2), .val (.int d3), .val (.int d4), .val (.int d5), .unset, .unset, .unset, .unset] [(.ref b57), (.ref b57)]))
    refine own_go (fun tq kq => XS.iconst X60.here hx rfl (hb hby at_81) kq) ?_
    show own_Rn p e below _ (T60.setTop (mkF m 82 #[.val (.int i0), .val (.int i1), .val (.int i2), .val (.int i3), .val (.int i4), .val (.int i5), .val (.int md), .val (.int d0), .val (.int d1), .val (.int d2), .val (.int d3), .val (.int d4), .val (.int d5), .unset, .unset, .unset, .unset] [(.int (1 : Int32)), (.ref b57), (.ref b57)]))
    refine own_go (fun tq kq => XS.iload X60.here hx rfl (hb hby at_82) rfl kq) ?_
    show own_Rn p e below _ (T60.setTop (mkF m 84 #[.val (.int i0), .val (.int i1), .val (.int i2), .val (.int i3), .val (.int i4), .val (.int i5), .val (.int md), .val (.int d0), .val (.int d1), .val (.int d2), .val (.int d3), .val (.int d4), .val (.int d5), .unset, .unset, .unset, .unset] [(.int d1), (.int (1 : Int32)), (.ref b57), (.ref b57)]))
    obtain ⟨cl63, Ar63, q63, Sz63, Nn63, Hs63, G63⟩ := id V60
    obtain ⟨T63, h63, X63, e63, W63, st63⟩ := stC X60 hx hZ e60 Ar63 (j := (1 : Int32)) (inb_of Sz63 ⟨by decide, by decide⟩) (g := (mkF m 84 #[.val (.int i0), .val (.int i1), .val (.int i2), .val (.int i3), .val (.int i4), .val (.int i5), .val (.int md), .val (.int d0), .val (.int d1), .val (.int d2), .val (.int d3), .val (.int d4), .val (.int d5), .unset, .unset, .unset, .unset] [(.int d1), (.int (1 : Int32)), (.ref b57), (.ref b57)])) rfl rfl (hb hby at_84)
    rw [nd1] at W63
    refine own_go st63 ?_
    have V63 : Arv Z h63 b57 k57 .char (6 : Int32) [(.int d0), (.int d1), (.int (0 : Int32)), (.int (0 : Int32)), (.int (0 : Int32)), (.int (0 : Int32))] (.int (0 : Int32)) := Arv.set Ar63 q63 Sz63 Nn63 Hs63 G63 (by rw [← nd1]; exact fits_nar_char _) W63 1 rfl (Nat.le_of_ble_eq_true rfl)
    have N63 := Fr.snoc X63 N60 gn57
    have sf64 : Safe Z consts_1 s.vm h60 b57 := Safe.arv hZ.alike V60 (by decide)
    have sz65 : h60.size ≤ h63.size := Nat.le_of_eq (Wr.size W63).symm
    have cr65 : CHr Z consts_1 s.vm h60 s.vm h63 := CHr.wr W63 sf64 CR62.1
    have CR65 := CR62.trans cr65
    show own_Rn p e below _ (T63.setTop (mkF m 85 #[.val (.int i0), .val (.int i1), .val (.int i2), .val (.int i3), .val (.int i4), .val (.int i5), .val (.int md), .val (.int d0), .val (.int d1), .val (.int d2), .val (.int d3), .val (.int d4), .val (.int d5), .unset, .unset, .unset, .unset] [(.ref b57)]))
    refine own_go (fun tq kq => XS.dup X63.here hx rfl (hb hby at_85) rfl rfl kq) ?_
    show own_Rn p e below _ (T63.setTop (mkF m 86 #[.val (.int i0), .val (.int i1), .val (.int i2), .val (.int i3), .val (.int i4), .val (.int i5), .val (.int md), .val (.int d0), .val (.int d1), .val (.int d2), .val (.int d3), .val (.int d4), .val (.int d5), .unset, .unset, .unset, .unset] [(.ref b57), (.ref b57)]))
    refine own_go (fun tq kq => XS.iconst X63.here hx rfl (hb hby at_86) kq) ?_
    show own_Rn p e below _ (T63.setTop (mkF m 87 #[.val (.int i0), .val (.int i1), .val (.int i2), .val (.int i3), .val (.int i4), .val (.int i5), .val (.int md), .val (.int d0), .val (.int d1), .val (.int d2), .val (.int d3), .val (.int d4), .val (.int d5), .unset, .unset, .unset, .unset] [(.int (2 : Int32)), (.ref b57), (.ref b57)]))
    refine own_go (fun tq kq => XS.iload X63.here hx rfl (hb hby at_87) rfl kq) ?_
    show own_Rn p e below _ (T63.setTop (mkF m 89 #[.val (.int i0), .val (.int i1), .val (.int i2), .val (.int i3), .val (.int i4), .val (.int i5), .val (.int md), .val (.int d0), .val (.int d1), .val (.int d2), .val (.int d3), .val (.int d4), .val (.int d5), .unset, .unset, .unset, .unset] [(.int d2), (.int (2 : Int32)), (.ref b57), (.ref b57)]))
    obtain ⟨cl66, Ar66, q66, Sz66, Nn66, Hs66, G66⟩ := id V63
    obtain ⟨T66, h66, X66, e66, W66, st66⟩ := stC X63 hx hZ e63 Ar66 (j := (2 : Int32)) (inb_of Sz66 ⟨by decide, by decide⟩) (g := (mkF m 89 #[.val (.int i0), .val (.int i1), .val (.int i2), .val (.int i3), .val (.int i4), .val (.int i5), .val (.int md), .val (.int d0), .val (.int d1), .val (.int d2), .val (.int d3), .val (.int d4), .val (.int d5), .unset, .unset, .unset, .unset] [(.int d2), (.int (2 : Int32)), (.ref b57), (.ref b57)])) rfl rfl (hb hby at_89)
    rw [nd2] at W66
    refine own_go st66 ?_
    have V66 : Arv Z h66 b57 k57 .char (6 : Int32) [(.int d0), (.int d1), (.int d2), (.int (0 : Int32)), (.int (0 : Int32)), (.int (0 : Int32))] (.int (0 : Int32)) := Arv.set Ar66 q66 Sz66 Nn66 Hs66 G66 (by rw [← nd2]; exact fits_nar_char _) W66 2 rfl (Nat.le_of_ble_eq_true rfl)
    have N66 := Fr.snoc X66 N63 gn57
    have sf67 : Safe Z consts_1 s.vm h63 b57 := Safe.arv hZ.alike V63 (by decide)
    have sz68 : h63.size ≤ h66.size := Nat.le_of_eq (Wr.size W66).symm
    have cr68 : CHr Z consts_1 s.vm h63 s.vm h66 := CHr.wr W66 sf67 CR65.1
    have CR68 := CR65.trans cr68
    show own_Rn p e below _ (T66.setTop (mkF m 90 #[.val (.int i0), .val (.int i1), .val (.int i2), .val (.int i3), .val (.int i4), .val (.int i5), .val (.int md), .val (.int d0), .val (.int d1), .val (.int d2), .val (.int d3), .val (.int d4), .val (.int d5), .unset, .unset, .unset, .unset] [(.ref b57)]))
    refine own_go (fun tq kq => XS.dup X66.here hx rfl (hb hby at_90) rfl rfl kq) ?_
    show own_Rn p e below _ (T66.setTop (mkF m 91 #[.val (.int i0), .val (.int i1), .val (.int i2), .val (.int i3), .val (.int i4), .val (.int i5), .val (.int md), .val (.int d0), .val (.int d1), .val (.int d2), .val (.int d3), .val (.int d4), .val (.int d5), .unset, .unset, .unset, .unset] [(.ref b57), (.ref b57)]))
    refine own_go (fun tq kq => XS.iconst X66.here hx rfl (hb hby at_91) kq) ?_
    show own_Rn p e below _ (T66.setTop (mkF m 92 #[.val (.int i0), .val (.int i1), .val (.int i2), .val (.int i3), .val (.int i4), .val (.int i5), .val (.int md), .val (.int d0), .val (.int d1), .val (.int d2), .val (.int d3), .val (.int d4), .val (.int d5), .unset, .unset, .unset, .unset] [(.int (3 : Int32)), (.ref b57), (.ref b57)]))
    refine own_go (fun tq kq => XS.iload X66.here hx rfl (hb hby at_92) rfl kq) ?_
    show own_Rn p e below _ (T66.setTop (mkF m 94 #[.val (.int i0), .val (.int i1), .val (.int i2), .val (.int i3), .val (.int i4), .val (.int i5), .val (.int md), .val (.int d0), .val (.int d1), .val (.int d2), .val (.int d3), .val (.int d4), .val (.int d5), .unset, .unset, .unset, .unset] [(.int d3), (.int (3 : Int32)), (.ref b57), (.ref b57)]))
    obtain ⟨cl69, Ar69, q69, Sz69, Nn69, Hs69, G69⟩ := id V66
    obtain ⟨T69, h69, X69, e69, W69, st69⟩ := stC X66 hx hZ e66 Ar69 (j := (3 : Int32)) (inb_of Sz69 ⟨by decide, by decide⟩) (g := (mkF m 94 #[.val (.int i0), .val (.int i1), .val (.int i2), .val (.int i3), .val (.int i4), .val (.int i5), .val (.int md), .val (.int d0), .val (.int d1), .val (.int d2), .val (.int d3), .val (.int d4), .val (.int d5), .unset, .unset, .unset, .unset] [(.int d3), (.int (3 : Int32)), (.ref b57), (.ref b57)])) rfl rfl (hb hby at_94)
    rw [nd3] at W69
    refine own_go st69 ?_
    have V69 : Arv Z h69 b57 k57 .char (6 : Int32) [(.int d0), (.int d1), (.int d2), (.int d3), (.int (0 : Int32)), (.int (0 : Int32))] (.int (0 : Int32)) := Arv.set Ar69 q69 Sz69 Nn69 Hs69 G69 (by rw [← nd3]; exact fits_nar_char _) W69 3 rfl (Nat.le_of_ble_eq_true rfl)
    have N69 := Fr.snoc X69 N66 gn57
    have sf70 : Safe Z consts_1 s.vm h66 b57 := Safe.arv hZ.alike V66 (by decide)
    have sz71 : h66.size ≤ h69.size := Nat.le_of_eq (Wr.size W69).symm
    have cr71 : CHr Z consts_1 s.vm h66 s.vm h69 := CHr.wr W69 sf70 CR68.1
    have CR71 := CR68.trans cr71
    show own_Rn p e below _ (T69.setTop (mkF m 95 #[.val (.int i0), .val (.int i1), .val (.int i2), .val (.int i3), .val (.int i4), .val (.int i5), .val (.int md), .val (.int d0), .val (.int d1), .val (.int d2), .val (.int d3), .val (.int d4), .val (.int d5), .unset, .unset, .unset, .unset] [(.ref b57)]))
    refine own_go (fun tq kq => XS.dup X69.here hx rfl (hb hby at_95) rfl rfl kq) ?_
    show own_Rn p e below _ (T69.setTop (mkF m 96 #[.val (.int i0), .val (.int i1), .val (.int i2), .val (.int i3), .val (.int i4), .val (.int i5), .val (.int md), .val (.int d0), .val (.int d1), .val (.int d2), .val (.int d3), .val (.int d4), .val (.int d5), .unset, .unset, .unset, .unset] [(.ref b57), (.ref b57)]))
    refine own_go (fun tq kq => XS.iconst X69.here hx rfl (hb hby at_96) kq) ?_
    show own_Rn p e below _ (T69.setTop (mkF m 97 #[.val (.int i0), .val (.int i1), .val (.int i2), .val (.int i3), .val (.int i4), .val (.int i5), .val (.int md), .val (.int d0), .val (.int d1), .val (.int d2), .val (.int d3), .val (.int d4), .val (.int d5), .unset, .unset, .unset, .unset] [(.int (4 : Int32)), (.ref b57), (.ref b57)]))
    refine own_go (fun tq kq => XS.iload X69.here hx rfl (hb hby at_97) rfl kq) ?_
    show own_Rn p e below _ (T69.setTop (mkF m 99 #[.val (.int i0), .val (.int i1), .val (.int i2), .val (.int i3), .val (.int i4), .val (.int i5), .val (.int md), .val (.int d0), .val (.int d1), .val (.int d2), .val (.int d3), .val (.int d4), .val (.int d5), .unset, .unset, .unset, .unset] [(.int d4), (.int (4 : Int32)), (.ref b57), (.ref b57)]))
    obtain ⟨cl72, Ar72, q72, Sz72, Nn72, Hs72, G72⟩ := id V69
    obtain ⟨T72, h72, X72, e72, W72, st72⟩ := stC X69 hx hZ e69 Ar72 (j := (4 : Int32)) (inb_of Sz72 ⟨by decide, by decide⟩) (g := (mkF m 99 #[.val (.int i0), .val (.int i1), .val (.int i2), .val (.int i3), .val (.int i4), .val (.int i5), .val (.int md), .val (.int d0), .val (.int d1), .val (.int d2), .val (.int d3), .val (.int d4), .val (.int d5), .unset, .unset, .unset, .unset] [(.int d4), (.int (4 : Int32)), (.ref b57), (.ref b57)])) rfl rfl (hb hby at_99)
    rw [nd4] at W72
    refine own_go st72 ?_
    have V72 : Arv Z h72 b57 k57 .char (6 : Int32) [(.int d0), (.int d1), (.int d2), (.int d3), (.int d4), (.int (0 : Int32))] (.int (0 : Int32)) := Arv.set Ar72 q72 Sz72 Nn72 Hs72 G72 (by rw [← nd4]; exact fits_nar_char _) W72 4 rfl (Nat.le_of_ble_eq_true rfl)
    have N72 := Fr.snoc X72 N69 gn57
    have sf73 : Safe Z consts_1 s.vm h69 b57 := Safe.arv hZ.alike V69 (by decide)
    have sz74 : h69.size ≤ h72.size := Nat.le_of_eq (Wr.size W72).symm
    have cr74 : CHr Z consts_1 s.vm h69 s.vm h72 := CHr.wr W72 sf73 CR71.1
    have CR74 := CR71.trans cr74
    show own_Rn p e below _ (T72.setTop (mkF m 100 #[.val (.int i0), .val (.int i1), .val (.int i2), .val (.int i3), .val (.int i4), .val (.int i5), .val (.int md), .val (.int d0), .val (.int d1), .val (.int d2), .val (.int d3), .val (.int d4), .val (.int d5), .unset, .unset, .unset, .unset] [(.ref b57)]))
    refine own_go (fun tq kq => XS.dup X72.here hx rfl (hb hby at_100) rfl rfl kq) ?_
    show own_Rn p e below _ (T72.setTop (mkF m 101 #[.val (.int i0), .val (.int i1), .val (.int i2), .val (.int i3), .val (.int i4), .val (.int i5), .val (.int md), .val (.int d0), .val (.int d1), .val (.int d2), .val (.int d3), .val (.int d4), .val (.int d5), .unset, .unset, .unset, .unset] [(.ref b57), (.ref b57)]))
    refine own_go (fun tq kq => XS.iconst X72.here hx rfl (hb hby at_101) kq) ?_
    show own_Rn p e below _ (T72.setTop (mkF m 102 #[.val (.int i0), .val (.int i1), .val (.int i2), .val (.int i3), .val (.int i4), .val (.int i5), .val (.int md), .val (.int d0), .val (.int d1), .val (.int d2), .val (.int d3), .val (.int d4), .val (.int d5), .unset, .unset, .unset, .unset] [(.int (5 : Int32)), (.ref b57), (.ref b57)]))
    refine own_go (fun tq kq => XS.iload X72.here hx rfl (hb hby at_102) rfl kq) ?_
    show own_Rn p e below _ (T72.setTop (mkF m 104 #[.val (.int i0), .val (.int i1), .val (.int i2), .val (.int i3), .val (.int i4), .val (.int i5), .val (.int md), .val (.int d0), .val (.int d1), .val (.int d2), .val (.int d3), .val (.int d4), .val (.int d5), .unset, .unset, .unset, .unset] [(.int d5), (.int (5 : Int32)), (.ref b57), (.ref b57)]))
    obtain ⟨cl75, Ar75, q75, Sz75, Nn75, Hs75, G75⟩ := id V72
    obtain ⟨T75, h75, X75, e75, W75, st75⟩ := stC X72 hx hZ e72 Ar75 (j := (5 : Int32)) (inb_of Sz75 ⟨by decide, by decide⟩) (g := (mkF m 104 #[.val (.int i0), .val (.int i1), .val (.int i2), .val (.int i3), .val (.int i4), .val (.int i5), .val (.int md), .val (.int d0), .val (.int d1), .val (.int d2), .val (.int d3), .val (.int d4), .val (.int d5), .unset, .unset, .unset, .unset] [(.int d5), (.int (5 : Int32)), (.ref b57), (.ref b57)])) rfl rfl (hb hby at_104)
    rw [nd5] at W75
    refine own_go st75 ?_
    have V75 : Arv Z h75 b57 k57 .char (6 : Int32) [(.int d0), (.int d1), (.int d2), (.int d3), (.int d4), (.int d5)] (.int (0 : Int32)) := Arv.set Ar75 q75 Sz75 Nn75 Hs75 G75 (by rw [← nd5]; exact fits_nar_char _) W75 5 rfl (Nat.le_of_ble_eq_true rfl)
    have N75 := Fr.snoc X75 N72 gn57
    have sf76 : Safe Z consts_1 s.vm h72 b57 := Safe.arv hZ.alike V72 (by decide)
    have sz77 : h72.size ≤ h75.size := Nat.le_of_eq (Wr.size W75).symm
    have cr77 : CHr Z consts_1 s.vm h72 s.vm h75 := CHr.wr W75 sf76 CR74.1
    have CR77 := CR74.trans cr77
    show own_Rn p e below _ (T75.setTop (mkF m 105 #[.val (.int i0), .val (.int i1), .val (.int i2), .val (.int i3), .val (.int i4), .val (.int i5), .val (.int md), .val (.int d0), .val (.int d1), .val (.int d2), .val (.int d3), .val (.int d4), .val (.int d5), .unset, .unset, .unset, .unset] [(.ref b57)]))
    refine own_go (fun tq kq => XS.astore X75.here hx rfl (hb hby at_105) rfl rfl (l' := #[.val (.int i0), .val (.int i1), .val (.int i2), .val (.int i3), .val (.int i4), .val (.int i5), .val (.int md), .val (.int d0), .val (.int d1), .val (.int d2), .val (.int d3), .val (.int d4), .val (.int d5), .val (.ref b57), .unset, .unset, .unset]) rfl kq) ?_
    show own_Rn p e below _ (T75.setTop (mkF m 107 #[.val (.int i0), .val (.int i1), .val (.int i2), .val (.int i3), .val (.int i4), .val (.int i5), .val (.int md), .val (.int d0), .val (.int d1), .val (.int d2), .val (.int d3), .val (.int d4), .val (.int d5), .val (.ref b57), .unset, .unset, .unset] []))
    refine own_go (fun tq kq => XS.iloadN X75.here hx rfl (hb hby at_107) rfl kq) ?_
    show own_Rn p e below _ (T75.setTop (mkF m 108 #[.val (.int i0), .val (.int i1), .val (.int i2), .val (.int i3), .val (.int i4), .val (.int i5), .val (.int md), .val (.int d0), .val (.int d1), .val (.int d2), .val (.int d3), .val (.int d4), .val (.int d5), .val (.ref b57), .unset, .unset, .unset] [(.int i1)]))
    refine own_go (fun tq kq => XS.iconst X75.here hx rfl (hb hby at_108) kq) ?_
    show own_Rn p e below _ (T75.setTop (mkF m 109 #[.val (.int i0), .val (.int i1), .val (.int i2), .val (.int i3), .val (.int i4), .val (.int i5), .val (.int md), .val (.int d0), .val (.int d1), .val (.int d2), .val (.int d3), .val (.int d4), .val (.int d5), .val (.ref b57), .unset, .unset, .unset] [(.int (2 : Int32)), (.int i1)]))
    refine own_go (fun tq kq => XS.iushr X75.here hx rfl (hb hby at_109) rfl kq) ?_
    show own_Rn p e below _ (T75.setTop (mkF m 110 #[.val (.int i0), .val (.int i1), .val (.int i2), .val (.int i3), .val (.int i4), .val (.int i5), .val (.int md), .val (.int d0), .val (.int d1), .val (.int d2), .val (.int d3), .val (.int d4), .val (.int d5), .val (.ref b57), .unset, .unset, .unset] [(.int ((i1.toUInt32 >>> ((2 : Int32) &&& 31).toUInt32).toInt32))]))
    refine own_go (fun tq kq => XS.bipush X75.here hx rfl (hb hby at_110) kq) ?_
    show own_Rn p e below _ (T75.setTop (mkF m 112 #[.val (.int i0), .val (.int i1), .val (.int i2), .val (.int i3), .val (.int i4), .val (.int i5), .val (.int md), .val (.int d0), .val (.int d1), .val (.int d2), .val (.int d3), .val (.int d4), .val (.int d5), .val (.ref b57), .unset, .unset, .unset] [(.int (7 : Int32)), (.int ((i1.toUInt32 >>> ((2 : Int32) &&& 31).toUInt32).toInt32))]))
    refine own_go (fun tq kq => iremM X75 hx rfl (hb hby at_112) rfl (by decide) kq) ?_
    show own_Rn p e below _ (T75.setTop (mkF m 113 #[.val (.int i0), .val (.int i1), .val (.int i2), .val (.int i3), .val (.int i4), .val (.int i5), .val (.int md), .val (.int d0), .val (.int d1), .val (.int d2), .val (.int d3), .val (.int d4), .val (.int d5), .val (.ref b57), .unset, .unset, .unset] [(.int (((i1.toUInt32 >>> ((2 : Int32) &&& 31).toUInt32).toInt32) % (7 : Int32)))]))
    obtain ⟨N, hN, eN⟩ := own_m7 i1
    rw [eN]
    show own_Rn p e below _ (T75.setTop (mkF m 113 #[.val (.int i0), .val (.int i1), .val (.int i2), .val (.int i3), .val (.int i4), .val (.int i5), .val (.int md), .val (.int d0), .val (.int d1), .val (.int d2), .val (.int d3), .val (.int d4), .val (.int d5), .val (.ref b57), .unset, .unset, .unset] [(.int (Int32.ofNat N))]))
    refine own_go (fun tq kq => XS.istore X75.here hx rfl (hb hby at_113) rfl (l' := #[.val (.int i0), .val (.int i1), .val (.int i2), .val (.int i3), .val (.int i4), .val (.int i5), .val (.int md), .val (.int d0), .val (.int d1), .val (.int d2), .val (.int d3), .val (.int d4), .val (.int d5), .val (.ref b57), .val (.int (Int32.ofNat N)), .unset, .unset]) rfl kq) ?_
    show own_Rn p e below _ (T75.setTop (mkF m 115 #[.val (.int i0), .val (.int i1), .val (.int i2), .val (.int i3), .val (.int i4), .val (.int i5), .val (.int md), .val (.int d0), .val (.int d1), .val (.int d2), .val (.int d3), .val (.int d4), .val (.int d5), .val (.ref b57), .val (.int (Int32.ofNat N)), .unset, .unset] []))
    refine own_go (fun tq kq => XS.goto X75.here hx rfl (pc0 := 115) (pc' := 317) rfl (hb hby at_115) (by decide) (by decide) kq) ?_
    show own_Rn p e below _ (T75.setTop (mkF m 317 #[.val (.int i0), .val (.int i1), .val (.int i2), .val (.int i3), .val (.int i4), .val (.int i5), .val (.int md), .val (.int d0), .val (.int d1), .val (.int d2), .val (.int d3), .val (.int d4), .val (.int d5), .val (.ref b57), .val (.int (Int32.ofNat N)), .unset, .unset] []))
    have F78 : Old Z n0 h75 := (((((((X00.ext E57).wr W60 gn57).wr W63 gn57).wr W66 gn57).wr W69 gn57).wr W72 gn57).wr W75 gn57)
    exact jn _ _ _ b57 k57 d0 d1 d2 d3 d4 d5 (N) _ _ X75 e75 N75 (by omega) CR77 F78 V75 ⟨rd0, rd1, rd2, rd3, rd4, rd5⟩ hN One.u One.u
  · skip
    refine own_go (fun tq kq => XS.ifYes X0.here hx rfl (pc0 := 68) (pc' := 118) rfl (hb hby at_68) rfl ((if0 _ _).trans (feq (hc55 : ¬ (md = (0 : Int32)))).2) (by decide) (by decide) kq) ?_
    show own_Rn p e below _ (s₁.setTop (mkF m 118 #[.val (.int i0), .val (.int i1), .val (.int i2), .val (.int i3), .val (.int i4), .val (.int i5), .val (.int md), .val (.int d0), .val (.int d1), .val (.int d2), .val (.int d3), .val (.int d4), .val (.int d5), .unset, .unset, .unset, .unset] []))
    refine own_go (fun tq kq => XS.iload X0.here hx rfl (hb hby at_118) rfl kq) ?_
    show own_Rn p e below _ (s₁.setTop (mkF m 120 #[.val (.int i0), .val (.int i1), .val (.int i2), .val (.int i3), .val (.int i4), .val (.int i5), .val (.int md), .val (.int d0), .val (.int d1), .val (.int d2), .val (.int d3), .val (.int d4), .val (.int d5), .unset, .unset, .unset, .unset] [(.int md)]))
    refine own_go (fun tq kq => XS.iconst X0.here hx rfl (hb hby at_120) kq) ?_
    show own_Rn p e below _ (s₁.setTop (mkF m 121 #[.val (.int i0), .val (.int i1), .val (.int i2), .val (.int i3), .val (.int i4), .val (.int i5), .val (.int md), .val (.int d0), .val (.int d1), .val (.int d2), .val (.int d3), .val (.int d4), .val (.int d5), .unset, .unset, .unset, .unset] [(.int (1 : Int32)), (.int md)]))
    by_cases hc79 : md = (1 : Int32)
    · skip
      refine own_go (fun tq kq => XS.icmpNo X0.here hx rfl (hb hby at_121) rfl (teq (hc79 : md = (1 : Int32))).2 kq) ?_
      show own_Rn p e below _ (s₁.setTop (mkF m 124 #[.val (.int i0), .val (.int i1), .val (.int i2), .val (.int i3), .val (.int i4), .val (.int i5), .val (.int md), .val (.int d0), .val (.int d1), .val (.int d2), .val (.int d3), .val (.int d4), .val (.int d5), .unset, .unset, .unset, .unset] []))
      refine own_go (fun tq kq => XS.bipush X0.here hx rfl (hb hby at_124) kq) ?_
      show own_Rn p e below _ (s₁.setTop (mkF m 126 #[.val (.int i0), .val (.int i1), .val (.int i2), .val (.int i3), .val (.int i4), .val (.int i5), .val (.int md), .val (.int d0), .val (.int d1), .val (.int d2), .val (.int d3), .val (.int d4), .val (.int d5), .unset, .unset, .unset, .unset] [(.int (6 : Int32))]))
      obtain ⟨T81, h81, k81, X81, e81, E81, A81, st81⟩ := newP X0 hx hZ (hw _ (own_mi 0 rfl)) e0 (g := (mkF m 126 #[.val (.int i0), .val (.int i1), .val (.int i2), .val (.int i3), .val (.int i4), .val (.int i5), .val (.int md), .val (.int d0), .val (.int d1), .val (.int d2), .val (.int d3), .val (.int d4), .val (.int d5), .unset, .unset, .unset, .unset] [(.int (6 : Int32))])) rfl (hb hby at_126) rfl (by decide) (cap := 6) (by decide) (by decide) (by decide) (by decide)
      obtain ⟨b81, g81⟩ : ∃ z, z = h0.size := ⟨_, rfl⟩
      rw [← g81] at A81 st81
      refine own_go st81 ?_
      have sz82 : h0.size ≤ h81.size := E81.1
      have cr82 : CHr Z consts_1 s.vm h0 s.vm h81 := CHr.ext E81 CR0.1
      have CR82 := CR0.trans cr82
      have gn81 : n0 ≤ b81 := by omega
      have V81 : Arv Z h81 b81 k81 .char (6 : Int32) [(.int (0 : Int32)), (.int (0 : Int32)), (.int (0 : Int32)), (.int (0 : Int32)), (.int (0 : Int32)), (.int (0 : Int32))] (.int (0 : Int32)) := (Arv.new A81 (by decide)).pad (pad_rep [] _ 6)
      have lt83 : @LT.lt Nat _ b81 h81.size := V81.lt
      show own_Rn p e below _ (T81.setTop (mkF m 128 #[.val (.int i0), .val (.int i1), .val (.int i2), .val (.int i3), .val (.int i4), .val (.int i5), .val (.int md), .val (.int d0), .val (.int d1), .val (.int d2), .val (.int d3), .val (.int d4), .val (.int d5), .unset, .unset, .unset, .unset] [(.ref b81)]))
      refine own_go (fun tq kq => XS.dup X81.here hx rfl (hb hby at_128) rfl rfl kq) ?_
      show own_Rn p e below _ (T81.setTop (mkF m 129 #[.val (.int i0), .val (.int i1), .val (.int i2), .val (.int i3), .val (.int i4), .val (.int i5), .val (.int md), .val (.int d0), .val (.int d1), .val (.int d2), .val (.int d3), .val (.int d4), .val (.int d5), .unset, .unset, .unset, .unset] [(.ref b81), (.ref b81)]))
      refine own_go (fun tq kq => XS.iconst X81.here hx rfl (hb hby at_129) kq) ?_
      show own_Rn p e below _ (T81.setTop (mkF m 130 #[.val (.int i0), .val (.int i1), .val (.int i2), .val (.int i3), .val (.int i4), .val (.int i5), .val (.int md), .val (.int d0), .val (.int d1), .val (.int d2), .val (.int d3), .val (.int d4), .val (.int d5), .unset, .unset, .unset, .unset] [(.int (0 : Int32)), (.ref b81), (.ref b81)]))
      refine own_go (fun tq kq => XS.bipush X81.here hx rfl (hb hby at_130) kq) ?_
      show own_Rn p e below _ (T81.setTop (mkF m 132 #[.val (.int i0), .val (.int i1), .val (.int i2), .val (.int i3), .val (.int i4), .val (.int i5), .val (.int md), .val (.int d0), .val (.int d1), .val (.int d2), .val (.int d3), .val (.int d4), .val (.int d5), .unset, .unset, .unset, .unset] [(.int (116 : Int32)), (.int (0 : Int32)), (.ref b81), (.ref b81)]))
      obtain ⟨cl84, Ar84, q84, Sz84, Nn84, Hs84, G84⟩ := id V81
      obtain ⟨T84, h84, X84, e84, W84, st84⟩ := stC X81 hx hZ e81 Ar84 (j := (0 : Int32)) (inb_of Sz84 ⟨by decide, by decide⟩) (g := (mkF m 132 #[.val (.int i0), .val (.int i1), .val (.int i2), .val (.int i3), .val (.int i4), .val (.int i5), .val (.int md), .val (.int d0), .val (.int d1), .val (.int d2), .val (.int d3), .val (.int d4), .val (.int d5), .unset, .unset, .unset, .unset] [(.int (116 : Int32)), (.int (0 : Int32)), (.ref b81), (.ref b81)])) rfl rfl (hb hby at_132)
      refine own_go st84 ?_
      have V84 : Arv Z h84 b81 k81 .char (6 : Int32) [(.int (116 : Int32)), (.int (0 : Int32)), (.int (0 : Int32)), (.int (0 : Int32)), (.int (0 : Int32)), (.int (0 : Int32))] (.int (0 : Int32)) := Arv.set Ar84 q84 Sz84 Nn84 Hs84 G84 rfl W84 0 rfl (Nat.le_of_ble_eq_true rfl)
      have N84 := Fr.snoc X84 N0 gn81
      have sf85 : Safe Z consts_1 s.vm h81 b81 := Safe.arv hZ.alike V81 (by decide)
      have sz86 : h81.size ≤ h84.size := Nat.le_of_eq (Wr.size W84).symm
      have cr86 : CHr Z consts_1 s.vm h81 s.vm h84 := CHr.wr W84 sf85 CR82.1
      have CR86 := CR82.trans cr86
      show own_Rn p e below _ (T84.setTop (mkF m 133 #[.val (.int i0), .val (.int i1), .val (.int i2), .val (.int i3), .val (.int i4), .val (.int i5), .val (.int md), .val (.int d0), .val (.int d1), .val (.int d2), .val (.int d3), .val (.int d4), .val (.int d5), .unset, .unset, .unset, .unset] [(.ref b81)]))
      refine own_go (fun tq kq => XS.dup X84.here hx rfl (hb hby at_133) rfl rfl kq) ?_
      show own_Rn p e below _ (T84.setTop (mkF m 134 #[.val (.int i0), .val (.int i1), .val (.int i2), .val (.int i3), .val (.int i4), .val (.int i5), .val (.int md), .val (.int d0), .val (.int d1), .val (.int d2), .val (.int d3), .val (.int d4), .val (.int d5), .unset, .unset, .unset, .unset] [(.ref b81), (.ref b81)]))
      refine own_go (fun tq kq => XS.iconst X84.here hx rfl (hb hby at_134) kq) ?_
      show own_Rn p e below _ (T84.setTop (mkF m 135 #[.val (.int i0), .val (.int i1), .val (.int i2), .val (.int i3), .val (.int i4), .val (.int i5), .val (.int md), .val (.int d0), .val (.int d1), .val (.int d2), .val (.int d3), .val (.int d4), .val (.int d5), .unset, .unset, .unset, .unset] [(.int (1 : Int32)), (.ref b81), (.ref b81)]))
      refine own_go (fun tq kq => XS.bipush X84.here hx rfl (hb hby at_135) kq) ?_
      show own_Rn p e below _ (T84.setTop (mkF m 137 #[.val (.int i0), .val (.int i1), .val (.int i2), .val (.int i3), .val (.int i4), .val (.int i5), .val (.int md), .val (.int d0), .val (.int d1), .val (.int d2), .val (.int d3), .val (.int d4), .val (.int d5), .unset, .unset, .unset, .unset] [(.int (105 : Int32)), (.int (1 : Int32)), (.ref b81), (.ref b81)]))
      obtain ⟨cl87, Ar87, q87, Sz87, Nn87, Hs87, G87⟩ := id V84
      obtain ⟨T87, h87, X87, e87, W87, st87⟩ := stC X84 hx hZ e84 Ar87 (j := (1 : Int32)) (inb_of Sz87 ⟨by decide, by decide⟩) (g := (mkF m 137 #[.val (.int i0), .val (.int i1), .val (.int i2), .val (.int i3), .val (.int i4), .val (.int i5), .val (.int md), .val (.int d0), .val (.int d1), .val (.int d2), .val (.int d3), .val (.int d4), .val (.int d5), .unset, .unset, .unset, .unset] [(.int (105 : Int32)), (.int (1 : Int32)), (.ref b81), (.ref b81)])) rfl rfl (hb hby at_137)
      refine own_go st87 ?_
      have V87 : Arv Z h87 b81 k81 .char (6 : Int32) [(.int (116 : Int32)), (.int (105 : Int32)), (.int (0 : Int32)), (.int (0 : Int32)), (.int (0 : Int32)), (.int (0 : Int32))] (.int (0 : Int32)) := Arv.set Ar87 q87 Sz87 Nn87 Hs87 G87 rfl W87 1 rfl (Nat.le_of_ble_eq_true rfl)
      have N87 := Fr.snoc X87 N84 gn81
      have sf88 : Safe Z consts_1 s.vm h84 b81 := Safe.arv hZ.alike V84 (by decide)
      have sz89 : h84.size ≤ h87.size := Nat.le_of_eq (Wr.size W87).symm
      have cr89 : CHr Z consts_1 s.vm h84 s.vm h87 := CHr.wr W87 sf88 CR86.1
      have CR89 := CR86.trans cr89
      show own_Rn p e below _ (T87.setTop (mkF m 138 #[.val (.int i0), .val (.int i1), .val (.int i2), .val (.int i3), .val (.int i4), .val (.int i5), .val (.int md), .val (.int d0), .val (.int d1), .val (.int d2), .val (.int d3), .val (.int d4), .val (.int d5), .unset, .unset, .unset, .unset] [(.ref b81)]))
      refine own_go (fun tq kq => XS.dup X87.here hx rfl (hb hby at_138) rfl rfl kq) ?_
      show own_Rn p e below _ (T87.setTop (mkF m 139 #[.val (.int i0), .val (.int i1), .val (.int i2), .val (.int i3), .val (.int i4), .val (.int i5), .val (.int md), .val (.int d0), .val (.int d1), .val (.int d2), .val (.int d3), .val (.int d4), .val (.int d5), .unset, .unset, .unset, .unset] [(.ref b81), (.ref b81)]))
      refine own_go (fun tq kq => XS.iconst X87.here hx rfl (hb hby at_139) kq) ?_
      show own_Rn p e below _ (T87.setTop (mkF m 140 #[.val (.int i0), .val (.int i1), .val (.int i2), .val (.int i3), .val (.int i4), .val (.int i5), .val (.int md), .val (.int d0), .val (.int d1), .val (.int d2), .val (.int d3), .val (.int d4), .val (.int d5), .unset, .unset, .unset, .unset] [(.int (2 : Int32)), (.ref b81), (.ref b81)]))
      refine own_go (fun tq kq => XS.bipush X87.here hx rfl (hb hby at_140) kq) ?_
      show own_Rn p e below _ (T87.setTop (mkF m 142 #[.val (.int i0), .val (.int i1), .val (.int i2), .val (.int i3), .val (.int i4), .val (.int i5), .val (.int md), .val (.int d0), .val (.int d1), .val (.int d2), .val (.int d3), .val (.int d4), .val (.int d5), .unset, .unset, .unset, .unset] [(.int (116 : Int32)), (.int (2 : Int32)), (.ref b81), (.ref b81)]))
      obtain ⟨cl90, Ar90, q90, Sz90, Nn90, Hs90, G90⟩ := id V87
      obtain ⟨T90, h90, X90, e90, W90, st90⟩ := stC X87 hx hZ e87 Ar90 (j := (2 : Int32)) (inb_of Sz90 ⟨by decide, by decide⟩) (g := (mkF m 142 #[.val (.int i0), .val (.int i1), .val (.int i2), .val (.int i3), .val (.int i4), .val (.int i5), .val (.int md), .val (.int d0), .val (.int d1), .val (.int d2), .val (.int d3), .val (.int d4), .val (.int d5), .unset, .unset, .unset, .unset] [(.int (116 : Int32)), (.int (2 : Int32)), (.ref b81), (.ref b81)])) rfl rfl (hb hby at_142)
      refine own_go st90 ?_
      have V90 : Arv Z h90 b81 k81 .char (6 : Int32) [(.int (116 : Int32)), (.int (105 : Int32)), (.int (116 : Int32)), (.int (0 : Int32)), (.int (0 : Int32)), (.int (0 : Int32))] (.int (0 : Int32)) := Arv.set Ar90 q90 Sz90 Nn90 Hs90 G90 rfl W90 2 rfl (Nat.le_of_ble_eq_true rfl)
      have N90 := Fr.snoc X90 N87 gn81
      have sf91 : Safe Z consts_1 s.vm h87 b81 := Safe.arv hZ.alike V87 (by decide)
      have sz92 : h87.size ≤ h90.size := Nat.le_of_eq (Wr.size W90).symm
      have cr92 : CHr Z consts_1 s.vm h87 s.vm h90 := CHr.wr W90 sf91 CR89.1
      have CR92 := CR89.trans cr92
      show own_Rn p e below _ (T90.setTop (mkF m 143 #[.val (.int i0), .val (.int i1), .val (.int i2), .val (.int i3), .val (.int i4), .val (.int i5), .val (.int md), .val (.int d0), .val (.int d1), .val (.int d2), .val (.int d3), .val (.int d4), .val (.int d5), .unset, .unset, .unset, .unset] [(.ref b81)]))
      refine own_go (fun tq kq => XS.dup X90.here hx rfl (hb hby at_143) rfl rfl kq) ?_
      show own_Rn p e below _ (T90.setTop (mkF m 144 #[.val (.int i0), .val (.int i1), .val (.int i2), .val (.int i3), .val (.int i4), .val (.int i5), .val (.int md), .val (.int d0), .val (.int d1), .val (.int d2), .val (.int d3), .val (.int d4), .val (.int d5), .unset, .unset, .unset, .unset] [(.ref b81), (.ref b81)]))
      refine own_go (fun tq kq => XS.iconst X90.here hx rfl (hb hby at_144) kq) ?_
      show own_Rn p e below _ (T90.setTop (mkF m 145 #[.val (.int i0), .val (.int i1), .val (.int i2), .val (.int i3), .val (.int i4), .val (.int i5), .val (.int md), .val (.int d0), .val (.int d1), .val (.int d2), .val (.int d3), .val (.int d4), .val (.int d5), .unset, .unset, .unset, .unset] [(.int (3 : Int32)), (.ref b81), (.ref b81)]))
      refine own_go (fun tq kq => XS.bipush X90.here hx rfl (hb hby at_145) kq) ?_
      show own_Rn p e below _ (T90.setTop (mkF m 147 #[.val (.int i0), .val (.int i1), .val (.int i2), .val (.int i3), .val (.int i4), .val (.int i5), .val (.int md), .val (.int d0), .val (.int d1), .val (.int d2), .val (.int d3), .val (.int d4), .val (.int d5), .unset, .unset, .unset, .unset] [(.int (108 : Int32)), (.int (3 : Int32)), (.ref b81), (.ref b81)]))
      obtain ⟨cl93, Ar93, q93, Sz93, Nn93, Hs93, G93⟩ := id V90
      obtain ⟨T93, h93, X93, e93, W93, st93⟩ := stC X90 hx hZ e90 Ar93 (j := (3 : Int32)) (inb_of Sz93 ⟨by decide, by decide⟩) (g := (mkF m 147 #[.val (.int i0), .val (.int i1), .val (.int i2), .val (.int i3), .val (.int i4), .val (.int i5), .val (.int md), .val (.int d0), .val (.int d1), .val (.int d2), .val (.int d3), .val (.int d4), .val (.int d5), .unset, .unset, .unset, .unset] [(.int (108 : Int32)), (.int (3 : Int32)), (.ref b81), (.ref b81)])) rfl rfl (hb hby at_147)
      refine own_go st93 ?_
      have V93 : Arv Z h93 b81 k81 .char (6 : Int32) [(.int (116 : Int32)), (.int (105 : Int32)), (.int (116 : Int32)), (.int (108 : Int32)), (.int (0 : Int32)), (.int (0 : Int32))] (.int (0 : Int32)) := Arv.set Ar93 q93 Sz93 Nn93 Hs93 G93 rfl W93 3 rfl (Nat.le_of_ble_eq_true rfl)
      have N93 := Fr.snoc X93 N90 gn81
      have sf94 : Safe Z consts_1 s.vm h90 b81 := Safe.arv hZ.alike V90 (by decide)
      have sz95 : h90.size ≤ h93.size := Nat.le_of_eq (Wr.size W93).symm
      have cr95 : CHr Z consts_1 s.vm h90 s.vm h93 := CHr.wr W93 sf94 CR92.1
      have CR95 := CR92.trans cr95
      show own_Rn p e below _ (T93.setTop (mkF m 148 #[.val (.int i0), .val (.int i1), .val (.int i2), .val (.int i3), .val (.int i4), .val (.int i5), .val (.int md), .val (.int d0), .val (.int d1), .val (.int d2), .val (.int d3), .val (.int d4), .val (.int d5), .unset, .unset, .unset, .unset] [(.ref b81)]))
      refine own_go (fun tq kq => XS.dup X93.here hx rfl (hb hby at_148) rfl rfl kq) ?_
      show own_Rn p e below _ (T93.setTop (mkF m 149 #[.val (.int i0), .val (.int i1), .val (.int i2), .val (.int i3), .val (.int i4), .val (.int i5), .val (.int md), .val (.int d0), .val (.int d1), .val (.int d2), .val (.int d3), .val (.int d4), .val (.int d5), .unset, .unset, .unset, .unset] [(.ref b81), (.ref b81)]))
      refine own_go (fun tq kq => XS.iconst X93.here hx rfl (hb hby at_149) kq) ?_
      show own_Rn p e below _ (T93.setTop (mkF m 150 #[.val (.int i0), .val (.int i1), .val (.int i2), .val (.int i3), .val (.int i4), .val (.int i5), .val (.int md), .val (.int d0), .val (.int d1), .val (.int d2), .val (.int d3), .val (.int d4), .val (.int d5), .unset, .unset, .unset, .unset] [(.int (4 : Int32)), (.ref b81), (.ref b81)]))
      refine own_go (fun tq kq => XS.bipush X93.here hx rfl (hb hby at_150) kq) ?_
      show own_Rn p e below _ (T93.setTop (mkF m 152 #[.val (.int i0), .val (.int i1), .val (.int i2), .val (.int i3), .val (.int i4), .val (.int i5), .val (.int md), .val (.int d0), .val (.int d1), .val (.int d2), .val (.int d3), .val (.int d4), .val (.int d5), .unset, .unset, .unset, .unset] [(.int (101 : Int32)), (.int (4 : Int32)), (.ref b81), (.ref b81)]))
      obtain ⟨cl96, Ar96, q96, Sz96, Nn96, Hs96, G96⟩ := id V93
      obtain ⟨T96, h96, X96, e96, W96, st96⟩ := stC X93 hx hZ e93 Ar96 (j := (4 : Int32)) (inb_of Sz96 ⟨by decide, by decide⟩) (g := (mkF m 152 #[.val (.int i0), .val (.int i1), .val (.int i2), .val (.int i3), .val (.int i4), .val (.int i5), .val (.int md), .val (.int d0), .val (.int d1), .val (.int d2), .val (.int d3), .val (.int d4), .val (.int d5), .unset, .unset, .unset, .unset] [(.int (101 : Int32)), (.int (4 : Int32)), (.ref b81), (.ref b81)])) rfl rfl (hb hby at_152)
      refine own_go st96 ?_
      have V96 : Arv Z h96 b81 k81 .char (6 : Int32) [(.int (116 : Int32)), (.int (105 : Int32)), (.int (116 : Int32)), (.int (108 : Int32)), (.int (101 : Int32)), (.int (0 : Int32))] (.int (0 : Int32)) := Arv.set Ar96 q96 Sz96 Nn96 Hs96 G96 rfl W96 4 rfl (Nat.le_of_ble_eq_true rfl)
      have N96 := Fr.snoc X96 N93 gn81
      have sf97 : Safe Z consts_1 s.vm h93 b81 := Safe.arv hZ.alike V93 (by decide)
      have sz98 : h93.size ≤ h96.size := Nat.le_of_eq (Wr.size W96).symm
      have cr98 : CHr Z consts_1 s.vm h93 s.vm h96 := CHr.wr W96 sf97 CR95.1
      have CR98 := CR95.trans cr98
      show own_Rn p e below _ (T96.setTop (mkF m 153 #[.val (.int i0), .val (.int i1), .val (.int i2), .val (.int i3), .val (.int i4), .val (.int i5), .val (.int md), .val (.int d0), .val (.int d1), .val (.int d2), .val (.int d3), .val (.int d4), .val (.int d5), .unset, .unset, .unset, .unset] [(.ref b81)]))
      refine own_go (fun tq kq => XS.dup X96.here hx rfl (hb hby at_153) rfl rfl kq) ?_
      show own_Rn p e below _ (T96.setTop (mkF m 154 #[.val (.int i0), .val (.int i1), .val (.int i2), .val (.int i3), .val (.int i4), .val (.int i5), .val (.int md), .val (.int d0), .val (.int d1), .val (.int d2), .val (.int d3), .val (.int d4), .val (.int d5), .unset, .unset, .unset, .unset] [(.ref b81), (.ref b81)]))
      refine own_go (fun tq kq => XS.iconst X96.here hx rfl (hb hby at_154) kq) ?_
      show own_Rn p e below _ (T96.setTop (mkF m 155 #[.val (.int i0), .val (.int i1), .val (.int i2), .val (.int i3), .val (.int i4), .val (.int i5), .val (.int md), .val (.int d0), .val (.int d1), .val (.int d2), .val (.int d3), .val (.int d4), .val (.int d5), .unset, .unset, .unset, .unset] [(.int (5 : Int32)), (.ref b81), (.ref b81)]))
      refine own_go (fun tq kq => XS.bipush X96.here hx rfl (hb hby at_155) kq) ?_
      show own_Rn p e below _ (T96.setTop (mkF m 157 #[.val (.int i0), .val (.int i1), .val (.int i2), .val (.int i3), .val (.int i4), .val (.int i5), .val (.int md), .val (.int d0), .val (.int d1), .val (.int d2), .val (.int d3), .val (.int d4), .val (.int d5), .unset, .unset, .unset, .unset] [(.int (120 : Int32)), (.int (5 : Int32)), (.ref b81), (.ref b81)]))
      obtain ⟨cl99, Ar99, q99, Sz99, Nn99, Hs99, G99⟩ := id V96
      obtain ⟨T99, h99, X99, e99, W99, st99⟩ := stC X96 hx hZ e96 Ar99 (j := (5 : Int32)) (inb_of Sz99 ⟨by decide, by decide⟩) (g := (mkF m 157 #[.val (.int i0), .val (.int i1), .val (.int i2), .val (.int i3), .val (.int i4), .val (.int i5), .val (.int md), .val (.int d0), .val (.int d1), .val (.int d2), .val (.int d3), .val (.int d4), .val (.int d5), .unset, .unset, .unset, .unset] [(.int (120 : Int32)), (.int (5 : Int32)), (.ref b81), (.ref b81)])) rfl rfl (hb hby at_157)
      refine own_go st99 ?_
      have V99 : Arv Z h99 b81 k81 .char (6 : Int32) [(.int (116 : Int32)), (.int (105 : Int32)), (.int (116 : Int32)), (.int (108 : Int32)), (.int (101 : Int32)), (.int (120 : Int32))] (.int (0 : Int32)) := Arv.set Ar99 q99 Sz99 Nn99 Hs99 G99 rfl W99 5 rfl (Nat.le_of_ble_eq_true rfl)
      have N99 := Fr.snoc X99 N96 gn81
      have sf100 : Safe Z consts_1 s.vm h96 b81 := Safe.arv hZ.alike V96 (by decide)
      have sz101 : h96.size ≤ h99.size := Nat.le_of_eq (Wr.size W99).symm
      have cr101 : CHr Z consts_1 s.vm h96 s.vm h99 := CHr.wr W99 sf100 CR98.1
      have CR101 := CR98.trans cr101
      show own_Rn p e below _ (T99.setTop (mkF m 158 #[.val (.int i0), .val (.int i1), .val (.int i2), .val (.int i3), .val (.int i4), .val (.int i5), .val (.int md), .val (.int d0), .val (.int d1), .val (.int d2), .val (.int d3), .val (.int d4), .val (.int d5), .unset, .unset, .unset, .unset] [(.ref b81)]))
      refine own_go (fun tq kq => XS.astore X99.here hx rfl (hb hby at_158) rfl rfl (l' := #[.val (.int i0), .val (.int i1), .val (.int i2), .val (.int i3), .val (.int i4), .val (.int i5), .val (.int md), .val (.int d0), .val (.int d1), .val (.int d2), .val (.int d3), .val (.int d4), .val (.int d5), .val (.ref b81), .unset, .unset, .unset]) rfl kq) ?_
      show own_Rn p e below _ (T99.setTop (mkF m 160 #[.val (.int i0), .val (.int i1), .val (.int i2), .val (.int i3), .val (.int i4), .val (.int i5), .val (.int md), .val (.int d0), .val (.int d1), .val (.int d2), .val (.int d3), .val (.int d4), .val (.int d5), .val (.ref b81), .unset, .unset, .unset] []))
      refine own_go (fun tq kq => XS.iconst X99.here hx rfl (hb hby at_160) kq) ?_
      show own_Rn p e below _ (T99.setTop (mkF m 161 #[.val (.int i0), .val (.int i1), .val (.int i2), .val (.int i3), .val (.int i4), .val (.int i5), .val (.int md), .val (.int d0), .val (.int d1), .val (.int d2), .val (.int d3), .val (.int d4), .val (.int d5), .val (.ref b81), .unset, .unset, .unset] [(.int (5 : Int32))]))
      refine own_go (fun tq kq => XS.istore X99.here hx rfl (hb hby at_161) rfl (l' := #[.val (.int i0), .val (.int i1), .val (.int i2), .val (.int i3), .val (.int i4), .val (.int i5), .val (.int md), .val (.int d0), .val (.int d1), .val (.int d2), .val (.int d3), .val (.int d4), .val (.int d5), .val (.ref b81), .val (.int (5 : Int32)), .unset, .unset]) rfl kq) ?_
      show own_Rn p e below _ (T99.setTop (mkF m 163 #[.val (.int i0), .val (.int i1), .val (.int i2), .val (.int i3), .val (.int i4), .val (.int i5), .val (.int md), .val (.int d0), .val (.int d1), .val (.int d2), .val (.int d3), .val (.int d4), .val (.int d5), .val (.ref b81), .val (.int (5 : Int32)), .unset, .unset] []))
      refine own_go (fun tq kq => XS.goto X99.here hx rfl (pc0 := 163) (pc' := 253) rfl (hb hby at_163) (by decide) (by decide) kq) ?_
      show own_Rn p e below _ (T99.setTop (mkF m 253 #[.val (.int i0), .val (.int i1), .val (.int i2), .val (.int i3), .val (.int i4), .val (.int i5), .val (.int md), .val (.int d0), .val (.int d1), .val (.int d2), .val (.int d3), .val (.int d4), .val (.int d5), .val (.ref b81), .val (.int (5 : Int32)), .unset, .unset] []))
      refine own_go (fun tq kq => XS.iloadN X99.here hx rfl (hb hby at_253) rfl kq) ?_
      show own_Rn p e below _ (T99.setTop (mkF m 254 #[.val (.int i0), .val (.int i1), .val (.int i2), .val (.int i3), .val (.int i4), .val (.int i5), .val (.int md), .val (.int d0), .val (.int d1), .val (.int d2), .val (.int d3), .val (.int d4), .val (.int d5), .val (.ref b81), .val (.int (5 : Int32)), .unset, .unset] [(.int i1)]))
      refine own_go (fun tq kq => XS.iconst X99.here hx rfl (hb hby at_254) kq) ?_
      show own_Rn p e below _ (T99.setTop (mkF m 255 #[.val (.int i0), .val (.int i1), .val (.int i2), .val (.int i3), .val (.int i4), .val (.int i5), .val (.int md), .val (.int d0), .val (.int d1), .val (.int d2), .val (.int d3), .val (.int d4), .val (.int d5), .val (.ref b81), .val (.int (5 : Int32)), .unset, .unset] [(.int (3 : Int32)), (.int i1)]))
      refine own_go (fun tq kq => XS.iand X99.here hx rfl (hb hby at_255) rfl kq) ?_
      show own_Rn p e below _ (T99.setTop (mkF m 256 #[.val (.int i0), .val (.int i1), .val (.int i2), .val (.int i3), .val (.int i4), .val (.int i5), .val (.int md), .val (.int d0), .val (.int d1), .val (.int d2), .val (.int d3), .val (.int d4), .val (.int d5), .val (.ref b81), .val (.int (5 : Int32)), .unset, .unset] [(.int (i1 &&& (3 : Int32)))]))
      obtain ⟨kx, hkx⟩ : ∃ z : Int32, z = (i1 &&& (3 : Int32)) := ⟨_, rfl⟩
      rw [← hkx]
      show own_Rn p e below _ (T99.setTop (mkF m 256 #[.val (.int i0), .val (.int i1), .val (.int i2), .val (.int i3), .val (.int i4), .val (.int i5), .val (.int md), .val (.int d0), .val (.int d1), .val (.int d2), .val (.int d3), .val (.int d4), .val (.int d5), .val (.ref b81), .val (.int (5 : Int32)), .unset, .unset] [(.int kx)]))
      refine own_go (fun tq kq => XS.istore X99.here hx rfl (hb hby at_256) rfl (l' := #[.val (.int i0), .val (.int i1), .val (.int i2), .val (.int i3), .val (.int i4), .val (.int i5), .val (.int md), .val (.int d0), .val (.int d1), .val (.int d2), .val (.int d3), .val (.int d4), .val (.int d5), .val (.ref b81), .val (.int (5 : Int32)), .val (.int kx), .unset]) rfl kq) ?_
      show own_Rn p e below _ (T99.setTop (mkF m 258 #[.val (.int i0), .val (.int i1), .val (.int i2), .val (.int i3), .val (.int i4), .val (.int i5), .val (.int md), .val (.int d0), .val (.int d1), .val (.int d2), .val (.int d3), .val (.int d4), .val (.int d5), .val (.ref b81), .val (.int (5 : Int32)), .val (.int kx), .unset] []))
      refine own_go (fun tq kq => XS.iload X99.here hx rfl (hb hby at_258) rfl kq) ?_
      show own_Rn p e below _ (T99.setTop (mkF m 260 #[.val (.int i0), .val (.int i1), .val (.int i2), .val (.int i3), .val (.int i4), .val (.int i5), .val (.int md), .val (.int d0), .val (.int d1), .val (.int d2), .val (.int d3), .val (.int d4), .val (.int d5), .val (.ref b81), .val (.int (5 : Int32)), .val (.int kx), .unset] [(.int kx)]))
      refine own_go (fun tq kq => XS.iconst X99.here hx rfl (hb hby at_260) kq) ?_
      show own_Rn p e below _ (T99.setTop (mkF m 261 #[.val (.int i0), .val (.int i1), .val (.int i2), .val (.int i3), .val (.int i4), .val (.int i5), .val (.int md), .val (.int d0), .val (.int d1), .val (.int d2), .val (.int d3), .val (.int d4), .val (.int d5), .val (.ref b81), .val (.int (5 : Int32)), .val (.int kx), .unset] [(.int (1 : Int32)), (.int kx)]))
      by_cases hc102 : kx = (1 : Int32)
      · skip
        refine own_go (fun tq kq => XS.icmpNo X99.here hx rfl (hb hby at_261) rfl (teq (hc102 : kx = (1 : Int32))).2 kq) ?_
        show own_Rn p e below _ (T99.setTop (mkF m 264 #[.val (.int i0), .val (.int i1), .val (.int i2), .val (.int i3), .val (.int i4), .val (.int i5), .val (.int md), .val (.int d0), .val (.int d1), .val (.int d2), .val (.int d3), .val (.int d4), .val (.int d5), .val (.ref b81), .val (.int (5 : Int32)), .val (.int kx), .unset] []))
        refine own_go (fun tq kq => XS.iloadN X99.here hx rfl (hb hby at_264) rfl kq) ?_
        show own_Rn p e below _ (T99.setTop (mkF m 265 #[.val (.int i0), .val (.int i1), .val (.int i2), .val (.int i3), .val (.int i4), .val (.int i5), .val (.int md), .val (.int d0), .val (.int d1), .val (.int d2), .val (.int d3), .val (.int d4), .val (.int d5), .val (.ref b81), .val (.int (5 : Int32)), .val (.int kx), .unset] [(.int i2)]))
        refine own_go (fun tq kq => X99.ldcInt hx hown (mvT hZ (hw _ (own_mi 93 rfl))) (g := (mkF m 265 #[.val (.int i0), .val (.int i1), .val (.int i2), .val (.int i3), .val (.int i4), .val (.int i5), .val (.int md), .val (.int d0), .val (.int d1), .val (.int d2), .val (.int d3), .val (.int d4), .val (.int d5), .val (.ref b81), .val (.int (5 : Int32)), .val (.int kx), .unset] [(.int i2)])) rfl (hb hby at_265) _ kq) ?_
        show own_Rn p e below _ (T99.setTop (mkF m 267 #[.val (.int i0), .val (.int i1), .val (.int i2), .val (.int i3), .val (.int i4), .val (.int i5), .val (.int md), .val (.int d0), .val (.int d1), .val (.int d2), .val (.int d3), .val (.int d4), .val (.int d5), .val (.ref b81), .val (.int (5 : Int32)), .val (.int kx), .unset] [(.int (2147483647 : Int32)), (.int i2)]))
        refine own_go (fun tq kq => XS.iand X99.here hx rfl (hb hby at_267) rfl kq) ?_
        show own_Rn p e below _ (T99.setTop (mkF m 268 #[.val (.int i0), .val (.int i1), .val (.int i2), .val (.int i3), .val (.int i4), .val (.int i5), .val (.int md), .val (.int d0), .val (.int d1), .val (.int d2), .val (.int d3), .val (.int d4), .val (.int d5), .val (.ref b81), .val (.int (5 : Int32)), .val (.int kx), .unset] [(.int (i2 &&& (2147483647 : Int32)))]))
        refine own_go (fun tq kq => XS.iload X99.here hx rfl (hb hby at_268) rfl kq) ?_
        show own_Rn p e below _ (T99.setTop (mkF m 270 #[.val (.int i0), .val (.int i1), .val (.int i2), .val (.int i3), .val (.int i4), .val (.int i5), .val (.int md), .val (.int d0), .val (.int d1), .val (.int d2), .val (.int d3), .val (.int d4), .val (.int d5), .val (.ref b81), .val (.int (5 : Int32)), .val (.int kx), .unset] [(.int (5 : Int32)), (.int (i2 &&& (2147483647 : Int32)))]))
        refine own_go (fun tq kq => iremM X99 hx rfl (hb hby at_270) rfl (by decide) kq) ?_
        show own_Rn p e below _ (T99.setTop (mkF m 271 #[.val (.int i0), .val (.int i1), .val (.int i2), .val (.int i3), .val (.int i4), .val (.int i5), .val (.int md), .val (.int d0), .val (.int d1), .val (.int d2), .val (.int d3), .val (.int d4), .val (.int d5), .val (.ref b81), .val (.int (5 : Int32)), .val (.int kx), .unset] [(.int ((i2 &&& (2147483647 : Int32)) % (5 : Int32)))]))
        obtain ⟨K, hK, eK⟩ := own_mN i2 (5 : Int32) 5 rfl (by decide) (by decide)
        rw [eK]
        obtain rfl | rfl | rfl | rfl | rfl : K = 0 ∨ K = 1 ∨ K = 2 ∨ K = 3 ∨ K = 4 := by omega
        · skip
          show own_Rn p e below _ (T99.setTop (mkF m 271 #[.val (.int i0), .val (.int i1), .val (.int i2), .val (.int i3), .val (.int i4), .val (.int i5), .val (.int md), .val (.int d0), .val (.int d1), .val (.int d2), .val (.int d3), .val (.int d4), .val (.int d5), .val (.ref b81), .val (.int (5 : Int32)), .val (.int kx), .unset] [(.int (0 : Int32))]))
          refine own_go (fun tq kq => XS.istore X99.here hx rfl (hb hby at_271) rfl (l' := #[.val (.int i0), .val (.int i1), .val (.int i2), .val (.int i3), .val (.int i4), .val (.int i5), .val (.int md), .val (.int d0), .val (.int d1), .val (.int d2), .val (.int d3), .val (.int d4), .val (.int d5), .val (.ref b81), .val (.int (5 : Int32)), .val (.int kx), .val (.int (0 : Int32))]) rfl kq) ?_
          show own_Rn p e below _ (T99.setTop (mkF m 273 #[.val (.int i0), .val (.int i1), .val (.int i2), .val (.int i3), .val (.int i4), .val (.int i5), .val (.int md), .val (.int d0), .val (.int d1), .val (.int d2), .val (.int d3), .val (.int d4), .val (.int d5), .val (.ref b81), .val (.int (5 : Int32)), .val (.int kx), .val (.int (0 : Int32))] []))
          refine own_go (fun tq kq => XS.aload X99.here hx rfl (hb hby at_273) rfl rfl kq) ?_
          show own_Rn p e below _ (T99.setTop (mkF m 275 #[.val (.int i0), .val (.int i1), .val (.int i2), .val (.int i3), .val (.int i4), .val (.int i5), .val (.int md), .val (.int d0), .val (.int d1), .val (.int d2), .val (.int d3), .val (.int d4), .val (.int d5), .val (.ref b81), .val (.int (5 : Int32)), .val (.int kx), .val (.int (0 : Int32))] [(.ref b81)]))
          refine own_go (fun tq kq => XS.iload X99.here hx rfl (hb hby at_275) rfl kq) ?_
          show own_Rn p e below _ (T99.setTop (mkF m 277 #[.val (.int i0), .val (.int i1), .val (.int i2), .val (.int i3), .val (.int i4), .val (.int i5), .val (.int md), .val (.int d0), .val (.int d1), .val (.int d2), .val (.int d3), .val (.int d4), .val (.int d5), .val (.ref b81), .val (.int (5 : Int32)), .val (.int kx), .val (.int (0 : Int32))] [(.int (0 : Int32)), (.ref b81)]))
          refine own_go (fun tq kq => XS.iload X99.here hx rfl (hb hby at_277) rfl kq) ?_
          show own_Rn p e below _ (T99.setTop (mkF m 279 #[.val (.int i0), .val (.int i1), .val (.int i2), .val (.int i3), .val (.int i4), .val (.int i5), .val (.int md), .val (.int d0), .val (.int d1), .val (.int d2), .val (.int d3), .val (.int d4), .val (.int d5), .val (.ref b81), .val (.int (5 : Int32)), .val (.int kx), .val (.int (0 : Int32))] [(.int d0), (.int (0 : Int32)), (.ref b81)]))
          obtain ⟨cl103, Ar103, q103, Sz103, Nn103, Hs103, G103⟩ := id V99
          obtain ⟨T103, h103, X103, e103, W103, st103⟩ := stC X99 hx hZ e99 Ar103 (j := (0 : Int32)) (inb_of Sz103 ⟨by decide, by decide⟩) (g := (mkF m 279 #[.val (.int i0), .val (.int i1), .val (.int i2), .val (.int i3), .val (.int i4), .val (.int i5), .val (.int md), .val (.int d0), .val (.int d1), .val (.int d2), .val (.int d3), .val (.int d4), .val (.int d5), .val (.ref b81), .val (.int (5 : Int32)), .val (.int kx), .val (.int (0 : Int32))] [(.int d0), (.int (0 : Int32)), (.ref b81)])) rfl rfl (hb hby at_279)
          rw [nd0] at W103
          refine own_go st103 ?_
          have V103 : Arv Z h103 b81 k81 .char (6 : Int32) [(.int d0), (.int (105 : Int32)), (.int (116 : Int32)), (.int (108 : Int32)), (.int (101 : Int32)), (.int (120 : Int32))] (.int (0 : Int32)) := Arv.set Ar103 q103 Sz103 Nn103 Hs103 G103 (by rw [← nd0]; exact fits_nar_char _) W103 0 rfl (Nat.le_of_ble_eq_true rfl)
          have N103 := Fr.snoc X103 N99 gn81
          have sf104 : Safe Z consts_1 s.vm h99 b81 := Safe.arv hZ.alike V99 (by decide)
          have sz105 : h99.size ≤ h103.size := Nat.le_of_eq (Wr.size W103).symm
          have cr105 : CHr Z consts_1 s.vm h99 s.vm h103 := CHr.wr W103 sf104 CR101.1
          have CR105 := CR101.trans cr105
          show own_Rn p e below _ (T103.setTop (mkF m 280 #[.val (.int i0), .val (.int i1), .val (.int i2), .val (.int i3), .val (.int i4), .val (.int i5), .val (.int md), .val (.int d0), .val (.int d1), .val (.int d2), .val (.int d3), .val (.int d4), .val (.int d5), .val (.ref b81), .val (.int (5 : Int32)), .val (.int kx), .val (.int (0 : Int32))] []))
          refine own_go (fun tq kq => XS.goto X103.here hx rfl (pc0 := 280) (pc' := 317) rfl (hb hby at_280) (by decide) (by decide) kq) ?_
          show own_Rn p e below _ (T103.setTop (mkF m 317 #[.val (.int i0), .val (.int i1), .val (.int i2), .val (.int i3), .val (.int i4), .val (.int i5), .val (.int md), .val (.int d0), .val (.int d1), .val (.int d2), .val (.int d3), .val (.int d4), .val (.int d5), .val (.ref b81), .val (.int (5 : Int32)), .val (.int kx), .val (.int (0 : Int32))] []))
          have F106 : Old Z n0 h103 := ((((((((X00.ext E81).wr W84 gn81).wr W87 gn81).wr W90 gn81).wr W93 gn81).wr W96 gn81).wr W99 gn81).wr W103 gn81)
          exact jn _ _ _ b81 k81 d0 (105 : Int32) (116 : Int32) (108 : Int32) (101 : Int32) (120 : Int32) (5) _ _ X103 e103 N103 (by omega) CR105 F106 V103 ⟨rd0, (by decide), (by decide), (by decide), (by decide), (by decide)⟩ (by decide) (One.val (by rfl)) (One.val (by rfl))
        · skip
          show own_Rn p e below _ (T99.setTop (mkF m 271 #[.val (.int i0), .val (.int i1), .val (.int i2), .val (.int i3), .val (.int i4), .val (.int i5), .val (.int md), .val (.int d0), .val (.int d1), .val (.int d2), .val (.int d3), .val (.int d4), .val (.int d5), .val (.ref b81), .val (.int (5 : Int32)), .val (.int kx), .unset] [(.int (1 : Int32))]))
          refine own_go (fun tq kq => XS.istore X99.here hx rfl (hb hby at_271) rfl (l' := #[.val (.int i0), .val (.int i1), .val (.int i2), .val (.int i3), .val (.int i4), .val (.int i5), .val (.int md), .val (.int d0), .val (.int d1), .val (.int d2), .val (.int d3), .val (.int d4), .val (.int d5), .val (.ref b81), .val (.int (5 : Int32)), .val (.int kx), .val (.int (1 : Int32))]) rfl kq) ?_
          show own_Rn p e below _ (T99.setTop (mkF m 273 #[.val (.int i0), .val (.int i1), .val (.int i2), .val (.int i3), .val (.int i4), .val (.int i5), .val (.int md), .val (.int d0), .val (.int d1), .val (.int d2), .val (.int d3), .val (.int d4), .val (.int d5), .val (.ref b81), .val (.int (5 : Int32)), .val (.int kx), .val (.int (1 : Int32))] []))
          refine own_go (fun tq kq => XS.aload X99.here hx rfl (hb hby at_273) rfl rfl kq) ?_
          show own_Rn p e below _ (T99.setTop (mkF m 275 #[.val (.int i0), .val (.int i1), .val (.int i2), .val (.int i3), .val (.int i4), .val (.int i5), .val (.int md), .val (.int d0), .val (.int d1), .val (.int d2), .val (.int d3), .val (.int d4), .val (.int d5), .val (.ref b81), .val (.int (5 : Int32)), .val (.int kx), .val (.int (1 : Int32))] [(.ref b81)]))
          refine own_go (fun tq kq => XS.iload X99.here hx rfl (hb hby at_275) rfl kq) ?_
          show own_Rn p e below _ (T99.setTop (mkF m 277 #[.val (.int i0), .val (.int i1), .val (.int i2), .val (.int i3), .val (.int i4), .val (.int i5), .val (.int md), .val (.int d0), .val (.int d1), .val (.int d2), .val (.int d3), .val (.int d4), .val (.int d5), .val (.ref b81), .val (.int (5 : Int32)), .val (.int kx), .val (.int (1 : Int32))] [(.int (1 : Int32)), (.ref b81)]))
          refine own_go (fun tq kq => XS.iload X99.here hx rfl (hb hby at_277) rfl kq) ?_
          show own_Rn p e below _ (T99.setTop (mkF m 279 #[.val (.int i0), .val (.int i1), .val (.int i2), .val (.int i3), .val (.int i4), .val (.int i5), .val (.int md), .val (.int d0), .val (.int d1), .val (.int d2), .val (.int d3), .val (.int d4), .val (.int d5), .val (.ref b81), .val (.int (5 : Int32)), .val (.int kx), .val (.int (1 : Int32))] [(.int d0), (.int (1 : Int32)), (.ref b81)]))
          obtain ⟨cl107, Ar107, q107, Sz107, Nn107, Hs107, G107⟩ := id V99
          obtain ⟨T107, h107, X107, e107, W107, st107⟩ := stC X99 hx hZ e99 Ar107 (j := (1 : Int32)) (inb_of Sz107 ⟨by decide, by decide⟩) (g := (mkF m 279 #[.val (.int i0), .val (.int i1), .val (.int i2), .val (.int i3), .val (.int i4), .val (.int i5), .val (.int md), .val (.int d0), .val (.int d1), .val (.int d2), .val (.int d3), .val (.int d4), .val (.int d5), .val (.ref b81), .val (.int (5 : Int32)), .val (.int kx), .val (.int (1 : Int32))] [(.int d0), (.int (1 : Int32)), (.ref b81)])) rfl rfl (hb hby at_279)
          rw [nd0] at W107
          refine own_go st107 ?_
          have V107 : Arv Z h107 b81 k81 .char (6 : Int32) [(.int (116 : Int32)), (.int d0), (.int (116 : Int32)), (.int (108 : Int32)), (.int (101 : Int32)), (.int (120 : Int32))] (.int (0 : Int32)) := Arv.set Ar107 q107 Sz107 Nn107 Hs107 G107 (by rw [← nd0]; exact fits_nar_char _) W107 1 rfl (Nat.le_of_ble_eq_true rfl)
          have N107 := Fr.snoc X107 N99 gn81
          have sf108 : Safe Z consts_1 s.vm h99 b81 := Safe.arv hZ.alike V99 (by decide)
          have sz109 : h99.size ≤ h107.size := Nat.le_of_eq (Wr.size W107).symm
          have cr109 : CHr Z consts_1 s.vm h99 s.vm h107 := CHr.wr W107 sf108 CR101.1
          have CR109 := CR101.trans cr109
          show own_Rn p e below _ (T107.setTop (mkF m 280 #[.val (.int i0), .val (.int i1), .val (.int i2), .val (.int i3), .val (.int i4), .val (.int i5), .val (.int md), .val (.int d0), .val (.int d1), .val (.int d2), .val (.int d3), .val (.int d4), .val (.int d5), .val (.ref b81), .val (.int (5 : Int32)), .val (.int kx), .val (.int (1 : Int32))] []))
          refine own_go (fun tq kq => XS.goto X107.here hx rfl (pc0 := 280) (pc' := 317) rfl (hb hby at_280) (by decide) (by decide) kq) ?_
          show own_Rn p e below _ (T107.setTop (mkF m 317 #[.val (.int i0), .val (.int i1), .val (.int i2), .val (.int i3), .val (.int i4), .val (.int i5), .val (.int md), .val (.int d0), .val (.int d1), .val (.int d2), .val (.int d3), .val (.int d4), .val (.int d5), .val (.ref b81), .val (.int (5 : Int32)), .val (.int kx), .val (.int (1 : Int32))] []))
          have F110 : Old Z n0 h107 := ((((((((X00.ext E81).wr W84 gn81).wr W87 gn81).wr W90 gn81).wr W93 gn81).wr W96 gn81).wr W99 gn81).wr W107 gn81)
          exact jn _ _ _ b81 k81 (116 : Int32) d0 (116 : Int32) (108 : Int32) (101 : Int32) (120 : Int32) (5) _ _ X107 e107 N107 (by omega) CR109 F110 V107 ⟨(by decide), rd0, (by decide), (by decide), (by decide), (by decide)⟩ (by decide) (One.val (by rfl)) (One.val (by rfl))
        · skip
          show own_Rn p e below _ (T99.setTop (mkF m 271 #[.val (.int i0), .val (.int i1), .val (.int i2), .val (.int i3), .val (.int i4), .val (.int i5), .val (.int md), .val (.int d0), .val (.int d1), .val (.int d2), .val (.int d3), .val (.int d4), .val (.int d5), .val (.ref b81), .val (.int (5 : Int32)), .val (.int kx), .unset] [(.int (2 : Int32))]))
          refine own_go (fun tq kq => XS.istore X99.here hx rfl (hb hby at_271) rfl (l' := #[.val (.int i0), .val (.int i1), .val (.int i2), .val (.int i3), .val (.int i4), .val (.int i5), .val (.int md), .val (.int d0), .val (.int d1), .val (.int d2), .val (.int d3), .val (.int d4), .val (.int d5), .val (.ref b81), .val (.int (5 : Int32)), .val (.int kx), .val (.int (2 : Int32))]) rfl kq) ?_
          show own_Rn p e below _ (T99.setTop (mkF m 273 #[.val (.int i0), .val (.int i1), .val (.int i2), .val (.int i3), .val (.int i4), .val (.int i5), .val (.int md), .val (.int d0), .val (.int d1), .val (.int d2), .val (.int d3), .val (.int d4), .val (.int d5), .val (.ref b81), .val (.int (5 : Int32)), .val (.int kx), .val (.int (2 : Int32))] []))
          refine own_go (fun tq kq => XS.aload X99.here hx rfl (hb hby at_273) rfl rfl kq) ?_
          show own_Rn p e below _ (T99.setTop (mkF m 275 #[.val (.int i0), .val (.int i1), .val (.int i2), .val (.int i3), .val (.int i4), .val (.int i5), .val (.int md), .val (.int d0), .val (.int d1), .val (.int d2), .val (.int d3), .val (.int d4), .val (.int d5), .val (.ref b81), .val (.int (5 : Int32)), .val (.int kx), .val (.int (2 : Int32))] [(.ref b81)]))
          refine own_go (fun tq kq => XS.iload X99.here hx rfl (hb hby at_275) rfl kq) ?_
          show own_Rn p e below _ (T99.setTop (mkF m 277 #[.val (.int i0), .val (.int i1), .val (.int i2), .val (.int i3), .val (.int i4), .val (.int i5), .val (.int md), .val (.int d0), .val (.int d1), .val (.int d2), .val (.int d3), .val (.int d4), .val (.int d5), .val (.ref b81), .val (.int (5 : Int32)), .val (.int kx), .val (.int (2 : Int32))] [(.int (2 : Int32)), (.ref b81)]))
          refine own_go (fun tq kq => XS.iload X99.here hx rfl (hb hby at_277) rfl kq) ?_
          show own_Rn p e below _ (T99.setTop (mkF m 279 #[.val (.int i0), .val (.int i1), .val (.int i2), .val (.int i3), .val (.int i4), .val (.int i5), .val (.int md), .val (.int d0), .val (.int d1), .val (.int d2), .val (.int d3), .val (.int d4), .val (.int d5), .val (.ref b81), .val (.int (5 : Int32)), .val (.int kx), .val (.int (2 : Int32))] [(.int d0), (.int (2 : Int32)), (.ref b81)]))
          obtain ⟨cl111, Ar111, q111, Sz111, Nn111, Hs111, G111⟩ := id V99
          obtain ⟨T111, h111, X111, e111, W111, st111⟩ := stC X99 hx hZ e99 Ar111 (j := (2 : Int32)) (inb_of Sz111 ⟨by decide, by decide⟩) (g := (mkF m 279 #[.val (.int i0), .val (.int i1), .val (.int i2), .val (.int i3), .val (.int i4), .val (.int i5), .val (.int md), .val (.int d0), .val (.int d1), .val (.int d2), .val (.int d3), .val (.int d4), .val (.int d5), .val (.ref b81), .val (.int (5 : Int32)), .val (.int kx), .val (.int (2 : Int32))] [(.int d0), (.int (2 : Int32)), (.ref b81)])) rfl rfl (hb hby at_279)
          rw [nd0] at W111
          refine own_go st111 ?_
          have V111 : Arv Z h111 b81 k81 .char (6 : Int32) [(.int (116 : Int32)), (.int (105 : Int32)), (.int d0), (.int (108 : Int32)), (.int (101 : Int32)), (.int (120 : Int32))] (.int (0 : Int32)) := Arv.set Ar111 q111 Sz111 Nn111 Hs111 G111 (by rw [← nd0]; exact fits_nar_char _) W111 2 rfl (Nat.le_of_ble_eq_true rfl)
          have N111 := Fr.snoc X111 N99 gn81
          have sf112 : Safe Z consts_1 s.vm h99 b81 := Safe.arv hZ.alike V99 (by decide)
          have sz113 : h99.size ≤ h111.size := Nat.le_of_eq (Wr.size W111).symm
          have cr113 : CHr Z consts_1 s.vm h99 s.vm h111 := CHr.wr W111 sf112 CR101.1
          have CR113 := CR101.trans cr113
          show own_Rn p e below _ (T111.setTop (mkF m 280 #[.val (.int i0), .val (.int i1), .val (.int i2), .val (.int i3), .val (.int i4), .val (.int i5), .val (.int md), .val (.int d0), .val (.int d1), .val (.int d2), .val (.int d3), .val (.int d4), .val (.int d5), .val (.ref b81), .val (.int (5 : Int32)), .val (.int kx), .val (.int (2 : Int32))] []))
          refine own_go (fun tq kq => XS.goto X111.here hx rfl (pc0 := 280) (pc' := 317) rfl (hb hby at_280) (by decide) (by decide) kq) ?_
          show own_Rn p e below _ (T111.setTop (mkF m 317 #[.val (.int i0), .val (.int i1), .val (.int i2), .val (.int i3), .val (.int i4), .val (.int i5), .val (.int md), .val (.int d0), .val (.int d1), .val (.int d2), .val (.int d3), .val (.int d4), .val (.int d5), .val (.ref b81), .val (.int (5 : Int32)), .val (.int kx), .val (.int (2 : Int32))] []))
          have F114 : Old Z n0 h111 := ((((((((X00.ext E81).wr W84 gn81).wr W87 gn81).wr W90 gn81).wr W93 gn81).wr W96 gn81).wr W99 gn81).wr W111 gn81)
          exact jn _ _ _ b81 k81 (116 : Int32) (105 : Int32) d0 (108 : Int32) (101 : Int32) (120 : Int32) (5) _ _ X111 e111 N111 (by omega) CR113 F114 V111 ⟨(by decide), (by decide), rd0, (by decide), (by decide), (by decide)⟩ (by decide) (One.val (by rfl)) (One.val (by rfl))
        · skip
          show own_Rn p e below _ (T99.setTop (mkF m 271 #[.val (.int i0), .val (.int i1), .val (.int i2), .val (.int i3), .val (.int i4), .val (.int i5), .val (.int md), .val (.int d0), .val (.int d1), .val (.int d2), .val (.int d3), .val (.int d4), .val (.int d5), .val (.ref b81), .val (.int (5 : Int32)), .val (.int kx), .unset] [(.int (3 : Int32))]))
          refine own_go (fun tq kq => XS.istore X99.here hx rfl (hb hby at_271) rfl (l' := #[.val (.int i0), .val (.int i1), .val (.int i2), .val (.int i3), .val (.int i4), .val (.int i5), .val (.int md), .val (.int d0), .val (.int d1), .val (.int d2), .val (.int d3), .val (.int d4), .val (.int d5), .val (.ref b81), .val (.int (5 : Int32)), .val (.int kx), .val (.int (3 : Int32))]) rfl kq) ?_
          show own_Rn p e below _ (T99.setTop (mkF m 273 #[.val (.int i0), .val (.int i1), .val (.int i2), .val (.int i3), .val (.int i4), .val (.int i5), .val (.int md), .val (.int d0), .val (.int d1), .val (.int d2), .val (.int d3), .val (.int d4), .val (.int d5), .val (.ref b81), .val (.int (5 : Int32)), .val (.int kx), .val (.int (3 : Int32))] []))
          refine own_go (fun tq kq => XS.aload X99.here hx rfl (hb hby at_273) rfl rfl kq) ?_
          show own_Rn p e below _ (T99.setTop (mkF m 275 #[.val (.int i0), .val (.int i1), .val (.int i2), .val (.int i3), .val (.int i4), .val (.int i5), .val (.int md), .val (.int d0), .val (.int d1), .val (.int d2), .val (.int d3), .val (.int d4), .val (.int d5), .val (.ref b81), .val (.int (5 : Int32)), .val (.int kx), .val (.int (3 : Int32))] [(.ref b81)]))
          refine own_go (fun tq kq => XS.iload X99.here hx rfl (hb hby at_275) rfl kq) ?_
          show own_Rn p e below _ (T99.setTop (mkF m 277 #[.val (.int i0), .val (.int i1), .val (.int i2), .val (.int i3), .val (.int i4), .val (.int i5), .val (.int md), .val (.int d0), .val (.int d1), .val (.int d2), .val (.int d3), .val (.int d4), .val (.int d5), .val (.ref b81), .val (.int (5 : Int32)), .val (.int kx), .val (.int (3 : Int32))] [(.int (3 : Int32)), (.ref b81)]))
          refine own_go (fun tq kq => XS.iload X99.here hx rfl (hb hby at_277) rfl kq) ?_
          show own_Rn p e below _ (T99.setTop (mkF m 279 #[.val (.int i0), .val (.int i1), .val (.int i2), .val (.int i3), .val (.int i4), .val (.int i5), .val (.int md), .val (.int d0), .val (.int d1), .val (.int d2), .val (.int d3), .val (.int d4), .val (.int d5), .val (.ref b81), .val (.int (5 : Int32)), .val (.int kx), .val (.int (3 : Int32))] [(.int d0), (.int (3 : Int32)), (.ref b81)]))
          obtain ⟨cl115, Ar115, q115, Sz115, Nn115, Hs115, G115⟩ := id V99
          obtain ⟨T115, h115, X115, e115, W115, st115⟩ := stC X99 hx hZ e99 Ar115 (j := (3 : Int32)) (inb_of Sz115 ⟨by decide, by decide⟩) (g := (mkF m 279 #[.val (.int i0), .val (.int i1), .val (.int i2), .val (.int i3), .val (.int i4), .val (.int i5), .val (.int md), .val (.int d0), .val (.int d1), .val (.int d2), .val (.int d3), .val (.int d4), .val (.int d5), .val (.ref b81), .val (.int (5 : Int32)), .val (.int kx), .val (.int (3 : Int32))] [(.int d0), (.int (3 : Int32)), (.ref b81)])) rfl rfl (hb hby at_279)
          rw [nd0] at W115
          refine own_go st115 ?_
          have V115 : Arv Z h115 b81 k81 .char (6 : Int32) [(.int (116 : Int32)), (.int (105 : Int32)), (.int (116 : Int32)), (.int d0), (.int (101 : Int32)), (.int (120 : Int32))] (.int (0 : Int32)) := Arv.set Ar115 q115 Sz115 Nn115 Hs115 G115 (by rw [← nd0]; exact fits_nar_char _) W115 3 rfl (Nat.le_of_ble_eq_true rfl)
          have N115 := Fr.snoc X115 N99 gn81
          have sf116 : Safe Z consts_1 s.vm h99 b81 := Safe.arv hZ.alike V99 (by decide)
          have sz117 : h99.size ≤ h115.size := Nat.le_of_eq (Wr.size W115).symm
          have cr117 : CHr Z consts_1 s.vm h99 s.vm h115 := CHr.wr W115 sf116 CR101.1
          have CR117 := CR101.trans cr117
          show own_Rn p e below _ (T115.setTop (mkF m 280 #[.val (.int i0), .val (.int i1), .val (.int i2), .val (.int i3), .val (.int i4), .val (.int i5), .val (.int md), .val (.int d0), .val (.int d1), .val (.int d2), .val (.int d3), .val (.int d4), .val (.int d5), .val (.ref b81), .val (.int (5 : Int32)), .val (.int kx), .val (.int (3 : Int32))] []))
          refine own_go (fun tq kq => XS.goto X115.here hx rfl (pc0 := 280) (pc' := 317) rfl (hb hby at_280) (by decide) (by decide) kq) ?_
          show own_Rn p e below _ (T115.setTop (mkF m 317 #[.val (.int i0), .val (.int i1), .val (.int i2), .val (.int i3), .val (.int i4), .val (.int i5), .val (.int md), .val (.int d0), .val (.int d1), .val (.int d2), .val (.int d3), .val (.int d4), .val (.int d5), .val (.ref b81), .val (.int (5 : Int32)), .val (.int kx), .val (.int (3 : Int32))] []))
          have F118 : Old Z n0 h115 := ((((((((X00.ext E81).wr W84 gn81).wr W87 gn81).wr W90 gn81).wr W93 gn81).wr W96 gn81).wr W99 gn81).wr W115 gn81)
          exact jn _ _ _ b81 k81 (116 : Int32) (105 : Int32) (116 : Int32) d0 (101 : Int32) (120 : Int32) (5) _ _ X115 e115 N115 (by omega) CR117 F118 V115 ⟨(by decide), (by decide), (by decide), rd0, (by decide), (by decide)⟩ (by decide) (One.val (by rfl)) (One.val (by rfl))
        · skip
          show own_Rn p e below _ (T99.setTop (mkF m 271 #[.val (.int i0), .val (.int i1), .val (.int i2), .val (.int i3), .val (.int i4), .val (.int i5), .val (.int md), .val (.int d0), .val (.int d1), .val (.int d2), .val (.int d3), .val (.int d4), .val (.int d5), .val (.ref b81), .val (.int (5 : Int32)), .val (.int kx), .unset] [(.int (4 : Int32))]))
          refine own_go (fun tq kq => XS.istore X99.here hx rfl (hb hby at_271) rfl (l' := #[.val (.int i0), .val (.int i1), .val (.int i2), .val (.int i3), .val (.int i4), .val (.int i5), .val (.int md), .val (.int d0), .val (.int d1), .val (.int d2), .val (.int d3), .val (.int d4), .val (.int d5), .val (.ref b81), .val (.int (5 : Int32)), .val (.int kx), .val (.int (4 : Int32))]) rfl kq) ?_
          show own_Rn p e below _ (T99.setTop (mkF m 273 #[.val (.int i0), .val (.int i1), .val (.int i2), .val (.int i3), .val (.int i4), .val (.int i5), .val (.int md), .val (.int d0), .val (.int d1), .val (.int d2), .val (.int d3), .val (.int d4), .val (.int d5), .val (.ref b81), .val (.int (5 : Int32)), .val (.int kx), .val (.int (4 : Int32))] []))
          refine own_go (fun tq kq => XS.aload X99.here hx rfl (hb hby at_273) rfl rfl kq) ?_
          show own_Rn p e below _ (T99.setTop (mkF m 275 #[.val (.int i0), .val (.int i1), .val (.int i2), .val (.int i3), .val (.int i4), .val (.int i5), .val (.int md), .val (.int d0), .val (.int d1), .val (.int d2), .val (.int d3), .val (.int d4), .val (.int d5), .val (.ref b81), .val (.int (5 : Int32)), .val (.int kx), .val (.int (4 : Int32))] [(.ref b81)]))
          refine own_go (fun tq kq => XS.iload X99.here hx rfl (hb hby at_275) rfl kq) ?_
          show own_Rn p e below _ (T99.setTop (mkF m 277 #[.val (.int i0), .val (.int i1), .val (.int i2), .val (.int i3), .val (.int i4), .val (.int i5), .val (.int md), .val (.int d0), .val (.int d1), .val (.int d2), .val (.int d3), .val (.int d4), .val (.int d5), .val (.ref b81), .val (.int (5 : Int32)), .val (.int kx), .val (.int (4 : Int32))] [(.int (4 : Int32)), (.ref b81)]))
          refine own_go (fun tq kq => XS.iload X99.here hx rfl (hb hby at_277) rfl kq) ?_
          show own_Rn p e below _ (T99.setTop (mkF m 279 #[.val (.int i0), .val (.int i1), .val (.int i2), .val (.int i3), .val (.int i4), .val (.int i5), .val (.int md), .val (.int d0), .val (.int d1), .val (.int d2), .val (.int d3), .val (.int d4), .val (.int d5), .val (.ref b81), .val (.int (5 : Int32)), .val (.int kx), .val (.int (4 : Int32))] [(.int d0), (.int (4 : Int32)), (.ref b81)]))
          obtain ⟨cl119, Ar119, q119, Sz119, Nn119, Hs119, G119⟩ := id V99
          obtain ⟨T119, h119, X119, e119, W119, st119⟩ := stC X99 hx hZ e99 Ar119 (j := (4 : Int32)) (inb_of Sz119 ⟨by decide, by decide⟩) (g := (mkF m 279 #[.val (.int i0), .val (.int i1), .val (.int i2), .val (.int i3), .val (.int i4), .val (.int i5), .val (.int md), .val (.int d0), .val (.int d1), .val (.int d2), .val (.int d3), .val (.int d4), .val (.int d5), .val (.ref b81), .val (.int (5 : Int32)), .val (.int kx), .val (.int (4 : Int32))] [(.int d0), (.int (4 : Int32)), (.ref b81)])) rfl rfl (hb hby at_279)
          rw [nd0] at W119
          refine own_go st119 ?_
          have V119 : Arv Z h119 b81 k81 .char (6 : Int32) [(.int (116 : Int32)), (.int (105 : Int32)), (.int (116 : Int32)), (.int (108 : Int32)), (.int d0), (.int (120 : Int32))] (.int (0 : Int32)) := Arv.set Ar119 q119 Sz119 Nn119 Hs119 G119 (by rw [← nd0]; exact fits_nar_char _) W119 4 rfl (Nat.le_of_ble_eq_true rfl)
          have N119 := Fr.snoc X119 N99 gn81
          have sf120 : Safe Z consts_1 s.vm h99 b81 := Safe.arv hZ.alike V99 (by decide)
          have sz121 : h99.size ≤ h119.size := Nat.le_of_eq (Wr.size W119).symm
          have cr121 : CHr Z consts_1 s.vm h99 s.vm h119 := CHr.wr W119 sf120 CR101.1
          have CR121 := CR101.trans cr121
          show own_Rn p e below _ (T119.setTop (mkF m 280 #[.val (.int i0), .val (.int i1), .val (.int i2), .val (.int i3), .val (.int i4), .val (.int i5), .val (.int md), .val (.int d0), .val (.int d1), .val (.int d2), .val (.int d3), .val (.int d4), .val (.int d5), .val (.ref b81), .val (.int (5 : Int32)), .val (.int kx), .val (.int (4 : Int32))] []))
          refine own_go (fun tq kq => XS.goto X119.here hx rfl (pc0 := 280) (pc' := 317) rfl (hb hby at_280) (by decide) (by decide) kq) ?_
          show own_Rn p e below _ (T119.setTop (mkF m 317 #[.val (.int i0), .val (.int i1), .val (.int i2), .val (.int i3), .val (.int i4), .val (.int i5), .val (.int md), .val (.int d0), .val (.int d1), .val (.int d2), .val (.int d3), .val (.int d4), .val (.int d5), .val (.ref b81), .val (.int (5 : Int32)), .val (.int kx), .val (.int (4 : Int32))] []))
          have F122 : Old Z n0 h119 := ((((((((X00.ext E81).wr W84 gn81).wr W87 gn81).wr W90 gn81).wr W93 gn81).wr W96 gn81).wr W99 gn81).wr W119 gn81)
          exact jn _ _ _ b81 k81 (116 : Int32) (105 : Int32) (116 : Int32) (108 : Int32) d0 (120 : Int32) (5) _ _ X119 e119 N119 (by omega) CR121 F122 V119 ⟨(by decide), (by decide), (by decide), (by decide), rd0, (by decide)⟩ (by decide) (One.val (by rfl)) (One.val (by rfl))
      · skip
        refine own_go (fun tq kq => XS.icmpYes X99.here hx rfl (pc0 := 261) (pc' := 283) rfl (hb hby at_261) rfl (feq (hc102 : ¬ (kx = (1 : Int32)))).2 (by decide) (by decide) kq) ?_
        show own_Rn p e below _ (T99.setTop (mkF m 283 #[.val (.int i0), .val (.int i1), .val (.int i2), .val (.int i3), .val (.int i4), .val (.int i5), .val (.int md), .val (.int d0), .val (.int d1), .val (.int d2), .val (.int d3), .val (.int d4), .val (.int d5), .val (.ref b81), .val (.int (5 : Int32)), .val (.int kx), .unset] []))
        refine own_go (fun tq kq => XS.iload X99.here hx rfl (hb hby at_283) rfl kq) ?_
        show own_Rn p e below _ (T99.setTop (mkF m 285 #[.val (.int i0), .val (.int i1), .val (.int i2), .val (.int i3), .val (.int i4), .val (.int i5), .val (.int md), .val (.int d0), .val (.int d1), .val (.int d2), .val (.int d3), .val (.int d4), .val (.int d5), .val (.ref b81), .val (.int (5 : Int32)), .val (.int kx), .unset] [(.int kx)]))
        refine own_go (fun tq kq => XS.iconst X99.here hx rfl (hb hby at_285) kq) ?_
        show own_Rn p e below _ (T99.setTop (mkF m 286 #[.val (.int i0), .val (.int i1), .val (.int i2), .val (.int i3), .val (.int i4), .val (.int i5), .val (.int md), .val (.int d0), .val (.int d1), .val (.int d2), .val (.int d3), .val (.int d4), .val (.int d5), .val (.ref b81), .val (.int (5 : Int32)), .val (.int kx), .unset] [(.int (2 : Int32)), (.int kx)]))
        by_cases hc123 : kx = (2 : Int32)
        · skip
          refine own_go (fun tq kq => XS.icmpNo X99.here hx rfl (hb hby at_286) rfl (teq (hc123 : kx = (2 : Int32))).2 kq) ?_
          show own_Rn p e below _ (T99.setTop (mkF m 289 #[.val (.int i0), .val (.int i1), .val (.int i2), .val (.int i3), .val (.int i4), .val (.int i5), .val (.int md), .val (.int d0), .val (.int d1), .val (.int d2), .val (.int d3), .val (.int d4), .val (.int d5), .val (.ref b81), .val (.int (5 : Int32)), .val (.int kx), .unset] []))
          refine own_go (fun tq kq => XS.iload X99.here hx rfl (hb hby at_289) rfl kq) ?_
          show own_Rn p e below _ (T99.setTop (mkF m 291 #[.val (.int i0), .val (.int i1), .val (.int i2), .val (.int i3), .val (.int i4), .val (.int i5), .val (.int md), .val (.int d0), .val (.int d1), .val (.int d2), .val (.int d3), .val (.int d4), .val (.int d5), .val (.ref b81), .val (.int (5 : Int32)), .val (.int kx), .unset] [(.int (5 : Int32))]))
          refine own_go (fun tq kq => XS.iconst X99.here hx rfl (hb hby at_291) kq) ?_
          show own_Rn p e below _ (T99.setTop (mkF m 292 #[.val (.int i0), .val (.int i1), .val (.int i2), .val (.int i3), .val (.int i4), .val (.int i5), .val (.int md), .val (.int d0), .val (.int d1), .val (.int d2), .val (.int d3), .val (.int d4), .val (.int d5), .val (.ref b81), .val (.int (5 : Int32)), .val (.int kx), .unset] [(.int (1 : Int32)), (.int (5 : Int32))]))
          refine own_go (fun tq kq => XS.isub X99.here hx rfl (hb hby at_292) rfl kq) ?_
          show own_Rn p e below _ (T99.setTop (mkF m 293 #[.val (.int i0), .val (.int i1), .val (.int i2), .val (.int i3), .val (.int i4), .val (.int i5), .val (.int md), .val (.int d0), .val (.int d1), .val (.int d2), .val (.int d3), .val (.int d4), .val (.int d5), .val (.ref b81), .val (.int (5 : Int32)), .val (.int kx), .unset] [(.int ((5 : Int32) - (1 : Int32)))]))
          rw [show ((5 : Int32) - (1 : Int32)) = (4 : Int32) by decide]
          show own_Rn p e below _ (T99.setTop (mkF m 293 #[.val (.int i0), .val (.int i1), .val (.int i2), .val (.int i3), .val (.int i4), .val (.int i5), .val (.int md), .val (.int d0), .val (.int d1), .val (.int d2), .val (.int d3), .val (.int d4), .val (.int d5), .val (.ref b81), .val (.int (5 : Int32)), .val (.int kx), .unset] [(.int (4 : Int32))]))
          refine own_go (fun tq kq => XS.istore X99.here hx rfl (hb hby at_293) rfl (l' := #[.val (.int i0), .val (.int i1), .val (.int i2), .val (.int i3), .val (.int i4), .val (.int i5), .val (.int md), .val (.int d0), .val (.int d1), .val (.int d2), .val (.int d3), .val (.int d4), .val (.int d5), .val (.ref b81), .val (.int (4 : Int32)), .val (.int kx), .unset]) rfl kq) ?_
          show own_Rn p e below _ (T99.setTop (mkF m 295 #[.val (.int i0), .val (.int i1), .val (.int i2), .val (.int i3), .val (.int i4), .val (.int i5), .val (.int md), .val (.int d0), .val (.int d1), .val (.int d2), .val (.int d3), .val (.int d4), .val (.int d5), .val (.ref b81), .val (.int (4 : Int32)), .val (.int kx), .unset] []))
          refine own_go (fun tq kq => XS.goto X99.here hx rfl (pc0 := 295) (pc' := 317) rfl (hb hby at_295) (by decide) (by decide) kq) ?_
          show own_Rn p e below _ (T99.setTop (mkF m 317 #[.val (.int i0), .val (.int i1), .val (.int i2), .val (.int i3), .val (.int i4), .val (.int i5), .val (.int md), .val (.int d0), .val (.int d1), .val (.int d2), .val (.int d3), .val (.int d4), .val (.int d5), .val (.ref b81), .val (.int (4 : Int32)), .val (.int kx), .unset] []))
          have F124 : Old Z n0 h99 := (((((((X00.ext E81).wr W84 gn81).wr W87 gn81).wr W90 gn81).wr W93 gn81).wr W96 gn81).wr W99 gn81)
          exact jn _ _ _ b81 k81 (116 : Int32) (105 : Int32) (116 : Int32) (108 : Int32) (101 : Int32) (120 : Int32) (4) _ _ X99 e99 N99 (by omega) CR101 F124 V99 ⟨(by decide), (by decide), (by decide), (by decide), (by decide), (by decide)⟩ (by decide) (One.val (by rfl)) One.u
        · skip
          refine own_go (fun tq kq => XS.icmpYes X99.here hx rfl (pc0 := 286) (pc' := 298) rfl (hb hby at_286) rfl (feq (hc123 : ¬ (kx = (2 : Int32)))).2 (by decide) (by decide) kq) ?_
          show own_Rn p e below _ (T99.setTop (mkF m 298 #[.val (.int i0), .val (.int i1), .val (.int i2), .val (.int i3), .val (.int i4), .val (.int i5), .val (.int md), .val (.int d0), .val (.int d1), .val (.int d2), .val (.int d3), .val (.int d4), .val (.int d5), .val (.ref b81), .val (.int (5 : Int32)), .val (.int kx), .unset] []))
          refine own_go (fun tq kq => XS.iload X99.here hx rfl (hb hby at_298) rfl kq) ?_
          show own_Rn p e below _ (T99.setTop (mkF m 300 #[.val (.int i0), .val (.int i1), .val (.int i2), .val (.int i3), .val (.int i4), .val (.int i5), .val (.int md), .val (.int d0), .val (.int d1), .val (.int d2), .val (.int d3), .val (.int d4), .val (.int d5), .val (.ref b81), .val (.int (5 : Int32)), .val (.int kx), .unset] [(.int kx)]))
          refine own_go (fun tq kq => XS.iconst X99.here hx rfl (hb hby at_300) kq) ?_
          show own_Rn p e below _ (T99.setTop (mkF m 301 #[.val (.int i0), .val (.int i1), .val (.int i2), .val (.int i3), .val (.int i4), .val (.int i5), .val (.int md), .val (.int d0), .val (.int d1), .val (.int d2), .val (.int d3), .val (.int d4), .val (.int d5), .val (.ref b81), .val (.int (5 : Int32)), .val (.int kx), .unset] [(.int (3 : Int32)), (.int kx)]))
          by_cases hc125 : kx = (3 : Int32)
          · skip
            refine own_go (fun tq kq => XS.icmpNo X99.here hx rfl (hb hby at_301) rfl (teq (hc125 : kx = (3 : Int32))).2 kq) ?_
            show own_Rn p e below _ (T99.setTop (mkF m 304 #[.val (.int i0), .val (.int i1), .val (.int i2), .val (.int i3), .val (.int i4), .val (.int i5), .val (.int md), .val (.int d0), .val (.int d1), .val (.int d2), .val (.int d3), .val (.int d4), .val (.int d5), .val (.ref b81), .val (.int (5 : Int32)), .val (.int kx), .unset] []))
            refine own_go (fun tq kq => XS.aload X99.here hx rfl (hb hby at_304) rfl rfl kq) ?_
            show own_Rn p e below _ (T99.setTop (mkF m 306 #[.val (.int i0), .val (.int i1), .val (.int i2), .val (.int i3), .val (.int i4), .val (.int i5), .val (.int md), .val (.int d0), .val (.int d1), .val (.int d2), .val (.int d3), .val (.int d4), .val (.int d5), .val (.ref b81), .val (.int (5 : Int32)), .val (.int kx), .unset] [(.ref b81)]))
            refine own_go (fun tq kq => XS.iload X99.here hx rfl (hb hby at_306) rfl kq) ?_
            show own_Rn p e below _ (T99.setTop (mkF m 308 #[.val (.int i0), .val (.int i1), .val (.int i2), .val (.int i3), .val (.int i4), .val (.int i5), .val (.int md), .val (.int d0), .val (.int d1), .val (.int d2), .val (.int d3), .val (.int d4), .val (.int d5), .val (.ref b81), .val (.int (5 : Int32)), .val (.int kx), .unset] [(.int (5 : Int32)), (.ref b81)]))
            refine own_go (fun tq kq => XS.iload X99.here hx rfl (hb hby at_308) rfl kq) ?_
            show own_Rn p e below _ (T99.setTop (mkF m 310 #[.val (.int i0), .val (.int i1), .val (.int i2), .val (.int i3), .val (.int i4), .val (.int i5), .val (.int md), .val (.int d0), .val (.int d1), .val (.int d2), .val (.int d3), .val (.int d4), .val (.int d5), .val (.ref b81), .val (.int (5 : Int32)), .val (.int kx), .unset] [(.int d0), (.int (5 : Int32)), (.ref b81)]))
            obtain ⟨cl126, Ar126, q126, Sz126, Nn126, Hs126, G126⟩ := id V99
            obtain ⟨T126, h126, X126, e126, W126, st126⟩ := stC X99 hx hZ e99 Ar126 (j := (5 : Int32)) (inb_of Sz126 ⟨by decide, by decide⟩) (g := (mkF m 310 #[.val (.int i0), .val (.int i1), .val (.int i2), .val (.int i3), .val (.int i4), .val (.int i5), .val (.int md), .val (.int d0), .val (.int d1), .val (.int d2), .val (.int d3), .val (.int d4), .val (.int d5), .val (.ref b81), .val (.int (5 : Int32)), .val (.int kx), .unset] [(.int d0), (.int (5 : Int32)), (.ref b81)])) rfl rfl (hb hby at_310)
            rw [nd0] at W126
            refine own_go st126 ?_
            have V126 : Arv Z h126 b81 k81 .char (6 : Int32) [(.int (116 : Int32)), (.int (105 : Int32)), (.int (116 : Int32)), (.int (108 : Int32)), (.int (101 : Int32)), (.int d0)] (.int (0 : Int32)) := Arv.set Ar126 q126 Sz126 Nn126 Hs126 G126 (by rw [← nd0]; exact fits_nar_char _) W126 5 rfl (Nat.le_of_ble_eq_true rfl)
            have N126 := Fr.snoc X126 N99 gn81
            have sf127 : Safe Z consts_1 s.vm h99 b81 := Safe.arv hZ.alike V99 (by decide)
            have sz128 : h99.size ≤ h126.size := Nat.le_of_eq (Wr.size W126).symm
            have cr128 : CHr Z consts_1 s.vm h99 s.vm h126 := CHr.wr W126 sf127 CR101.1
            have CR128 := CR101.trans cr128
            show own_Rn p e below _ (T126.setTop (mkF m 311 #[.val (.int i0), .val (.int i1), .val (.int i2), .val (.int i3), .val (.int i4), .val (.int i5), .val (.int md), .val (.int d0), .val (.int d1), .val (.int d2), .val (.int d3), .val (.int d4), .val (.int d5), .val (.ref b81), .val (.int (5 : Int32)), .val (.int kx), .unset] []))
            refine own_go (fun tq kq => XS.iload X126.here hx rfl (hb hby at_311) rfl kq) ?_
            show own_Rn p e below _ (T126.setTop (mkF m 313 #[.val (.int i0), .val (.int i1), .val (.int i2), .val (.int i3), .val (.int i4), .val (.int i5), .val (.int md), .val (.int d0), .val (.int d1), .val (.int d2), .val (.int d3), .val (.int d4), .val (.int d5), .val (.ref b81), .val (.int (5 : Int32)), .val (.int kx), .unset] [(.int (5 : Int32))]))
            refine own_go (fun tq kq => XS.iconst X126.here hx rfl (hb hby at_313) kq) ?_
            show own_Rn p e below _ (T126.setTop (mkF m 314 #[.val (.int i0), .val (.int i1), .val (.int i2), .val (.int i3), .val (.int i4), .val (.int i5), .val (.int md), .val (.int d0), .val (.int d1), .val (.int d2), .val (.int d3), .val (.int d4), .val (.int d5), .val (.ref b81), .val (.int (5 : Int32)), .val (.int kx), .unset] [(.int (1 : Int32)), (.int (5 : Int32))]))
            refine own_go (fun tq kq => XS.iadd X126.here hx rfl (hb hby at_314) rfl kq) ?_
            show own_Rn p e below _ (T126.setTop (mkF m 315 #[.val (.int i0), .val (.int i1), .val (.int i2), .val (.int i3), .val (.int i4), .val (.int i5), .val (.int md), .val (.int d0), .val (.int d1), .val (.int d2), .val (.int d3), .val (.int d4), .val (.int d5), .val (.ref b81), .val (.int (5 : Int32)), .val (.int kx), .unset] [(.int ((5 : Int32) + (1 : Int32)))]))
            rw [show ((5 : Int32) + (1 : Int32)) = (6 : Int32) by decide]
            show own_Rn p e below _ (T126.setTop (mkF m 315 #[.val (.int i0), .val (.int i1), .val (.int i2), .val (.int i3), .val (.int i4), .val (.int i5), .val (.int md), .val (.int d0), .val (.int d1), .val (.int d2), .val (.int d3), .val (.int d4), .val (.int d5), .val (.ref b81), .val (.int (5 : Int32)), .val (.int kx), .unset] [(.int (6 : Int32))]))
            refine own_go (fun tq kq => XS.istore X126.here hx rfl (hb hby at_315) rfl (l' := #[.val (.int i0), .val (.int i1), .val (.int i2), .val (.int i3), .val (.int i4), .val (.int i5), .val (.int md), .val (.int d0), .val (.int d1), .val (.int d2), .val (.int d3), .val (.int d4), .val (.int d5), .val (.ref b81), .val (.int (6 : Int32)), .val (.int kx), .unset]) rfl kq) ?_
            show own_Rn p e below _ (T126.setTop (mkF m 317 #[.val (.int i0), .val (.int i1), .val (.int i2), .val (.int i3), .val (.int i4), .val (.int i5), .val (.int md), .val (.int d0), .val (.int d1), .val (.int d2), .val (.int d3), .val (.int d4), .val (.int d5), .val (.ref b81), .val (.int (6 : Int32)), .val (.int kx), .unset] []))
            have F129 : Old Z n0 h126 := ((((((((X00.ext E81).wr W84 gn81).wr W87 gn81).wr W90 gn81).wr W93 gn81).wr W96 gn81).wr W99 gn81).wr W126 gn81)
            exact jn _ _ _ b81 k81 (116 : Int32) (105 : Int32) (116 : Int32) (108 : Int32) (101 : Int32) d0 (6) _ _ X126 e126 N126 (by omega) CR128 F129 V126 ⟨(by decide), (by decide), (by decide), (by decide), (by decide), rd0⟩ (by decide) (One.val (by rfl)) One.u
          · skip
            refine own_go (fun tq kq => XS.icmpYes X99.here hx rfl (pc0 := 301) (pc' := 317) rfl (hb hby at_301) rfl (feq (hc125 : ¬ (kx = (3 : Int32)))).2 (by decide) (by decide) kq) ?_
            show own_Rn p e below _ (T99.setTop (mkF m 317 #[.val (.int i0), .val (.int i1), .val (.int i2), .val (.int i3), .val (.int i4), .val (.int i5), .val (.int md), .val (.int d0), .val (.int d1), .val (.int d2), .val (.int d3), .val (.int d4), .val (.int d5), .val (.ref b81), .val (.int (5 : Int32)), .val (.int kx), .unset] []))
            have F130 : Old Z n0 h99 := (((((((X00.ext E81).wr W84 gn81).wr W87 gn81).wr W90 gn81).wr W93 gn81).wr W96 gn81).wr W99 gn81)
            exact jn _ _ _ b81 k81 (116 : Int32) (105 : Int32) (116 : Int32) (108 : Int32) (101 : Int32) (120 : Int32) (5) _ _ X99 e99 N99 (by omega) CR101 F130 V99 ⟨(by decide), (by decide), (by decide), (by decide), (by decide), (by decide)⟩ (by decide) (One.val (by rfl)) One.u
    · skip
      refine own_go (fun tq kq => XS.icmpYes X0.here hx rfl (pc0 := 121) (pc' := 166) rfl (hb hby at_121) rfl (feq (hc79 : ¬ (md = (1 : Int32)))).2 (by decide) (by decide) kq) ?_
      show own_Rn p e below _ (s₁.setTop (mkF m 166 #[.val (.int i0), .val (.int i1), .val (.int i2), .val (.int i3), .val (.int i4), .val (.int i5), .val (.int md), .val (.int d0), .val (.int d1), .val (.int d2), .val (.int d3), .val (.int d4), .val (.int d5), .unset, .unset, .unset, .unset] []))
      refine own_go (fun tq kq => XS.iload X0.here hx rfl (hb hby at_166) rfl kq) ?_
      show own_Rn p e below _ (s₁.setTop (mkF m 168 #[.val (.int i0), .val (.int i1), .val (.int i2), .val (.int i3), .val (.int i4), .val (.int i5), .val (.int md), .val (.int d0), .val (.int d1), .val (.int d2), .val (.int d3), .val (.int d4), .val (.int d5), .unset, .unset, .unset, .unset] [(.int md)]))
      refine own_go (fun tq kq => XS.iconst X0.here hx rfl (hb hby at_168) kq) ?_
      show own_Rn p e below _ (s₁.setTop (mkF m 169 #[.val (.int i0), .val (.int i1), .val (.int i2), .val (.int i3), .val (.int i4), .val (.int i5), .val (.int md), .val (.int d0), .val (.int d1), .val (.int d2), .val (.int d3), .val (.int d4), .val (.int d5), .unset, .unset, .unset, .unset] [(.int (2 : Int32)), (.int md)]))
      by_cases hc131 : md = (2 : Int32)
      · skip
        refine own_go (fun tq kq => XS.icmpNo X0.here hx rfl (hb hby at_169) rfl (teq (hc131 : md = (2 : Int32))).2 kq) ?_
        show own_Rn p e below _ (s₁.setTop (mkF m 172 #[.val (.int i0), .val (.int i1), .val (.int i2), .val (.int i3), .val (.int i4), .val (.int i5), .val (.int md), .val (.int d0), .val (.int d1), .val (.int d2), .val (.int d3), .val (.int d4), .val (.int d5), .unset, .unset, .unset, .unset] []))
        refine own_go (fun tq kq => XS.bipush X0.here hx rfl (hb hby at_172) kq) ?_
        show own_Rn p e below _ (s₁.setTop (mkF m 174 #[.val (.int i0), .val (.int i1), .val (.int i2), .val (.int i3), .val (.int i4), .val (.int i5), .val (.int md), .val (.int d0), .val (.int d1), .val (.int d2), .val (.int d3), .val (.int d4), .val (.int d5), .unset, .unset, .unset, .unset] [(.int (6 : Int32))]))
        obtain ⟨T133, h133, k133, X133, e133, E133, A133, st133⟩ := newP X0 hx hZ (hw _ (own_mi 0 rfl)) e0 (g := (mkF m 174 #[.val (.int i0), .val (.int i1), .val (.int i2), .val (.int i3), .val (.int i4), .val (.int i5), .val (.int md), .val (.int d0), .val (.int d1), .val (.int d2), .val (.int d3), .val (.int d4), .val (.int d5), .unset, .unset, .unset, .unset] [(.int (6 : Int32))])) rfl (hb hby at_174) rfl (by decide) (cap := 6) (by decide) (by decide) (by decide) (by decide)
        obtain ⟨b133, g133⟩ : ∃ z, z = h0.size := ⟨_, rfl⟩
        rw [← g133] at A133 st133
        refine own_go st133 ?_
        have sz134 : h0.size ≤ h133.size := E133.1
        have cr134 : CHr Z consts_1 s.vm h0 s.vm h133 := CHr.ext E133 CR0.1
        have CR134 := CR0.trans cr134
        have gn133 : n0 ≤ b133 := by omega
        have V133 : Arv Z h133 b133 k133 .char (6 : Int32) [(.int (0 : Int32)), (.int (0 : Int32)), (.int (0 : Int32)), (.int (0 : Int32)), (.int (0 : Int32)), (.int (0 : Int32))] (.int (0 : Int32)) := (Arv.new A133 (by decide)).pad (pad_rep [] _ 6)
        have lt135 : @LT.lt Nat _ b133 h133.size := V133.lt
        show own_Rn p e below _ (T133.setTop (mkF m 176 #[.val (.int i0), .val (.int i1), .val (.int i2), .val (.int i3), .val (.int i4), .val (.int i5), .val (.int md), .val (.int d0), .val (.int d1), .val (.int d2), .val (.int d3), .val (.int d4), .val (.int d5), .unset, .unset, .unset, .unset] [(.ref b133)]))
        refine own_go (fun tq kq => XS.dup X133.here hx rfl (hb hby at_176) rfl rfl kq) ?_
        show own_Rn p e below _ (T133.setTop (mkF m 177 #[.val (.int i0), .val (.int i1), .val (.int i2), .val (.int i3), .val (.int i4), .val (.int i5), .val (.int md), .val (.int d0), .val (.int d1), .val (.int d2), .val (.int d3), .val (.int d4), .val (.int d5), .unset, .unset, .unset, .unset] [(.ref b133), (.ref b133)]))
        refine own_go (fun tq kq => XS.iconst X133.here hx rfl (hb hby at_177) kq) ?_
        show own_Rn p e below _ (T133.setTop (mkF m 178 #[.val (.int i0), .val (.int i1), .val (.int i2), .val (.int i3), .val (.int i4), .val (.int i5), .val (.int md), .val (.int d0), .val (.int d1), .val (.int d2), .val (.int d3), .val (.int d4), .val (.int d5), .unset, .unset, .unset, .unset] [(.int (0 : Int32)), (.ref b133), (.ref b133)]))
        refine own_go (fun tq kq => XS.bipush X133.here hx rfl (hb hby at_178) kq) ?_
        show own_Rn p e below _ (T133.setTop (mkF m 180 #[.val (.int i0), .val (.int i1), .val (.int i2), .val (.int i3), .val (.int i4), .val (.int i5), .val (.int md), .val (.int d0), .val (.int d1), .val (.int d2), .val (.int d3), .val (.int d4), .val (.int d5), .unset, .unset, .unset, .unset] [(.int (100 : Int32)), (.int (0 : Int32)), (.ref b133), (.ref b133)]))
        obtain ⟨cl136, Ar136, q136, Sz136, Nn136, Hs136, G136⟩ := id V133
        obtain ⟨T136, h136, X136, e136, W136, st136⟩ := stC X133 hx hZ e133 Ar136 (j := (0 : Int32)) (inb_of Sz136 ⟨by decide, by decide⟩) (g := (mkF m 180 #[.val (.int i0), .val (.int i1), .val (.int i2), .val (.int i3), .val (.int i4), .val (.int i5), .val (.int md), .val (.int d0), .val (.int d1), .val (.int d2), .val (.int d3), .val (.int d4), .val (.int d5), .unset, .unset, .unset, .unset] [(.int (100 : Int32)), (.int (0 : Int32)), (.ref b133), (.ref b133)])) rfl rfl (hb hby at_180)
        refine own_go st136 ?_
        have V136 : Arv Z h136 b133 k133 .char (6 : Int32) [(.int (100 : Int32)), (.int (0 : Int32)), (.int (0 : Int32)), (.int (0 : Int32)), (.int (0 : Int32)), (.int (0 : Int32))] (.int (0 : Int32)) := Arv.set Ar136 q136 Sz136 Nn136 Hs136 G136 rfl W136 0 rfl (Nat.le_of_ble_eq_true rfl)
        have N136 := Fr.snoc X136 N0 gn133
        have sf137 : Safe Z consts_1 s.vm h133 b133 := Safe.arv hZ.alike V133 (by decide)
        have sz138 : h133.size ≤ h136.size := Nat.le_of_eq (Wr.size W136).symm
        have cr138 : CHr Z consts_1 s.vm h133 s.vm h136 := CHr.wr W136 sf137 CR134.1
        have CR138 := CR134.trans cr138
        show own_Rn p e below _ (T136.setTop (mkF m 181 #[.val (.int i0), .val (.int i1), .val (.int i2), .val (.int i3), .val (.int i4), .val (.int i5), .val (.int md), .val (.int d0), .val (.int d1), .val (.int d2), .val (.int d3), .val (.int d4), .val (.int d5), .unset, .unset, .unset, .unset] [(.ref b133)]))
        refine own_go (fun tq kq => XS.dup X136.here hx rfl (hb hby at_181) rfl rfl kq) ?_
        show own_Rn p e below _ (T136.setTop (mkF m 182 #[.val (.int i0), .val (.int i1), .val (.int i2), .val (.int i3), .val (.int i4), .val (.int i5), .val (.int md), .val (.int d0), .val (.int d1), .val (.int d2), .val (.int d3), .val (.int d4), .val (.int d5), .unset, .unset, .unset, .unset] [(.ref b133), (.ref b133)]))
        refine own_go (fun tq kq => XS.iconst X136.here hx rfl (hb hby at_182) kq) ?_
        show own_Rn p e below _ (T136.setTop (mkF m 183 #[.val (.int i0), .val (.int i1), .val (.int i2), .val (.int i3), .val (.int i4), .val (.int i5), .val (.int md), .val (.int d0), .val (.int d1), .val (.int d2), .val (.int d3), .val (.int d4), .val (.int d5), .unset, .unset, .unset, .unset] [(.int (1 : Int32)), (.ref b133), (.ref b133)]))
        refine own_go (fun tq kq => XS.bipush X136.here hx rfl (hb hby at_183) kq) ?_
        show own_Rn p e below _ (T136.setTop (mkF m 185 #[.val (.int i0), .val (.int i1), .val (.int i2), .val (.int i3), .val (.int i4), .val (.int i5), .val (.int md), .val (.int d0), .val (.int d1), .val (.int d2), .val (.int d3), .val (.int d4), .val (.int d5), .unset, .unset, .unset, .unset] [(.int (101 : Int32)), (.int (1 : Int32)), (.ref b133), (.ref b133)]))
        obtain ⟨cl139, Ar139, q139, Sz139, Nn139, Hs139, G139⟩ := id V136
        obtain ⟨T139, h139, X139, e139, W139, st139⟩ := stC X136 hx hZ e136 Ar139 (j := (1 : Int32)) (inb_of Sz139 ⟨by decide, by decide⟩) (g := (mkF m 185 #[.val (.int i0), .val (.int i1), .val (.int i2), .val (.int i3), .val (.int i4), .val (.int i5), .val (.int md), .val (.int d0), .val (.int d1), .val (.int d2), .val (.int d3), .val (.int d4), .val (.int d5), .unset, .unset, .unset, .unset] [(.int (101 : Int32)), (.int (1 : Int32)), (.ref b133), (.ref b133)])) rfl rfl (hb hby at_185)
        refine own_go st139 ?_
        have V139 : Arv Z h139 b133 k133 .char (6 : Int32) [(.int (100 : Int32)), (.int (101 : Int32)), (.int (0 : Int32)), (.int (0 : Int32)), (.int (0 : Int32)), (.int (0 : Int32))] (.int (0 : Int32)) := Arv.set Ar139 q139 Sz139 Nn139 Hs139 G139 rfl W139 1 rfl (Nat.le_of_ble_eq_true rfl)
        have N139 := Fr.snoc X139 N136 gn133
        have sf140 : Safe Z consts_1 s.vm h136 b133 := Safe.arv hZ.alike V136 (by decide)
        have sz141 : h136.size ≤ h139.size := Nat.le_of_eq (Wr.size W139).symm
        have cr141 : CHr Z consts_1 s.vm h136 s.vm h139 := CHr.wr W139 sf140 CR138.1
        have CR141 := CR138.trans cr141
        show own_Rn p e below _ (T139.setTop (mkF m 186 #[.val (.int i0), .val (.int i1), .val (.int i2), .val (.int i3), .val (.int i4), .val (.int i5), .val (.int md), .val (.int d0), .val (.int d1), .val (.int d2), .val (.int d3), .val (.int d4), .val (.int d5), .unset, .unset, .unset, .unset] [(.ref b133)]))
        refine own_go (fun tq kq => XS.dup X139.here hx rfl (hb hby at_186) rfl rfl kq) ?_
        show own_Rn p e below _ (T139.setTop (mkF m 187 #[.val (.int i0), .val (.int i1), .val (.int i2), .val (.int i3), .val (.int i4), .val (.int i5), .val (.int md), .val (.int d0), .val (.int d1), .val (.int d2), .val (.int d3), .val (.int d4), .val (.int d5), .unset, .unset, .unset, .unset] [(.ref b133), (.ref b133)]))
        refine own_go (fun tq kq => XS.iconst X139.here hx rfl (hb hby at_187) kq) ?_
        show own_Rn p e below _ (T139.setTop (mkF m 188 #[.val (.int i0), .val (.int i1), .val (.int i2), .val (.int i3), .val (.int i4), .val (.int i5), .val (.int md), .val (.int d0), .val (.int d1), .val (.int d2), .val (.int d3), .val (.int d4), .val (.int d5), .unset, .unset, .unset, .unset] [(.int (2 : Int32)), (.ref b133), (.ref b133)]))
        refine own_go (fun tq kq => XS.bipush X139.here hx rfl (hb hby at_188) kq) ?_
        show own_Rn p e below _ (T139.setTop (mkF m 190 #[.val (.int i0), .val (.int i1), .val (.int i2), .val (.int i3), .val (.int i4), .val (.int i5), .val (.int md), .val (.int d0), .val (.int d1), .val (.int d2), .val (.int d3), .val (.int d4), .val (.int d5), .unset, .unset, .unset, .unset] [(.int (115 : Int32)), (.int (2 : Int32)), (.ref b133), (.ref b133)]))
        obtain ⟨cl142, Ar142, q142, Sz142, Nn142, Hs142, G142⟩ := id V139
        obtain ⟨T142, h142, X142, e142, W142, st142⟩ := stC X139 hx hZ e139 Ar142 (j := (2 : Int32)) (inb_of Sz142 ⟨by decide, by decide⟩) (g := (mkF m 190 #[.val (.int i0), .val (.int i1), .val (.int i2), .val (.int i3), .val (.int i4), .val (.int i5), .val (.int md), .val (.int d0), .val (.int d1), .val (.int d2), .val (.int d3), .val (.int d4), .val (.int d5), .unset, .unset, .unset, .unset] [(.int (115 : Int32)), (.int (2 : Int32)), (.ref b133), (.ref b133)])) rfl rfl (hb hby at_190)
        refine own_go st142 ?_
        have V142 : Arv Z h142 b133 k133 .char (6 : Int32) [(.int (100 : Int32)), (.int (101 : Int32)), (.int (115 : Int32)), (.int (0 : Int32)), (.int (0 : Int32)), (.int (0 : Int32))] (.int (0 : Int32)) := Arv.set Ar142 q142 Sz142 Nn142 Hs142 G142 rfl W142 2 rfl (Nat.le_of_ble_eq_true rfl)
        have N142 := Fr.snoc X142 N139 gn133
        have sf143 : Safe Z consts_1 s.vm h139 b133 := Safe.arv hZ.alike V139 (by decide)
        have sz144 : h139.size ≤ h142.size := Nat.le_of_eq (Wr.size W142).symm
        have cr144 : CHr Z consts_1 s.vm h139 s.vm h142 := CHr.wr W142 sf143 CR141.1
        have CR144 := CR141.trans cr144
        show own_Rn p e below _ (T142.setTop (mkF m 191 #[.val (.int i0), .val (.int i1), .val (.int i2), .val (.int i3), .val (.int i4), .val (.int i5), .val (.int md), .val (.int d0), .val (.int d1), .val (.int d2), .val (.int d3), .val (.int d4), .val (.int d5), .unset, .unset, .unset, .unset] [(.ref b133)]))
        refine own_go (fun tq kq => XS.dup X142.here hx rfl (hb hby at_191) rfl rfl kq) ?_
        show own_Rn p e below _ (T142.setTop (mkF m 192 #[.val (.int i0), .val (.int i1), .val (.int i2), .val (.int i3), .val (.int i4), .val (.int i5), .val (.int md), .val (.int d0), .val (.int d1), .val (.int d2), .val (.int d3), .val (.int d4), .val (.int d5), .unset, .unset, .unset, .unset] [(.ref b133), (.ref b133)]))
        refine own_go (fun tq kq => XS.iconst X142.here hx rfl (hb hby at_192) kq) ?_
        show own_Rn p e below _ (T142.setTop (mkF m 193 #[.val (.int i0), .val (.int i1), .val (.int i2), .val (.int i3), .val (.int i4), .val (.int i5), .val (.int md), .val (.int d0), .val (.int d1), .val (.int d2), .val (.int d3), .val (.int d4), .val (.int d5), .unset, .unset, .unset, .unset] [(.int (3 : Int32)), (.ref b133), (.ref b133)]))
        refine own_go (fun tq kq => XS.bipush X142.here hx rfl (hb hby at_193) kq) ?_
        show own_Rn p e below _ (T142.setTop (mkF m 195 #[.val (.int i0), .val (.int i1), .val (.int i2), .val (.int i3), .val (.int i4), .val (.int i5), .val (.int md), .val (.int d0), .val (.int d1), .val (.int d2), .val (.int d3), .val (.int d4), .val (.int d5), .unset, .unset, .unset, .unset] [(.int (99 : Int32)), (.int (3 : Int32)), (.ref b133), (.ref b133)]))
        obtain ⟨cl145, Ar145, q145, Sz145, Nn145, Hs145, G145⟩ := id V142
        obtain ⟨T145, h145, X145, e145, W145, st145⟩ := stC X142 hx hZ e142 Ar145 (j := (3 : Int32)) (inb_of Sz145 ⟨by decide, by decide⟩) (g := (mkF m 195 #[.val (.int i0), .val (.int i1), .val (.int i2), .val (.int i3), .val (.int i4), .val (.int i5), .val (.int md), .val (.int d0), .val (.int d1), .val (.int d2), .val (.int d3), .val (.int d4), .val (.int d5), .unset, .unset, .unset, .unset] [(.int (99 : Int32)), (.int (3 : Int32)), (.ref b133), (.ref b133)])) rfl rfl (hb hby at_195)
        refine own_go st145 ?_
        have V145 : Arv Z h145 b133 k133 .char (6 : Int32) [(.int (100 : Int32)), (.int (101 : Int32)), (.int (115 : Int32)), (.int (99 : Int32)), (.int (0 : Int32)), (.int (0 : Int32))] (.int (0 : Int32)) := Arv.set Ar145 q145 Sz145 Nn145 Hs145 G145 rfl W145 3 rfl (Nat.le_of_ble_eq_true rfl)
        have N145 := Fr.snoc X145 N142 gn133
        have sf146 : Safe Z consts_1 s.vm h142 b133 := Safe.arv hZ.alike V142 (by decide)
        have sz147 : h142.size ≤ h145.size := Nat.le_of_eq (Wr.size W145).symm
        have cr147 : CHr Z consts_1 s.vm h142 s.vm h145 := CHr.wr W145 sf146 CR144.1
        have CR147 := CR144.trans cr147
        show own_Rn p e below _ (T145.setTop (mkF m 196 #[.val (.int i0), .val (.int i1), .val (.int i2), .val (.int i3), .val (.int i4), .val (.int i5), .val (.int md), .val (.int d0), .val (.int d1), .val (.int d2), .val (.int d3), .val (.int d4), .val (.int d5), .unset, .unset, .unset, .unset] [(.ref b133)]))
        refine own_go (fun tq kq => XS.dup X145.here hx rfl (hb hby at_196) rfl rfl kq) ?_
        show own_Rn p e below _ (T145.setTop (mkF m 197 #[.val (.int i0), .val (.int i1), .val (.int i2), .val (.int i3), .val (.int i4), .val (.int i5), .val (.int md), .val (.int d0), .val (.int d1), .val (.int d2), .val (.int d3), .val (.int d4), .val (.int d5), .unset, .unset, .unset, .unset] [(.ref b133), (.ref b133)]))
        refine own_go (fun tq kq => XS.iconst X145.here hx rfl (hb hby at_197) kq) ?_
        show own_Rn p e below _ (T145.setTop (mkF m 198 #[.val (.int i0), .val (.int i1), .val (.int i2), .val (.int i3), .val (.int i4), .val (.int i5), .val (.int md), .val (.int d0), .val (.int d1), .val (.int d2), .val (.int d3), .val (.int d4), .val (.int d5), .unset, .unset, .unset, .unset] [(.int (4 : Int32)), (.ref b133), (.ref b133)]))
        refine own_go (fun tq kq => XS.bipush X145.here hx rfl (hb hby at_198) kq) ?_
        show own_Rn p e below _ (T145.setTop (mkF m 200 #[.val (.int i0), .val (.int i1), .val (.int i2), .val (.int i3), .val (.int i4), .val (.int i5), .val (.int md), .val (.int d0), .val (.int d1), .val (.int d2), .val (.int d3), .val (.int d4), .val (.int d5), .unset, .unset, .unset, .unset] [(.int (120 : Int32)), (.int (4 : Int32)), (.ref b133), (.ref b133)]))
        obtain ⟨cl148, Ar148, q148, Sz148, Nn148, Hs148, G148⟩ := id V145
        obtain ⟨T148, h148, X148, e148, W148, st148⟩ := stC X145 hx hZ e145 Ar148 (j := (4 : Int32)) (inb_of Sz148 ⟨by decide, by decide⟩) (g := (mkF m 200 #[.val (.int i0), .val (.int i1), .val (.int i2), .val (.int i3), .val (.int i4), .val (.int i5), .val (.int md), .val (.int d0), .val (.int d1), .val (.int d2), .val (.int d3), .val (.int d4), .val (.int d5), .unset, .unset, .unset, .unset] [(.int (120 : Int32)), (.int (4 : Int32)), (.ref b133), (.ref b133)])) rfl rfl (hb hby at_200)
        refine own_go st148 ?_
        have V148 : Arv Z h148 b133 k133 .char (6 : Int32) [(.int (100 : Int32)), (.int (101 : Int32)), (.int (115 : Int32)), (.int (99 : Int32)), (.int (120 : Int32)), (.int (0 : Int32))] (.int (0 : Int32)) := Arv.set Ar148 q148 Sz148 Nn148 Hs148 G148 rfl W148 4 rfl (Nat.le_of_ble_eq_true rfl)
        have N148 := Fr.snoc X148 N145 gn133
        have sf149 : Safe Z consts_1 s.vm h145 b133 := Safe.arv hZ.alike V145 (by decide)
        have sz150 : h145.size ≤ h148.size := Nat.le_of_eq (Wr.size W148).symm
        have cr150 : CHr Z consts_1 s.vm h145 s.vm h148 := CHr.wr W148 sf149 CR147.1
        have CR150 := CR147.trans cr150
        show own_Rn p e below _ (T148.setTop (mkF m 201 #[.val (.int i0), .val (.int i1), .val (.int i2), .val (.int i3), .val (.int i4), .val (.int i5), .val (.int md), .val (.int d0), .val (.int d1), .val (.int d2), .val (.int d3), .val (.int d4), .val (.int d5), .unset, .unset, .unset, .unset] [(.ref b133)]))
        refine own_go (fun tq kq => XS.dup X148.here hx rfl (hb hby at_201) rfl rfl kq) ?_
        show own_Rn p e below _ (T148.setTop (mkF m 202 #[.val (.int i0), .val (.int i1), .val (.int i2), .val (.int i3), .val (.int i4), .val (.int i5), .val (.int md), .val (.int d0), .val (.int d1), .val (.int d2), .val (.int d3), .val (.int d4), .val (.int d5), .unset, .unset, .unset, .unset] [(.ref b133), (.ref b133)]))
        refine own_go (fun tq kq => XS.iconst X148.here hx rfl (hb hby at_202) kq) ?_
        show own_Rn p e below _ (T148.setTop (mkF m 203 #[.val (.int i0), .val (.int i1), .val (.int i2), .val (.int i3), .val (.int i4), .val (.int i5), .val (.int md), .val (.int d0), .val (.int d1), .val (.int d2), .val (.int d3), .val (.int d4), .val (.int d5), .unset, .unset, .unset, .unset] [(.int (5 : Int32)), (.ref b133), (.ref b133)]))
        refine own_go (fun tq kq => XS.bipush X148.here hx rfl (hb hby at_203) kq) ?_
        show own_Rn p e below _ (T148.setTop (mkF m 205 #[.val (.int i0), .val (.int i1), .val (.int i2), .val (.int i3), .val (.int i4), .val (.int i5), .val (.int md), .val (.int d0), .val (.int d1), .val (.int d2), .val (.int d3), .val (.int d4), .val (.int d5), .unset, .unset, .unset, .unset] [(.int (120 : Int32)), (.int (5 : Int32)), (.ref b133), (.ref b133)]))
        obtain ⟨cl151, Ar151, q151, Sz151, Nn151, Hs151, G151⟩ := id V148
        obtain ⟨T151, h151, X151, e151, W151, st151⟩ := stC X148 hx hZ e148 Ar151 (j := (5 : Int32)) (inb_of Sz151 ⟨by decide, by decide⟩) (g := (mkF m 205 #[.val (.int i0), .val (.int i1), .val (.int i2), .val (.int i3), .val (.int i4), .val (.int i5), .val (.int md), .val (.int d0), .val (.int d1), .val (.int d2), .val (.int d3), .val (.int d4), .val (.int d5), .unset, .unset, .unset, .unset] [(.int (120 : Int32)), (.int (5 : Int32)), (.ref b133), (.ref b133)])) rfl rfl (hb hby at_205)
        refine own_go st151 ?_
        have V151 : Arv Z h151 b133 k133 .char (6 : Int32) [(.int (100 : Int32)), (.int (101 : Int32)), (.int (115 : Int32)), (.int (99 : Int32)), (.int (120 : Int32)), (.int (120 : Int32))] (.int (0 : Int32)) := Arv.set Ar151 q151 Sz151 Nn151 Hs151 G151 rfl W151 5 rfl (Nat.le_of_ble_eq_true rfl)
        have N151 := Fr.snoc X151 N148 gn133
        have sf152 : Safe Z consts_1 s.vm h148 b133 := Safe.arv hZ.alike V148 (by decide)
        have sz153 : h148.size ≤ h151.size := Nat.le_of_eq (Wr.size W151).symm
        have cr153 : CHr Z consts_1 s.vm h148 s.vm h151 := CHr.wr W151 sf152 CR150.1
        have CR153 := CR150.trans cr153
        show own_Rn p e below _ (T151.setTop (mkF m 206 #[.val (.int i0), .val (.int i1), .val (.int i2), .val (.int i3), .val (.int i4), .val (.int i5), .val (.int md), .val (.int d0), .val (.int d1), .val (.int d2), .val (.int d3), .val (.int d4), .val (.int d5), .unset, .unset, .unset, .unset] [(.ref b133)]))
        refine own_go (fun tq kq => XS.astore X151.here hx rfl (hb hby at_206) rfl rfl (l' := #[.val (.int i0), .val (.int i1), .val (.int i2), .val (.int i3), .val (.int i4), .val (.int i5), .val (.int md), .val (.int d0), .val (.int d1), .val (.int d2), .val (.int d3), .val (.int d4), .val (.int d5), .val (.ref b133), .unset, .unset, .unset]) rfl kq) ?_
        show own_Rn p e below _ (T151.setTop (mkF m 208 #[.val (.int i0), .val (.int i1), .val (.int i2), .val (.int i3), .val (.int i4), .val (.int i5), .val (.int md), .val (.int d0), .val (.int d1), .val (.int d2), .val (.int d3), .val (.int d4), .val (.int d5), .val (.ref b133), .unset, .unset, .unset] []))
        refine own_go (fun tq kq => XS.iconst X151.here hx rfl (hb hby at_208) kq) ?_
        show own_Rn p e below _ (T151.setTop (mkF m 209 #[.val (.int i0), .val (.int i1), .val (.int i2), .val (.int i3), .val (.int i4), .val (.int i5), .val (.int md), .val (.int d0), .val (.int d1), .val (.int d2), .val (.int d3), .val (.int d4), .val (.int d5), .val (.ref b133), .unset, .unset, .unset] [(.int (4 : Int32))]))
        refine own_go (fun tq kq => XS.istore X151.here hx rfl (hb hby at_209) rfl (l' := #[.val (.int i0), .val (.int i1), .val (.int i2), .val (.int i3), .val (.int i4), .val (.int i5), .val (.int md), .val (.int d0), .val (.int d1), .val (.int d2), .val (.int d3), .val (.int d4), .val (.int d5), .val (.ref b133), .val (.int (4 : Int32)), .unset, .unset]) rfl kq) ?_
        show own_Rn p e below _ (T151.setTop (mkF m 211 #[.val (.int i0), .val (.int i1), .val (.int i2), .val (.int i3), .val (.int i4), .val (.int i5), .val (.int md), .val (.int d0), .val (.int d1), .val (.int d2), .val (.int d3), .val (.int d4), .val (.int d5), .val (.ref b133), .val (.int (4 : Int32)), .unset, .unset] []))
        refine own_go (fun tq kq => XS.goto X151.here hx rfl (pc0 := 211) (pc' := 253) rfl (hb hby at_211) (by decide) (by decide) kq) ?_
        show own_Rn p e below _ (T151.setTop (mkF m 253 #[.val (.int i0), .val (.int i1), .val (.int i2), .val (.int i3), .val (.int i4), .val (.int i5), .val (.int md), .val (.int d0), .val (.int d1), .val (.int d2), .val (.int d3), .val (.int d4), .val (.int d5), .val (.ref b133), .val (.int (4 : Int32)), .unset, .unset] []))
        refine own_go (fun tq kq => XS.iloadN X151.here hx rfl (hb hby at_253) rfl kq) ?_
        show own_Rn p e below _ (T151.setTop (mkF m 254 #[.val (.int i0), .val (.int i1), .val (.int i2), .val (.int i3), .val (.int i4), .val (.int i5), .val (.int md), .val (.int d0), .val (.int d1), .val (.int d2), .val (.int d3), .val (.int d4), .val (.int d5), .val (.ref b133), .val (.int (4 : Int32)), .unset, .unset] [(.int i1)]))
        refine own_go (fun tq kq => XS.iconst X151.here hx rfl (hb hby at_254) kq) ?_
        show own_Rn p e below _ (T151.setTop (mkF m 255 #[.val (.int i0), .val (.int i1), .val (.int i2), .val (.int i3), .val (.int i4), .val (.int i5), .val (.int md), .val (.int d0), .val (.int d1), .val (.int d2), .val (.int d3), .val (.int d4), .val (.int d5), .val (.ref b133), .val (.int (4 : Int32)), .unset, .unset] [(.int (3 : Int32)), (.int i1)]))
        refine own_go (fun tq kq => XS.iand X151.here hx rfl (hb hby at_255) rfl kq) ?_
        show own_Rn p e below _ (T151.setTop (mkF m 256 #[.val (.int i0), .val (.int i1), .val (.int i2), .val (.int i3), .val (.int i4), .val (.int i5), .val (.int md), .val (.int d0), .val (.int d1), .val (.int d2), .val (.int d3), .val (.int d4), .val (.int d5), .val (.ref b133), .val (.int (4 : Int32)), .unset, .unset] [(.int (i1 &&& (3 : Int32)))]))
        obtain ⟨kx, hkx⟩ : ∃ z : Int32, z = (i1 &&& (3 : Int32)) := ⟨_, rfl⟩
        rw [← hkx]
        show own_Rn p e below _ (T151.setTop (mkF m 256 #[.val (.int i0), .val (.int i1), .val (.int i2), .val (.int i3), .val (.int i4), .val (.int i5), .val (.int md), .val (.int d0), .val (.int d1), .val (.int d2), .val (.int d3), .val (.int d4), .val (.int d5), .val (.ref b133), .val (.int (4 : Int32)), .unset, .unset] [(.int kx)]))
        refine own_go (fun tq kq => XS.istore X151.here hx rfl (hb hby at_256) rfl (l' := #[.val (.int i0), .val (.int i1), .val (.int i2), .val (.int i3), .val (.int i4), .val (.int i5), .val (.int md), .val (.int d0), .val (.int d1), .val (.int d2), .val (.int d3), .val (.int d4), .val (.int d5), .val (.ref b133), .val (.int (4 : Int32)), .val (.int kx), .unset]) rfl kq) ?_
        show own_Rn p e below _ (T151.setTop (mkF m 258 #[.val (.int i0), .val (.int i1), .val (.int i2), .val (.int i3), .val (.int i4), .val (.int i5), .val (.int md), .val (.int d0), .val (.int d1), .val (.int d2), .val (.int d3), .val (.int d4), .val (.int d5), .val (.ref b133), .val (.int (4 : Int32)), .val (.int kx), .unset] []))
        refine own_go (fun tq kq => XS.iload X151.here hx rfl (hb hby at_258) rfl kq) ?_
        show own_Rn p e below _ (T151.setTop (mkF m 260 #[.val (.int i0), .val (.int i1), .val (.int i2), .val (.int i3), .val (.int i4), .val (.int i5), .val (.int md), .val (.int d0), .val (.int d1), .val (.int d2), .val (.int d3), .val (.int d4), .val (.int d5), .val (.ref b133), .val (.int (4 : Int32)), .val (.int kx), .unset] [(.int kx)]))
        refine own_go (fun tq kq => XS.iconst X151.here hx rfl (hb hby at_260) kq) ?_
        show own_Rn p e below _ (T151.setTop (mkF m 261 #[.val (.int i0), .val (.int i1), .val (.int i2), .val (.int i3), .val (.int i4), .val (.int i5), .val (.int md), .val (.int d0), .val (.int d1), .val (.int d2), .val (.int d3), .val (.int d4), .val (.int d5), .val (.ref b133), .val (.int (4 : Int32)), .val (.int kx), .unset] [(.int (1 : Int32)), (.int kx)]))
        by_cases hc154 : kx = (1 : Int32)
        · skip
          refine own_go (fun tq kq => XS.icmpNo X151.here hx rfl (hb hby at_261) rfl (teq (hc154 : kx = (1 : Int32))).2 kq) ?_
          show own_Rn p e below _ (T151.setTop (mkF m 264 #[.val (.int i0), .val (.int i1), .val (.int i2), .val (.int i3), .val (.int i4), .val (.int i5), .val (.int md), .val (.int d0), .val (.int d1), .val (.int d2), .val (.int d3), .val (.int d4), .val (.int d5), .val (.ref b133), .val (.int (4 : Int32)), .val (.int kx), .unset] []))
          refine own_go (fun tq kq => XS.iloadN X151.here hx rfl (hb hby at_264) rfl kq) ?_
          show own_Rn p e below _ (T151.setTop (mkF m 265 #[.val (.int i0), .val (.int i1), .val (.int i2), .val (.int i3), .val (.int i4), .val (.int i5), .val (.int md), .val (.int d0), .val (.int d1), .val (.int d2), .val (.int d3), .val (.int d4), .val (.int d5), .val (.ref b133), .val (.int (4 : Int32)), .val (.int kx), .unset] [(.int i2)]))
          refine own_go (fun tq kq => X151.ldcInt hx hown (mvT hZ (hw _ (own_mi 93 rfl))) (g := (mkF m 265 #[.val (.int i0), .val (.int i1), .val (.int i2), .val (.int i3), .val (.int i4), .val (.int i5), .val (.int md), .val (.int d0), .val (.int d1), .val (.int d2), .val (.int d3), .val (.int d4), .val (.int d5), .val (.ref b133), .val (.int (4 : Int32)), .val (.int kx), .unset] [(.int i2)])) rfl (hb hby at_265) _ kq) ?_
          show own_Rn p e below _ (T151.setTop (mkF m 267 #[.val (.int i0), .val (.int i1), .val (.int i2), .val (.int i3), .val (.int i4), .val (.int i5), .val (.int md), .val (.int d0), .val (.int d1), .val (.int d2), .val (.int d3), .val (.int d4), .val (.int d5), .val (.ref b133), .val (.int (4 : Int32)), .val (.int kx), .unset] [(.int (2147483647 : Int32)), (.int i2)]))
          refine own_go (fun tq kq => XS.iand X151.here hx rfl (hb hby at_267) rfl kq) ?_
          show own_Rn p e below _ (T151.setTop (mkF m 268 #[.val (.int i0), .val (.int i1), .val (.int i2), .val (.int i3), .val (.int i4), .val (.int i5), .val (.int md), .val (.int d0), .val (.int d1), .val (.int d2), .val (.int d3), .val (.int d4), .val (.int d5), .val (.ref b133), .val (.int (4 : Int32)), .val (.int kx), .unset] [(.int (i2 &&& (2147483647 : Int32)))]))
          refine own_go (fun tq kq => XS.iload X151.here hx rfl (hb hby at_268) rfl kq) ?_
          show own_Rn p e below _ (T151.setTop (mkF m 270 #[.val (.int i0), .val (.int i1), .val (.int i2), .val (.int i3), .val (.int i4), .val (.int i5), .val (.int md), .val (.int d0), .val (.int d1), .val (.int d2), .val (.int d3), .val (.int d4), .val (.int d5), .val (.ref b133), .val (.int (4 : Int32)), .val (.int kx), .unset] [(.int (4 : Int32)), (.int (i2 &&& (2147483647 : Int32)))]))
          refine own_go (fun tq kq => iremM X151 hx rfl (hb hby at_270) rfl (by decide) kq) ?_
          show own_Rn p e below _ (T151.setTop (mkF m 271 #[.val (.int i0), .val (.int i1), .val (.int i2), .val (.int i3), .val (.int i4), .val (.int i5), .val (.int md), .val (.int d0), .val (.int d1), .val (.int d2), .val (.int d3), .val (.int d4), .val (.int d5), .val (.ref b133), .val (.int (4 : Int32)), .val (.int kx), .unset] [(.int ((i2 &&& (2147483647 : Int32)) % (4 : Int32)))]))
          obtain ⟨K, hK, eK⟩ := own_mN i2 (4 : Int32) 4 rfl (by decide) (by decide)
          rw [eK]
          obtain rfl | rfl | rfl | rfl : K = 0 ∨ K = 1 ∨ K = 2 ∨ K = 3 := by omega
          · skip
            show own_Rn p e below _ (T151.setTop (mkF m 271 #[.val (.int i0), .val (.int i1), .val (.int i2), .val (.int i3), .val (.int i4), .val (.int i5), .val (.int md), .val (.int d0), .val (.int d1), .val (.int d2), .val (.int d3), .val (.int d4), .val (.int d5), .val (.ref b133), .val (.int (4 : Int32)), .val (.int kx), .unset] [(.int (0 : Int32))]))
            refine own_go (fun tq kq => XS.istore X151.here hx rfl (hb hby at_271) rfl (l' := #[.val (.int i0), .val (.int i1), .val (.int i2), .val (.int i3), .val (.int i4), .val (.int i5), .val (.int md), .val (.int d0), .val (.int d1), .val (.int d2), .val (.int d3), .val (.int d4), .val (.int d5), .val (.ref b133), .val (.int (4 : Int32)), .val (.int kx), .val (.int (0 : Int32))]) rfl kq) ?_
            show own_Rn p e below _ (T151.setTop (mkF m 273 #[.val (.int i0), .val (.int i1), .val (.int i2), .val (.int i3), .val (.int i4), .val (.int i5), .val (.int md), .val (.int d0), .val (.int d1), .val (.int d2), .val (.int d3), .val (.int d4), .val (.int d5), .val (.ref b133), .val (.int (4 : Int32)), .val (.int kx), .val (.int (0 : Int32))] []))
            refine own_go (fun tq kq => XS.aload X151.here hx rfl (hb hby at_273) rfl rfl kq) ?_
            show own_Rn p e below _ (T151.setTop (mkF m 275 #[.val (.int i0), .val (.int i1), .val (.int i2), .val (.int i3), .val (.int i4), .val (.int i5), .val (.int md), .val (.int d0), .val (.int d1), .val (.int d2), .val (.int d3), .val (.int d4), .val (.int d5), .val (.ref b133), .val (.int (4 : Int32)), .val (.int kx), .val (.int (0 : Int32))] [(.ref b133)]))
            refine own_go (fun tq kq => XS.iload X151.here hx rfl (hb hby at_275) rfl kq) ?_
            show own_Rn p e below _ (T151.setTop (mkF m 277 #[.val (.int i0), .val (.int i1), .val (.int i2), .val (.int i3), .val (.int i4), .val (.int i5), .val (.int md), .val (.int d0), .val (.int d1), .val (.int d2), .val (.int d3), .val (.int d4), .val (.int d5), .val (.ref b133), .val (.int (4 : Int32)), .val (.int kx), .val (.int (0 : Int32))] [(.int (0 : Int32)), (.ref b133)]))
            refine own_go (fun tq kq => XS.iload X151.here hx rfl (hb hby at_277) rfl kq) ?_
            show own_Rn p e below _ (T151.setTop (mkF m 279 #[.val (.int i0), .val (.int i1), .val (.int i2), .val (.int i3), .val (.int i4), .val (.int i5), .val (.int md), .val (.int d0), .val (.int d1), .val (.int d2), .val (.int d3), .val (.int d4), .val (.int d5), .val (.ref b133), .val (.int (4 : Int32)), .val (.int kx), .val (.int (0 : Int32))] [(.int d0), (.int (0 : Int32)), (.ref b133)]))
            obtain ⟨cl155, Ar155, q155, Sz155, Nn155, Hs155, G155⟩ := id V151
            obtain ⟨T155, h155, X155, e155, W155, st155⟩ := stC X151 hx hZ e151 Ar155 (j := (0 : Int32)) (inb_of Sz155 ⟨by decide, by decide⟩) (g := (mkF m 279 #[.val (.int i0), .val (.int i1), .val (.int i2), .val (.int i3), .val (.int i4), .val (.int i5), .val (.int md), .val (.int d0), .val (.int d1), .val (.int d2), .val (.int d3), .val (.int d4), .val (.int d5), .val (.ref b133), .val (.int (4 : Int32)), .val (.int kx), .val (.int (0 : Int32))] [(.int d0), (.int (0 : Int32)), (.ref b133)])) rfl rfl (hb hby at_279)
            rw [nd0] at W155
            refine own_go st155 ?_
            have V155 : Arv Z h155 b133 k133 .char (6 : Int32) [(.int d0), (.int (101 : Int32)), (.int (115 : Int32)), (.int (99 : Int32)), (.int (120 : Int32)), (.int (120 : Int32))] (.int (0 : Int32)) := Arv.set Ar155 q155 Sz155 Nn155 Hs155 G155 (by rw [← nd0]; exact fits_nar_char _) W155 0 rfl (Nat.le_of_ble_eq_true rfl)
            have N155 := Fr.snoc X155 N151 gn133
            have sf156 : Safe Z consts_1 s.vm h151 b133 := Safe.arv hZ.alike V151 (by decide)
            have sz157 : h151.size ≤ h155.size := Nat.le_of_eq (Wr.size W155).symm
            have cr157 : CHr Z consts_1 s.vm h151 s.vm h155 := CHr.wr W155 sf156 CR153.1
            have CR157 := CR153.trans cr157
            show own_Rn p e below _ (T155.setTop (mkF m 280 #[.val (.int i0), .val (.int i1), .val (.int i2), .val (.int i3), .val (.int i4), .val (.int i5), .val (.int md), .val (.int d0), .val (.int d1), .val (.int d2), .val (.int d3), .val (.int d4), .val (.int d5), .val (.ref b133), .val (.int (4 : Int32)), .val (.int kx), .val (.int (0 : Int32))] []))
            refine own_go (fun tq kq => XS.goto X155.here hx rfl (pc0 := 280) (pc' := 317) rfl (hb hby at_280) (by decide) (by decide) kq) ?_
            show own_Rn p e below _ (T155.setTop (mkF m 317 #[.val (.int i0), .val (.int i1), .val (.int i2), .val (.int i3), .val (.int i4), .val (.int i5), .val (.int md), .val (.int d0), .val (.int d1), .val (.int d2), .val (.int d3), .val (.int d4), .val (.int d5), .val (.ref b133), .val (.int (4 : Int32)), .val (.int kx), .val (.int (0 : Int32))] []))
            have F158 : Old Z n0 h155 := ((((((((X00.ext E133).wr W136 gn133).wr W139 gn133).wr W142 gn133).wr W145 gn133).wr W148 gn133).wr W151 gn133).wr W155 gn133)
            exact jn _ _ _ b133 k133 d0 (101 : Int32) (115 : Int32) (99 : Int32) (120 : Int32) (120 : Int32) (4) _ _ X155 e155 N155 (by omega) CR157 F158 V155 ⟨rd0, (by decide), (by decide), (by decide), (by decide), (by decide)⟩ (by decide) (One.val (by rfl)) (One.val (by rfl))
          · skip
            show own_Rn p e below _ (T151.setTop (mkF m 271 #[.val (.int i0), .val (.int i1), .val (.int i2), .val (.int i3), .val (.int i4), .val (.int i5), .val (.int md), .val (.int d0), .val (.int d1), .val (.int d2), .val (.int d3), .val (.int d4), .val (.int d5), .val (.ref b133), .val (.int (4 : Int32)), .val (.int kx), .unset] [(.int (1 : Int32))]))
            refine own_go (fun tq kq => XS.istore X151.here hx rfl (hb hby at_271) rfl (l' := #[.val (.int i0), .val (.int i1), .val (.int i2), .val (.int i3), .val (.int i4), .val (.int i5), .val (.int md), .val (.int d0), .val (.int d1), .val (.int d2), .val (.int d3), .val (.int d4), .val (.int d5), .val (.ref b133), .val (.int (4 : Int32)), .val (.int kx), .val (.int (1 : Int32))]) rfl kq) ?_
            show own_Rn p e below _ (T151.setTop (mkF m 273 #[.val (.int i0), .val (.int i1), .val (.int i2), .val (.int i3), .val (.int i4), .val (.int i5), .val (.int md), .val (.int d0), .val (.int d1), .val (.int d2), .val (.int d3), .val (.int d4), .val (.int d5), .val (.ref b133), .val (.int (4 : Int32)), .val (.int kx), .val (.int (1 : Int32))] []))
            refine own_go (fun tq kq => XS.aload X151.here hx rfl (hb hby at_273) rfl rfl kq) ?_
            show own_Rn p e below _ (T151.setTop (mkF m 275 #[.val (.int i0), .val (.int i1), .val (.int i2), .val (.int i3), .val (.int i4), .val (.int i5), .val (.int md), .val (.int d0), .val (.int d1), .val (.int d2), .val (.int d3), .val (.int d4), .val (.int d5), .val (.ref b133), .val (.int (4 : Int32)), .val (.int kx), .val (.int (1 : Int32))] [(.ref b133)]))
            refine own_go (fun tq kq => XS.iload X151.here hx rfl (hb hby at_275) rfl kq) ?_
            show own_Rn p e below _ (T151.setTop (mkF m 277 #[.val (.int i0), .val (.int i1), .val (.int i2), .val (.int i3), .val (.int i4), .val (.int i5), .val (.int md), .val (.int d0), .val (.int d1), .val (.int d2), .val (.int d3), .val (.int d4), .val (.int d5), .val (.ref b133), .val (.int (4 : Int32)), .val (.int kx), .val (.int (1 : Int32))] [(.int (1 : Int32)), (.ref b133)]))
            refine own_go (fun tq kq => XS.iload X151.here hx rfl (hb hby at_277) rfl kq) ?_
            show own_Rn p e below _ (T151.setTop (mkF m 279 #[.val (.int i0), .val (.int i1), .val (.int i2), .val (.int i3), .val (.int i4), .val (.int i5), .val (.int md), .val (.int d0), .val (.int d1), .val (.int d2), .val (.int d3), .val (.int d4), .val (.int d5), .val (.ref b133), .val (.int (4 : Int32)), .val (.int kx), .val (.int (1 : Int32))] [(.int d0), (.int (1 : Int32)), (.ref b133)]))
            obtain ⟨cl159, Ar159, q159, Sz159, Nn159, Hs159, G159⟩ := id V151
            obtain ⟨T159, h159, X159, e159, W159, st159⟩ := stC X151 hx hZ e151 Ar159 (j := (1 : Int32)) (inb_of Sz159 ⟨by decide, by decide⟩) (g := (mkF m 279 #[.val (.int i0), .val (.int i1), .val (.int i2), .val (.int i3), .val (.int i4), .val (.int i5), .val (.int md), .val (.int d0), .val (.int d1), .val (.int d2), .val (.int d3), .val (.int d4), .val (.int d5), .val (.ref b133), .val (.int (4 : Int32)), .val (.int kx), .val (.int (1 : Int32))] [(.int d0), (.int (1 : Int32)), (.ref b133)])) rfl rfl (hb hby at_279)
            rw [nd0] at W159
            refine own_go st159 ?_
            have V159 : Arv Z h159 b133 k133 .char (6 : Int32) [(.int (100 : Int32)), (.int d0), (.int (115 : Int32)), (.int (99 : Int32)), (.int (120 : Int32)), (.int (120 : Int32))] (.int (0 : Int32)) := Arv.set Ar159 q159 Sz159 Nn159 Hs159 G159 (by rw [← nd0]; exact fits_nar_char _) W159 1 rfl (Nat.le_of_ble_eq_true rfl)
            have N159 := Fr.snoc X159 N151 gn133
            have sf160 : Safe Z consts_1 s.vm h151 b133 := Safe.arv hZ.alike V151 (by decide)
            have sz161 : h151.size ≤ h159.size := Nat.le_of_eq (Wr.size W159).symm
            have cr161 : CHr Z consts_1 s.vm h151 s.vm h159 := CHr.wr W159 sf160 CR153.1
            have CR161 := CR153.trans cr161
            show own_Rn p e below _ (T159.setTop (mkF m 280 #[.val (.int i0), .val (.int i1), .val (.int i2), .val (.int i3), .val (.int i4), .val (.int i5), .val (.int md), .val (.int d0), .val (.int d1), .val (.int d2), .val (.int d3), .val (.int d4), .val (.int d5), .val (.ref b133), .val (.int (4 : Int32)), .val (.int kx), .val (.int (1 : Int32))] []))
            refine own_go (fun tq kq => XS.goto X159.here hx rfl (pc0 := 280) (pc' := 317) rfl (hb hby at_280) (by decide) (by decide) kq) ?_
            show own_Rn p e below _ (T159.setTop (mkF m 317 #[.val (.int i0), .val (.int i1), .val (.int i2), .val (.int i3), .val (.int i4), .val (.int i5), .val (.int md), .val (.int d0), .val (.int d1), .val (.int d2), .val (.int d3), .val (.int d4), .val (.int d5), .val (.ref b133), .val (.int (4 : Int32)), .val (.int kx), .val (.int (1 : Int32))] []))
            have F162 : Old Z n0 h159 := ((((((((X00.ext E133).wr W136 gn133).wr W139 gn133).wr W142 gn133).wr W145 gn133).wr W148 gn133).wr W151 gn133).wr W159 gn133)
            exact jn _ _ _ b133 k133 (100 : Int32) d0 (115 : Int32) (99 : Int32) (120 : Int32) (120 : Int32) (4) _ _ X159 e159 N159 (by omega) CR161 F162 V159 ⟨(by decide), rd0, (by decide), (by decide), (by decide), (by decide)⟩ (by decide) (One.val (by rfl)) (One.val (by rfl))
          · skip
            show own_Rn p e below _ (T151.setTop (mkF m 271 #[.val (.int i0), .val (.int i1), .val (.int i2), .val (.int i3), .val (.int i4), .val (.int i5), .val (.int md), .val (.int d0), .val (.int d1), .val (.int d2), .val (.int d3), .val (.int d4), .val (.int d5), .val (.ref b133), .val (.int (4 : Int32)), .val (.int kx), .unset] [(.int (2 : Int32))]))
            refine own_go (fun tq kq => XS.istore X151.here hx rfl (hb hby at_271) rfl (l' := #[.val (.int i0), .val (.int i1), .val (.int i2), .val (.int i3), .val (.int i4), .val (.int i5), .val (.int md), .val (.int d0), .val (.int d1), .val (.int d2), .val (.int d3), .val (.int d4), .val (.int d5), .val (.ref b133), .val (.int (4 : Int32)), .val (.int kx), .val (.int (2 : Int32))]) rfl kq) ?_
            show own_Rn p e below _ (T151.setTop (mkF m 273 #[.val (.int i0), .val (.int i1), .val (.int i2), .val (.int i3), .val (.int i4), .val (.int i5), .val (.int md), .val (.int d0), .val (.int d1), .val (.int d2), .val (.int d3), .val (.int d4), .val (.int d5), .val (.ref b133), .val (.int (4 : Int32)), .val (.int kx), .val (.int (2 : Int32))] []))
            refine own_go (fun tq kq => XS.aload X151.here hx rfl (hb hby at_273) rfl rfl kq) ?_
            show own_Rn p e below _ (T151.setTop (mkF m 275 #[.val (.int i0), .val (.int i1), .val (.int i2), .val (.int i3), .val (.int i4), .val (.int i5), .val (.int md), .val (.int d0), .val (.int d1), .val (.int d2), .val (.int d3), .val (.int d4), .val (.int d5), .val (.ref b133), .val (.int (4 : Int32)), .val (.int kx), .val (.int (2 : Int32))] [(.ref b133)]))
            refine own_go (fun tq kq => XS.iload X151.here hx rfl (hb hby at_275) rfl kq) ?_
            show own_Rn p e below _ (T151.setTop (mkF m 277 #[.val (.int i0), .val (.int i1), .val (.int i2), .val (.int i3), .val (.int i4), .val (.int i5), .val (.int md), .val (.int d0), .val (.int d1), .val (.int d2), .val (.int d3), .val (.int d4), .val (.int d5), .val (.ref b133), .val (.int (4 : Int32)), .val (.int kx), .val (.int (2 : Int32))] [(.int (2 : Int32)), (.ref b133)]))
            refine own_go (fun tq kq => XS.iload X151.here hx rfl (hb hby at_277) rfl kq) ?_
            show own_Rn p e below _ (T151.setTop (mkF m 279 #[.val (.int i0), .val (.int i1), .val (.int i2), .val (.int i3), .val (.int i4), .val (.int i5), .val (.int md), .val (.int d0), .val (.int d1), .val (.int d2), .val (.int d3), .val (.int d4), .val (.int d5), .val (.ref b133), .val (.int (4 : Int32)), .val (.int kx), .val (.int (2 : Int32))] [(.int d0), (.int (2 : Int32)), (.ref b133)]))
            obtain ⟨cl163, Ar163, q163, Sz163, Nn163, Hs163, G163⟩ := id V151
            obtain ⟨T163, h163, X163, e163, W163, st163⟩ := stC X151 hx hZ e151 Ar163 (j := (2 : Int32)) (inb_of Sz163 ⟨by decide, by decide⟩) (g := (mkF m 279 #[.val (.int i0), .val (.int i1), .val (.int i2), .val (.int i3), .val (.int i4), .val (.int i5), .val (.int md), .val (.int d0), .val (.int d1), .val (.int d2), .val (.int d3), .val (.int d4), .val (.int d5), .val (.ref b133), .val (.int (4 : Int32)), .val (.int kx), .val (.int (2 : Int32))] [(.int d0), (.int (2 : Int32)), (.ref b133)])) rfl rfl (hb hby at_279)
            rw [nd0] at W163
            refine own_go st163 ?_
            have V163 : Arv Z h163 b133 k133 .char (6 : Int32) [(.int (100 : Int32)), (.int (101 : Int32)), (.int d0), (.int (99 : Int32)), (.int (120 : Int32)), (.int (120 : Int32))] (.int (0 : Int32)) := Arv.set Ar163 q163 Sz163 Nn163 Hs163 G163 (by rw [← nd0]; exact fits_nar_char _) W163 2 rfl (Nat.le_of_ble_eq_true rfl)
            have N163 := Fr.snoc X163 N151 gn133
            have sf164 : Safe Z consts_1 s.vm h151 b133 := Safe.arv hZ.alike V151 (by decide)
            have sz165 : h151.size ≤ h163.size := Nat.le_of_eq (Wr.size W163).symm
            have cr165 : CHr Z consts_1 s.vm h151 s.vm h163 := CHr.wr W163 sf164 CR153.1
            have CR165 := CR153.trans cr165
            show own_Rn p e below _ (T163.setTop (mkF m 280 #[.val (.int i0), .val (.int i1), .val (.int i2), .val (.int i3), .val (.int i4), .val (.int i5), .val (.int md), .val (.int d0), .val (.int d1), .val (.int d2), .val (.int d3), .val (.int d4), .val (.int d5), .val (.ref b133), .val (.int (4 : Int32)), .val (.int kx), .val (.int (2 : Int32))] []))
            refine own_go (fun tq kq => XS.goto X163.here hx rfl (pc0 := 280) (pc' := 317) rfl (hb hby at_280) (by decide) (by decide) kq) ?_
            show own_Rn p e below _ (T163.setTop (mkF m 317 #[.val (.int i0), .val (.int i1), .val (.int i2), .val (.int i3), .val (.int i4), .val (.int i5), .val (.int md), .val (.int d0), .val (.int d1), .val (.int d2), .val (.int d3), .val (.int d4), .val (.int d5), .val (.ref b133), .val (.int (4 : Int32)), .val (.int kx), .val (.int (2 : Int32))] []))
            have F166 : Old Z n0 h163 := ((((((((X00.ext E133).wr W136 gn133).wr W139 gn133).wr W142 gn133).wr W145 gn133).wr W148 gn133).wr W151 gn133).wr W163 gn133)
            exact jn _ _ _ b133 k133 (100 : Int32) (101 : Int32) d0 (99 : Int32) (120 : Int32) (120 : Int32) (4) _ _ X163 e163 N163 (by omega) CR165 F166 V163 ⟨(by decide), (by decide), rd0, (by decide), (by decide), (by decide)⟩ (by decide) (One.val (by rfl)) (One.val (by rfl))
          · skip
            show own_Rn p e below _ (T151.setTop (mkF m 271 #[.val (.int i0), .val (.int i1), .val (.int i2), .val (.int i3), .val (.int i4), .val (.int i5), .val (.int md), .val (.int d0), .val (.int d1), .val (.int d2), .val (.int d3), .val (.int d4), .val (.int d5), .val (.ref b133), .val (.int (4 : Int32)), .val (.int kx), .unset] [(.int (3 : Int32))]))
            refine own_go (fun tq kq => XS.istore X151.here hx rfl (hb hby at_271) rfl (l' := #[.val (.int i0), .val (.int i1), .val (.int i2), .val (.int i3), .val (.int i4), .val (.int i5), .val (.int md), .val (.int d0), .val (.int d1), .val (.int d2), .val (.int d3), .val (.int d4), .val (.int d5), .val (.ref b133), .val (.int (4 : Int32)), .val (.int kx), .val (.int (3 : Int32))]) rfl kq) ?_
            show own_Rn p e below _ (T151.setTop (mkF m 273 #[.val (.int i0), .val (.int i1), .val (.int i2), .val (.int i3), .val (.int i4), .val (.int i5), .val (.int md), .val (.int d0), .val (.int d1), .val (.int d2), .val (.int d3), .val (.int d4), .val (.int d5), .val (.ref b133), .val (.int (4 : Int32)), .val (.int kx), .val (.int (3 : Int32))] []))
            refine own_go (fun tq kq => XS.aload X151.here hx rfl (hb hby at_273) rfl rfl kq) ?_
            show own_Rn p e below _ (T151.setTop (mkF m 275 #[.val (.int i0), .val (.int i1), .val (.int i2), .val (.int i3), .val (.int i4), .val (.int i5), .val (.int md), .val (.int d0), .val (.int d1), .val (.int d2), .val (.int d3), .val (.int d4), .val (.int d5), .val (.ref b133), .val (.int (4 : Int32)), .val (.int kx), .val (.int (3 : Int32))] [(.ref b133)]))
            refine own_go (fun tq kq => XS.iload X151.here hx rfl (hb hby at_275) rfl kq) ?_
            show own_Rn p e below _ (T151.setTop (mkF m 277 #[.val (.int i0), .val (.int i1), .val (.int i2), .val (.int i3), .val (.int i4), .val (.int i5), .val (.int md), .val (.int d0), .val (.int d1), .val (.int d2), .val (.int d3), .val (.int d4), .val (.int d5), .val (.ref b133), .val (.int (4 : Int32)), .val (.int kx), .val (.int (3 : Int32))] [(.int (3 : Int32)), (.ref b133)]))
            refine own_go (fun tq kq => XS.iload X151.here hx rfl (hb hby at_277) rfl kq) ?_
            show own_Rn p e below _ (T151.setTop (mkF m 279 #[.val (.int i0), .val (.int i1), .val (.int i2), .val (.int i3), .val (.int i4), .val (.int i5), .val (.int md), .val (.int d0), .val (.int d1), .val (.int d2), .val (.int d3), .val (.int d4), .val (.int d5), .val (.ref b133), .val (.int (4 : Int32)), .val (.int kx), .val (.int (3 : Int32))] [(.int d0), (.int (3 : Int32)), (.ref b133)]))
            obtain ⟨cl167, Ar167, q167, Sz167, Nn167, Hs167, G167⟩ := id V151
            obtain ⟨T167, h167, X167, e167, W167, st167⟩ := stC X151 hx hZ e151 Ar167 (j := (3 : Int32)) (inb_of Sz167 ⟨by decide, by decide⟩) (g := (mkF m 279 #[.val (.int i0), .val (.int i1), .val (.int i2), .val (.int i3), .val (.int i4), .val (.int i5), .val (.int md), .val (.int d0), .val (.int d1), .val (.int d2), .val (.int d3), .val (.int d4), .val (.int d5), .val (.ref b133), .val (.int (4 : Int32)), .val (.int kx), .val (.int (3 : Int32))] [(.int d0), (.int (3 : Int32)), (.ref b133)])) rfl rfl (hb hby at_279)
            rw [nd0] at W167
            refine own_go st167 ?_
            have V167 : Arv Z h167 b133 k133 .char (6 : Int32) [(.int (100 : Int32)), (.int (101 : Int32)), (.int (115 : Int32)), (.int d0), (.int (120 : Int32)), (.int (120 : Int32))] (.int (0 : Int32)) := Arv.set Ar167 q167 Sz167 Nn167 Hs167 G167 (by rw [← nd0]; exact fits_nar_char _) W167 3 rfl (Nat.le_of_ble_eq_true rfl)
            have N167 := Fr.snoc X167 N151 gn133
            have sf168 : Safe Z consts_1 s.vm h151 b133 := Safe.arv hZ.alike V151 (by decide)
            have sz169 : h151.size ≤ h167.size := Nat.le_of_eq (Wr.size W167).symm
            have cr169 : CHr Z consts_1 s.vm h151 s.vm h167 := CHr.wr W167 sf168 CR153.1
            have CR169 := CR153.trans cr169
            show own_Rn p e below _ (T167.setTop (mkF m 280 #[.val (.int i0), .val (.int i1), .val (.int i2), .val (.int i3), .val (.int i4), .val (.int i5), .val (.int md), .val (.int d0), .val (.int d1), .val (.int d2), .val (.int d3), .val (.int d4), .val (.int d5), .val (.ref b133), .val (.int (4 : Int32)), .val (.int kx), .val (.int (3 : Int32))] []))
            refine own_go (fun tq kq => XS.goto X167.here hx rfl (pc0 := 280) (pc' := 317) rfl (hb hby at_280) (by decide) (by decide) kq) ?_
            show own_Rn p e below _ (T167.setTop (mkF m 317 #[.val (.int i0), .val (.int i1), .val (.int i2), .val (.int i3), .val (.int i4), .val (.int i5), .val (.int md), .val (.int d0), .val (.int d1), .val (.int d2), .val (.int d3), .val (.int d4), .val (.int d5), .val (.ref b133), .val (.int (4 : Int32)), .val (.int kx), .val (.int (3 : Int32))] []))
            have F170 : Old Z n0 h167 := ((((((((X00.ext E133).wr W136 gn133).wr W139 gn133).wr W142 gn133).wr W145 gn133).wr W148 gn133).wr W151 gn133).wr W167 gn133)
            exact jn _ _ _ b133 k133 (100 : Int32) (101 : Int32) (115 : Int32) d0 (120 : Int32) (120 : Int32) (4) _ _ X167 e167 N167 (by omega) CR169 F170 V167 ⟨(by decide), (by decide), (by decide), rd0, (by decide), (by decide)⟩ (by decide) (One.val (by rfl)) (One.val (by rfl))
        · skip
          refine own_go (fun tq kq => XS.icmpYes X151.here hx rfl (pc0 := 261) (pc' := 283) rfl (hb hby at_261) rfl (feq (hc154 : ¬ (kx = (1 : Int32)))).2 (by decide) (by decide) kq) ?_
          show own_Rn p e below _ (T151.setTop (mkF m 283 #[.val (.int i0), .val (.int i1), .val (.int i2), .val (.int i3), .val (.int i4), .val (.int i5), .val (.int md), .val (.int d0), .val (.int d1), .val (.int d2), .val (.int d3), .val (.int d4), .val (.int d5), .val (.ref b133), .val (.int (4 : Int32)), .val (.int kx), .unset] []))
          refine own_go (fun tq kq => XS.iload X151.here hx rfl (hb hby at_283) rfl kq) ?_
          show own_Rn p e below _ (T151.setTop (mkF m 285 #[.val (.int i0), .val (.int i1), .val (.int i2), .val (.int i3), .val (.int i4), .val (.int i5), .val (.int md), .val (.int d0), .val (.int d1), .val (.int d2), .val (.int d3), .val (.int d4), .val (.int d5), .val (.ref b133), .val (.int (4 : Int32)), .val (.int kx), .unset] [(.int kx)]))
          refine own_go (fun tq kq => XS.iconst X151.here hx rfl (hb hby at_285) kq) ?_
          show own_Rn p e below _ (T151.setTop (mkF m 286 #[.val (.int i0), .val (.int i1), .val (.int i2), .val (.int i3), .val (.int i4), .val (.int i5), .val (.int md), .val (.int d0), .val (.int d1), .val (.int d2), .val (.int d3), .val (.int d4), .val (.int d5), .val (.ref b133), .val (.int (4 : Int32)), .val (.int kx), .unset] [(.int (2 : Int32)), (.int kx)]))
          by_cases hc171 : kx = (2 : Int32)
          · skip
            refine own_go (fun tq kq => XS.icmpNo X151.here hx rfl (hb hby at_286) rfl (teq (hc171 : kx = (2 : Int32))).2 kq) ?_
            show own_Rn p e below _ (T151.setTop (mkF m 289 #[.val (.int i0), .val (.int i1), .val (.int i2), .val (.int i3), .val (.int i4), .val (.int i5), .val (.int md), .val (.int d0), .val (.int d1), .val (.int d2), .val (.int d3), .val (.int d4), .val (.int d5), .val (.ref b133), .val (.int (4 : Int32)), .val (.int kx), .unset] []))
            refine own_go (fun tq kq => XS.iload X151.here hx rfl (hb hby at_289) rfl kq) ?_
            show own_Rn p e below _ (T151.setTop (mkF m 291 #[.val (.int i0), .val (.int i1), .val (.int i2), .val (.int i3), .val (.int i4), .val (.int i5), .val (.int md), .val (.int d0), .val (.int d1), .val (.int d2), .val (.int d3), .val (.int d4), .val (.int d5), .val (.ref b133), .val (.int (4 : Int32)), .val (.int kx), .unset] [(.int (4 : Int32))]))
            refine own_go (fun tq kq => XS.iconst X151.here hx rfl (hb hby at_291) kq) ?_
            show own_Rn p e below _ (T151.setTop (mkF m 292 #[.val (.int i0), .val (.int i1), .val (.int i2), .val (.int i3), .val (.int i4), .val (.int i5), .val (.int md), .val (.int d0), .val (.int d1), .val (.int d2), .val (.int d3), .val (.int d4), .val (.int d5), .val (.ref b133), .val (.int (4 : Int32)), .val (.int kx), .unset] [(.int (1 : Int32)), (.int (4 : Int32))]))
            refine own_go (fun tq kq => XS.isub X151.here hx rfl (hb hby at_292) rfl kq) ?_
            show own_Rn p e below _ (T151.setTop (mkF m 293 #[.val (.int i0), .val (.int i1), .val (.int i2), .val (.int i3), .val (.int i4), .val (.int i5), .val (.int md), .val (.int d0), .val (.int d1), .val (.int d2), .val (.int d3), .val (.int d4), .val (.int d5), .val (.ref b133), .val (.int (4 : Int32)), .val (.int kx), .unset] [(.int ((4 : Int32) - (1 : Int32)))]))
            rw [show ((4 : Int32) - (1 : Int32)) = (3 : Int32) by decide]
            show own_Rn p e below _ (T151.setTop (mkF m 293 #[.val (.int i0), .val (.int i1), .val (.int i2), .val (.int i3), .val (.int i4), .val (.int i5), .val (.int md), .val (.int d0), .val (.int d1), .val (.int d2), .val (.int d3), .val (.int d4), .val (.int d5), .val (.ref b133), .val (.int (4 : Int32)), .val (.int kx), .unset] [(.int (3 : Int32))]))
            refine own_go (fun tq kq => XS.istore X151.here hx rfl (hb hby at_293) rfl (l' := #[.val (.int i0), .val (.int i1), .val (.int i2), .val (.int i3), .val (.int i4), .val (.int i5), .val (.int md), .val (.int d0), .val (.int d1), .val (.int d2), .val (.int d3), .val (.int d4), .val (.int d5), .val (.ref b133), .val (.int (3 : Int32)), .val (.int kx), .unset]) rfl kq) ?_
            show own_Rn p e below _ (T151.setTop (mkF m 295 #[.val (.int i0), .val (.int i1), .val (.int i2), .val (.int i3), .val (.int i4), .val (.int i5), .val (.int md), .val (.int d0), .val (.int d1), .val (.int d2), .val (.int d3), .val (.int d4), .val (.int d5), .val (.ref b133), .val (.int (3 : Int32)), .val (.int kx), .unset] []))
            refine own_go (fun tq kq => XS.goto X151.here hx rfl (pc0 := 295) (pc' := 317) rfl (hb hby at_295) (by decide) (by decide) kq) ?_
            show own_Rn p e below _ (T151.setTop (mkF m 317 #[.val (.int i0), .val (.int i1), .val (.int i2), .val (.int i3), .val (.int i4), .val (.int i5), .val (.int md), .val (.int d0), .val (.int d1), .val (.int d2), .val (.int d3), .val (.int d4), .val (.int d5), .val (.ref b133), .val (.int (3 : Int32)), .val (.int kx), .unset] []))
            have F172 : Old Z n0 h151 := (((((((X00.ext E133).wr W136 gn133).wr W139 gn133).wr W142 gn133).wr W145 gn133).wr W148 gn133).wr W151 gn133)
            exact jn _ _ _ b133 k133 (100 : Int32) (101 : Int32) (115 : Int32) (99 : Int32) (120 : Int32) (120 : Int32) (3) _ _ X151 e151 N151 (by omega) CR153 F172 V151 ⟨(by decide), (by decide), (by decide), (by decide), (by decide), (by decide)⟩ (by decide) (One.val (by rfl)) One.u
          · skip
            refine own_go (fun tq kq => XS.icmpYes X151.here hx rfl (pc0 := 286) (pc' := 298) rfl (hb hby at_286) rfl (feq (hc171 : ¬ (kx = (2 : Int32)))).2 (by decide) (by decide) kq) ?_
            show own_Rn p e below _ (T151.setTop (mkF m 298 #[.val (.int i0), .val (.int i1), .val (.int i2), .val (.int i3), .val (.int i4), .val (.int i5), .val (.int md), .val (.int d0), .val (.int d1), .val (.int d2), .val (.int d3), .val (.int d4), .val (.int d5), .val (.ref b133), .val (.int (4 : Int32)), .val (.int kx), .unset] []))
            refine own_go (fun tq kq => XS.iload X151.here hx rfl (hb hby at_298) rfl kq) ?_
            show own_Rn p e below _ (T151.setTop (mkF m 300 #[.val (.int i0), .val (.int i1), .val (.int i2), .val (.int i3), .val (.int i4), .val (.int i5), .val (.int md), .val (.int d0), .val (.int d1), .val (.int d2), .val (.int d3), .val (.int d4), .val (.int d5), .val (.ref b133), .val (.int (4 : Int32)), .val (.int kx), .unset] [(.int kx)]))
            refine own_go (fun tq kq => XS.iconst X151.here hx rfl (hb hby at_300) kq) ?_
            show own_Rn p e below _ (T151.setTop (mkF m 301 #[.val (.int i0), .val (.int i1), .val (.int i2), .val (.int i3), .val (.int i4), .val (.int i5), .val (.int md), .val (.int d0), .val (.int d1), .val (.int d2), .val (.int d3), .val (.int d4), .val (.int d5), .val (.ref b133), .val (.int (4 : Int32)), .val (.int kx), .unset] [(.int (3 : Int32)), (.int kx)]))
            by_cases hc173 : kx = (3 : Int32)
            · skip
              refine own_go (fun tq kq => XS.icmpNo X151.here hx rfl (hb hby at_301) rfl (teq (hc173 : kx = (3 : Int32))).2 kq) ?_
              show own_Rn p e below _ (T151.setTop (mkF m 304 #[.val (.int i0), .val (.int i1), .val (.int i2), .val (.int i3), .val (.int i4), .val (.int i5), .val (.int md), .val (.int d0), .val (.int d1), .val (.int d2), .val (.int d3), .val (.int d4), .val (.int d5), .val (.ref b133), .val (.int (4 : Int32)), .val (.int kx), .unset] []))
              refine own_go (fun tq kq => XS.aload X151.here hx rfl (hb hby at_304) rfl rfl kq) ?_
              show own_Rn p e below _ (T151.setTop (mkF m 306 #[.val (.int i0), .val (.int i1), .val (.int i2), .val (.int i3), .val (.int i4), .val (.int i5), .val (.int md), .val (.int d0), .val (.int d1), .val (.int d2), .val (.int d3), .val (.int d4), .val (.int d5), .val (.ref b133), .val (.int (4 : Int32)), .val (.int kx), .unset] [(.ref b133)]))
              refine own_go (fun tq kq => XS.iload X151.here hx rfl (hb hby at_306) rfl kq) ?_
              show own_Rn p e below _ (T151.setTop (mkF m 308 #[.val (.int i0), .val (.int i1), .val (.int i2), .val (.int i3), .val (.int i4), .val (.int i5), .val (.int md), .val (.int d0), .val (.int d1), .val (.int d2), .val (.int d3), .val (.int d4), .val (.int d5), .val (.ref b133), .val (.int (4 : Int32)), .val (.int kx), .unset] [(.int (4 : Int32)), (.ref b133)]))
              refine own_go (fun tq kq => XS.iload X151.here hx rfl (hb hby at_308) rfl kq) ?_
              show own_Rn p e below _ (T151.setTop (mkF m 310 #[.val (.int i0), .val (.int i1), .val (.int i2), .val (.int i3), .val (.int i4), .val (.int i5), .val (.int md), .val (.int d0), .val (.int d1), .val (.int d2), .val (.int d3), .val (.int d4), .val (.int d5), .val (.ref b133), .val (.int (4 : Int32)), .val (.int kx), .unset] [(.int d0), (.int (4 : Int32)), (.ref b133)]))
              obtain ⟨cl174, Ar174, q174, Sz174, Nn174, Hs174, G174⟩ := id V151
              obtain ⟨T174, h174, X174, e174, W174, st174⟩ := stC X151 hx hZ e151 Ar174 (j := (4 : Int32)) (inb_of Sz174 ⟨by decide, by decide⟩) (g := (mkF m 310 #[.val (.int i0), .val (.int i1), .val (.int i2), .val (.int i3), .val (.int i4), .val (.int i5), .val (.int md), .val (.int d0), .val (.int d1), .val (.int d2), .val (.int d3), .val (.int d4), .val (.int d5), .val (.ref b133), .val (.int (4 : Int32)), .val (.int kx), .unset] [(.int d0), (.int (4 : Int32)), (.ref b133)])) rfl rfl (hb hby at_310)
              rw [nd0] at W174
              refine own_go st174 ?_
              have V174 : Arv Z h174 b133 k133 .char (6 : Int32) [(.int (100 : Int32)), (.int (101 : Int32)), (.int (115 : Int32)), (.int (99 : Int32)), (.int d0), (.int (120 : Int32))] (.int (0 : Int32)) := Arv.set Ar174 q174 Sz174 Nn174 Hs174 G174 (by rw [← nd0]; exact fits_nar_char _) W174 4 rfl (Nat.le_of_ble_eq_true rfl)
              have N174 := Fr.snoc X174 N151 gn133
              have sf175 : Safe Z consts_1 s.vm h151 b133 := Safe.arv hZ.alike V151 (by decide)
              have sz176 : h151.size ≤ h174.size := Nat.le_of_eq (Wr.size W174).symm
              have cr176 : CHr Z consts_1 s.vm h151 s.vm h174 := CHr.wr W174 sf175 CR153.1
              have CR176 := CR153.trans cr176
              show own_Rn p e below _ (T174.setTop (mkF m 311 #[.val (.int i0), .val (.int i1), .val (.int i2), .val (.int i3), .val (.int i4), .val (.int i5), .val (.int md), .val (.int d0), .val (.int d1), .val (.int d2), .val (.int d3), .val (.int d4), .val (.int d5), .val (.ref b133), .val (.int (4 : Int32)), .val (.int kx), .unset] []))
              refine own_go (fun tq kq => XS.iload X174.here hx rfl (hb hby at_311) rfl kq) ?_
              show own_Rn p e below _ (T174.setTop (mkF m 313 #[.val (.int i0), .val (.int i1), .val (.int i2), .val (.int i3), .val (.int i4), .val (.int i5), .val (.int md), .val (.int d0), .val (.int d1), .val (.int d2), .val (.int d3), .val (.int d4), .val (.int d5), .val (.ref b133), .val (.int (4 : Int32)), .val (.int kx), .unset] [(.int (4 : Int32))]))
              refine own_go (fun tq kq => XS.iconst X174.here hx rfl (hb hby at_313) kq) ?_
              show own_Rn p e below _ (T174.setTop (mkF m 314 #[.val (.int i0), .val (.int i1), .val (.int i2), .val (.int i3), .val (.int i4), .val (.int i5), .val (.int md), .val (.int d0), .val (.int d1), .val (.int d2), .val (.int d3), .val (.int d4), .val (.int d5), .val (.ref b133), .val (.int (4 : Int32)), .val (.int kx), .unset] [(.int (1 : Int32)), (.int (4 : Int32))]))
              refine own_go (fun tq kq => XS.iadd X174.here hx rfl (hb hby at_314) rfl kq) ?_
              show own_Rn p e below _ (T174.setTop (mkF m 315 #[.val (.int i0), .val (.int i1), .val (.int i2), .val (.int i3), .val (.int i4), .val (.int i5), .val (.int md), .val (.int d0), .val (.int d1), .val (.int d2), .val (.int d3), .val (.int d4), .val (.int d5), .val (.ref b133), .val (.int (4 : Int32)), .val (.int kx), .unset] [(.int ((4 : Int32) + (1 : Int32)))]))
              rw [show ((4 : Int32) + (1 : Int32)) = (5 : Int32) by decide]
              show own_Rn p e below _ (T174.setTop (mkF m 315 #[.val (.int i0), .val (.int i1), .val (.int i2), .val (.int i3), .val (.int i4), .val (.int i5), .val (.int md), .val (.int d0), .val (.int d1), .val (.int d2), .val (.int d3), .val (.int d4), .val (.int d5), .val (.ref b133), .val (.int (4 : Int32)), .val (.int kx), .unset] [(.int (5 : Int32))]))
              refine own_go (fun tq kq => XS.istore X174.here hx rfl (hb hby at_315) rfl (l' := #[.val (.int i0), .val (.int i1), .val (.int i2), .val (.int i3), .val (.int i4), .val (.int i5), .val (.int md), .val (.int d0), .val (.int d1), .val (.int d2), .val (.int d3), .val (.int d4), .val (.int d5), .val (.ref b133), .val (.int (5 : Int32)), .val (.int kx), .unset]) rfl kq) ?_
              show own_Rn p e below _ (T174.setTop (mkF m 317 #[.val (.int i0), .val (.int i1), .val (.int i2), .val (.int i3), .val (.int i4), .val (.int i5), .val (.int md), .val (.int d0), .val (.int d1), .val (.int d2), .val (.int d3), .val (.int d4), .val (.int d5), .val (.ref b133), .val (.int (5 : Int32)), .val (.int kx), .unset] []))
              have F177 : Old Z n0 h174 := ((((((((X00.ext E133).wr W136 gn133).wr W139 gn133).wr W142 gn133).wr W145 gn133).wr W148 gn133).wr W151 gn133).wr W174 gn133)
              exact jn _ _ _ b133 k133 (100 : Int32) (101 : Int32) (115 : Int32) (99 : Int32) d0 (120 : Int32) (5) _ _ X174 e174 N174 (by omega) CR176 F177 V174 ⟨(by decide), (by decide), (by decide), (by decide), rd0, (by decide)⟩ (by decide) (One.val (by rfl)) One.u
            · skip
              refine own_go (fun tq kq => XS.icmpYes X151.here hx rfl (pc0 := 301) (pc' := 317) rfl (hb hby at_301) rfl (feq (hc173 : ¬ (kx = (3 : Int32)))).2 (by decide) (by decide) kq) ?_
              show own_Rn p e below _ (T151.setTop (mkF m 317 #[.val (.int i0), .val (.int i1), .val (.int i2), .val (.int i3), .val (.int i4), .val (.int i5), .val (.int md), .val (.int d0), .val (.int d1), .val (.int d2), .val (.int d3), .val (.int d4), .val (.int d5), .val (.ref b133), .val (.int (4 : Int32)), .val (.int kx), .unset] []))
              have F178 : Old Z n0 h151 := (((((((X00.ext E133).wr W136 gn133).wr W139 gn133).wr W142 gn133).wr W145 gn133).wr W148 gn133).wr W151 gn133)
              exact jn _ _ _ b133 k133 (100 : Int32) (101 : Int32) (115 : Int32) (99 : Int32) (120 : Int32) (120 : Int32) (4) _ _ X151 e151 N151 (by omega) CR153 F178 V151 ⟨(by decide), (by decide), (by decide), (by decide), (by decide), (by decide)⟩ (by decide) (One.val (by rfl)) One.u
      · skip
        refine own_go (fun tq kq => XS.icmpYes X0.here hx rfl (pc0 := 169) (pc' := 214) rfl (hb hby at_169) rfl (feq (hc131 : ¬ (md = (2 : Int32)))).2 (by decide) (by decide) kq) ?_
        show own_Rn p e below _ (s₁.setTop (mkF m 214 #[.val (.int i0), .val (.int i1), .val (.int i2), .val (.int i3), .val (.int i4), .val (.int i5), .val (.int md), .val (.int d0), .val (.int d1), .val (.int d2), .val (.int d3), .val (.int d4), .val (.int d5), .unset, .unset, .unset, .unset] []))
        refine own_go (fun tq kq => XS.bipush X0.here hx rfl (hb hby at_214) kq) ?_
        show own_Rn p e below _ (s₁.setTop (mkF m 216 #[.val (.int i0), .val (.int i1), .val (.int i2), .val (.int i3), .val (.int i4), .val (.int i5), .val (.int md), .val (.int d0), .val (.int d1), .val (.int d2), .val (.int d3), .val (.int d4), .val (.int d5), .unset, .unset, .unset, .unset] [(.int (6 : Int32))]))
        obtain ⟨T180, h180, k180, X180, e180, E180, A180, st180⟩ := newP X0 hx hZ (hw _ (own_mi 0 rfl)) e0 (g := (mkF m 216 #[.val (.int i0), .val (.int i1), .val (.int i2), .val (.int i3), .val (.int i4), .val (.int i5), .val (.int md), .val (.int d0), .val (.int d1), .val (.int d2), .val (.int d3), .val (.int d4), .val (.int d5), .unset, .unset, .unset, .unset] [(.int (6 : Int32))])) rfl (hb hby at_216) rfl (by decide) (cap := 6) (by decide) (by decide) (by decide) (by decide)
        obtain ⟨b180, g180⟩ : ∃ z, z = h0.size := ⟨_, rfl⟩
        rw [← g180] at A180 st180
        refine own_go st180 ?_
        have sz181 : h0.size ≤ h180.size := E180.1
        have cr181 : CHr Z consts_1 s.vm h0 s.vm h180 := CHr.ext E180 CR0.1
        have CR181 := CR0.trans cr181
        have gn180 : n0 ≤ b180 := by omega
        have V180 : Arv Z h180 b180 k180 .char (6 : Int32) [(.int (0 : Int32)), (.int (0 : Int32)), (.int (0 : Int32)), (.int (0 : Int32)), (.int (0 : Int32)), (.int (0 : Int32))] (.int (0 : Int32)) := (Arv.new A180 (by decide)).pad (pad_rep [] _ 6)
        have lt182 : @LT.lt Nat _ b180 h180.size := V180.lt
        show own_Rn p e below _ (T180.setTop (mkF m 218 #[.val (.int i0), .val (.int i1), .val (.int i2), .val (.int i3), .val (.int i4), .val (.int i5), .val (.int md), .val (.int d0), .val (.int d1), .val (.int d2), .val (.int d3), .val (.int d4), .val (.int d5), .unset, .unset, .unset, .unset] [(.ref b180)]))
        refine own_go (fun tq kq => XS.dup X180.here hx rfl (hb hby at_218) rfl rfl kq) ?_
        show own_Rn p e below _ (T180.setTop (mkF m 219 #[.val (.int i0), .val (.int i1), .val (.int i2), .val (.int i3), .val (.int i4), .val (.int i5), .val (.int md), .val (.int d0), .val (.int d1), .val (.int d2), .val (.int d3), .val (.int d4), .val (.int d5), .unset, .unset, .unset, .unset] [(.ref b180), (.ref b180)]))
        refine own_go (fun tq kq => XS.iconst X180.here hx rfl (hb hby at_219) kq) ?_
        show own_Rn p e below _ (T180.setTop (mkF m 220 #[.val (.int i0), .val (.int i1), .val (.int i2), .val (.int i3), .val (.int i4), .val (.int i5), .val (.int md), .val (.int d0), .val (.int d1), .val (.int d2), .val (.int d3), .val (.int d4), .val (.int d5), .unset, .unset, .unset, .unset] [(.int (0 : Int32)), (.ref b180), (.ref b180)]))
        refine own_go (fun tq kq => XS.bipush X180.here hx rfl (hb hby at_220) kq) ?_
        show own_Rn p e below _ (T180.setTop (mkF m 222 #[.val (.int i0), .val (.int i1), .val (.int i2), .val (.int i3), .val (.int i4), .val (.int i5), .val (.int md), .val (.int d0), .val (.int d1), .val (.int d2), .val (.int d3), .val (.int d4), .val (.int d5), .unset, .unset, .unset, .unset] [(.int (110 : Int32)), (.int (0 : Int32)), (.ref b180), (.ref b180)]))
        obtain ⟨cl183, Ar183, q183, Sz183, Nn183, Hs183, G183⟩ := id V180
        obtain ⟨T183, h183, X183, e183, W183, st183⟩ := stC X180 hx hZ e180 Ar183 (j := (0 : Int32)) (inb_of Sz183 ⟨by decide, by decide⟩) (g := (mkF m 222 #[.val (.int i0), .val (.int i1), .val (.int i2), .val (.int i3), .val (.int i4), .val (.int i5), .val (.int md), .val (.int d0), .val (.int d1), .val (.int d2), .val (.int d3), .val (.int d4), .val (.int d5), .unset, .unset, .unset, .unset] [(.int (110 : Int32)), (.int (0 : Int32)), (.ref b180), (.ref b180)])) rfl rfl (hb hby at_222)
        refine own_go st183 ?_
        have V183 : Arv Z h183 b180 k180 .char (6 : Int32) [(.int (110 : Int32)), (.int (0 : Int32)), (.int (0 : Int32)), (.int (0 : Int32)), (.int (0 : Int32)), (.int (0 : Int32))] (.int (0 : Int32)) := Arv.set Ar183 q183 Sz183 Nn183 Hs183 G183 rfl W183 0 rfl (Nat.le_of_ble_eq_true rfl)
        have N183 := Fr.snoc X183 N0 gn180
        have sf184 : Safe Z consts_1 s.vm h180 b180 := Safe.arv hZ.alike V180 (by decide)
        have sz185 : h180.size ≤ h183.size := Nat.le_of_eq (Wr.size W183).symm
        have cr185 : CHr Z consts_1 s.vm h180 s.vm h183 := CHr.wr W183 sf184 CR181.1
        have CR185 := CR181.trans cr185
        show own_Rn p e below _ (T183.setTop (mkF m 223 #[.val (.int i0), .val (.int i1), .val (.int i2), .val (.int i3), .val (.int i4), .val (.int i5), .val (.int md), .val (.int d0), .val (.int d1), .val (.int d2), .val (.int d3), .val (.int d4), .val (.int d5), .unset, .unset, .unset, .unset] [(.ref b180)]))
        refine own_go (fun tq kq => XS.dup X183.here hx rfl (hb hby at_223) rfl rfl kq) ?_
        show own_Rn p e below _ (T183.setTop (mkF m 224 #[.val (.int i0), .val (.int i1), .val (.int i2), .val (.int i3), .val (.int i4), .val (.int i5), .val (.int md), .val (.int d0), .val (.int d1), .val (.int d2), .val (.int d3), .val (.int d4), .val (.int d5), .unset, .unset, .unset, .unset] [(.ref b180), (.ref b180)]))
        refine own_go (fun tq kq => XS.iconst X183.here hx rfl (hb hby at_224) kq) ?_
        show own_Rn p e below _ (T183.setTop (mkF m 225 #[.val (.int i0), .val (.int i1), .val (.int i2), .val (.int i3), .val (.int i4), .val (.int i5), .val (.int md), .val (.int d0), .val (.int d1), .val (.int d2), .val (.int d3), .val (.int d4), .val (.int d5), .unset, .unset, .unset, .unset] [(.int (1 : Int32)), (.ref b180), (.ref b180)]))
        refine own_go (fun tq kq => XS.bipush X183.here hx rfl (hb hby at_225) kq) ?_
        show own_Rn p e below _ (T183.setTop (mkF m 227 #[.val (.int i0), .val (.int i1), .val (.int i2), .val (.int i3), .val (.int i4), .val (.int i5), .val (.int md), .val (.int d0), .val (.int d1), .val (.int d2), .val (.int d3), .val (.int d4), .val (.int d5), .unset, .unset, .unset, .unset] [(.int (97 : Int32)), (.int (1 : Int32)), (.ref b180), (.ref b180)]))
        obtain ⟨cl186, Ar186, q186, Sz186, Nn186, Hs186, G186⟩ := id V183
        obtain ⟨T186, h186, X186, e186, W186, st186⟩ := stC X183 hx hZ e183 Ar186 (j := (1 : Int32)) (inb_of Sz186 ⟨by decide, by decide⟩) (g := (mkF m 227 #[.val (.int i0), .val (.int i1), .val (.int i2), .val (.int i3), .val (.int i4), .val (.int i5), .val (.int md), .val (.int d0), .val (.int d1), .val (.int d2), .val (.int d3), .val (.int d4), .val (.int d5), .unset, .unset, .unset, .unset] [(.int (97 : Int32)), (.int (1 : Int32)), (.ref b180), (.ref b180)])) rfl rfl (hb hby at_227)
        refine own_go st186 ?_
        have V186 : Arv Z h186 b180 k180 .char (6 : Int32) [(.int (110 : Int32)), (.int (97 : Int32)), (.int (0 : Int32)), (.int (0 : Int32)), (.int (0 : Int32)), (.int (0 : Int32))] (.int (0 : Int32)) := Arv.set Ar186 q186 Sz186 Nn186 Hs186 G186 rfl W186 1 rfl (Nat.le_of_ble_eq_true rfl)
        have N186 := Fr.snoc X186 N183 gn180
        have sf187 : Safe Z consts_1 s.vm h183 b180 := Safe.arv hZ.alike V183 (by decide)
        have sz188 : h183.size ≤ h186.size := Nat.le_of_eq (Wr.size W186).symm
        have cr188 : CHr Z consts_1 s.vm h183 s.vm h186 := CHr.wr W186 sf187 CR185.1
        have CR188 := CR185.trans cr188
        show own_Rn p e below _ (T186.setTop (mkF m 228 #[.val (.int i0), .val (.int i1), .val (.int i2), .val (.int i3), .val (.int i4), .val (.int i5), .val (.int md), .val (.int d0), .val (.int d1), .val (.int d2), .val (.int d3), .val (.int d4), .val (.int d5), .unset, .unset, .unset, .unset] [(.ref b180)]))
        refine own_go (fun tq kq => XS.dup X186.here hx rfl (hb hby at_228) rfl rfl kq) ?_
        show own_Rn p e below _ (T186.setTop (mkF m 229 #[.val (.int i0), .val (.int i1), .val (.int i2), .val (.int i3), .val (.int i4), .val (.int i5), .val (.int md), .val (.int d0), .val (.int d1), .val (.int d2), .val (.int d3), .val (.int d4), .val (.int d5), .unset, .unset, .unset, .unset] [(.ref b180), (.ref b180)]))
        refine own_go (fun tq kq => XS.iconst X186.here hx rfl (hb hby at_229) kq) ?_
        show own_Rn p e below _ (T186.setTop (mkF m 230 #[.val (.int i0), .val (.int i1), .val (.int i2), .val (.int i3), .val (.int i4), .val (.int i5), .val (.int md), .val (.int d0), .val (.int d1), .val (.int d2), .val (.int d3), .val (.int d4), .val (.int d5), .unset, .unset, .unset, .unset] [(.int (2 : Int32)), (.ref b180), (.ref b180)]))
        refine own_go (fun tq kq => XS.bipush X186.here hx rfl (hb hby at_230) kq) ?_
        show own_Rn p e below _ (T186.setTop (mkF m 232 #[.val (.int i0), .val (.int i1), .val (.int i2), .val (.int i3), .val (.int i4), .val (.int i5), .val (.int md), .val (.int d0), .val (.int d1), .val (.int d2), .val (.int d3), .val (.int d4), .val (.int d5), .unset, .unset, .unset, .unset] [(.int (114 : Int32)), (.int (2 : Int32)), (.ref b180), (.ref b180)]))
        obtain ⟨cl189, Ar189, q189, Sz189, Nn189, Hs189, G189⟩ := id V186
        obtain ⟨T189, h189, X189, e189, W189, st189⟩ := stC X186 hx hZ e186 Ar189 (j := (2 : Int32)) (inb_of Sz189 ⟨by decide, by decide⟩) (g := (mkF m 232 #[.val (.int i0), .val (.int i1), .val (.int i2), .val (.int i3), .val (.int i4), .val (.int i5), .val (.int md), .val (.int d0), .val (.int d1), .val (.int d2), .val (.int d3), .val (.int d4), .val (.int d5), .unset, .unset, .unset, .unset] [(.int (114 : Int32)), (.int (2 : Int32)), (.ref b180), (.ref b180)])) rfl rfl (hb hby at_232)
        refine own_go st189 ?_
        have V189 : Arv Z h189 b180 k180 .char (6 : Int32) [(.int (110 : Int32)), (.int (97 : Int32)), (.int (114 : Int32)), (.int (0 : Int32)), (.int (0 : Int32)), (.int (0 : Int32))] (.int (0 : Int32)) := Arv.set Ar189 q189 Sz189 Nn189 Hs189 G189 rfl W189 2 rfl (Nat.le_of_ble_eq_true rfl)
        have N189 := Fr.snoc X189 N186 gn180
        have sf190 : Safe Z consts_1 s.vm h186 b180 := Safe.arv hZ.alike V186 (by decide)
        have sz191 : h186.size ≤ h189.size := Nat.le_of_eq (Wr.size W189).symm
        have cr191 : CHr Z consts_1 s.vm h186 s.vm h189 := CHr.wr W189 sf190 CR188.1
        have CR191 := CR188.trans cr191
        show own_Rn p e below _ (T189.setTop (mkF m 233 #[.val (.int i0), .val (.int i1), .val (.int i2), .val (.int i3), .val (.int i4), .val (.int i5), .val (.int md), .val (.int d0), .val (.int d1), .val (.int d2), .val (.int d3), .val (.int d4), .val (.int d5), .unset, .unset, .unset, .unset] [(.ref b180)]))
        refine own_go (fun tq kq => XS.dup X189.here hx rfl (hb hby at_233) rfl rfl kq) ?_
        show own_Rn p e below _ (T189.setTop (mkF m 234 #[.val (.int i0), .val (.int i1), .val (.int i2), .val (.int i3), .val (.int i4), .val (.int i5), .val (.int md), .val (.int d0), .val (.int d1), .val (.int d2), .val (.int d3), .val (.int d4), .val (.int d5), .unset, .unset, .unset, .unset] [(.ref b180), (.ref b180)]))
        refine own_go (fun tq kq => XS.iconst X189.here hx rfl (hb hby at_234) kq) ?_
        show own_Rn p e below _ (T189.setTop (mkF m 235 #[.val (.int i0), .val (.int i1), .val (.int i2), .val (.int i3), .val (.int i4), .val (.int i5), .val (.int md), .val (.int d0), .val (.int d1), .val (.int d2), .val (.int d3), .val (.int d4), .val (.int d5), .unset, .unset, .unset, .unset] [(.int (3 : Int32)), (.ref b180), (.ref b180)]))
        refine own_go (fun tq kq => XS.bipush X189.here hx rfl (hb hby at_235) kq) ?_
        show own_Rn p e below _ (T189.setTop (mkF m 237 #[.val (.int i0), .val (.int i1), .val (.int i2), .val (.int i3), .val (.int i4), .val (.int i5), .val (.int md), .val (.int d0), .val (.int d1), .val (.int d2), .val (.int d3), .val (.int d4), .val (.int d5), .unset, .unset, .unset, .unset] [(.int (114 : Int32)), (.int (3 : Int32)), (.ref b180), (.ref b180)]))
        obtain ⟨cl192, Ar192, q192, Sz192, Nn192, Hs192, G192⟩ := id V189
        obtain ⟨T192, h192, X192, e192, W192, st192⟩ := stC X189 hx hZ e189 Ar192 (j := (3 : Int32)) (inb_of Sz192 ⟨by decide, by decide⟩) (g := (mkF m 237 #[.val (.int i0), .val (.int i1), .val (.int i2), .val (.int i3), .val (.int i4), .val (.int i5), .val (.int md), .val (.int d0), .val (.int d1), .val (.int d2), .val (.int d3), .val (.int d4), .val (.int d5), .unset, .unset, .unset, .unset] [(.int (114 : Int32)), (.int (3 : Int32)), (.ref b180), (.ref b180)])) rfl rfl (hb hby at_237)
        refine own_go st192 ?_
        have V192 : Arv Z h192 b180 k180 .char (6 : Int32) [(.int (110 : Int32)), (.int (97 : Int32)), (.int (114 : Int32)), (.int (114 : Int32)), (.int (0 : Int32)), (.int (0 : Int32))] (.int (0 : Int32)) := Arv.set Ar192 q192 Sz192 Nn192 Hs192 G192 rfl W192 3 rfl (Nat.le_of_ble_eq_true rfl)
        have N192 := Fr.snoc X192 N189 gn180
        have sf193 : Safe Z consts_1 s.vm h189 b180 := Safe.arv hZ.alike V189 (by decide)
        have sz194 : h189.size ≤ h192.size := Nat.le_of_eq (Wr.size W192).symm
        have cr194 : CHr Z consts_1 s.vm h189 s.vm h192 := CHr.wr W192 sf193 CR191.1
        have CR194 := CR191.trans cr194
        show own_Rn p e below _ (T192.setTop (mkF m 238 #[.val (.int i0), .val (.int i1), .val (.int i2), .val (.int i3), .val (.int i4), .val (.int i5), .val (.int md), .val (.int d0), .val (.int d1), .val (.int d2), .val (.int d3), .val (.int d4), .val (.int d5), .unset, .unset, .unset, .unset] [(.ref b180)]))
        refine own_go (fun tq kq => XS.dup X192.here hx rfl (hb hby at_238) rfl rfl kq) ?_
        show own_Rn p e below _ (T192.setTop (mkF m 239 #[.val (.int i0), .val (.int i1), .val (.int i2), .val (.int i3), .val (.int i4), .val (.int i5), .val (.int md), .val (.int d0), .val (.int d1), .val (.int d2), .val (.int d3), .val (.int d4), .val (.int d5), .unset, .unset, .unset, .unset] [(.ref b180), (.ref b180)]))
        refine own_go (fun tq kq => XS.iconst X192.here hx rfl (hb hby at_239) kq) ?_
        show own_Rn p e below _ (T192.setTop (mkF m 240 #[.val (.int i0), .val (.int i1), .val (.int i2), .val (.int i3), .val (.int i4), .val (.int i5), .val (.int md), .val (.int d0), .val (.int d1), .val (.int d2), .val (.int d3), .val (.int d4), .val (.int d5), .unset, .unset, .unset, .unset] [(.int (4 : Int32)), (.ref b180), (.ref b180)]))
        refine own_go (fun tq kq => XS.bipush X192.here hx rfl (hb hby at_240) kq) ?_
        show own_Rn p e below _ (T192.setTop (mkF m 242 #[.val (.int i0), .val (.int i1), .val (.int i2), .val (.int i3), .val (.int i4), .val (.int i5), .val (.int md), .val (.int d0), .val (.int d1), .val (.int d2), .val (.int d3), .val (.int d4), .val (.int d5), .unset, .unset, .unset, .unset] [(.int (120 : Int32)), (.int (4 : Int32)), (.ref b180), (.ref b180)]))
        obtain ⟨cl195, Ar195, q195, Sz195, Nn195, Hs195, G195⟩ := id V192
        obtain ⟨T195, h195, X195, e195, W195, st195⟩ := stC X192 hx hZ e192 Ar195 (j := (4 : Int32)) (inb_of Sz195 ⟨by decide, by decide⟩) (g := (mkF m 242 #[.val (.int i0), .val (.int i1), .val (.int i2), .val (.int i3), .val (.int i4), .val (.int i5), .val (.int md), .val (.int d0), .val (.int d1), .val (.int d2), .val (.int d3), .val (.int d4), .val (.int d5), .unset, .unset, .unset, .unset] [(.int (120 : Int32)), (.int (4 : Int32)), (.ref b180), (.ref b180)])) rfl rfl (hb hby at_242)
        refine own_go st195 ?_
        have V195 : Arv Z h195 b180 k180 .char (6 : Int32) [(.int (110 : Int32)), (.int (97 : Int32)), (.int (114 : Int32)), (.int (114 : Int32)), (.int (120 : Int32)), (.int (0 : Int32))] (.int (0 : Int32)) := Arv.set Ar195 q195 Sz195 Nn195 Hs195 G195 rfl W195 4 rfl (Nat.le_of_ble_eq_true rfl)
        have N195 := Fr.snoc X195 N192 gn180
        have sf196 : Safe Z consts_1 s.vm h192 b180 := Safe.arv hZ.alike V192 (by decide)
        have sz197 : h192.size ≤ h195.size := Nat.le_of_eq (Wr.size W195).symm
        have cr197 : CHr Z consts_1 s.vm h192 s.vm h195 := CHr.wr W195 sf196 CR194.1
        have CR197 := CR194.trans cr197
        show own_Rn p e below _ (T195.setTop (mkF m 243 #[.val (.int i0), .val (.int i1), .val (.int i2), .val (.int i3), .val (.int i4), .val (.int i5), .val (.int md), .val (.int d0), .val (.int d1), .val (.int d2), .val (.int d3), .val (.int d4), .val (.int d5), .unset, .unset, .unset, .unset] [(.ref b180)]))
        refine own_go (fun tq kq => XS.dup X195.here hx rfl (hb hby at_243) rfl rfl kq) ?_
        show own_Rn p e below _ (T195.setTop (mkF m 244 #[.val (.int i0), .val (.int i1), .val (.int i2), .val (.int i3), .val (.int i4), .val (.int i5), .val (.int md), .val (.int d0), .val (.int d1), .val (.int d2), .val (.int d3), .val (.int d4), .val (.int d5), .unset, .unset, .unset, .unset] [(.ref b180), (.ref b180)]))
        refine own_go (fun tq kq => XS.iconst X195.here hx rfl (hb hby at_244) kq) ?_
        show own_Rn p e below _ (T195.setTop (mkF m 245 #[.val (.int i0), .val (.int i1), .val (.int i2), .val (.int i3), .val (.int i4), .val (.int i5), .val (.int md), .val (.int d0), .val (.int d1), .val (.int d2), .val (.int d3), .val (.int d4), .val (.int d5), .unset, .unset, .unset, .unset] [(.int (5 : Int32)), (.ref b180), (.ref b180)]))
        refine own_go (fun tq kq => XS.bipush X195.here hx rfl (hb hby at_245) kq) ?_
        show own_Rn p e below _ (T195.setTop (mkF m 247 #[.val (.int i0), .val (.int i1), .val (.int i2), .val (.int i3), .val (.int i4), .val (.int i5), .val (.int md), .val (.int d0), .val (.int d1), .val (.int d2), .val (.int d3), .val (.int d4), .val (.int d5), .unset, .unset, .unset, .unset] [(.int (120 : Int32)), (.int (5 : Int32)), (.ref b180), (.ref b180)]))
        obtain ⟨cl198, Ar198, q198, Sz198, Nn198, Hs198, G198⟩ := id V195
        obtain ⟨T198, h198, X198, e198, W198, st198⟩ := stC X195 hx hZ e195 Ar198 (j := (5 : Int32)) (inb_of Sz198 ⟨by decide, by decide⟩) (g := (mkF m 247 #[.val (.int i0), .val (.int i1), .val (.int i2), .val (.int i3), .val (.int i4), .val (.int i5), .val (.int md), .val (.int d0), .val (.int d1), .val (.int d2), .val (.int d3), .val (.int d4), .val (.int d5), .unset, .unset, .unset, .unset] [(.int (120 : Int32)), (.int (5 : Int32)), (.ref b180), (.ref b180)])) rfl rfl (hb hby at_247)
        refine own_go st198 ?_
        have V198 : Arv Z h198 b180 k180 .char (6 : Int32) [(.int (110 : Int32)), (.int (97 : Int32)), (.int (114 : Int32)), (.int (114 : Int32)), (.int (120 : Int32)), (.int (120 : Int32))] (.int (0 : Int32)) := Arv.set Ar198 q198 Sz198 Nn198 Hs198 G198 rfl W198 5 rfl (Nat.le_of_ble_eq_true rfl)
        have N198 := Fr.snoc X198 N195 gn180
        have sf199 : Safe Z consts_1 s.vm h195 b180 := Safe.arv hZ.alike V195 (by decide)
        have sz200 : h195.size ≤ h198.size := Nat.le_of_eq (Wr.size W198).symm
        have cr200 : CHr Z consts_1 s.vm h195 s.vm h198 := CHr.wr W198 sf199 CR197.1
        have CR200 := CR197.trans cr200
        show own_Rn p e below _ (T198.setTop (mkF m 248 #[.val (.int i0), .val (.int i1), .val (.int i2), .val (.int i3), .val (.int i4), .val (.int i5), .val (.int md), .val (.int d0), .val (.int d1), .val (.int d2), .val (.int d3), .val (.int d4), .val (.int d5), .unset, .unset, .unset, .unset] [(.ref b180)]))
        refine own_go (fun tq kq => XS.astore X198.here hx rfl (hb hby at_248) rfl rfl (l' := #[.val (.int i0), .val (.int i1), .val (.int i2), .val (.int i3), .val (.int i4), .val (.int i5), .val (.int md), .val (.int d0), .val (.int d1), .val (.int d2), .val (.int d3), .val (.int d4), .val (.int d5), .val (.ref b180), .unset, .unset, .unset]) rfl kq) ?_
        show own_Rn p e below _ (T198.setTop (mkF m 250 #[.val (.int i0), .val (.int i1), .val (.int i2), .val (.int i3), .val (.int i4), .val (.int i5), .val (.int md), .val (.int d0), .val (.int d1), .val (.int d2), .val (.int d3), .val (.int d4), .val (.int d5), .val (.ref b180), .unset, .unset, .unset] []))
        refine own_go (fun tq kq => XS.iconst X198.here hx rfl (hb hby at_250) kq) ?_
        show own_Rn p e below _ (T198.setTop (mkF m 251 #[.val (.int i0), .val (.int i1), .val (.int i2), .val (.int i3), .val (.int i4), .val (.int i5), .val (.int md), .val (.int d0), .val (.int d1), .val (.int d2), .val (.int d3), .val (.int d4), .val (.int d5), .val (.ref b180), .unset, .unset, .unset] [(.int (4 : Int32))]))
        refine own_go (fun tq kq => XS.istore X198.here hx rfl (hb hby at_251) rfl (l' := #[.val (.int i0), .val (.int i1), .val (.int i2), .val (.int i3), .val (.int i4), .val (.int i5), .val (.int md), .val (.int d0), .val (.int d1), .val (.int d2), .val (.int d3), .val (.int d4), .val (.int d5), .val (.ref b180), .val (.int (4 : Int32)), .unset, .unset]) rfl kq) ?_
        show own_Rn p e below _ (T198.setTop (mkF m 253 #[.val (.int i0), .val (.int i1), .val (.int i2), .val (.int i3), .val (.int i4), .val (.int i5), .val (.int md), .val (.int d0), .val (.int d1), .val (.int d2), .val (.int d3), .val (.int d4), .val (.int d5), .val (.ref b180), .val (.int (4 : Int32)), .unset, .unset] []))
        refine own_go (fun tq kq => XS.iloadN X198.here hx rfl (hb hby at_253) rfl kq) ?_
        show own_Rn p e below _ (T198.setTop (mkF m 254 #[.val (.int i0), .val (.int i1), .val (.int i2), .val (.int i3), .val (.int i4), .val (.int i5), .val (.int md), .val (.int d0), .val (.int d1), .val (.int d2), .val (.int d3), .val (.int d4), .val (.int d5), .val (.ref b180), .val (.int (4 : Int32)), .unset, .unset] [(.int i1)]))
        refine own_go (fun tq kq => XS.iconst X198.here hx rfl (hb hby at_254) kq) ?_
        show own_Rn p e below _ (T198.setTop (mkF m 255 #[.val (.int i0), .val (.int i1), .val (.int i2), .val (.int i3), .val (.int i4), .val (.int i5), .val (.int md), .val (.int d0), .val (.int d1), .val (.int d2), .val (.int d3), .val (.int d4), .val (.int d5), .val (.ref b180), .val (.int (4 : Int32)), .unset, .unset] [(.int (3 : Int32)), (.int i1)]))
        refine own_go (fun tq kq => XS.iand X198.here hx rfl (hb hby at_255) rfl kq) ?_
        show own_Rn p e below _ (T198.setTop (mkF m 256 #[.val (.int i0), .val (.int i1), .val (.int i2), .val (.int i3), .val (.int i4), .val (.int i5), .val (.int md), .val (.int d0), .val (.int d1), .val (.int d2), .val (.int d3), .val (.int d4), .val (.int d5), .val (.ref b180), .val (.int (4 : Int32)), .unset, .unset] [(.int (i1 &&& (3 : Int32)))]))
        obtain ⟨kx, hkx⟩ : ∃ z : Int32, z = (i1 &&& (3 : Int32)) := ⟨_, rfl⟩
        rw [← hkx]
        show own_Rn p e below _ (T198.setTop (mkF m 256 #[.val (.int i0), .val (.int i1), .val (.int i2), .val (.int i3), .val (.int i4), .val (.int i5), .val (.int md), .val (.int d0), .val (.int d1), .val (.int d2), .val (.int d3), .val (.int d4), .val (.int d5), .val (.ref b180), .val (.int (4 : Int32)), .unset, .unset] [(.int kx)]))
        refine own_go (fun tq kq => XS.istore X198.here hx rfl (hb hby at_256) rfl (l' := #[.val (.int i0), .val (.int i1), .val (.int i2), .val (.int i3), .val (.int i4), .val (.int i5), .val (.int md), .val (.int d0), .val (.int d1), .val (.int d2), .val (.int d3), .val (.int d4), .val (.int d5), .val (.ref b180), .val (.int (4 : Int32)), .val (.int kx), .unset]) rfl kq) ?_
        show own_Rn p e below _ (T198.setTop (mkF m 258 #[.val (.int i0), .val (.int i1), .val (.int i2), .val (.int i3), .val (.int i4), .val (.int i5), .val (.int md), .val (.int d0), .val (.int d1), .val (.int d2), .val (.int d3), .val (.int d4), .val (.int d5), .val (.ref b180), .val (.int (4 : Int32)), .val (.int kx), .unset] []))
        refine own_go (fun tq kq => XS.iload X198.here hx rfl (hb hby at_258) rfl kq) ?_
        show own_Rn p e below _ (T198.setTop (mkF m 260 #[.val (.int i0), .val (.int i1), .val (.int i2), .val (.int i3), .val (.int i4), .val (.int i5), .val (.int md), .val (.int d0), .val (.int d1), .val (.int d2), .val (.int d3), .val (.int d4), .val (.int d5), .val (.ref b180), .val (.int (4 : Int32)), .val (.int kx), .unset] [(.int kx)]))
        refine own_go (fun tq kq => XS.iconst X198.here hx rfl (hb hby at_260) kq) ?_
        show own_Rn p e below _ (T198.setTop (mkF m 261 #[.val (.int i0), .val (.int i1), .val (.int i2), .val (.int i3), .val (.int i4), .val (.int i5), .val (.int md), .val (.int d0), .val (.int d1), .val (.int d2), .val (.int d3), .val (.int d4), .val (.int d5), .val (.ref b180), .val (.int (4 : Int32)), .val (.int kx), .unset] [(.int (1 : Int32)), (.int kx)]))
        by_cases hc201 : kx = (1 : Int32)
        · skip
          refine own_go (fun tq kq => XS.icmpNo X198.here hx rfl (hb hby at_261) rfl (teq (hc201 : kx = (1 : Int32))).2 kq) ?_
          show own_Rn p e below _ (T198.setTop (mkF m 264 #[.val (.int i0), .val (.int i1), .val (.int i2), .val (.int i3), .val (.int i4), .val (.int i5), .val (.int md), .val (.int d0), .val (.int d1), .val (.int d2), .val (.int d3), .val (.int d4), .val (.int d5), .val (.ref b180), .val (.int (4 : Int32)), .val (.int kx), .unset] []))
          refine own_go (fun tq kq => XS.iloadN X198.here hx rfl (hb hby at_264) rfl kq) ?_
          show own_Rn p e below _ (T198.setTop (mkF m 265 #[.val (.int i0), .val (.int i1), .val (.int i2), .val (.int i3), .val (.int i4), .val (.int i5), .val (.int md), .val (.int d0), .val (.int d1), .val (.int d2), .val (.int d3), .val (.int d4), .val (.int d5), .val (.ref b180), .val (.int (4 : Int32)), .val (.int kx), .unset] [(.int i2)]))
          refine own_go (fun tq kq => X198.ldcInt hx hown (mvT hZ (hw _ (own_mi 93 rfl))) (g := (mkF m 265 #[.val (.int i0), .val (.int i1), .val (.int i2), .val (.int i3), .val (.int i4), .val (.int i5), .val (.int md), .val (.int d0), .val (.int d1), .val (.int d2), .val (.int d3), .val (.int d4), .val (.int d5), .val (.ref b180), .val (.int (4 : Int32)), .val (.int kx), .unset] [(.int i2)])) rfl (hb hby at_265) _ kq) ?_
          show own_Rn p e below _ (T198.setTop (mkF m 267 #[.val (.int i0), .val (.int i1), .val (.int i2), .val (.int i3), .val (.int i4), .val (.int i5), .val (.int md), .val (.int d0), .val (.int d1), .val (.int d2), .val (.int d3), .val (.int d4), .val (.int d5), .val (.ref b180), .val (.int (4 : Int32)), .val (.int kx), .unset] [(.int (2147483647 : Int32)), (.int i2)]))
          refine own_go (fun tq kq => XS.iand X198.here hx rfl (hb hby at_267) rfl kq) ?_
          show own_Rn p e below _ (T198.setTop (mkF m 268 #[.val (.int i0), .val (.int i1), .val (.int i2), .val (.int i3), .val (.int i4), .val (.int i5), .val (.int md), .val (.int d0), .val (.int d1), .val (.int d2), .val (.int d3), .val (.int d4), .val (.int d5), .val (.ref b180), .val (.int (4 : Int32)), .val (.int kx), .unset] [(.int (i2 &&& (2147483647 : Int32)))]))
          refine own_go (fun tq kq => XS.iload X198.here hx rfl (hb hby at_268) rfl kq) ?_
          show own_Rn p e below _ (T198.setTop (mkF m 270 #[.val (.int i0), .val (.int i1), .val (.int i2), .val (.int i3), .val (.int i4), .val (.int i5), .val (.int md), .val (.int d0), .val (.int d1), .val (.int d2), .val (.int d3), .val (.int d4), .val (.int d5), .val (.ref b180), .val (.int (4 : Int32)), .val (.int kx), .unset] [(.int (4 : Int32)), (.int (i2 &&& (2147483647 : Int32)))]))
          refine own_go (fun tq kq => iremM X198 hx rfl (hb hby at_270) rfl (by decide) kq) ?_
          show own_Rn p e below _ (T198.setTop (mkF m 271 #[.val (.int i0), .val (.int i1), .val (.int i2), .val (.int i3), .val (.int i4), .val (.int i5), .val (.int md), .val (.int d0), .val (.int d1), .val (.int d2), .val (.int d3), .val (.int d4), .val (.int d5), .val (.ref b180), .val (.int (4 : Int32)), .val (.int kx), .unset] [(.int ((i2 &&& (2147483647 : Int32)) % (4 : Int32)))]))
          obtain ⟨K, hK, eK⟩ := own_mN i2 (4 : Int32) 4 rfl (by decide) (by decide)
          rw [eK]
          obtain rfl | rfl | rfl | rfl : K = 0 ∨ K = 1 ∨ K = 2 ∨ K = 3 := by omega
          · skip
            show own_Rn p e below _ (T198.setTop (mkF m 271 #[.val (.int i0), .val (.int i1), .val (.int i2), .val (.int i3), .val (.int i4), .val (.int i5), .val (.int md), .val (.int d0), .val (.int d1), .val (.int d2), .val (.int d3), .val (.int d4), .val (.int d5), .val (.ref b180), .val (.int (4 : Int32)), .val (.int kx), .unset] [(.int (0 : Int32))]))
            refine own_go (fun tq kq => XS.istore X198.here hx rfl (hb hby at_271) rfl (l' := #[.val (.int i0), .val (.int i1), .val (.int i2), .val (.int i3), .val (.int i4), .val (.int i5), .val (.int md), .val (.int d0), .val (.int d1), .val (.int d2), .val (.int d3), .val (.int d4), .val (.int d5), .val (.ref b180), .val (.int (4 : Int32)), .val (.int kx), .val (.int (0 : Int32))]) rfl kq) ?_
            show own_Rn p e below _ (T198.setTop (mkF m 273 #[.val (.int i0), .val (.int i1), .val (.int i2), .val (.int i3), .val (.int i4), .val (.int i5), .val (.int md), .val (.int d0), .val (.int d1), .val (.int d2), .val (.int d3), .val (.int d4), .val (.int d5), .val (.ref b180), .val (.int (4 : Int32)), .val (.int kx), .val (.int (0 : Int32))] []))
            refine own_go (fun tq kq => XS.aload X198.here hx rfl (hb hby at_273) rfl rfl kq) ?_
            show own_Rn p e below _ (T198.setTop (mkF m 275 #[.val (.int i0), .val (.int i1), .val (.int i2), .val (.int i3), .val (.int i4), .val (.int i5), .val (.int md), .val (.int d0), .val (.int d1), .val (.int d2), .val (.int d3), .val (.int d4), .val (.int d5), .val (.ref b180), .val (.int (4 : Int32)), .val (.int kx), .val (.int (0 : Int32))] [(.ref b180)]))
            refine own_go (fun tq kq => XS.iload X198.here hx rfl (hb hby at_275) rfl kq) ?_
            show own_Rn p e below _ (T198.setTop (mkF m 277 #[.val (.int i0), .val (.int i1), .val (.int i2), .val (.int i3), .val (.int i4), .val (.int i5), .val (.int md), .val (.int d0), .val (.int d1), .val (.int d2), .val (.int d3), .val (.int d4), .val (.int d5), .val (.ref b180), .val (.int (4 : Int32)), .val (.int kx), .val (.int (0 : Int32))] [(.int (0 : Int32)), (.ref b180)]))
            refine own_go (fun tq kq => XS.iload X198.here hx rfl (hb hby at_277) rfl kq) ?_
            show own_Rn p e below _ (T198.setTop (mkF m 279 #[.val (.int i0), .val (.int i1), .val (.int i2), .val (.int i3), .val (.int i4), .val (.int i5), .val (.int md), .val (.int d0), .val (.int d1), .val (.int d2), .val (.int d3), .val (.int d4), .val (.int d5), .val (.ref b180), .val (.int (4 : Int32)), .val (.int kx), .val (.int (0 : Int32))] [(.int d0), (.int (0 : Int32)), (.ref b180)]))
            obtain ⟨cl202, Ar202, q202, Sz202, Nn202, Hs202, G202⟩ := id V198
            obtain ⟨T202, h202, X202, e202, W202, st202⟩ := stC X198 hx hZ e198 Ar202 (j := (0 : Int32)) (inb_of Sz202 ⟨by decide, by decide⟩) (g := (mkF m 279 #[.val (.int i0), .val (.int i1), .val (.int i2), .val (.int i3), .val (.int i4), .val (.int i5), .val (.int md), .val (.int d0), .val (.int d1), .val (.int d2), .val (.int d3), .val (.int d4), .val (.int d5), .val (.ref b180), .val (.int (4 : Int32)), .val (.int kx), .val (.int (0 : Int32))] [(.int d0), (.int (0 : Int32)), (.ref b180)])) rfl rfl (hb hby at_279)
            rw [nd0] at W202
            refine own_go st202 ?_
            have V202 : Arv Z h202 b180 k180 .char (6 : Int32) [(.int d0), (.int (97 : Int32)), (.int (114 : Int32)), (.int (114 : Int32)), (.int (120 : Int32)), (.int (120 : Int32))] (.int (0 : Int32)) := Arv.set Ar202 q202 Sz202 Nn202 Hs202 G202 (by rw [← nd0]; exact fits_nar_char _) W202 0 rfl (Nat.le_of_ble_eq_true rfl)
            have N202 := Fr.snoc X202 N198 gn180
            have sf203 : Safe Z consts_1 s.vm h198 b180 := Safe.arv hZ.alike V198 (by decide)
            have sz204 : h198.size ≤ h202.size := Nat.le_of_eq (Wr.size W202).symm
            have cr204 : CHr Z consts_1 s.vm h198 s.vm h202 := CHr.wr W202 sf203 CR200.1
            have CR204 := CR200.trans cr204
            show own_Rn p e below _ (T202.setTop (mkF m 280 #[.val (.int i0), .val (.int i1), .val (.int i2), .val (.int i3), .val (.int i4), .val (.int i5), .val (.int md), .val (.int d0), .val (.int d1), .val (.int d2), .val (.int d3), .val (.int d4), .val (.int d5), .val (.ref b180), .val (.int (4 : Int32)), .val (.int kx), .val (.int (0 : Int32))] []))
            refine own_go (fun tq kq => XS.goto X202.here hx rfl (pc0 := 280) (pc' := 317) rfl (hb hby at_280) (by decide) (by decide) kq) ?_
            show own_Rn p e below _ (T202.setTop (mkF m 317 #[.val (.int i0), .val (.int i1), .val (.int i2), .val (.int i3), .val (.int i4), .val (.int i5), .val (.int md), .val (.int d0), .val (.int d1), .val (.int d2), .val (.int d3), .val (.int d4), .val (.int d5), .val (.ref b180), .val (.int (4 : Int32)), .val (.int kx), .val (.int (0 : Int32))] []))
            have F205 : Old Z n0 h202 := ((((((((X00.ext E180).wr W183 gn180).wr W186 gn180).wr W189 gn180).wr W192 gn180).wr W195 gn180).wr W198 gn180).wr W202 gn180)
            exact jn _ _ _ b180 k180 d0 (97 : Int32) (114 : Int32) (114 : Int32) (120 : Int32) (120 : Int32) (4) _ _ X202 e202 N202 (by omega) CR204 F205 V202 ⟨rd0, (by decide), (by decide), (by decide), (by decide), (by decide)⟩ (by decide) (One.val (by rfl)) (One.val (by rfl))
          · skip
            show own_Rn p e below _ (T198.setTop (mkF m 271 #[.val (.int i0), .val (.int i1), .val (.int i2), .val (.int i3), .val (.int i4), .val (.int i5), .val (.int md), .val (.int d0), .val (.int d1), .val (.int d2), .val (.int d3), .val (.int d4), .val (.int d5), .val (.ref b180), .val (.int (4 : Int32)), .val (.int kx), .unset] [(.int (1 : Int32))]))
            refine own_go (fun tq kq => XS.istore X198.here hx rfl (hb hby at_271) rfl (l' := #[.val (.int i0), .val (.int i1), .val (.int i2), .val (.int i3), .val (.int i4), .val (.int i5), .val (.int md), .val (.int d0), .val (.int d1), .val (.int d2), .val (.int d3), .val (.int d4), .val (.int d5), .val (.ref b180), .val (.int (4 : Int32)), .val (.int kx), .val (.int (1 : Int32))]) rfl kq) ?_
            show own_Rn p e below _ (T198.setTop (mkF m 273 #[.val (.int i0), .val (.int i1), .val (.int i2), .val (.int i3), .val (.int i4), .val (.int i5), .val (.int md), .val (.int d0), .val (.int d1), .val (.int d2), .val (.int d3), .val (.int d4), .val (.int d5), .val (.ref b180), .val (.int (4 : Int32)), .val (.int kx), .val (.int (1 : Int32))] []))
            refine own_go (fun tq kq => XS.aload X198.here hx rfl (hb hby at_273) rfl rfl kq) ?_
            show own_Rn p e below _ (T198.setTop (mkF m 275 #[.val (.int i0), .val (.int i1), .val (.int i2), .val (.int i3), .val (.int i4), .val (.int i5), .val (.int md), .val (.int d0), .val (.int d1), .val (.int d2), .val (.int d3), .val (.int d4), .val (.int d5), .val (.ref b180), .val (.int (4 : Int32)), .val (.int kx), .val (.int (1 : Int32))] [(.ref b180)]))
            refine own_go (fun tq kq => XS.iload X198.here hx rfl (hb hby at_275) rfl kq) ?_
            show own_Rn p e below _ (T198.setTop (mkF m 277 #[.val (.int i0), .val (.int i1), .val (.int i2), .val (.int i3), .val (.int i4), .val (.int i5), .val (.int md), .val (.int d0), .val (.int d1), .val (.int d2), .val (.int d3), .val (.int d4), .val (.int d5), .val (.ref b180), .val (.int (4 : Int32)), .val (.int kx), .val (.int (1 : Int32))] [(.int (1 : Int32)), (.ref b180)]))
            refine own_go (fun tq kq => XS.iload X198.here hx rfl (hb hby at_277) rfl kq) ?_
            show own_Rn p e below _ (T198.setTop (mkF m 279 #[.val (.int i0), .val (.int i1), .val (.int i2), .val (.int i3), .val (.int i4), .val (.int i5), .val (.int md), .val (.int d0), .val (.int d1), .val (.int d2), .val (.int d3), .val (.int d4), .val (.int d5), .val (.ref b180), .val (.int (4 : Int32)), .val (.int kx), .val (.int (1 : Int32))] [(.int d0), (.int (1 : Int32)), (.ref b180)]))
            obtain ⟨cl206, Ar206, q206, Sz206, Nn206, Hs206, G206⟩ := id V198
            obtain ⟨T206, h206, X206, e206, W206, st206⟩ := stC X198 hx hZ e198 Ar206 (j := (1 : Int32)) (inb_of Sz206 ⟨by decide, by decide⟩) (g := (mkF m 279 #[.val (.int i0), .val (.int i1), .val (.int i2), .val (.int i3), .val (.int i4), .val (.int i5), .val (.int md), .val (.int d0), .val (.int d1), .val (.int d2), .val (.int d3), .val (.int d4), .val (.int d5), .val (.ref b180), .val (.int (4 : Int32)), .val (.int kx), .val (.int (1 : Int32))] [(.int d0), (.int (1 : Int32)), (.ref b180)])) rfl rfl (hb hby at_279)
            rw [nd0] at W206
            refine own_go st206 ?_
            have V206 : Arv Z h206 b180 k180 .char (6 : Int32) [(.int (110 : Int32)), (.int d0), (.int (114 : Int32)), (.int (114 : Int32)), (.int (120 : Int32)), (.int (120 : Int32))] (.int (0 : Int32)) := Arv.set Ar206 q206 Sz206 Nn206 Hs206 G206 (by rw [← nd0]; exact fits_nar_char _) W206 1 rfl (Nat.le_of_ble_eq_true rfl)
            have N206 := Fr.snoc X206 N198 gn180
            have sf207 : Safe Z consts_1 s.vm h198 b180 := Safe.arv hZ.alike V198 (by decide)
            have sz208 : h198.size ≤ h206.size := Nat.le_of_eq (Wr.size W206).symm
            have cr208 : CHr Z consts_1 s.vm h198 s.vm h206 := CHr.wr W206 sf207 CR200.1
            have CR208 := CR200.trans cr208
            show own_Rn p e below _ (T206.setTop (mkF m 280 #[.val (.int i0), .val (.int i1), .val (.int i2), .val (.int i3), .val (.int i4), .val (.int i5), .val (.int md), .val (.int d0), .val (.int d1), .val (.int d2), .val (.int d3), .val (.int d4), .val (.int d5), .val (.ref b180), .val (.int (4 : Int32)), .val (.int kx), .val (.int (1 : Int32))] []))
            refine own_go (fun tq kq => XS.goto X206.here hx rfl (pc0 := 280) (pc' := 317) rfl (hb hby at_280) (by decide) (by decide) kq) ?_
            show own_Rn p e below _ (T206.setTop (mkF m 317 #[.val (.int i0), .val (.int i1), .val (.int i2), .val (.int i3), .val (.int i4), .val (.int i5), .val (.int md), .val (.int d0), .val (.int d1), .val (.int d2), .val (.int d3), .val (.int d4), .val (.int d5), .val (.ref b180), .val (.int (4 : Int32)), .val (.int kx), .val (.int (1 : Int32))] []))
            have F209 : Old Z n0 h206 := ((((((((X00.ext E180).wr W183 gn180).wr W186 gn180).wr W189 gn180).wr W192 gn180).wr W195 gn180).wr W198 gn180).wr W206 gn180)
            exact jn _ _ _ b180 k180 (110 : Int32) d0 (114 : Int32) (114 : Int32) (120 : Int32) (120 : Int32) (4) _ _ X206 e206 N206 (by omega) CR208 F209 V206 ⟨(by decide), rd0, (by decide), (by decide), (by decide), (by decide)⟩ (by decide) (One.val (by rfl)) (One.val (by rfl))
          · skip
            show own_Rn p e below _ (T198.setTop (mkF m 271 #[.val (.int i0), .val (.int i1), .val (.int i2), .val (.int i3), .val (.int i4), .val (.int i5), .val (.int md), .val (.int d0), .val (.int d1), .val (.int d2), .val (.int d3), .val (.int d4), .val (.int d5), .val (.ref b180), .val (.int (4 : Int32)), .val (.int kx), .unset] [(.int (2 : Int32))]))
            refine own_go (fun tq kq => XS.istore X198.here hx rfl (hb hby at_271) rfl (l' := #[.val (.int i0), .val (.int i1), .val (.int i2), .val (.int i3), .val (.int i4), .val (.int i5), .val (.int md), .val (.int d0), .val (.int d1), .val (.int d2), .val (.int d3), .val (.int d4), .val (.int d5), .val (.ref b180), .val (.int (4 : Int32)), .val (.int kx), .val (.int (2 : Int32))]) rfl kq) ?_
            show own_Rn p e below _ (T198.setTop (mkF m 273 #[.val (.int i0), .val (.int i1), .val (.int i2), .val (.int i3), .val (.int i4), .val (.int i5), .val (.int md), .val (.int d0), .val (.int d1), .val (.int d2), .val (.int d3), .val (.int d4), .val (.int d5), .val (.ref b180), .val (.int (4 : Int32)), .val (.int kx), .val (.int (2 : Int32))] []))
            refine own_go (fun tq kq => XS.aload X198.here hx rfl (hb hby at_273) rfl rfl kq) ?_
            show own_Rn p e below _ (T198.setTop (mkF m 275 #[.val (.int i0), .val (.int i1), .val (.int i2), .val (.int i3), .val (.int i4), .val (.int i5), .val (.int md), .val (.int d0), .val (.int d1), .val (.int d2), .val (.int d3), .val (.int d4), .val (.int d5), .val (.ref b180), .val (.int (4 : Int32)), .val (.int kx), .val (.int (2 : Int32))] [(.ref b180)]))
            refine own_go (fun tq kq => XS.iload X198.here hx rfl (hb hby at_275) rfl kq) ?_
            show own_Rn p e below _ (T198.setTop (mkF m 277 #[.val (.int i0), .val (.int i1), .val (.int i2), .val (.int i3), .val (.int i4), .val (.int i5), .val (.int md), .val (.int d0), .val (.int d1), .val (.int d2), .val (.int d3), .val (.int d4), .val (.int d5), .val (.ref b180), .val (.int (4 : Int32)), .val (.int kx), .val (.int (2 : Int32))] [(.int (2 : Int32)), (.ref b180)]))
            refine own_go (fun tq kq => XS.iload X198.here hx rfl (hb hby at_277) rfl kq) ?_
            show own_Rn p e below _ (T198.setTop (mkF m 279 #[.val (.int i0), .val (.int i1), .val (.int i2), .val (.int i3), .val (.int i4), .val (.int i5), .val (.int md), .val (.int d0), .val (.int d1), .val (.int d2), .val (.int d3), .val (.int d4), .val (.int d5), .val (.ref b180), .val (.int (4 : Int32)), .val (.int kx), .val (.int (2 : Int32))] [(.int d0), (.int (2 : Int32)), (.ref b180)]))
            obtain ⟨cl210, Ar210, q210, Sz210, Nn210, Hs210, G210⟩ := id V198
            obtain ⟨T210, h210, X210, e210, W210, st210⟩ := stC X198 hx hZ e198 Ar210 (j := (2 : Int32)) (inb_of Sz210 ⟨by decide, by decide⟩) (g := (mkF m 279 #[.val (.int i0), .val (.int i1), .val (.int i2), .val (.int i3), .val (.int i4), .val (.int i5), .val (.int md), .val (.int d0), .val (.int d1), .val (.int d2), .val (.int d3), .val (.int d4), .val (.int d5), .val (.ref b180), .val (.int (4 : Int32)), .val (.int kx), .val (.int (2 : Int32))] [(.int d0), (.int (2 : Int32)), (.ref b180)])) rfl rfl (hb hby at_279)
            rw [nd0] at W210
            refine own_go st210 ?_
            have V210 : Arv Z h210 b180 k180 .char (6 : Int32) [(.int (110 : Int32)), (.int (97 : Int32)), (.int d0), (.int (114 : Int32)), (.int (120 : Int32)), (.int (120 : Int32))] (.int (0 : Int32)) := Arv.set Ar210 q210 Sz210 Nn210 Hs210 G210 (by rw [← nd0]; exact fits_nar_char _) W210 2 rfl (Nat.le_of_ble_eq_true rfl)
            have N210 := Fr.snoc X210 N198 gn180
            have sf211 : Safe Z consts_1 s.vm h198 b180 := Safe.arv hZ.alike V198 (by decide)
            have sz212 : h198.size ≤ h210.size := Nat.le_of_eq (Wr.size W210).symm
            have cr212 : CHr Z consts_1 s.vm h198 s.vm h210 := CHr.wr W210 sf211 CR200.1
            have CR212 := CR200.trans cr212
            show own_Rn p e below _ (T210.setTop (mkF m 280 #[.val (.int i0), .val (.int i1), .val (.int i2), .val (.int i3), .val (.int i4), .val (.int i5), .val (.int md), .val (.int d0), .val (.int d1), .val (.int d2), .val (.int d3), .val (.int d4), .val (.int d5), .val (.ref b180), .val (.int (4 : Int32)), .val (.int kx), .val (.int (2 : Int32))] []))
            refine own_go (fun tq kq => XS.goto X210.here hx rfl (pc0 := 280) (pc' := 317) rfl (hb hby at_280) (by decide) (by decide) kq) ?_
            show own_Rn p e below _ (T210.setTop (mkF m 317 #[.val (.int i0), .val (.int i1), .val (.int i2), .val (.int i3), .val (.int i4), .val (.int i5), .val (.int md), .val (.int d0), .val (.int d1), .val (.int d2), .val (.int d3), .val (.int d4), .val (.int d5), .val (.ref b180), .val (.int (4 : Int32)), .val (.int kx), .val (.int (2 : Int32))] []))
            have F213 : Old Z n0 h210 := ((((((((X00.ext E180).wr W183 gn180).wr W186 gn180).wr W189 gn180).wr W192 gn180).wr W195 gn180).wr W198 gn180).wr W210 gn180)
            exact jn _ _ _ b180 k180 (110 : Int32) (97 : Int32) d0 (114 : Int32) (120 : Int32) (120 : Int32) (4) _ _ X210 e210 N210 (by omega) CR212 F213 V210 ⟨(by decide), (by decide), rd0, (by decide), (by decide), (by decide)⟩ (by decide) (One.val (by rfl)) (One.val (by rfl))
          · skip
            show own_Rn p e below _ (T198.setTop (mkF m 271 #[.val (.int i0), .val (.int i1), .val (.int i2), .val (.int i3), .val (.int i4), .val (.int i5), .val (.int md), .val (.int d0), .val (.int d1), .val (.int d2), .val (.int d3), .val (.int d4), .val (.int d5), .val (.ref b180), .val (.int (4 : Int32)), .val (.int kx), .unset] [(.int (3 : Int32))]))
            refine own_go (fun tq kq => XS.istore X198.here hx rfl (hb hby at_271) rfl (l' := #[.val (.int i0), .val (.int i1), .val (.int i2), .val (.int i3), .val (.int i4), .val (.int i5), .val (.int md), .val (.int d0), .val (.int d1), .val (.int d2), .val (.int d3), .val (.int d4), .val (.int d5), .val (.ref b180), .val (.int (4 : Int32)), .val (.int kx), .val (.int (3 : Int32))]) rfl kq) ?_
            show own_Rn p e below _ (T198.setTop (mkF m 273 #[.val (.int i0), .val (.int i1), .val (.int i2), .val (.int i3), .val (.int i4), .val (.int i5), .val (.int md), .val (.int d0), .val (.int d1), .val (.int d2), .val (.int d3), .val (.int d4), .val (.int d5), .val (.ref b180), .val (.int (4 : Int32)), .val (.int kx), .val (.int (3 : Int32))] []))
            refine own_go (fun tq kq => XS.aload X198.here hx rfl (hb hby at_273) rfl rfl kq) ?_
            show own_Rn p e below _ (T198.setTop (mkF m 275 #[.val (.int i0), .val (.int i1), .val (.int i2), .val (.int i3), .val (.int i4), .val (.int i5), .val (.int md), .val (.int d0), .val (.int d1), .val (.int d2), .val (.int d3), .val (.int d4), .val (.int d5), .val (.ref b180), .val (.int (4 : Int32)), .val (.int kx), .val (.int (3 : Int32))] [(.ref b180)]))
            refine own_go (fun tq kq => XS.iload X198.here hx rfl (hb hby at_275) rfl kq) ?_
            show own_Rn p e below _ (T198.setTop (mkF m 277 #[.val (.int i0), .val (.int i1), .val (.int i2), .val (.int i3), .val (.int i4), .val (.int i5), .val (.int md), .val (.int d0), .val (.int d1), .val (.int d2), .val (.int d3), .val (.int d4), .val (.int d5), .val (.ref b180), .val (.int (4 : Int32)), .val (.int kx), .val (.int (3 : Int32))] [(.int (3 : Int32)), (.ref b180)]))
            refine own_go (fun tq kq => XS.iload X198.here hx rfl (hb hby at_277) rfl kq) ?_
            show own_Rn p e below _ (T198.setTop (mkF m 279 #[.val (.int i0), .val (.int i1), .val (.int i2), .val (.int i3), .val (.int i4), .val (.int i5), .val (.int md), .val (.int d0), .val (.int d1), .val (.int d2), .val (.int d3), .val (.int d4), .val (.int d5), .val (.ref b180), .val (.int (4 : Int32)), .val (.int kx), .val (.int (3 : Int32))] [(.int d0), (.int (3 : Int32)), (.ref b180)]))
            obtain ⟨cl214, Ar214, q214, Sz214, Nn214, Hs214, G214⟩ := id V198
            obtain ⟨T214, h214, X214, e214, W214, st214⟩ := stC X198 hx hZ e198 Ar214 (j := (3 : Int32)) (inb_of Sz214 ⟨by decide, by decide⟩) (g := (mkF m 279 #[.val (.int i0), .val (.int i1), .val (.int i2), .val (.int i3), .val (.int i4), .val (.int i5), .val (.int md), .val (.int d0), .val (.int d1), .val (.int d2), .val (.int d3), .val (.int d4), .val (.int d5), .val (.ref b180), .val (.int (4 : Int32)), .val (.int kx), .val (.int (3 : Int32))] [(.int d0), (.int (3 : Int32)), (.ref b180)])) rfl rfl (hb hby at_279)
            rw [nd0] at W214
            refine own_go st214 ?_
            have V214 : Arv Z h214 b180 k180 .char (6 : Int32) [(.int (110 : Int32)), (.int (97 : Int32)), (.int (114 : Int32)), (.int d0), (.int (120 : Int32)), (.int (120 : Int32))] (.int (0 : Int32)) := Arv.set Ar214 q214 Sz214 Nn214 Hs214 G214 (by rw [← nd0]; exact fits_nar_char _) W214 3 rfl (Nat.le_of_ble_eq_true rfl)
            have N214 := Fr.snoc X214 N198 gn180
            have sf215 : Safe Z consts_1 s.vm h198 b180 := Safe.arv hZ.alike V198 (by decide)
            have sz216 : h198.size ≤ h214.size := Nat.le_of_eq (Wr.size W214).symm
            have cr216 : CHr Z consts_1 s.vm h198 s.vm h214 := CHr.wr W214 sf215 CR200.1
            have CR216 := CR200.trans cr216
            show own_Rn p e below _ (T214.setTop (mkF m 280 #[.val (.int i0), .val (.int i1), .val (.int i2), .val (.int i3), .val (.int i4), .val (.int i5), .val (.int md), .val (.int d0), .val (.int d1), .val (.int d2), .val (.int d3), .val (.int d4), .val (.int d5), .val (.ref b180), .val (.int (4 : Int32)), .val (.int kx), .val (.int (3 : Int32))] []))
            refine own_go (fun tq kq => XS.goto X214.here hx rfl (pc0 := 280) (pc' := 317) rfl (hb hby at_280) (by decide) (by decide) kq) ?_
            show own_Rn p e below _ (T214.setTop (mkF m 317 #[.val (.int i0), .val (.int i1), .val (.int i2), .val (.int i3), .val (.int i4), .val (.int i5), .val (.int md), .val (.int d0), .val (.int d1), .val (.int d2), .val (.int d3), .val (.int d4), .val (.int d5), .val (.ref b180), .val (.int (4 : Int32)), .val (.int kx), .val (.int (3 : Int32))] []))
            have F217 : Old Z n0 h214 := ((((((((X00.ext E180).wr W183 gn180).wr W186 gn180).wr W189 gn180).wr W192 gn180).wr W195 gn180).wr W198 gn180).wr W214 gn180)
            exact jn _ _ _ b180 k180 (110 : Int32) (97 : Int32) (114 : Int32) d0 (120 : Int32) (120 : Int32) (4) _ _ X214 e214 N214 (by omega) CR216 F217 V214 ⟨(by decide), (by decide), (by decide), rd0, (by decide), (by decide)⟩ (by decide) (One.val (by rfl)) (One.val (by rfl))
        · skip
          refine own_go (fun tq kq => XS.icmpYes X198.here hx rfl (pc0 := 261) (pc' := 283) rfl (hb hby at_261) rfl (feq (hc201 : ¬ (kx = (1 : Int32)))).2 (by decide) (by decide) kq) ?_
          show own_Rn p e below _ (T198.setTop (mkF m 283 #[.val (.int i0), .val (.int i1), .val (.int i2), .val (.int i3), .val (.int i4), .val (.int i5), .val (.int md), .val (.int d0), .val (.int d1), .val (.int d2), .val (.int d3), .val (.int d4), .val (.int d5), .val (.ref b180), .val (.int (4 : Int32)), .val (.int kx), .unset] []))
          refine own_go (fun tq kq => XS.iload X198.here hx rfl (hb hby at_283) rfl kq) ?_
          show own_Rn p e below _ (T198.setTop (mkF m 285 #[.val (.int i0), .val (.int i1), .val (.int i2), .val (.int i3), .val (.int i4), .val (.int i5), .val (.int md), .val (.int d0), .val (.int d1), .val (.int d2), .val (.int d3), .val (.int d4), .val (.int d5), .val (.ref b180), .val (.int (4 : Int32)), .val (.int kx), .unset] [(.int kx)]))
          refine own_go (fun tq kq => XS.iconst X198.here hx rfl (hb hby at_285) kq) ?_
          show own_Rn p e below _ (T198.setTop (mkF m 286 #[.val (.int i0), .val (.int i1), .val (.int i2), .val (.int i3), .val (.int i4), .val (.int i5), .val (.int md), .val (.int d0), .val (.int d1), .val (.int d2), .val (.int d3), .val (.int d4), .val (.int d5), .val (.ref b180), .val (.int (4 : Int32)), .val (.int kx), .unset] [(.int (2 : Int32)), (.int kx)]))
          by_cases hc218 : kx = (2 : Int32)
          · skip
            refine own_go (fun tq kq => XS.icmpNo X198.here hx rfl (hb hby at_286) rfl (teq (hc218 : kx = (2 : Int32))).2 kq) ?_
            show own_Rn p e below _ (T198.setTop (mkF m 289 #[.val (.int i0), .val (.int i1), .val (.int i2), .val (.int i3), .val (.int i4), .val (.int i5), .val (.int md), .val (.int d0), .val (.int d1), .val (.int d2), .val (.int d3), .val (.int d4), .val (.int d5), .val (.ref b180), .val (.int (4 : Int32)), .val (.int kx), .unset] []))
            refine own_go (fun tq kq => XS.iload X198.here hx rfl (hb hby at_289) rfl kq) ?_
            show own_Rn p e below _ (T198.setTop (mkF m 291 #[.val (.int i0), .val (.int i1), .val (.int i2), .val (.int i3), .val (.int i4), .val (.int i5), .val (.int md), .val (.int d0), .val (.int d1), .val (.int d2), .val (.int d3), .val (.int d4), .val (.int d5), .val (.ref b180), .val (.int (4 : Int32)), .val (.int kx), .unset] [(.int (4 : Int32))]))
            refine own_go (fun tq kq => XS.iconst X198.here hx rfl (hb hby at_291) kq) ?_
            show own_Rn p e below _ (T198.setTop (mkF m 292 #[.val (.int i0), .val (.int i1), .val (.int i2), .val (.int i3), .val (.int i4), .val (.int i5), .val (.int md), .val (.int d0), .val (.int d1), .val (.int d2), .val (.int d3), .val (.int d4), .val (.int d5), .val (.ref b180), .val (.int (4 : Int32)), .val (.int kx), .unset] [(.int (1 : Int32)), (.int (4 : Int32))]))
            refine own_go (fun tq kq => XS.isub X198.here hx rfl (hb hby at_292) rfl kq) ?_
            show own_Rn p e below _ (T198.setTop (mkF m 293 #[.val (.int i0), .val (.int i1), .val (.int i2), .val (.int i3), .val (.int i4), .val (.int i5), .val (.int md), .val (.int d0), .val (.int d1), .val (.int d2), .val (.int d3), .val (.int d4), .val (.int d5), .val (.ref b180), .val (.int (4 : Int32)), .val (.int kx), .unset] [(.int ((4 : Int32) - (1 : Int32)))]))
            rw [show ((4 : Int32) - (1 : Int32)) = (3 : Int32) by decide]
            show own_Rn p e below _ (T198.setTop (mkF m 293 #[.val (.int i0), .val (.int i1), .val (.int i2), .val (.int i3), .val (.int i4), .val (.int i5), .val (.int md), .val (.int d0), .val (.int d1), .val (.int d2), .val (.int d3), .val (.int d4), .val (.int d5), .val (.ref b180), .val (.int (4 : Int32)), .val (.int kx), .unset] [(.int (3 : Int32))]))
            refine own_go (fun tq kq => XS.istore X198.here hx rfl (hb hby at_293) rfl (l' := #[.val (.int i0), .val (.int i1), .val (.int i2), .val (.int i3), .val (.int i4), .val (.int i5), .val (.int md), .val (.int d0), .val (.int d1), .val (.int d2), .val (.int d3), .val (.int d4), .val (.int d5), .val (.ref b180), .val (.int (3 : Int32)), .val (.int kx), .unset]) rfl kq) ?_
            show own_Rn p e below _ (T198.setTop (mkF m 295 #[.val (.int i0), .val (.int i1), .val (.int i2), .val (.int i3), .val (.int i4), .val (.int i5), .val (.int md), .val (.int d0), .val (.int d1), .val (.int d2), .val (.int d3), .val (.int d4), .val (.int d5), .val (.ref b180), .val (.int (3 : Int32)), .val (.int kx), .unset] []))
            refine own_go (fun tq kq => XS.goto X198.here hx rfl (pc0 := 295) (pc' := 317) rfl (hb hby at_295) (by decide) (by decide) kq) ?_
            show own_Rn p e below _ (T198.setTop (mkF m 317 #[.val (.int i0), .val (.int i1), .val (.int i2), .val (.int i3), .val (.int i4), .val (.int i5), .val (.int md), .val (.int d0), .val (.int d1), .val (.int d2), .val (.int d3), .val (.int d4), .val (.int d5), .val (.ref b180), .val (.int (3 : Int32)), .val (.int kx), .unset] []))
            have F219 : Old Z n0 h198 := (((((((X00.ext E180).wr W183 gn180).wr W186 gn180).wr W189 gn180).wr W192 gn180).wr W195 gn180).wr W198 gn180)
            exact jn _ _ _ b180 k180 (110 : Int32) (97 : Int32) (114 : Int32) (114 : Int32) (120 : Int32) (120 : Int32) (3) _ _ X198 e198 N198 (by omega) CR200 F219 V198 ⟨(by decide), (by decide), (by decide), (by decide), (by decide), (by decide)⟩ (by decide) (One.val (by rfl)) One.u
          · skip
            refine own_go (fun tq kq => XS.icmpYes X198.here hx rfl (pc0 := 286) (pc' := 298) rfl (hb hby at_286) rfl (feq (hc218 : ¬ (kx = (2 : Int32)))).2 (by decide) (by decide) kq) ?_
            show own_Rn p e below _ (T198.setTop (mkF m 298 #[.val (.int i0), .val (.int i1), .val (.int i2), .val (.int i3), .val (.int i4), .val (.int i5), .val (.int md), .val (.int d0), .val (.int d1), .val (.int d2), .val (.int d3), .val (.int d4), .val (.int d5), .val (.ref b180), .val (.int (4 : Int32)), .val (.int kx), .unset] []))
            refine own_go (fun tq kq => XS.iload X198.here hx rfl (hb hby at_298) rfl kq) ?_
            show own_Rn p e below _ (T198.setTop (mkF m 300 #[.val (.int i0), .val (.int i1), .val (.int i2), .val (.int i3), .val (.int i4), .val (.int i5), .val (.int md), .val (.int d0), .val (.int d1), .val (.int d2), .val (.int d3), .val (.int d4), .val (.int d5), .val (.ref b180), .val (.int (4 : Int32)), .val (.int kx), .unset] [(.int kx)]))
            refine own_go (fun tq kq => XS.iconst X198.here hx rfl (hb hby at_300) kq) ?_
            show own_Rn p e below _ (T198.setTop (mkF m 301 #[.val (.int i0), .val (.int i1), .val (.int i2), .val (.int i3), .val (.int i4), .val (.int i5), .val (.int md), .val (.int d0), .val (.int d1), .val (.int d2), .val (.int d3), .val (.int d4), .val (.int d5), .val (.ref b180), .val (.int (4 : Int32)), .val (.int kx), .unset] [(.int (3 : Int32)), (.int kx)]))
            by_cases hc220 : kx = (3 : Int32)
            · skip
              refine own_go (fun tq kq => XS.icmpNo X198.here hx rfl (hb hby at_301) rfl (teq (hc220 : kx = (3 : Int32))).2 kq) ?_
              show own_Rn p e below _ (T198.setTop (mkF m 304 #[.val (.int i0), .val (.int i1), .val (.int i2), .val (.int i3), .val (.int i4), .val (.int i5), .val (.int md), .val (.int d0), .val (.int d1), .val (.int d2), .val (.int d3), .val (.int d4), .val (.int d5), .val (.ref b180), .val (.int (4 : Int32)), .val (.int kx), .unset] []))
              refine own_go (fun tq kq => XS.aload X198.here hx rfl (hb hby at_304) rfl rfl kq) ?_
              show own_Rn p e below _ (T198.setTop (mkF m 306 #[.val (.int i0), .val (.int i1), .val (.int i2), .val (.int i3), .val (.int i4), .val (.int i5), .val (.int md), .val (.int d0), .val (.int d1), .val (.int d2), .val (.int d3), .val (.int d4), .val (.int d5), .val (.ref b180), .val (.int (4 : Int32)), .val (.int kx), .unset] [(.ref b180)]))
              refine own_go (fun tq kq => XS.iload X198.here hx rfl (hb hby at_306) rfl kq) ?_
              show own_Rn p e below _ (T198.setTop (mkF m 308 #[.val (.int i0), .val (.int i1), .val (.int i2), .val (.int i3), .val (.int i4), .val (.int i5), .val (.int md), .val (.int d0), .val (.int d1), .val (.int d2), .val (.int d3), .val (.int d4), .val (.int d5), .val (.ref b180), .val (.int (4 : Int32)), .val (.int kx), .unset] [(.int (4 : Int32)), (.ref b180)]))
              refine own_go (fun tq kq => XS.iload X198.here hx rfl (hb hby at_308) rfl kq) ?_
              show own_Rn p e below _ (T198.setTop (mkF m 310 #[.val (.int i0), .val (.int i1), .val (.int i2), .val (.int i3), .val (.int i4), .val (.int i5), .val (.int md), .val (.int d0), .val (.int d1), .val (.int d2), .val (.int d3), .val (.int d4), .val (.int d5), .val (.ref b180), .val (.int (4 : Int32)), .val (.int kx), .unset] [(.int d0), (.int (4 : Int32)), (.ref b180)]))
              obtain ⟨cl221, Ar221, q221, Sz221, Nn221, Hs221, G221⟩ := id V198
              obtain ⟨T221, h221, X221, e221, W221, st221⟩ := stC X198 hx hZ e198 Ar221 (j := (4 : Int32)) (inb_of Sz221 ⟨by decide, by decide⟩) (g := (mkF m 310 #[.val (.int i0), .val (.int i1), .val (.int i2), .val (.int i3), .val (.int i4), .val (.int i5), .val (.int md), .val (.int d0), .val (.int d1), .val (.int d2), .val (.int d3), .val (.int d4), .val (.int d5), .val (.ref b180), .val (.int (4 : Int32)), .val (.int kx), .unset] [(.int d0), (.int (4 : Int32)), (.ref b180)])) rfl rfl (hb hby at_310)
              rw [nd0] at W221
              refine own_go st221 ?_
              have V221 : Arv Z h221 b180 k180 .char (6 : Int32) [(.int (110 : Int32)), (.int (97 : Int32)), (.int (114 : Int32)), (.int (114 : Int32)), (.int d0), (.int (120 : Int32))] (.int (0 : Int32)) := Arv.set Ar221 q221 Sz221 Nn221 Hs221 G221 (by rw [← nd0]; exact fits_nar_char _) W221 4 rfl (Nat.le_of_ble_eq_true rfl)
              have N221 := Fr.snoc X221 N198 gn180
              have sf222 : Safe Z consts_1 s.vm h198 b180 := Safe.arv hZ.alike V198 (by decide)
              have sz223 : h198.size ≤ h221.size := Nat.le_of_eq (Wr.size W221).symm
              have cr223 : CHr Z consts_1 s.vm h198 s.vm h221 := CHr.wr W221 sf222 CR200.1
              have CR223 := CR200.trans cr223
              show own_Rn p e below _ (T221.setTop (mkF m 311 #[.val (.int i0), .val (.int i1), .val (.int i2), .val (.int i3), .val (.int i4), .val (.int i5), .val (.int md), .val (.int d0), .val (.int d1), .val (.int d2), .val (.int d3), .val (.int d4), .val (.int d5), .val (.ref b180), .val (.int (4 : Int32)), .val (.int kx), .unset] []))
              refine own_go (fun tq kq => XS.iload X221.here hx rfl (hb hby at_311) rfl kq) ?_
              show own_Rn p e below _ (T221.setTop (mkF m 313 #[.val (.int i0), .val (.int i1), .val (.int i2), .val (.int i3), .val (.int i4), .val (.int i5), .val (.int md), .val (.int d0), .val (.int d1), .val (.int d2), .val (.int d3), .val (.int d4), .val (.int d5), .val (.ref b180), .val (.int (4 : Int32)), .val (.int kx), .unset] [(.int (4 : Int32))]))
              refine own_go (fun tq kq => XS.iconst X221.here hx rfl (hb hby at_313) kq) ?_
              show own_Rn p e below _ (T221.setTop (mkF m 314 #[.val (.int i0), .val (.int i1), .val (.int i2), .val (.int i3), .val (.int i4), .val (.int i5), .val (.int md), .val (.int d0), .val (.int d1), .val (.int d2), .val (.int d3), .val (.int d4), .val (.int d5), .val (.ref b180), .val (.int (4 : Int32)), .val (.int kx), .unset] [(.int (1 : Int32)), (.int (4 : Int32))]))
              refine own_go (fun tq kq => XS.iadd X221.here hx rfl (hb hby at_314) rfl kq) ?_
              show own_Rn p e below _ (T221.setTop (mkF m 315 #[.val (.int i0), .val (.int i1), .val (.int i2), .val (.int i3), .val (.int i4), .val (.int i5), .val (.int md), .val (.int d0), .val (.int d1), .val (.int d2), .val (.int d3), .val (.int d4), .val (.int d5), .val (.ref b180), .val (.int (4 : Int32)), .val (.int kx), .unset] [(.int ((4 : Int32) + (1 : Int32)))]))
              rw [show ((4 : Int32) + (1 : Int32)) = (5 : Int32) by decide]
              show own_Rn p e below _ (T221.setTop (mkF m 315 #[.val (.int i0), .val (.int i1), .val (.int i2), .val (.int i3), .val (.int i4), .val (.int i5), .val (.int md), .val (.int d0), .val (.int d1), .val (.int d2), .val (.int d3), .val (.int d4), .val (.int d5), .val (.ref b180), .val (.int (4 : Int32)), .val (.int kx), .unset] [(.int (5 : Int32))]))
              refine own_go (fun tq kq => XS.istore X221.here hx rfl (hb hby at_315) rfl (l' := #[.val (.int i0), .val (.int i1), .val (.int i2), .val (.int i3), .val (.int i4), .val (.int i5), .val (.int md), .val (.int d0), .val (.int d1), .val (.int d2), .val (.int d3), .val (.int d4), .val (.int d5), .val (.ref b180), .val (.int (5 : Int32)), .val (.int kx), .unset]) rfl kq) ?_
              show own_Rn p e below _ (T221.setTop (mkF m 317 #[.val (.int i0), .val (.int i1), .val (.int i2), .val (.int i3), .val (.int i4), .val (.int i5), .val (.int md), .val (.int d0), .val (.int d1), .val (.int d2), .val (.int d3), .val (.int d4), .val (.int d5), .val (.ref b180), .val (.int (5 : Int32)), .val (.int kx), .unset] []))
              have F224 : Old Z n0 h221 := ((((((((X00.ext E180).wr W183 gn180).wr W186 gn180).wr W189 gn180).wr W192 gn180).wr W195 gn180).wr W198 gn180).wr W221 gn180)
              exact jn _ _ _ b180 k180 (110 : Int32) (97 : Int32) (114 : Int32) (114 : Int32) d0 (120 : Int32) (5) _ _ X221 e221 N221 (by omega) CR223 F224 V221 ⟨(by decide), (by decide), (by decide), (by decide), rd0, (by decide)⟩ (by decide) (One.val (by rfl)) One.u
            · skip
              refine own_go (fun tq kq => XS.icmpYes X198.here hx rfl (pc0 := 301) (pc' := 317) rfl (hb hby at_301) rfl (feq (hc220 : ¬ (kx = (3 : Int32)))).2 (by decide) (by decide) kq) ?_
              show own_Rn p e below _ (T198.setTop (mkF m 317 #[.val (.int i0), .val (.int i1), .val (.int i2), .val (.int i3), .val (.int i4), .val (.int i5), .val (.int md), .val (.int d0), .val (.int d1), .val (.int d2), .val (.int d3), .val (.int d4), .val (.int d5), .val (.ref b180), .val (.int (4 : Int32)), .val (.int kx), .unset] []))
              have F225 : Old Z n0 h198 := (((((((X00.ext E180).wr W183 gn180).wr W186 gn180).wr W189 gn180).wr W192 gn180).wr W195 gn180).wr W198 gn180)
              exact jn _ _ _ b180 k180 (110 : Int32) (97 : Int32) (114 : Int32) (114 : Int32) (120 : Int32) (120 : Int32) (4) _ _ X198 e198 N198 (by omega) CR200 F225 V198 ⟨(by decide), (by decide), (by decide), (by decide), (by decide), (by decide)⟩ (by decide) (One.val (by rfl)) One.u
set_option maxRecDepth 65536 in
set_option maxHeartbeats 40000000 in
theorem comes_1 {Post : Tables → Env → Array Value → State → Outcome → State → Prop} (hpost : ∀ tb e args s v u, (limb_1_1.after args s (.returned v) u = true ∧ limb_1_2.after args s (.returned v) u = true ∧ True) → ReturnedEndW s (.returned v) u (Jvm.fieldLocs frame_1_writes args s ++ Jvm.arrayLocs frame_1_arrays args s ++ Jvm.staticLocs frame_1_statics s) 32 4288 → Post tb e args s (.returned v) u) :
    ArmFor flags0 classFile x code maxLocals ret World_1 tables_1 room_1 Calls_1 rest_1 Pre_1 Post := by
  intro l hfl _ _ p e ha hc hk s m args below hf hA hF happ hP
  obtain ⟨hcalls, hrest, hpre⟩ := hP
  obtain ⟨-, -, -, hnamed, -, -, -, hat⟩ := (Spec.applies_iff hf).mp happ
  obtain ⟨hg, hn⟩ := and_e (Cond.before_iff.mp (show (Jvm.Cond.and given_1 narrow_1).before args s = true from hpre))
  obtain ⟨h1, hr⟩ := and_e hg
  obtain ⟨w0, w1, w2, w3, w4, w5, rfl⟩ : ∃ w0 w1 w2 w3 w4 w5 : Value, args = #[w0, w1, w2, w3, w4, w5] := by
    have hs : args.size = 6 := by simpa [Cond.value, given_1] using h1
    obtain ⟨L⟩ := args
    match L, hs with
    | [w0, w1, w2, w3, w4, w5], _ => exact ⟨w0, w1, w2, w3, w4, w5, rfl⟩
  have hw := fun d (hd : d ∈ tables_1) => atoms_spec (ws := Jvm.Cond.code x code maxLocals ret :: tables_1) hat d (List.mem_cons_of_mem _ hd)
  have hfit : Fit s := fun {y c} hc i hi => by
    obtain ⟨ha, rfl⟩ := Array.getElem?_eq_some_iff.mp hc
    have q := List.all_eq_true.mp ((Array.all_eq_true_iff_forall_mem.mp hF) _ (Array.getElem_mem ha)) i (List.mem_range.mpr hi)
    simpa [Array.getElem?_eq_getElem hi] using q
  obtain ⟨ha0, hr⟩ := and_e hr
  obtain ⟨i0, ee0⟩ := is_v ha0
  obtain rfl : w0 = (.int i0) := Option.some.inj ee0
  obtain ⟨ha1, hr⟩ := and_e hr
  obtain ⟨i1, ee1⟩ := is_v ha1
  obtain rfl : w1 = (.int i1) := Option.some.inj ee1
  obtain ⟨ha2, hr⟩ := and_e hr
  obtain ⟨i2, ee2⟩ := is_v ha2
  obtain rfl : w2 = (.int i2) := Option.some.inj ee2
  obtain ⟨ha3, hr⟩ := and_e hr
  obtain ⟨i3, ee3⟩ := is_v ha3
  obtain rfl : w3 = (.int i3) := Option.some.inj ee3
  obtain ⟨ha4, hr⟩ := and_e hr
  obtain ⟨i4, ee4⟩ := is_v ha4
  obtain rfl : w4 = (.int i4) := Option.some.inj ee4
  obtain ⟨i5, ee5⟩ := is_v hr
  obtain rfl : w5 = (.int i5) := Option.some.inj ee5
  obtain ⟨hsets, hown0⟩ := atoms_of _ (rest_1_c_eq ▸ (show rest_1_c.before _ s = true from hrest))
  have n5 := not_v (Cond.before_iff.mp (hsets _ (List.mem_of_getElem? (i := 2) rfl)))
  obtain ⟨G1, e10⟩ := is_v (Cond.before_iff.mp (hsets _ (List.mem_of_getElem? (i := 1) rfl)))
  have O2 : Sta s s.heap "java/lang/String" "COMPACT_STRINGS" "Z" (.int G1) := Sta.start e10 (Or.inl (hsets _ (List.mem_of_getElem? (i := 0) rfl)))
  obtain ⟨G3, e14, rG3⟩ := isR_v (Cond.before_iff.mp (hsets _ (List.mem_of_getElem? (i := 8) rfl)))
  have O4 : Sta s s.heap "jdk/internal/util/Preconditions" "SIOOBE_FORMATTER" "Ljava/util/function/BiFunction;" G3 := Sta.start e14 (Or.inl (hsets _ (List.mem_of_getElem? (i := 7) rfl)))
  have P5 : ¬ (G1 = (0 : Int32)) := gotF (Cond.eq_ints e10 (Term.int_eval (0))) n5
  obtain ⟨q0, hn⟩ := and_e hn
  obtain ⟨q1, hn⟩ := and_e hn
  obtain ⟨q2, hn⟩ := and_e hn
  obtain ⟨q3, hn⟩ := and_e hn
  obtain ⟨q4, hn⟩ := and_e hn
  obtain ⟨q5, hn⟩ := and_e hn
  obtain ⟨q6, hn⟩ := and_e hn
  obtain ⟨q7, hn⟩ := and_e hn
  obtain ⟨q8, hn⟩ := and_e hn
  obtain ⟨q9, hn⟩ := and_e hn
  obtain ⟨q10, hn⟩ := and_e hn
  obtain ⟨q11, hn⟩ := and_e hn
  obtain ⟨q12, hn⟩ := and_e hn
  obtain ⟨q13, hn⟩ := and_e hn
  obtain ⟨q14, hn⟩ := and_e hn
  obtain ⟨q15, hn⟩ := and_e hn
  obtain ⟨q16, hn⟩ := and_e hn
  obtain ⟨q17, hn⟩ := and_e hn
  obtain ⟨q18, hn⟩ := and_e hn
  obtain ⟨q19, hn⟩ := and_e hn
  obtain ⟨q20, hn⟩ := and_e hn
  obtain ⟨q21, hn⟩ := and_e hn
  obtain ⟨q22, hn⟩ := and_e hn
  obtain ⟨q23, hn⟩ := and_e hn
  obtain ⟨q24, hn⟩ := and_e hn
  obtain ⟨q25, hn⟩ := and_e hn
  obtain ⟨q26, hn⟩ := and_e hn
  obtain ⟨q27, hn⟩ := and_e hn
  obtain ⟨q28, hn⟩ := and_e hn
  obtain ⟨q29, hn⟩ := and_e hn
  obtain ⟨q30, hn⟩ := and_e hn
  obtain ⟨q31, hn⟩ := and_e hn
  obtain ⟨q32, hn⟩ := and_e hn
  obtain ⟨q33, hn⟩ := and_e hn
  obtain ⟨q34, hn⟩ := and_e hn
  obtain ⟨q35, hn⟩ := and_e hn
  obtain ⟨q36, hn⟩ := and_e hn
  obtain ⟨q37, hn⟩ := and_e hn
  obtain ⟨q38, hn⟩ := and_e hn
  have q39 := hn
  obtain ⟨va, eva⟩ := exa_v q1
  obtain ⟨t0, et0⟩ := exa_v q3
  obtain ⟨t1, et1⟩ := exa_v q5
  obtain ⟨t2, et2⟩ := exa_v q7
  obtain ⟨s0, es0⟩ := exa_v q9
  obtain ⟨x0, ex0⟩ := exa_v q11
  obtain ⟨s1, es1⟩ := exa_v q15
  obtain ⟨x1, ex1⟩ := exa_v q17
  obtain ⟨s2, es2⟩ := exa_v q21
  obtain ⟨x2, ex2⟩ := exa_v q23
  have OV : Sta s s.heap "com/example/words_into_queries/wordsintoqueries/formulation/TopicField" "$VALUES" "[Lcom/example/words_into_queries/wordsintoqueries/formulation/TopicField;" (.ref va) := Sta.start eva (Or.inr ⟨(hw _ (own_mi 42 rfl)), (hw _ (own_mi 48 rfl))⟩)
  have EV : Exa s s.heap va "[Lcom/example/words_into_queries/wordsintoqueries/formulation/TopicField;" := Exa.start eva q1
  obtain ⟨kv, AV⟩ := own_arvZ (vs := [(.ref t0), (.ref t1), (.ref t2)]) (dv := .null) hfit eva q0 (eqv_i (Term.int_eval _) q2) (by decide) rfl (by simp) (by
    intro i v hv
    match i, hv with
    | 0, hv => cases hv; exact own_eqR et0 q4
    | 1, hv => cases hv; exact own_eqR et1 q6
    | 2, hv => cases hv; exact own_eqR et2 q8
    | i + 3, hv => exact nomatch hv)
  have OT0 : Sta s s.heap "com/example/words_into_queries/wordsintoqueries/formulation/TopicField" "TITLE" "Lcom/example/words_into_queries/wordsintoqueries/formulation/TopicField;" (.ref t0) := Sta.start et0 (Or.inr ⟨(hw _ (own_mi 42 rfl)), (hw _ (own_mi 56 rfl))⟩)
  have OT1 : Sta s s.heap "com/example/words_into_queries/wordsintoqueries/formulation/TopicField" "DESC" "Lcom/example/words_into_queries/wordsintoqueries/formulation/TopicField;" (.ref t1) := Sta.start et1 (Or.inr ⟨(hw _ (own_mi 42 rfl)), (hw _ (own_mi 57 rfl))⟩)
  have OT2 : Sta s s.heap "com/example/words_into_queries/wordsintoqueries/formulation/TopicField" "NARR" "Lcom/example/words_into_queries/wordsintoqueries/formulation/TopicField;" (.ref t2) := Sta.start et2 (Or.inr ⟨(hw _ (own_mi 42 rfl)), (hw _ (own_mi 58 rfl))⟩)
  have ZT0 : Exa s s.heap t0 "com/example/words_into_queries/wordsintoqueries/formulation/TopicField" := Exa.start et0 q3
  have ZM0 : Fld s s.heap t0 "com/example/words_into_queries/wordsintoqueries/formulation/TopicField" "m_source" "Lcom/example/words_into_queries/wordsintoqueries/query/TermSource;" (.ref s0) := Fld.start (by rw [← fld_at et0]; exact own_eqR es0 q10)
  have ZS0 : Exa s s.heap s0 "com/example/words_into_queries/wordsintoqueries/query/TermSource" := Exa.start es0 q9
  have ZN0 : Fld s s.heap s0 "com/example/words_into_queries/wordsintoqueries/query/TermSource" "m_name" "Ljava/lang/String;" (.ref x0) := Fld.start (by rw [← fld_at es0]; exact ex0)
  obtain ⟨y0, k0, ZX00, ZX01, ZX02, ZX03⟩ := own_strZ (cs := ([116, 105, 116, 108, 101] : List Int32)) hfit ex0 q11 q12 q13 q14 (by decide) rfl (by decide) (by
    intro i v hv
    match i, hv with
    | 0, hv => cases hv; exact eqv_i (Term.int_eval _) q35
    | 1, hv => cases hv; exact eqv_i (Term.int_eval _) q36
    | 2, hv => cases hv; exact eqv_i (Term.int_eval _) q37
    | 3, hv => cases hv; exact eqv_i (Term.int_eval _) q38
    | 4, hv => cases hv; exact eqv_i (Term.int_eval _) q39
    | i + 5, hv => exact nomatch hv)
  have ZT1 : Exa s s.heap t1 "com/example/words_into_queries/wordsintoqueries/formulation/TopicField" := Exa.start et1 q5
  have ZM1 : Fld s s.heap t1 "com/example/words_into_queries/wordsintoqueries/formulation/TopicField" "m_source" "Lcom/example/words_into_queries/wordsintoqueries/query/TermSource;" (.ref s1) := Fld.start (by rw [← fld_at et1]; exact own_eqR es1 q16)
  have ZS1 : Exa s s.heap s1 "com/example/words_into_queries/wordsintoqueries/query/TermSource" := Exa.start es1 q15
  have ZN1 : Fld s s.heap s1 "com/example/words_into_queries/wordsintoqueries/query/TermSource" "m_name" "Ljava/lang/String;" (.ref x1) := Fld.start (by rw [← fld_at es1]; exact ex1)
  obtain ⟨y1, k1, ZX10, ZX11, ZX12, ZX13⟩ := own_strZ (cs := ([100, 101, 115, 99] : List Int32)) hfit ex1 q17 q18 q19 q20 (by decide) rfl (by decide) (by
    intro i v hv
    match i, hv with
    | 0, hv => cases hv; exact eqv_i (Term.int_eval _) q27
    | 1, hv => cases hv; exact eqv_i (Term.int_eval _) q28
    | 2, hv => cases hv; exact eqv_i (Term.int_eval _) q29
    | 3, hv => cases hv; exact eqv_i (Term.int_eval _) q30
    | i + 4, hv => exact nomatch hv)
  have ZT2 : Exa s s.heap t2 "com/example/words_into_queries/wordsintoqueries/formulation/TopicField" := Exa.start et2 q7
  have ZM2 : Fld s s.heap t2 "com/example/words_into_queries/wordsintoqueries/formulation/TopicField" "m_source" "Lcom/example/words_into_queries/wordsintoqueries/query/TermSource;" (.ref s2) := Fld.start (by rw [← fld_at et2]; exact own_eqR es2 q22)
  have ZS2 : Exa s s.heap s2 "com/example/words_into_queries/wordsintoqueries/query/TermSource" := Exa.start es2 q21
  have ZN2 : Fld s s.heap s2 "com/example/words_into_queries/wordsintoqueries/query/TermSource" "m_name" "Ljava/lang/String;" (.ref x2) := Fld.start (by rw [← fld_at es2]; exact ex2)
  obtain ⟨y2, k2, ZX20, ZX21, ZX22, ZX23⟩ := own_strZ (cs := ([110, 97, 114, 114] : List Int32)) hfit ex2 q23 q24 q25 q26 (by decide) rfl (by decide) (by
    intro i v hv
    match i, hv with
    | 0, hv => cases hv; exact eqv_i (Term.int_eval _) q31
    | 1, hv => cases hv; exact eqv_i (Term.int_eval _) q32
    | 2, hv => cases hv; exact eqv_i (Term.int_eval _) q33
    | 3, hv => cases hv; exact eqv_i (Term.int_eval _) q34
    | i + 4, hv => exact nomatch hv)
  have hEL : EW s #[(.int i0), (.int i1), (.int i2), (.int i3), (.int i4), (.int i5)] consts_1 := (EW.cons (hw _ (own_mi 26 rfl)) (by decide) (EW.cons (hw _ (own_mi 38 rfl)) (by decide) (EW.cons (hw _ (own_mi 39 rfl)) (by decide) (EW.cons (hw _ (own_mi 18 rfl)) (by decide) EW.nil))))
  have hH : CHv s consts_1 s.vm s.heap := CHv.start hEL (fun p hp => hcalls.1 p hp) (hsets _ (List.mem_of_getElem? (i := 2) rfl)) (hw _ (own_mi 19 rfl)) (hw _ (own_mi 6 rfl))
  obtain ⟨n, o, h1, h2, h3, _, L, rfl, ⟨rfl, N⟩, -, hq⟩ := rm0 l s _ hw tables_1 i0 i1 i2 i3 i4 i5 G1 va kv t0 t1 t2 s0 x0 y0 k0 s1 x1 y1 k1 s2 x2 y2 k2 s.heap s.heap.size (Nat.le_refl _) hEL O2 P5 (Old.start s) OV EV AV ZT0 ZM0 ZS0 ZN0 ZX00 ZX01 ZX02 ZX03 ZT1 ZM1 ZS1 ZN1 ZX10 ZX11 ZX12 ZX13 ZT2 ZM2 ZS2 ZN2 ZX20 ZX21 ZX22 ZX23 OT0 OT1 OT2 p e ha hc hk s m _ below hf ((Spec.applies_iff_loose hf).mp happ).1 ⟨rfl, State.Warmed39.refl s, rfl, hH, fun x hx => nomatch hx⟩ trivial
  refine ⟨n, _, h1, h2, h3, hpost _ _ _ _ _ _ ⟨Cond.after_iff.mpr rfl, Cond.after_iff.mpr (eq_i res_at (Term.int_eval (1)) rfl), trivial⟩ ⟨hq.1, hq.2.1, hq.2.2.1, (hq.2.2.2.sift fun y hy => Or.inr (N y hy)).mono (by decide) (by decide)⟩⟩
theorem main_1_1 : Claimed_1_1 := comes_1 fun _ _ _ _ _ _ h hF => ⟨h.1, hF⟩
theorem main_1_2 : Claimed_1_2 := comes_1 fun _ _ _ _ _ _ h hF => ⟨h.2.1, hF⟩
end Jvm.Pilot.@@N@@
namespace Jvm.Pilot.@@N@@
open Jvm Jvm.ClassFile Sem Op Lib Jvm.Free Jvm.Stand Jvm.Pilot.@@N@@.Jvm.D
/-! MADE BY PROGRAM (witnessworld.py) out of the Statement's table words and the real class files: 23 classes; the members and pool entries that the words name. The judged class is class 1, her method 1. -/
namespace start1
open Jvm.ClassFile
def u (s : String) : CpInfo := .utf8 (stringToUtf16 s)
/-- a pool by its gaps: so many unusable entries, then the entry; so many at the end -/
def gap : Nat → List CpInfo → List CpInfo
  | 0, r => r
  | n + 1, r => .unusable :: gap n r
def poolList (es : List (Nat × CpInfo)) (last : Nat) : List CpInfo := es.foldr (fun e r => gap e.1 (e.2 :: r)) (gap last [])
def pool (es : List (Nat × CpInfo)) (last : Nat) : Array CpInfo := ⟨poolList es last⟩
def fileOf (pool : Array CpInfo) (this : Nat) (attrs : Array Attribute := #[]) (ms : Array MethodInfo := #[]) (fl : Nat := 33) (sup : Nat := 0) (ifs : Array Nat := #[]) (fds : Array FieldInfo := #[]) : ClassFile where
  minorVersion := 0
  majorVersion := 65
  constantPool := pool
  accessFlags := fl
  thisClass := this
  superClass := sup
  interfaces := ifs
  fields := fds
  methods := ms
  attributes := attrs
def plain (name : String) (sup : Option ClassId) : Class where
  name := name
  kind := .ordinary
  loader := none
  accessFlags := 33
  super := sup
  interfaces := #[]
  cf := none
  fields := #[]
  methods := #[]
  instanceTypes := #[]
  staticTypes := #[]
  resolved := #[]
  callSites := []
  init := .initialized
  statics := none
  mirror := none

def pool0 : Array CpInfo := pool [(5, u "<init>"), (0, u "()V"), (1, .class_ 10), (1, u "java/lang/Object"), (85, u "clone"), (0, u "()Ljava/lang/Object;")] 26

def k0c0 : Code := { maxStack := 0, maxLocals := 1, code := object_method_1_code, exceptionTable := #[], attributes := #[] }
def k0m0 : Method := { name := "<init>", desc := "()V", sig := { parameters := [], returnType := none }, accessFlags := 1, code := some k0c0 }
def k0m1 : Method := { name := "clone", desc := "()Ljava/lang/Object;", sig := { parameters := [], returnType := some (.object "java/lang/Object") }, accessFlags := 260, code := none }
/-- java/lang/Object -/
def k0 : Class := { plain "java/lang/Object" none with
  accessFlags := 33
  interfaces := #[]
  cf := some (fileOf pool0 8 #[] #[{ accessFlags := 1, nameIndex := 5, descriptorIndex := 6, attributes := #[] }, { accessFlags := 260, nameIndex := 96, descriptorIndex := 97, attributes := #[] }] 33 0 #[] #[])
  fields := #[]
  methods := #[k0m0, k0m1]
  instanceTypes := #[]
  staticTypes := #[]
  resolved := Array.replicate 124 none
  statics := none }

def pool1 : Array CpInfo := pool [(2, .class_ 4), (1, u "java/lang/Object"), (0, u "<init>"), (0, u "()V"), (0, .integer 2147483647), (0, .methodref 9 10), (0, .class_ 11), (0, .nameAndType 12 13), (0, u "com/example/words_into_queries/wordsintoqueries/formulation/TopicFieldFindPinLaw"), (0, u "make"), (0, u "([CI)Ljava/lang/String;"), (0, .string 15), (0, u "title"), (0, .methodref 17 18), (0, .class_ 19), (0, .nameAndType 20 21), (0, u "java/lang/String"), (0, u "equals"), (0, u "(Ljava/lang/Object;)Z"), (0, .fieldref 23 24), (0, .class_ 25), (0, .nameAndType 26 27), (0, u "com/example/words_into_queries/wordsintoqueries/formulation/TopicField"), (0, u "TITLE"), (0, u "Lcom/example/words_into_queries/wordsintoqueries/formulation/TopicField;"), (0, .string 29), (0, u "desc"), (0, .fieldref 23 31), (0, .nameAndType 32 27), (0, u "DESC"), (0, .string 34), (0, u "narr"), (0, .fieldref 23 36), (0, .nameAndType 37 27), (0, u "NARR"), (0, .methodref 23 39), (0, .nameAndType 40 41), (0, u "find"), (0, u "(Ljava/lang/String;)Lcom/example/words_into_queries/wordsintoqueries/formulation/TopicField;"), (0, .methodref 17 43), (0, .nameAndType 5 44), (0, u "([C)V"), (2, u "law"), (0, u "(IIIIII)Z")] 5

def k1m0 : Method := { name := "<init>", desc := "()V", sig := { parameters := [], returnType := none }, accessFlags := 1, code := none }
def k1c1 : Code := { maxStack := 4, maxLocals := 17, code := code, exceptionTable := #[], attributes := #[] }
def k1m1 : Method := { name := "law", desc := "(IIIIII)Z", sig := { parameters := [.int, .int, .int, .int, .int, .int], returnType := some .boolean }, accessFlags := 9, code := some k1c1 }
def k1c2 : Code := { maxStack := 7, maxLocals := 2, code := method_3_code, exceptionTable := #[], attributes := #[] }
def k1m2 : Method := { name := "make", desc := "([CI)Ljava/lang/String;", sig := { parameters := [(.array .char), .int], returnType := some (.object "java/lang/String") }, accessFlags := 10, code := some k1c2 }
/-- com/example/words_into_queries/wordsintoqueries/formulation/TopicFieldFindPinLaw -/
def k1 : Class := { plain "com/example/words_into_queries/wordsintoqueries/formulation/TopicFieldFindPinLaw" (some 0) with
  accessFlags := 49
  interfaces := #[]
  cf := some (fileOf pool1 9 #[] #[{ accessFlags := 1, nameIndex := 5, descriptorIndex := 6, attributes := #[] }, { accessFlags := 9, nameIndex := 47, descriptorIndex := 48, attributes := #[] }, { accessFlags := 10, nameIndex := 12, descriptorIndex := 13, attributes := #[] }] 49 2 #[] #[])
  fields := #[]
  methods := #[k1m0, k1m1, k1m2]
  instanceTypes := #[]
  staticTypes := #[]
  resolved := Array.replicate 54 none
  statics := none }

def pool2 : Array CpInfo := pool [(1, .class_ 2), (0, u "java/io/Serializable"), (0, .class_ 4), (0, u "java/lang/Object")] 2

/-- java/io/Serializable -/
def k2 : Class := { plain "java/io/Serializable" (some 0) with
  accessFlags := 1537
  interfaces := #[]
  cf := some (fileOf pool2 1 #[] #[] 1537 3 #[] #[])
  fields := #[]
  methods := #[]
  instanceTypes := #[]
  staticTypes := #[]
  resolved := Array.replicate 7 none
  statics := none }

def pool3 : Array CpInfo := pool [(1, .class_ 2), (0, u "java/lang/Comparable"), (0, .class_ 4), (0, u "java/lang/Object")] 7

/-- java/lang/Comparable -/
def k3 : Class := { plain "java/lang/Comparable" (some 0) with
  accessFlags := 1537
  interfaces := #[]
  cf := some (fileOf pool3 1 #[] #[] 1537 3 #[] #[])
  fields := #[]
  methods := #[]
  instanceTypes := #[]
  staticTypes := #[]
  resolved := Array.replicate 12 none
  statics := none }

def pool4 : Array CpInfo := pool [(2, .class_ 4), (1, u "java/lang/CharSequence"), (42, .class_ 48), (0, u "java/lang/CharSequence$1CodePointIterator"), (10, .class_ 60), (0, u "java/lang/CharSequence$1CharIterator"), (5, .class_ 67), (0, u "java/lang/Object")] 63

/-- java/lang/CharSequence -/
def k4 : Class := { plain "java/lang/CharSequence" (some 0) with
  accessFlags := 1537
  interfaces := #[]
  cf := some (fileOf pool4 2 #[.nestMembers #[47, 59]] #[] 1537 66 #[] #[])
  fields := #[]
  methods := #[]
  instanceTypes := #[]
  staticTypes := #[]
  resolved := Array.replicate 131 none
  statics := none }

def pool5 : Array CpInfo := pool [(1, .class_ 2), (0, u "java/lang/constant/Constable"), (0, .class_ 4), (0, u "java/lang/Object")] 6

/-- java/lang/constant/Constable -/
def k5 : Class := { plain "java/lang/constant/Constable" (some 0) with
  accessFlags := 1537
  interfaces := #[]
  cf := some (fileOf pool5 1 #[] #[] 1537 3 #[] #[])
  fields := #[]
  methods := #[]
  instanceTypes := #[]
  staticTypes := #[]
  resolved := Array.replicate 11 none
  statics := none }

def pool6 : Array CpInfo := pool [(1, .class_ 2), (0, u "java/lang/constant/ConstantDesc"), (0, .class_ 4), (0, u "java/lang/Object")] 32

/-- java/lang/constant/ConstantDesc -/
def k6 : Class := { plain "java/lang/constant/ConstantDesc" (some 0) with
  accessFlags := 1537
  interfaces := #[]
  cf := some (fileOf pool6 1 #[] #[] 1537 3 #[] #[])
  fields := #[]
  methods := #[]
  instanceTypes := #[]
  staticTypes := #[]
  resolved := Array.replicate 37 none
  statics := none }

def pool7 : Array CpInfo := pool [(1, .methodref 2 3), (0, .class_ 4), (0, .nameAndType 5 6), (0, u "java/lang/Object"), (0, u "<init>"), (0, u "()V"), (0, .string 8), (0, u ""), (0, .fieldref 10 11), (0, .class_ 12), (0, .nameAndType 13 14), (0, u "java/lang/String"), (0, u "value"), (0, u "[B"), (0, .fieldref 10 16), (0, .nameAndType 17 18), (0, u "coder"), (0, u "B"), (2, u "hash"), (0, u "I"), (2, u "hashIsZero"), (0, u "Z"), (0, .methodref 10 28), (0, .nameAndType 5 29), (0, u "([CIILjava/lang/Void;)V"), (8, .fieldref 10 39), (0, .nameAndType 40 26), (0, u "COMPACT_STRINGS"), (1, .class_ 44), (1, u "java/lang/StringUTF16"), (0, u "compress"), (1, .methodref 42 48), (0, .nameAndType 49 50), (0, u "coderFromArrayLen"), (0, u "([BI)B"), (56, .class_ 109), (1, u "java/lang/StringLatin1"), (67, .methodref 42 178), (0, .nameAndType 45 179), (0, u "([CII)[B"), (361, .methodref 107 542), (0, .nameAndType 543 544), (0, u "equals"), (0, u "([B[B)Z"), (28, u "(Ljava/lang/Object;)Z"), (1, .class_ 576), (0, u "java/lang/CharSequence"), (22, u "CASE_INSENSITIVE_ORDER"), (0, u "Ljava/util/Comparator;"), (409, u "([C)V"), (90, u "serialPersistentFields"), (0, u "[Ljava/io/ObjectStreamField;"), (0, .class_ 1104), (0, u "java/lang/String$CaseInsensitiveComparator"), (1, .class_ 1107), (0, u "java/io/Serializable"), (0, .class_ 1109), (0, u "java/lang/Comparable"), (0, .class_ 1111), (0, u "java/lang/constant/Constable"), (0, .class_ 1113), (0, u "java/lang/constant/ConstantDesc"), (2, u "serialVersionUID"), (0, u "J"), (3, u "REPL"), (0, u "C"), (2, u "LATIN1"), (1, u "UTF16")] 323

def k7m0 : Method := { name := "<init>", desc := "()V", sig := { parameters := [], returnType := none }, accessFlags := 1, code := none }
def k7c1 : Code := { maxStack := 5, maxLocals := 2, code := jdk_42_method_3_code, exceptionTable := #[], attributes := #[] }
def k7m1 : Method := { name := "<init>", desc := "([C)V", sig := { parameters := [(.array .char)], returnType := none }, accessFlags := 1, code := some k7c1 }
def k7c2 : Code := { maxStack := 2, maxLocals := 3, code := jdk_42_method_66_code, exceptionTable := #[], attributes := #[] }
def k7m2 : Method := { name := "equals", desc := "(Ljava/lang/Object;)Z", sig := { parameters := [(.object "java/lang/Object")], returnType := some .boolean }, accessFlags := 1, code := some k7c2 }
def k7c3 : Code := { maxStack := 4, maxLocals := 6, code := jdk_42_method_149_code, exceptionTable := #[], attributes := #[] }
def k7m3 : Method := { name := "<init>", desc := "([CIILjava/lang/Void;)V", sig := { parameters := [(.array .char), .int, .int, (.object "java/lang/Void")], returnType := none }, accessFlags := 2, code := some k7c3 }
/-- java/lang/String -/
def k7 : Class := { plain "java/lang/String" (some 0) with
  accessFlags := 49
  interfaces := #[2, 3, 4, 5, 6]
  cf := some (fileOf pool7 10 #[.nestMembers #[1103]] #[{ accessFlags := 1, nameIndex := 5, descriptorIndex := 6, attributes := #[] }, { accessFlags := 1, nameIndex := 5, descriptorIndex := 1010, attributes := #[] }, { accessFlags := 1, nameIndex := 543, descriptorIndex := 573, attributes := #[] }, { accessFlags := 2, nameIndex := 5, descriptorIndex := 29, attributes := #[] }] 49 2 #[1106, 1108, 575, 1110, 1112] #[{ accessFlags := 18, nameIndex := 13, descriptorIndex := 14, attributes := #[] }, { accessFlags := 18, nameIndex := 17, descriptorIndex := 18, attributes := #[] }, { accessFlags := 2, nameIndex := 21, descriptorIndex := 22, attributes := #[] }, { accessFlags := 2, nameIndex := 25, descriptorIndex := 26, attributes := #[] }, { accessFlags := 26, nameIndex := 1116, descriptorIndex := 1117, attributes := #[] }, { accessFlags := 24, nameIndex := 40, descriptorIndex := 26, attributes := #[] }, { accessFlags := 26, nameIndex := 1101, descriptorIndex := 1102, attributes := #[] }, { accessFlags := 26, nameIndex := 1121, descriptorIndex := 1122, attributes := #[] }, { accessFlags := 25, nameIndex := 599, descriptorIndex := 600, attributes := #[] }, { accessFlags := 24, nameIndex := 1125, descriptorIndex := 18, attributes := #[] }, { accessFlags := 24, nameIndex := 1127, descriptorIndex := 18, attributes := #[] }])
  fields := #[{ name := "value", type := (.array .byte), accessFlags := 18, slot := 0, constantValue := 0 }, { name := "coder", type := .byte, accessFlags := 18, slot := 1, constantValue := 0 }, { name := "hash", type := .int, accessFlags := 2, slot := 2, constantValue := 0 }, { name := "hashIsZero", type := .boolean, accessFlags := 2, slot := 3, constantValue := 0 }, { name := "serialVersionUID", type := .long, accessFlags := 26, slot := 0, constantValue := 0 }, { name := "COMPACT_STRINGS", type := .boolean, accessFlags := 24, slot := 1, constantValue := 0 }, { name := "serialPersistentFields", type := (.array (.object "java/io/ObjectStreamField")), accessFlags := 26, slot := 2, constantValue := 0 }, { name := "REPL", type := .char, accessFlags := 26, slot := 3, constantValue := 0 }, { name := "CASE_INSENSITIVE_ORDER", type := (.object "java/util/Comparator"), accessFlags := 25, slot := 4, constantValue := 0 }, { name := "LATIN1", type := .byte, accessFlags := 24, slot := 5, constantValue := 0 }, { name := "UTF16", type := .byte, accessFlags := 24, slot := 6, constantValue := 0 }]
  methods := #[k7m0, k7m1, k7m2, k7m3]
  instanceTypes := #[(.array .byte), .byte, .int, .boolean]
  staticTypes := #[.long, .boolean, (.array (.object "java/io/ObjectStreamField")), .char, (.object "java/util/Comparator"), .byte, .byte]
  resolved := Array.replicate 1451 none
  statics := some 0 }

def pool8 : Array CpInfo := pool [(4, .class_ 6), (1, u "java/lang/Object"), (0, u "<init>"), (0, u "()V"), (5, .class_ 16), (1, u "java/lang/StringLatin1"), (104, u "$assertionsDisabled"), (0, u "Z"), (98, .class_ 223), (1, u "java/lang/StringLatin1$LinesSpliterator"), (57, u "equals"), (0, u "([B[B)Z"), (107, .class_ 391), (0, u "java/lang/StringLatin1$CharsSpliterator")] 3

def k8m0 : Method := { name := "<init>", desc := "()V", sig := { parameters := [], returnType := none }, accessFlags := 0, code := none }
def k8c1 : Code := { maxStack := 3, maxLocals := 3, code := jdk_43_method_13_code, exceptionTable := #[], attributes := #[] }
def k8m1 : Method := { name := "equals", desc := "([B[B)Z", sig := { parameters := [(.array .byte), (.array .byte)], returnType := some .boolean }, accessFlags := 9, code := some k8c1 }
/-- java/lang/StringLatin1 -/
def k8 : Class := { plain "java/lang/StringLatin1" (some 0) with
  accessFlags := 48
  interfaces := #[]
  cf := some (fileOf pool8 14 #[.nestMembers #[390, 221]] #[{ accessFlags := 0, nameIndex := 7, descriptorIndex := 8, attributes := #[] }, { accessFlags := 9, nameIndex := 281, descriptorIndex := 282, attributes := #[] }] 48 4 #[] #[{ accessFlags := 4120, nameIndex := 121, descriptorIndex := 122, attributes := #[] }])
  fields := #[{ name := "$assertionsDisabled", type := .boolean, accessFlags := 4120, slot := 0, constantValue := 0 }]
  methods := #[k8m0, k8m1]
  instanceTypes := #[]
  staticTypes := #[.boolean]
  resolved := Array.replicate 395 none
  statics := none }

def pool9 : Array CpInfo := pool [(2, .class_ 4), (1, u "java/lang/Enum"), (0, u "name"), (0, u "Ljava/lang/String;"), (2, u "ordinal"), (0, u "I"), (1, .class_ 14), (1, u "java/lang/Object"), (4, u "hash"), (86, .class_ 108), (1, u "java/lang/Enum$EnumDesc"), (2, .class_ 112), (0, u "java/lang/constant/Constable"), (0, .class_ 114), (0, u "java/lang/Comparable"), (0, .class_ 116), (0, u "java/io/Serializable")] 87

/-- java/lang/Enum -/
def k9 : Class := { plain "java/lang/Enum" (some 0) with
  accessFlags := 1057
  interfaces := #[5, 3, 2]
  cf := some (fileOf pool9 2 #[.nestMembers #[106]] #[] 1057 12 #[111, 113, 115] #[{ accessFlags := 18, nameIndex := 5, descriptorIndex := 6, attributes := #[] }, { accessFlags := 18, nameIndex := 9, descriptorIndex := 10, attributes := #[] }, { accessFlags := 2, nameIndex := 19, descriptorIndex := 10, attributes := #[] }])
  fields := #[{ name := "name", type := (.object "java/lang/String"), accessFlags := 18, slot := 0, constantValue := 0 }, { name := "ordinal", type := .int, accessFlags := 18, slot := 1, constantValue := 0 }, { name := "hash", type := .int, accessFlags := 2, slot := 2, constantValue := 0 }]
  methods := #[]
  instanceTypes := #[(.object "java/lang/String"), .int, .int]
  staticTypes := #[]
  resolved := Array.replicate 204 none
  statics := none }

def pool10 : Array CpInfo := pool [(1, .class_ 2), (0, u "com/example/words_into_queries/wordsintoqueries/formulation/TopicField"), (2, u "TITLE"), (0, u "Lcom/example/words_into_queries/wordsintoqueries/formulation/TopicField;"), (2, u "DESC"), (2, u "NARR"), (0, .fieldref 1 14), (0, .nameAndType 15 16), (0, u "$VALUES"), (0, u "[Lcom/example/words_into_queries/wordsintoqueries/formulation/TopicField;"), (0, .methodref 18 19), (0, .class_ 16), (0, .nameAndType 20 21), (0, u "clone"), (0, u "()Ljava/lang/Object;"), (1, .class_ 25), (1, u "java/lang/Enum"), (6, .fieldref 1 33), (0, .nameAndType 34 35), (0, u "m_source"), (0, u "Lcom/example/words_into_queries/wordsintoqueries/query/TermSource;"), (2, u "m_text"), (0, u "Ljava/util/function/Function;"), (2, u "m_defaultWeight"), (0, u "D"), (2, u "m_talksAboutDocuments"), (0, u "Z"), (0, .methodref 1 49), (0, .nameAndType 50 51), (0, u "values"), (0, u "()[Lcom/example/words_into_queries/wordsintoqueries/formulation/TopicField;"), (0, .methodref 1 53), (0, .nameAndType 54 55), (0, u "getName"), (0, u "()Ljava/lang/String;"), (0, .methodref 57 58), (0, .class_ 59), (0, .nameAndType 60 61), (0, u "java/lang/String"), (0, u "equals"), (0, u "(Ljava/lang/Object;)Z"), (0, .methodref 63 53), (0, .class_ 64), (0, u "com/example/words_into_queries/wordsintoqueries/query/TermSource"), (34, u "(Ljava/lang/String;)Lcom/example/words_into_queries/wordsintoqueries/formulation/TopicField;"), (2, u "find")] 44

def k10c0 : Code := { maxStack := 1, maxLocals := 0, code := prog_22_method_1_code, exceptionTable := #[], attributes := #[] }
def k10m0 : Method := { name := "values", desc := "()[Lcom/example/words_into_queries/wordsintoqueries/formulation/TopicField;", sig := { parameters := [], returnType := some (.array (.object "com/example/words_into_queries/wordsintoqueries/formulation/TopicField")) }, accessFlags := 9, code := some k10c0 }
def k10c1 : Code := { maxStack := 2, maxLocals := 5, code := prog_22_method_4_code, exceptionTable := #[], attributes := #[] }
def k10m1 : Method := { name := "find", desc := "(Ljava/lang/String;)Lcom/example/words_into_queries/wordsintoqueries/formulation/TopicField;", sig := { parameters := [(.object "java/lang/String")], returnType := some (.object "com/example/words_into_queries/wordsintoqueries/formulation/TopicField") }, accessFlags := 9, code := some k10c1 }
def k10c2 : Code := { maxStack := 1, maxLocals := 1, code := prog_22_method_5_code, exceptionTable := #[], attributes := #[] }
def k10m2 : Method := { name := "getName", desc := "()Ljava/lang/String;", sig := { parameters := [], returnType := some (.object "java/lang/String") }, accessFlags := 1, code := some k10c2 }
/-- com/example/words_into_queries/wordsintoqueries/formulation/TopicField -/
def k10 : Class := { plain "com/example/words_into_queries/wordsintoqueries/formulation/TopicField" (some 9) with
  accessFlags := 16433
  interfaces := #[]
  cf := some (fileOf pool10 1 #[] #[{ accessFlags := 9, nameIndex := 50, descriptorIndex := 51, attributes := #[] }, { accessFlags := 9, nameIndex := 102, descriptorIndex := 99, attributes := #[] }, { accessFlags := 1, nameIndex := 54, descriptorIndex := 55, attributes := #[] }] 16433 23 #[] #[{ accessFlags := 16409, nameIndex := 5, descriptorIndex := 6, attributes := #[] }, { accessFlags := 16409, nameIndex := 9, descriptorIndex := 6, attributes := #[] }, { accessFlags := 16409, nameIndex := 12, descriptorIndex := 6, attributes := #[] }, { accessFlags := 18, nameIndex := 34, descriptorIndex := 35, attributes := #[] }, { accessFlags := 18, nameIndex := 38, descriptorIndex := 39, attributes := #[] }, { accessFlags := 18, nameIndex := 42, descriptorIndex := 43, attributes := #[] }, { accessFlags := 18, nameIndex := 46, descriptorIndex := 47, attributes := #[] }, { accessFlags := 4122, nameIndex := 15, descriptorIndex := 16, attributes := #[] }])
  fields := #[{ name := "TITLE", type := (.object "com/example/words_into_queries/wordsintoqueries/formulation/TopicField"), accessFlags := 16409, slot := 0, constantValue := 0 }, { name := "DESC", type := (.object "com/example/words_into_queries/wordsintoqueries/formulation/TopicField"), accessFlags := 16409, slot := 1, constantValue := 0 }, { name := "NARR", type := (.object "com/example/words_into_queries/wordsintoqueries/formulation/TopicField"), accessFlags := 16409, slot := 2, constantValue := 0 }, { name := "m_source", type := (.object "com/example/words_into_queries/wordsintoqueries/query/TermSource"), accessFlags := 18, slot := 3, constantValue := 0 }, { name := "m_text", type := (.object "java/util/function/Function"), accessFlags := 18, slot := 4, constantValue := 0 }, { name := "m_defaultWeight", type := .double, accessFlags := 18, slot := 5, constantValue := 0 }, { name := "m_talksAboutDocuments", type := .boolean, accessFlags := 18, slot := 6, constantValue := 0 }, { name := "$VALUES", type := (.array (.object "com/example/words_into_queries/wordsintoqueries/formulation/TopicField")), accessFlags := 4122, slot := 3, constantValue := 0 }]
  methods := #[k10m0, k10m1, k10m2]
  instanceTypes := #[(.object "java/lang/String"), .int, .int, (.object "com/example/words_into_queries/wordsintoqueries/query/TermSource"), (.object "java/util/function/Function"), .double, .boolean]
  staticTypes := #[(.object "com/example/words_into_queries/wordsintoqueries/formulation/TopicField"), (.object "com/example/words_into_queries/wordsintoqueries/formulation/TopicField"), (.object "com/example/words_into_queries/wordsintoqueries/formulation/TopicField"), (.array (.object "com/example/words_into_queries/wordsintoqueries/formulation/TopicField"))]
  resolved := Array.replicate 147 none
  statics := some 1 }

def pool11 : Array CpInfo := pool [(1, .class_ 2), (0, u "java/lang/Cloneable"), (0, .class_ 4), (0, u "java/lang/Object")] 2

/-- java/lang/Cloneable -/
def k11 : Class := { plain "java/lang/Cloneable" (some 0) with
  accessFlags := 1537
  interfaces := #[]
  cf := some (fileOf pool11 1 #[] #[] 1537 3 #[] #[])
  fields := #[]
  methods := #[]
  instanceTypes := #[]
  staticTypes := #[]
  resolved := Array.replicate 7 none
  statics := none }

def pool12 : Array CpInfo := pool [(1, .class_ 2), (0, u "com/example/words_into_queries/wordsintoqueries/query/TermSource"), (2, u "TITLE"), (0, u "Lcom/example/words_into_queries/wordsintoqueries/query/TermSource;"), (2, u "DESC"), (2, u "NARR"), (2, u "PHRASE"), (2, u "FEEDBACK"), (2, u "PAST"), (2, u "JUDGED"), (2, u "OPTIMAL"), (2, u "$VALUES"), (0, u "[Lcom/example/words_into_queries/wordsintoqueries/query/TermSource;"), (6, .class_ 40), (1, u "java/lang/Enum"), (6, .fieldref 1 48), (0, .nameAndType 49 50), (0, u "m_name"), (0, u "Ljava/lang/String;"), (38, u "getName"), (0, u "()Ljava/lang/String;")] 5

def k12c0 : Code := { maxStack := 1, maxLocals := 1, code := prog_36_method_4_code, exceptionTable := #[], attributes := #[] }
def k12m0 : Method := { name := "getName", desc := "()Ljava/lang/String;", sig := { parameters := [], returnType := some (.object "java/lang/String") }, accessFlags := 1, code := some k12c0 }
/-- com/example/words_into_queries/wordsintoqueries/query/TermSource -/
def k12 : Class := { plain "com/example/words_into_queries/wordsintoqueries/query/TermSource" (some 9) with
  accessFlags := 16433
  interfaces := #[]
  cf := some (fileOf pool12 1 #[] #[{ accessFlags := 1, nameIndex := 89, descriptorIndex := 90, attributes := #[] }] 16433 38 #[] #[{ accessFlags := 16409, nameIndex := 5, descriptorIndex := 6, attributes := #[] }, { accessFlags := 16409, nameIndex := 9, descriptorIndex := 6, attributes := #[] }, { accessFlags := 16409, nameIndex := 12, descriptorIndex := 6, attributes := #[] }, { accessFlags := 16409, nameIndex := 15, descriptorIndex := 6, attributes := #[] }, { accessFlags := 16409, nameIndex := 18, descriptorIndex := 6, attributes := #[] }, { accessFlags := 16409, nameIndex := 21, descriptorIndex := 6, attributes := #[] }, { accessFlags := 16409, nameIndex := 24, descriptorIndex := 6, attributes := #[] }, { accessFlags := 16409, nameIndex := 27, descriptorIndex := 6, attributes := #[] }, { accessFlags := 18, nameIndex := 49, descriptorIndex := 50, attributes := #[] }, { accessFlags := 4122, nameIndex := 30, descriptorIndex := 31, attributes := #[] }])
  fields := #[{ name := "TITLE", type := (.object "com/example/words_into_queries/wordsintoqueries/query/TermSource"), accessFlags := 16409, slot := 0, constantValue := 0 }, { name := "DESC", type := (.object "com/example/words_into_queries/wordsintoqueries/query/TermSource"), accessFlags := 16409, slot := 1, constantValue := 0 }, { name := "NARR", type := (.object "com/example/words_into_queries/wordsintoqueries/query/TermSource"), accessFlags := 16409, slot := 2, constantValue := 0 }, { name := "PHRASE", type := (.object "com/example/words_into_queries/wordsintoqueries/query/TermSource"), accessFlags := 16409, slot := 3, constantValue := 0 }, { name := "FEEDBACK", type := (.object "com/example/words_into_queries/wordsintoqueries/query/TermSource"), accessFlags := 16409, slot := 4, constantValue := 0 }, { name := "PAST", type := (.object "com/example/words_into_queries/wordsintoqueries/query/TermSource"), accessFlags := 16409, slot := 5, constantValue := 0 }, { name := "JUDGED", type := (.object "com/example/words_into_queries/wordsintoqueries/query/TermSource"), accessFlags := 16409, slot := 6, constantValue := 0 }, { name := "OPTIMAL", type := (.object "com/example/words_into_queries/wordsintoqueries/query/TermSource"), accessFlags := 16409, slot := 7, constantValue := 0 }, { name := "m_name", type := (.object "java/lang/String"), accessFlags := 18, slot := 3, constantValue := 0 }, { name := "$VALUES", type := (.array (.object "com/example/words_into_queries/wordsintoqueries/query/TermSource")), accessFlags := 4122, slot := 8, constantValue := 0 }]
  methods := #[k12m0]
  instanceTypes := #[(.object "java/lang/String"), .int, .int, (.object "java/lang/String")]
  staticTypes := #[(.object "com/example/words_into_queries/wordsintoqueries/query/TermSource"), (.object "com/example/words_into_queries/wordsintoqueries/query/TermSource"), (.object "com/example/words_into_queries/wordsintoqueries/query/TermSource"), (.object "com/example/words_into_queries/wordsintoqueries/query/TermSource"), (.object "com/example/words_into_queries/wordsintoqueries/query/TermSource"), (.object "com/example/words_into_queries/wordsintoqueries/query/TermSource"), (.object "com/example/words_into_queries/wordsintoqueries/query/TermSource"), (.object "com/example/words_into_queries/wordsintoqueries/query/TermSource"), (.array (.object "com/example/words_into_queries/wordsintoqueries/query/TermSource"))]
  resolved := Array.replicate 96 none
  statics := some 2 }

def pool13 : Array CpInfo := pool [(6, .class_ 8), (1, u "java/lang/Object"), (0, u "<init>"), (0, u "()V"), (1, .class_ 14), (1, u "java/lang/StringUTF16"), (31, u "$assertionsDisabled"), (0, u "Z"), (13, u "HI_BYTE_SHIFT"), (0, u "I"), (2, u "LO_BYTE_SHIFT"), (49, .methodref 12 116), (0, .nameAndType 117 118), (0, u "compress"), (0, u "([CI[BII)I"), (3, u "([CII)[B"), (138, u "coderFromArrayLen"), (0, u "([BI)B"), (106, .class_ 371), (1, u "java/lang/StringUTF16$LinesSpliterator"), (58, u "MAX_LENGTH"), (196, .class_ 628), (0, u "java/lang/StringUTF16$CodePointsSpliterator"), (0, .class_ 630), (0, u "java/lang/StringUTF16$CharsSpliterator")] 4

def k13m0 : Method := { name := "<init>", desc := "()V", sig := { parameters := [], returnType := none }, accessFlags := 0, code := none }
def k13c1 : Code := { maxStack := 2, maxLocals := 2, code := jdk_52_method_15_code, exceptionTable := #[], attributes := #[] }
def k13m1 : Method := { name := "coderFromArrayLen", desc := "([BI)B", sig := { parameters := [(.array .byte), .int], returnType := some .byte }, accessFlags := 8, code := some k13c1 }
def k13c2 : Code := { maxStack := 5, maxLocals := 6, code := jdk_52_method_16_code, exceptionTable := #[], attributes := #[] }
def k13m2 : Method := { name := "compress", desc := "([CII)[B", sig := { parameters := [(.array .char), .int, .int], returnType := some (.array .byte) }, accessFlags := 9, code := some k13c2 }
def k13c3 : Code := { maxStack := 3, maxLocals := 7, code := jdk_52_method_21_code, exceptionTable := #[], attributes := #[] }
def k13m3 : Method := { name := "compress", desc := "([CI[BII)I", sig := { parameters := [(.array .char), .int, (.array .byte), .int, .int], returnType := some .int }, accessFlags := 9, code := some k13c3 }
/-- java/lang/StringUTF16 -/
def k13 : Class := { plain "java/lang/StringUTF16" (some 0) with
  accessFlags := 48
  interfaces := #[]
  cf := some (fileOf pool13 12 #[.nestMembers #[627, 629, 369]] #[{ accessFlags := 0, nameIndex := 9, descriptorIndex := 10, attributes := #[] }, { accessFlags := 8, nameIndex := 261, descriptorIndex := 262, attributes := #[] }, { accessFlags := 9, nameIndex := 117, descriptorIndex := 122, attributes := #[] }, { accessFlags := 9, nameIndex := 117, descriptorIndex := 118, attributes := #[] }] 48 6 #[] #[{ accessFlags := 26, nameIndex := 61, descriptorIndex := 62, attributes := #[] }, { accessFlags := 26, nameIndex := 65, descriptorIndex := 62, attributes := #[] }, { accessFlags := 24, nameIndex := 430, descriptorIndex := 62, attributes := #[] }, { accessFlags := 4120, nameIndex := 46, descriptorIndex := 47, attributes := #[] }])
  fields := #[{ name := "HI_BYTE_SHIFT", type := .int, accessFlags := 26, slot := 0, constantValue := 0 }, { name := "LO_BYTE_SHIFT", type := .int, accessFlags := 26, slot := 1, constantValue := 0 }, { name := "MAX_LENGTH", type := .int, accessFlags := 24, slot := 2, constantValue := 0 }, { name := "$assertionsDisabled", type := .boolean, accessFlags := 4120, slot := 3, constantValue := 0 }]
  methods := #[k13m0, k13m1, k13m2, k13m3]
  instanceTypes := #[]
  staticTypes := #[.int, .int, .int, .boolean]
  resolved := Array.replicate 635 none
  statics := none }

def pool14 : Array CpInfo := pool [(2, .class_ 4), (1, u "java/lang/Object"), (0, u "<init>"), (0, u "()V"), (17, .class_ 26), (1, u "jdk/internal/util/Preconditions"), (28, .class_ 56), (0, u "jdk/internal/util/Preconditions$4"), (57, .class_ 115), (0, u "jdk/internal/util/Preconditions$1"), (7, u "SIOOBE_FORMATTER"), (0, u "Ljava/util/function/BiFunction;"), (0, .class_ 126), (0, u "jdk/internal/util/Preconditions$2"), (3, u "AIOOBE_FORMATTER"), (0, .class_ 132), (0, u "jdk/internal/util/Preconditions$3"), (3, u "IOOBE_FORMATTER")] 57

def k14m0 : Method := { name := "<init>", desc := "()V", sig := { parameters := [], returnType := none }, accessFlags := 1, code := none }
/-- jdk/internal/util/Preconditions -/
def k14 : Class := { plain "jdk/internal/util/Preconditions" (some 0) with
  accessFlags := 33
  interfaces := #[]
  cf := some (fileOf pool14 24 #[.nestMembers #[55, 131, 125, 114]] #[{ accessFlags := 1, nameIndex := 5, descriptorIndex := 6, attributes := #[] }] 33 2 #[] #[{ accessFlags := 25, nameIndex := 123, descriptorIndex := 124, attributes := #[] }, { accessFlags := 25, nameIndex := 130, descriptorIndex := 124, attributes := #[] }, { accessFlags := 25, nameIndex := 136, descriptorIndex := 124, attributes := #[] }])
  fields := #[{ name := "SIOOBE_FORMATTER", type := (.object "java/util/function/BiFunction"), accessFlags := 25, slot := 0, constantValue := 0 }, { name := "AIOOBE_FORMATTER", type := (.object "java/util/function/BiFunction"), accessFlags := 25, slot := 1, constantValue := 0 }, { name := "IOOBE_FORMATTER", type := (.object "java/util/function/BiFunction"), accessFlags := 25, slot := 2, constantValue := 0 }]
  methods := #[k14m0]
  instanceTypes := #[]
  staticTypes := #[(.object "java/util/function/BiFunction"), (.object "java/util/function/BiFunction"), (.object "java/util/function/BiFunction")]
  resolved := Array.replicate 194 none
  statics := some 3 }

def pool15 : Array CpInfo := pool [(9, u "<init>"), (6, .class_ 18), (1, u "java/lang/Object"), (0, u "()V"), (1, .class_ 23), (1, u "jdk/internal/util/ArraysSupport"), (0, u "LOG2_ARRAY_LONG_INDEX_SCALE"), (0, u "I"), (2, u "U"), (0, u "Ljdk/internal/misc/Unsafe;"), (8, u "BIG_ENDIAN"), (0, u "Z"), (8, u "LOG2_BYTE_BIT_SIZE"), (4, u "LOG2_ARRAY_INT_INDEX_SCALE"), (54, u "JLA"), (0, u "Ljdk/internal/access/JavaLangAccess;"), (11, u "LOG2_ARRAY_BOOLEAN_INDEX_SCALE"), (9, u "LOG2_ARRAY_BYTE_INDEX_SCALE"), (5, u "LOG2_ARRAY_CHAR_INDEX_SCALE"), (5, u "LOG2_ARRAY_SHORT_INDEX_SCALE"), (18, u "LOG2_ARRAY_FLOAT_INDEX_SCALE"), (24, u "LOG2_ARRAY_DOUBLE_INDEX_SCALE"), (89, u "T_BOOLEAN"), (2, u "T_CHAR"), (1, u "T_FLOAT"), (1, u "T_DOUBLE"), (1, u "T_BYTE"), (1, u "T_SHORT"), (1, u "T_INT"), (1, u "T_LONG"), (1, u "SOFT_MAX_ARRAY_LENGTH")] 83

def k15m0 : Method := { name := "<init>", desc := "()V", sig := { parameters := [], returnType := none }, accessFlags := 2, code := none }
/-- jdk/internal/util/ArraysSupport -/
def k15 : Class := { plain "jdk/internal/util/ArraysSupport" (some 0) with
  accessFlags := 33
  interfaces := #[]
  cf := some (fileOf pool15 21 #[] #[{ accessFlags := 2, nameIndex := 9, descriptorIndex := 19, attributes := #[] }] 33 16 #[] #[{ accessFlags := 24, nameIndex := 28, descriptorIndex := 29, attributes := #[] }, { accessFlags := 26, nameIndex := 38, descriptorIndex := 39, attributes := #[] }, { accessFlags := 25, nameIndex := 121, descriptorIndex := 25, attributes := #[] }, { accessFlags := 25, nameIndex := 131, descriptorIndex := 25, attributes := #[] }, { accessFlags := 25, nameIndex := 137, descriptorIndex := 25, attributes := #[] }, { accessFlags := 25, nameIndex := 143, descriptorIndex := 25, attributes := #[] }, { accessFlags := 25, nameIndex := 53, descriptorIndex := 25, attributes := #[] }, { accessFlags := 25, nameIndex := 24, descriptorIndex := 25, attributes := #[] }, { accessFlags := 25, nameIndex := 162, descriptorIndex := 25, attributes := #[] }, { accessFlags := 25, nameIndex := 187, descriptorIndex := 25, attributes := #[] }, { accessFlags := 26, nameIndex := 48, descriptorIndex := 25, attributes := #[] }, { accessFlags := 25, nameIndex := 277, descriptorIndex := 25, attributes := #[] }, { accessFlags := 25, nameIndex := 280, descriptorIndex := 25, attributes := #[] }, { accessFlags := 25, nameIndex := 282, descriptorIndex := 25, attributes := #[] }, { accessFlags := 25, nameIndex := 284, descriptorIndex := 25, attributes := #[] }, { accessFlags := 25, nameIndex := 286, descriptorIndex := 25, attributes := #[] }, { accessFlags := 25, nameIndex := 288, descriptorIndex := 25, attributes := #[] }, { accessFlags := 25, nameIndex := 290, descriptorIndex := 25, attributes := #[] }, { accessFlags := 25, nameIndex := 292, descriptorIndex := 25, attributes := #[] }, { accessFlags := 26, nameIndex := 108, descriptorIndex := 109, attributes := #[] }, { accessFlags := 25, nameIndex := 294, descriptorIndex := 25, attributes := #[] }])
  fields := #[{ name := "U", type := (.object "jdk/internal/misc/Unsafe"), accessFlags := 24, slot := 0, constantValue := 0 }, { name := "BIG_ENDIAN", type := .boolean, accessFlags := 26, slot := 1, constantValue := 0 }, { name := "LOG2_ARRAY_BOOLEAN_INDEX_SCALE", type := .int, accessFlags := 25, slot := 2, constantValue := 0 }, { name := "LOG2_ARRAY_BYTE_INDEX_SCALE", type := .int, accessFlags := 25, slot := 3, constantValue := 0 }, { name := "LOG2_ARRAY_CHAR_INDEX_SCALE", type := .int, accessFlags := 25, slot := 4, constantValue := 0 }, { name := "LOG2_ARRAY_SHORT_INDEX_SCALE", type := .int, accessFlags := 25, slot := 5, constantValue := 0 }, { name := "LOG2_ARRAY_INT_INDEX_SCALE", type := .int, accessFlags := 25, slot := 6, constantValue := 0 }, { name := "LOG2_ARRAY_LONG_INDEX_SCALE", type := .int, accessFlags := 25, slot := 7, constantValue := 0 }, { name := "LOG2_ARRAY_FLOAT_INDEX_SCALE", type := .int, accessFlags := 25, slot := 8, constantValue := 0 }, { name := "LOG2_ARRAY_DOUBLE_INDEX_SCALE", type := .int, accessFlags := 25, slot := 9, constantValue := 0 }, { name := "LOG2_BYTE_BIT_SIZE", type := .int, accessFlags := 26, slot := 10, constantValue := 0 }, { name := "T_BOOLEAN", type := .int, accessFlags := 25, slot := 11, constantValue := 0 }, { name := "T_CHAR", type := .int, accessFlags := 25, slot := 12, constantValue := 0 }, { name := "T_FLOAT", type := .int, accessFlags := 25, slot := 13, constantValue := 0 }, { name := "T_DOUBLE", type := .int, accessFlags := 25, slot := 14, constantValue := 0 }, { name := "T_BYTE", type := .int, accessFlags := 25, slot := 15, constantValue := 0 }, { name := "T_SHORT", type := .int, accessFlags := 25, slot := 16, constantValue := 0 }, { name := "T_INT", type := .int, accessFlags := 25, slot := 17, constantValue := 0 }, { name := "T_LONG", type := .int, accessFlags := 25, slot := 18, constantValue := 0 }, { name := "JLA", type := (.object "jdk/internal/access/JavaLangAccess"), accessFlags := 26, slot := 19, constantValue := 0 }, { name := "SOFT_MAX_ARRAY_LENGTH", type := .int, accessFlags := 25, slot := 20, constantValue := 0 }]
  methods := #[k15m0]
  instanceTypes := #[]
  staticTypes := #[(.object "jdk/internal/misc/Unsafe"), .boolean, .int, .int, .int, .int, .int, .int, .int, .int, .int, .int, .int, .int, .int, .int, .int, .int, .int, (.object "jdk/internal/access/JavaLangAccess"), .int]
  resolved := Array.replicate 378 none
  statics := none }

/-- the primitive byte -/
def k16 : Class := { plain "byte" none with kind := .primitive 'B', accessFlags := 0x411 }
/-- [B -/
def k17 : Class := { plain "[B" (some 0) with kind := .array 16 .byte, interfaces := #[11, 2], accessFlags := 1041 }

/-- the primitive char -/
def k18 : Class := { plain "char" none with kind := .primitive 'C', accessFlags := 0x411 }
/-- [C -/
def k19 : Class := { plain "[C" (some 0) with kind := .array 18 .char, interfaces := #[11, 2], accessFlags := 1041 }

/-- the primitive int -/
def k20 : Class := { plain "int" none with kind := .primitive 'I', accessFlags := 0x411 }
/-- [I -/
def k21 : Class := { plain "[I" (some 0) with kind := .array 20 .int, interfaces := #[11, 2], accessFlags := 1041 }

/-- [Lcom/example/words_into_queries/wordsintoqueries/formulation/TopicField; -/
def k22 : Class := { plain "[Lcom/example/words_into_queries/wordsintoqueries/formulation/TopicField;" (some 0) with kind := .array 10 (.object "com/example/words_into_queries/wordsintoqueries/formulation/TopicField"), interfaces := #[11, 2], accessFlags := 1041 }

def heap : Heap := #[{ cls := 7, slots := #[.long 0, .int 1, .null, .int 0, .null, .int 0, .int 0], vm := .statics 7 },
  { cls := 10, slots := #[.ref 5, .ref 6, .ref 7, .ref 4], vm := .statics 10 },
  { cls := 12, slots := #[.ref 8, .ref 9, .ref 10, .null, .null, .null, .null, .null, .null], vm := .statics 12 },
  { cls := 14, slots := #[.null, .null, .null], vm := .statics 14 },
  { cls := 22, slots := #[.ref 5, .ref 6, .ref 7], vm := .none },
  { cls := 10, slots := #[.null, .int 0, .int 0, .ref 8, .null, .double 0, .int 0], vm := .none },
  { cls := 10, slots := #[.null, .int 1, .int 0, .ref 9, .null, .double 0, .int 0], vm := .none },
  { cls := 10, slots := #[.null, .int 2, .int 0, .ref 10, .null, .double 0, .int 0], vm := .none },
  { cls := 12, slots := #[.null, .int 0, .int 0, .ref 11], vm := .none },
  { cls := 12, slots := #[.null, .int 1, .int 0, .ref 12], vm := .none },
  { cls := 12, slots := #[.null, .int 2, .int 0, .ref 13], vm := .none },
  { cls := 7, slots := #[.ref 14, .int 0, .int 0, .int 0], vm := .none },
  { cls := 7, slots := #[.ref 15, .int 0, .int 0, .int 0], vm := .none },
  { cls := 7, slots := #[.ref 16, .int 0, .int 0, .int 0], vm := .none },
  { cls := 17, slots := #[.int 116, .int 105, .int 116, .int 108, .int 101], vm := .none },
  { cls := 17, slots := #[.int 100, .int 101, .int 115, .int 99], vm := .none },
  { cls := 17, slots := #[.int 110, .int 97, .int 114, .int 114], vm := .none }]
def classes : Array Class := #[k0, k1, k2, k3, k4, k5, k6, k7, k8, k9, k10, k11, k12, k13, k14, k15, k16, k17, k18, k19, k20, k21, k22]
def interned : List (Array UInt16 × Addr) := []
def slotsUsed : Nat := 84
def theMethod : MethodId := ⟨1, 1⟩
def args0 : Array Value := #[.int 5, .int 3, .int 7, .int 8, .int 9, .int 1]
def aboutOver (below : List Frame) : State where
  vm := { classes := classes, interned := interned.toArray }
  heap := heap
  slotsUsed := slotsUsed
  threads := #[{ frames := .invoking theMethod args0 :: below }]
def below0 : List Frame := [.native { method := ⟨0, 0⟩, args := #[] }]
def about1 : State := aboutOver below0
def p0 : Program := .bare "" "" ""
def e0 : Env := launch0.env 0 0 0
theorem w_frames : about1.frames = Frame.invoking theMethod args0 :: below0 := rfl
set_option maxRecDepth 65536 in
theorem w_args : argsFit about1.vm theMethod args0 = true := by decide +kernel
set_option maxRecDepth 65536 in
theorem w_heap : heapFits about1 = true := by decide +kernel
set_option maxRecDepth 65536 in
theorem w_runnable : about1.curStatus? = some .runnable := by decide +kernel
set_option maxRecDepth 65536 in
theorem w_alone : about1.alone = true := by decide +kernel
set_option maxRecDepth 65536 in
theorem w_named : about1.methodNamed? x = some theMethod := by decide +kernel
set_option maxRecDepth 65536 in
theorem w_hears : about1.hears theMethod below0 = true := by decide +kernel
set_option maxRecDepth 65536 in
theorem w_ripe : about1.ripe theMethod args0 below0 = true := by decide +kernel
theorem w_running : about1.status = .running := rfl
set_option maxRecDepth 65536 in
theorem w_room : about1.hasRoom e0.platform room_1 = true :=
  launch0.hasRoom_least _ room_1 (by decide +kernel) (by decide +kernel) (by decide +kernel) (by decide +kernel) (by decide +kernel) (by decide +kernel)
theorem allAtoms_all (ts : List Jvm.Cond) (a : Array Jvm.Value) (st : Jvm.State) : (allAtoms ts).before a st = ts.all (fun c => c.before a st) := by
  induction ts with
  | nil => rfl
  | cons c t ih =>
    show (Jvm.Cond.and c (allAtoms t)).before a st = _
    rw [Jvm.Cond.before_and, ih, List.all_cons]
def words1 : List Jvm.Cond := Jvm.Cond.code x code maxLocals ret :: tables_1
/-- a 'code' word, met by the world's own term for the bytes: nothing is compared byte by byte -/
theorem code_word {y : MethodName} {bytes : ByteArray} {mx : Nat} {rt : Option FieldType} {a : Array Value} {s : State} {m : MethodId} {meth : Method} {c : Code} (h1 : s.methodNamed? y = some m) (h2 : s.vm.method? m = some meth) (h3 : meth.code = some c) (h4 : c.code = bytes)
    (h5 : (c.maxLocals == mx && c.exceptionTable.isEmpty && decide (c.maxStack ≤ mostOperands) && decide (meth.sig.returnType = rt) && !meth.locks && decide (parseMethodDescriptor y.desc = some meth.sig)) = true) : (Jvm.Cond.code y bytes mx rt).before a s = true := by
  simp only [Bool.and_eq_true, beq_iff_eq, Bool.not_eq_true', decide_eq_true_eq] at h5
  obtain ⟨⟨⟨⟨⟨g1, g2⟩, g3⟩, g4⟩, g5⟩, g6⟩ := h5
  simp [Cond.before, Cond.holds, Cond.value, h1, h2, h3, h4, g1, g2, g3, g4, g5, g6]
def isCode : Jvm.Cond → Bool
  | .code _ _ _ _ => true
  | _ => false
theorem all_split {L : List Jvm.Cond} {P : Jvm.Cond → Bool} (h1 : L.all (fun c => isCode c || P c) = true) (h2 : ∀ c ∈ L.filter isCode, P c = true) : L.all P = true := by
  refine List.all_eq_true.mpr fun c hc => ?_
  have h := List.all_eq_true.mp h1 c hc
  rcases Bool.eq_false_or_eq_true (isCode c) with hi | hi
  · exact h2 c (List.mem_filter.mpr ⟨hc, hi⟩)
  · simpa [hi] using h
set_option maxRecDepth 65536 in
theorem w_c0 : (Jvm.Cond.code x code maxLocals ret).before args0 about1 = true := code_word (m := ⟨1, 1⟩) (meth := k1m1) (c := k1c1) (by decide +kernel) rfl rfl rfl (by decide +kernel)
set_option maxRecDepth 65536 in
theorem w_c1 : (Jvm.Cond.code ({ cls := "com/example/words_into_queries/wordsintoqueries/formulation/TopicFieldFindPinLaw", name := "make", desc := "([CI)Ljava/lang/String;" } : Jvm.MethodName) method_3_code (2 : Nat) (Option.some (Jvm.ClassFile.FieldType.object "java/lang/String"))).before args0 about1 = true := code_word (m := ⟨1, 2⟩) (meth := k1m2) (c := k1c2) (by decide +kernel) rfl rfl rfl (by decide +kernel)
set_option maxRecDepth 65536 in
theorem w_c2 : (Jvm.Cond.code ({ cls := "java/lang/String", name := "<init>", desc := "([C)V" } : Jvm.MethodName) jdk_42_method_3_code (2 : Nat) (Option.none : Option Jvm.ClassFile.FieldType)).before args0 about1 = true := code_word (m := ⟨7, 1⟩) (meth := k7m1) (c := k7c1) (by decide +kernel) rfl rfl rfl (by decide +kernel)
set_option maxRecDepth 65536 in
theorem w_c3 : (Jvm.Cond.code ({ cls := "java/lang/String", name := "<init>", desc := "([CIILjava/lang/Void;)V" } : Jvm.MethodName) jdk_42_method_149_code (6 : Nat) (Option.none : Option Jvm.ClassFile.FieldType)).before args0 about1 = true := code_word (m := ⟨7, 3⟩) (meth := k7m3) (c := k7c3) (by decide +kernel) rfl rfl rfl (by decide +kernel)
set_option maxRecDepth 65536 in
theorem w_c4 : (Jvm.Cond.code ({ cls := "java/lang/Object", name := "<init>", desc := "()V" } : Jvm.MethodName) object_method_1_code (1 : Nat) (Option.none : Option Jvm.ClassFile.FieldType)).before args0 about1 = true := code_word (m := ⟨0, 0⟩) (meth := k0m0) (c := k0c0) (by decide +kernel) rfl rfl rfl (by decide +kernel)
set_option maxRecDepth 65536 in
theorem w_c5 : (Jvm.Cond.code ({ cls := "java/lang/String", name := "equals", desc := "(Ljava/lang/Object;)Z" } : Jvm.MethodName) jdk_42_method_66_code (3 : Nat) (Option.some Jvm.ClassFile.FieldType.boolean)).before args0 about1 = true := code_word (m := ⟨7, 2⟩) (meth := k7m2) (c := k7c2) (by decide +kernel) rfl rfl rfl (by decide +kernel)
set_option maxRecDepth 65536 in
theorem w_c6 : (Jvm.Cond.code ({ cls := "java/lang/StringLatin1", name := "equals", desc := "([B[B)Z" } : Jvm.MethodName) jdk_43_method_13_code (3 : Nat) (Option.some Jvm.ClassFile.FieldType.boolean)).before args0 about1 = true := code_word (m := ⟨8, 1⟩) (meth := k8m1) (c := k8c1) (by decide +kernel) rfl rfl rfl (by decide +kernel)
set_option maxRecDepth 65536 in
theorem w_c7 : (Jvm.Cond.code ({ cls := "com/example/words_into_queries/wordsintoqueries/formulation/TopicField", name := "find", desc := "(Ljava/lang/String;)Lcom/example/words_into_queries/wordsintoqueries/formulation/TopicField;" } : Jvm.MethodName) prog_22_method_4_code (5 : Nat) (Option.some (Jvm.ClassFile.FieldType.object "com/example/words_into_queries/wordsintoqueries/formulation/TopicField"))).before args0 about1 = true := code_word (m := ⟨10, 1⟩) (meth := k10m1) (c := k10c1) (by decide +kernel) rfl rfl rfl (by decide +kernel)
set_option maxRecDepth 65536 in
theorem w_c8 : (Jvm.Cond.code ({ cls := "com/example/words_into_queries/wordsintoqueries/formulation/TopicField", name := "values", desc := "()[Lcom/example/words_into_queries/wordsintoqueries/formulation/TopicField;" } : Jvm.MethodName) prog_22_method_1_code (0 : Nat) (Option.some (Jvm.ClassFile.FieldType.array (Jvm.ClassFile.FieldType.object "com/example/words_into_queries/wordsintoqueries/formulation/TopicField")))).before args0 about1 = true := code_word (m := ⟨10, 0⟩) (meth := k10m0) (c := k10c0) (by decide +kernel) rfl rfl rfl (by decide +kernel)
set_option maxRecDepth 65536 in
theorem w_c9 : (Jvm.Cond.code ({ cls := "com/example/words_into_queries/wordsintoqueries/formulation/TopicField", name := "getName", desc := "()Ljava/lang/String;" } : Jvm.MethodName) prog_22_method_5_code (1 : Nat) (Option.some (Jvm.ClassFile.FieldType.object "java/lang/String"))).before args0 about1 = true := code_word (m := ⟨10, 2⟩) (meth := k10m2) (c := k10c2) (by decide +kernel) rfl rfl rfl (by decide +kernel)
set_option maxRecDepth 65536 in
theorem w_c10 : (Jvm.Cond.code ({ cls := "com/example/words_into_queries/wordsintoqueries/query/TermSource", name := "getName", desc := "()Ljava/lang/String;" } : Jvm.MethodName) prog_36_method_4_code (1 : Nat) (Option.some (Jvm.ClassFile.FieldType.object "java/lang/String"))).before args0 about1 = true := code_word (m := ⟨12, 0⟩) (meth := k12m0) (c := k12c0) (by decide +kernel) rfl rfl rfl (by decide +kernel)
set_option maxRecDepth 65536 in
theorem w_c11 : (Jvm.Cond.code ({ cls := "java/lang/StringUTF16", name := "compress", desc := "([CII)[B" } : Jvm.MethodName) jdk_52_method_16_code (6 : Nat) (Option.some (Jvm.ClassFile.FieldType.array Jvm.ClassFile.FieldType.byte))).before args0 about1 = true := code_word (m := ⟨13, 2⟩) (meth := k13m2) (c := k13c2) (by decide +kernel) rfl rfl rfl (by decide +kernel)
set_option maxRecDepth 65536 in
theorem w_c12 : (Jvm.Cond.code ({ cls := "java/lang/StringUTF16", name := "compress", desc := "([CI[BII)I" } : Jvm.MethodName) jdk_52_method_21_code (7 : Nat) (Option.some Jvm.ClassFile.FieldType.int)).before args0 about1 = true := code_word (m := ⟨13, 3⟩) (meth := k13m3) (c := k13c3) (by decide +kernel) rfl rfl rfl (by decide +kernel)
set_option maxRecDepth 65536 in
theorem w_c13 : (Jvm.Cond.code ({ cls := "java/lang/StringUTF16", name := "coderFromArrayLen", desc := "([BI)B" } : Jvm.MethodName) jdk_52_method_15_code (2 : Nat) (Option.some Jvm.ClassFile.FieldType.byte)).before args0 about1 = true := code_word (m := ⟨13, 1⟩) (meth := k13m1) (c := k13c1) (by decide +kernel) rfl rfl rfl (by decide +kernel)
def codes1 : List Jvm.Cond := [Jvm.Cond.code x code maxLocals ret, Jvm.Cond.code ({ cls := "com/example/words_into_queries/wordsintoqueries/formulation/TopicFieldFindPinLaw", name := "make", desc := "([CI)Ljava/lang/String;" } : Jvm.MethodName) method_3_code (2 : Nat) (Option.some (Jvm.ClassFile.FieldType.object "java/lang/String")), Jvm.Cond.code ({ cls := "java/lang/String", name := "<init>", desc := "([C)V" } : Jvm.MethodName) jdk_42_method_3_code (2 : Nat) (Option.none : Option Jvm.ClassFile.FieldType), Jvm.Cond.code ({ cls := "java/lang/String", name := "<init>", desc := "([CIILjava/lang/Void;)V" } : Jvm.MethodName) jdk_42_method_149_code (6 : Nat) (Option.none : Option Jvm.ClassFile.FieldType), Jvm.Cond.code ({ cls := "java/lang/Object", name := "<init>", desc := "()V" } : Jvm.MethodName) object_method_1_code (1 : Nat) (Option.none : Option Jvm.ClassFile.FieldType), Jvm.Cond.code ({ cls := "java/lang/String", name := "equals", desc := "(Ljava/lang/Object;)Z" } : Jvm.MethodName) jdk_42_method_66_code (3 : Nat) (Option.some Jvm.ClassFile.FieldType.boolean), Jvm.Cond.code ({ cls := "java/lang/StringLatin1", name := "equals", desc := "([B[B)Z" } : Jvm.MethodName) jdk_43_method_13_code (3 : Nat) (Option.some Jvm.ClassFile.FieldType.boolean), Jvm.Cond.code ({ cls := "com/example/words_into_queries/wordsintoqueries/formulation/TopicField", name := "find", desc := "(Ljava/lang/String;)Lcom/example/words_into_queries/wordsintoqueries/formulation/TopicField;" } : Jvm.MethodName) prog_22_method_4_code (5 : Nat) (Option.some (Jvm.ClassFile.FieldType.object "com/example/words_into_queries/wordsintoqueries/formulation/TopicField")), Jvm.Cond.code ({ cls := "com/example/words_into_queries/wordsintoqueries/formulation/TopicField", name := "values", desc := "()[Lcom/example/words_into_queries/wordsintoqueries/formulation/TopicField;" } : Jvm.MethodName) prog_22_method_1_code (0 : Nat) (Option.some (Jvm.ClassFile.FieldType.array (Jvm.ClassFile.FieldType.object "com/example/words_into_queries/wordsintoqueries/formulation/TopicField"))), Jvm.Cond.code ({ cls := "com/example/words_into_queries/wordsintoqueries/formulation/TopicField", name := "getName", desc := "()Ljava/lang/String;" } : Jvm.MethodName) prog_22_method_5_code (1 : Nat) (Option.some (Jvm.ClassFile.FieldType.object "java/lang/String")), Jvm.Cond.code ({ cls := "com/example/words_into_queries/wordsintoqueries/query/TermSource", name := "getName", desc := "()Ljava/lang/String;" } : Jvm.MethodName) prog_36_method_4_code (1 : Nat) (Option.some (Jvm.ClassFile.FieldType.object "java/lang/String")), Jvm.Cond.code ({ cls := "java/lang/StringUTF16", name := "compress", desc := "([CII)[B" } : Jvm.MethodName) jdk_52_method_16_code (6 : Nat) (Option.some (Jvm.ClassFile.FieldType.array Jvm.ClassFile.FieldType.byte)), Jvm.Cond.code ({ cls := "java/lang/StringUTF16", name := "compress", desc := "([CI[BII)I" } : Jvm.MethodName) jdk_52_method_21_code (7 : Nat) (Option.some Jvm.ClassFile.FieldType.int), Jvm.Cond.code ({ cls := "java/lang/StringUTF16", name := "coderFromArrayLen", desc := "([BI)B" } : Jvm.MethodName) jdk_52_method_15_code (2 : Nat) (Option.some Jvm.ClassFile.FieldType.byte)]
set_option maxRecDepth 65536 in
theorem codes_eq : words1.filter isCode = codes1 := rfl
theorem w_codes : ∀ c ∈ words1.filter isCode, c.before args0 about1 = true := by
  rw [codes_eq]
  intro c hc
  simp only [codes1, List.mem_cons, List.not_mem_nil, or_false] at hc
  rcases hc with rfl | rfl | rfl | rfl | rfl | rfl | rfl | rfl | rfl | rfl | rfl | rfl | rfl | rfl
  · exact w_c0
  · exact w_c1
  · exact w_c2
  · exact w_c3
  · exact w_c4
  · exact w_c5
  · exact w_c6
  · exact w_c7
  · exact w_c8
  · exact w_c9
  · exact w_c10
  · exact w_c11
  · exact w_c12
  · exact w_c13
set_option maxRecDepth 65536 in
theorem w_t1 : (words1.take 24).all (fun c => isCode c || c.before args0 about1) = true := by decide +kernel
set_option maxRecDepth 65536 in
theorem w_t2 : ((words1.drop 24).take 24).all (fun c => isCode c || c.before args0 about1) = true := by decide +kernel
set_option maxRecDepth 65536 in
theorem w_t3 : (((words1.drop 24).drop 24).take 24).all (fun c => isCode c || c.before args0 about1) = true := by decide +kernel
set_option maxRecDepth 65536 in
theorem w_t4 : (((words1.drop 24).drop 24).drop 24).all (fun c => isCode c || c.before args0 about1) = true := by decide +kernel
theorem w_tables : (allAtoms (Jvm.Cond.code x code maxLocals ret :: tables_1)).before args0 about1 = true := by
  rw [allAtoms_all]
  show words1.all (fun c => c.before args0 about1) = true
  refine all_split ?_ w_codes
  rw [← List.take_append_drop 24 words1, List.all_append, w_t1, ← List.take_append_drop 24 (words1.drop 24), List.all_append, w_t2, ← List.take_append_drop 24 ((words1.drop 24).drop 24), List.all_append, w_t3, w_t4]
  rfl
set_option maxRecDepth 65536 in
theorem w_rest : rest_1_c.before args0 about1 = true := by decide +kernel
set_option maxRecDepth 65536 in
theorem w_case : (Jvm.Cond.and given_1 narrow_1).before args0 about1 = true := by decide +kernel
set_option maxRecDepth 65536 in
theorem w_consts : constsHeld consts_1 about1 := Jvm.Lit.constsHeldB_iff.mp (by decide +kernel)
theorem w_applies : (headSpec (Jvm.Cond.code x code maxLocals ret :: tables_1) room_1).applies x e0.platform about1 = true :=
  (Spec.applies_iff w_frames).mpr ⟨w_running, w_runnable, w_alone, w_named, w_hears, w_ripe, w_room, w_tables⟩
theorem atStart : AtStart classFile x code maxLocals ret World_1 tables_1 room_1 Calls_1 rest_1 Pre_1 launch0 p0 e0 about1 theMethod args0 below0 :=
  ⟨lists_1, trivial, launch0.admits_env _ _ _, launch0.least_env, fairChoices_fair.cas, fairChoices_fair.clock, w_frames, w_args, w_heap, w_applies, ⟨w_consts, trivial⟩, w_rest, w_case⟩
end start1
theorem witness_1 : WitnessClaimed_1 := ⟨start1.p0, start1.e0, start1.about1, start1.theMethod, start1.args0, start1.below0, start1.atStart⟩
end Jvm.Pilot.@@N@@
