import JvmDerived
import JvmDerived.Pilot.@@N@@Statement
import JvmDerived.Pilot.@@N@@Code
set_option linter.unusedVariables false
set_option linter.unusedSimpArgs false
namespace Jvm.RoadKit
open Sem ClassFile Op Lib Jvm.Stand Jvm.Free Jvm.LawKit
section New
variable {p : Program} {l : Launch} {e : Env} {R : Room} {s : State} {m : MethodId} {args : Array Value} {below : List Frame} {meth : Method} {c : Code} {T : State} {locs : List Loc} {cells slots : Nat}
theorem retI (X : Stand p l e R s m args below meth c T locs cells slots) (hx : p.tables.exec = Jvm.exec) {pc : Nat} {Ls : Array Slot} {z : Int32} {rest : List Value} (hret : meth.sig.returnType = some .int) (hd : decode c.code pc = .ok (.ireturn, 1)) {fs : List Frame}
    (hl : ∀ (f : JFrame) (acts : List Action), f.method = m → f.locked = none → f.entered = [] → (doReturn e (T.setTop f) acts (some (.int z))).1 = T.setFrames fs) : Steps p.tables e below (T.setTop (mkF m pc Ls (.int z :: rest))) (T.setFrames fs) := by
  have hm' : T.vm.method? m = some meth := X.method'
  have hn : narrow .int (.int z) = .int z := rfl
  show Steps p.tables e below (T.setTop { method := m, pc := pc, locals := Ls, stack := _ :: rest, locked := none }) _
  jvm_step X.here [X.here.top, hx, hd, hm', hret, hn]
  first | (intro acts; rw [hl _ acts rfl rfl rfl]) | rw [hl _ _ rfl rfl rfl]
  exact Steps.refl _
end New
end Jvm.RoadKit
/- laws to paste: Road.backV, Road.chN, Road.codOf (cut by pick.py; bodies as the Statement names them) -/
namespace Jvm.Pilot.@@N@@
namespace StrChars
open Jvm Sem ClassFile Op Lib Jvm.Stand Jvm.Free.XT Jvm.Free.ALB Jvm.Free.JM Jvm.Free
open Jvm.Lib.Cold (StaticIs)
/-- a char array whose places are chars -/
def Ch (a : Addr) (A : Cell) (U : State) : Prop := Arr .char a A U ∧ Typed .char A
theorem Ch.mv {a : Addr} {A : Cell} {U U' : State} (h : Ch a A U) (hal : U.vm.Alike U'.vm) (hh : U'.heap = U.heap) : Ch a A U' := ⟨h.1.mv hal hh, h.2⟩
theorem Ch.keep {a : Addr} {A : Cell} {U U' : State} (h : Ch a A U) (hal : U.vm.Alike U'.vm) (hk : U'.heap[a]? = some A) : Ch a A U' := ⟨h.1.keep hal hk, h.2⟩
/-- what place i of a char[]'s cell holds -/
def cv (A : Cell) (i : Nat) : Int32 := match A.slots[i]? with | some (.int x) => x | _ => 0
theorem Ch.get {a : Addr} {A : Cell} {U : State} (h : Ch a A U) {i : Nat} (hi : i < A.slots.size) : A.slots[i]? = some (.int (cv A i)) := by
  have e := Array.getElem?_eq_getElem hi
  have f := h.2 i _ e
  unfold cv; rw [e]
  generalize A.slots[i] = v at f
  cases v <;> simp [fits] at f ⊢
/-- the byte that i2b leaves of a char -/
def lo8 (x : Int32) : Int32 := x.toInt8.toInt32
theorem fits_lo8 (y : Int32) : fits .byte (.int (lo8 y)) = true := by
  have h1 := y.toInt8.le_toInt
  have h2 := y.toInt8.toInt_lt
  simp only [lo8, fits, Bool.and_eq_true, decide_eq_true_eq, Int32.le_iff_toInt_le, Int8.toInt_toInt32, show (-128 : Int32).toInt = -128 from by decide, show (127 : Int32).toInt = 127 from by decide]
  omega
/-- A' is A but that each place j of lo .. hi - 1 holds f j -/
def Laid (A A' : Cell) (lo hi : Nat) (f : Nat → Value) : Prop := A'.cls = A.cls ∧ A'.vm = A.vm ∧ A'.slots.size = A.slots.size ∧ ∀ i, A'.slots[i]? = if lo ≤ i ∧ i < hi then some (f i) else A.slots[i]?
theorem Laid.zero (A : Cell) (lo : Nat) (f : Nat → Value) : Laid A A lo (lo + 0) f := ⟨rfl, rfl, rfl, fun i => by rw [if_neg (by omega)]⟩
theorem Laid.step {A Ak : Cell} {lo k : Nat} {f : Nat → Value} {v : Value} (h : Laid A Ak lo k f) (hlo : lo ≤ k) (hk : k < Ak.slots.size) (hv : v = f k) : Laid A (Ak.setSlot k v) lo (k + 1) f := by
  refine ⟨h.1, h.2.1, by simpa [Cell.setSlot] using h.2.2.1, fun i => ?_⟩
  by_cases e : k = i
  · subst e; rw [Cell.slots_setSlot_self v hk, if_pos (by omega), hv]
  · rw [Cell.slots_setSlot_ne v e, h.2.2.2 i]
    by_cases q : lo ≤ i ∧ i < k
    · rw [if_pos q, if_pos (by omega)]
    · rw [if_neg q, if_neg (by omega)]
def U16 : String := "java/lang/StringUTF16"
namespace Cmp5
def yN : MethodName := ⟨"java/lang/StringUTF16", "compress", "([CI[BII)I"⟩
abbrev yB : ByteArray := jdk_52_method_21_code
theorem d0 : decode yB 0 = .ok (.iconst 0, 1) := by decide +kernel
theorem d1 : decode yB 1 = .ok (.istore 5, 2) := by decide +kernel
theorem d3 : decode yB 3 = .ok (.iload 5, 2) := by decide +kernel
theorem d5 : decode yB 5 = .ok (.iload 4, 2) := by decide +kernel
theorem d7 : decode yB 7 = .ok (.if_icmp (.ge) 37, 3) := by decide +kernel
theorem d10 : decode yB 10 = .ok (.aload_n 0, 1) := by decide +kernel
theorem d11 : decode yB 11 = .ok (.iload_n 1, 1) := by decide +kernel
theorem d12 : decode yB 12 = .ok (.caload, 1) := by decide +kernel
theorem d13 : decode yB 13 = .ok (.istore 6, 2) := by decide +kernel
theorem d15 : decode yB 15 = .ok (.iload 6, 2) := by decide +kernel
theorem d17 : decode yB 17 = .ok (.sipush 255, 3) := by decide +kernel
theorem d20 : decode yB 20 = .ok (.if_icmp (.le) 6, 3) := by decide +kernel
theorem d26 : decode yB 26 = .ok (.aload_n 2, 1) := by decide +kernel
theorem d27 : decode yB 27 = .ok (.iload_n 3, 1) := by decide +kernel
theorem d28 : decode yB 28 = .ok (.iload 6, 2) := by decide +kernel
theorem d30 : decode yB 30 = .ok (.i2b, 1) := by decide +kernel
theorem d31 : decode yB 31 = .ok (.bastore, 1) := by decide +kernel
theorem d32 : decode yB 32 = .ok (.iinc 1 1, 3) := by decide +kernel
theorem d35 : decode yB 35 = .ok (.iinc 3 1, 3) := by decide +kernel
theorem d38 : decode yB 38 = .ok (.iinc 5 1, 3) := by decide +kernel
theorem d41 : decode yB 41 = .ok (.goto (-38), 3) := by decide +kernel
theorem d44 : decode yB 44 = .ok (.iload 4, 2) := by decide +kernel
theorem d46 : decode yB 46 = .ok (.ireturn, 1) := by decide +kernel
def site : List Cond := []
def tab : Cond := tabOf yN yB 7 (some .int) site
def P (b : Addr) (A : Cell) (d : Addr) (B : Cell) (o q len : Nat) (args : Array Value) (s : State) : Prop := args = #[.ref b, .int (Int32.ofNat o), .ref d, .int (Int32.ofNat q), .int (Int32.ofNat len)] ∧ Ch b A s ∧ Arr .byte d B s ∧ b ≠ d ∧ o + len ≤ A.slots.size ∧ q + len ≤ B.slots.size ∧ ∀ i, i < len → ¬ 255 < cv A (o + i)
def E (b : Addr) (A : Cell) (d : Addr) (B : Cell) (o q len : Nat) (r : Option Value) (s u : State) : Prop := r = some (.int (Int32.ofNat len)) ∧ ∃ B', Put d B' s u ∧ Laid B B' q (q + len) (fun j => Value.int (lo8 (cv A (o + (j - q)))))
/-- no char of the range above 255: len; the places written hold each char's low byte -/
theorem law (l : Launch) (b : Addr) (A : Cell) (d : Addr) (B : Cell) (o q len : Nat) : Law l yN 5 5 0 0 yB 7 (some .int) site (P b A d B o q len) (E b A d B o q len) (copyLocs d q len) 0 0 := by
  refine Law.of_walk (plainFor_of_name (by decide +kernel)) (by decide +kernel) (by decide +kernel) (by decide) (fun _ _ h => by rw [h.1]; rfl) (fun _ U U' hal hh h => ⟨h.1, h.2.1.mv hal hh, h.2.2.1.mv hal hh, h.2.2.2⟩) (fun r U U' V V' h1 hal h2 h => ⟨h.1, h.2.elim fun B' q => ⟨B', q.1.mv h1 h2, q.2⟩⟩) ?_
  intro p e s m args below meth c s₁ X0 hexec hbytes hml hret hlk hnm hown hh0 W hP
  obtain ⟨rfl, hA, hB, hne, l1, l2, hp⟩ := hP
  have c1 : Steps p.tables e below (s₁.setTop (entryFrame m #[.ref b, .int (Int32.ofNat o), .ref d, .int (Int32.ofNat q), .int (Int32.ofNat len)] 7)) (s₁.setTop (mkF m 0 #[.val (.ref b), .val (.int (Int32.ofNat o)), .val (.ref d), .val (.int (Int32.ofNat q)), .val (.int (Int32.ofNat len)), .unset, .unset] [])) := entry rfl
  have hA0 := hA.1.mv X0.warmed.alike hh0
  have hB0 := hB.mv X0.warmed.alike hh0
  have a31 := hA.1.2.2.2
  have c2 : Steps p.tables e below (s₁.setTop (entryFrame m #[.ref b, .int (Int32.ofNat o), .ref d, .int (Int32.ofNat q), .int (Int32.ofNat len)] 7)) (s₁.setTop (mkF m 3 #[.val (.ref b), .val (.int (Int32.ofNat o)), .val (.ref d), .val (.int (Int32.ofNat q)), .val (.int (Int32.ofNat len)), .val (.int 0), .unset] [])) := c1.trans (by
    refine iconstV X0.here hexec rfl 0 (hb hbytes d0) (by decide) ?_
    refine XS.istore X0.here hexec rfl (hb hbytes d1) rfl rfl ?_
    exact Steps.refl _)
  have loop : ∀ (r i : Nat), i + r = len → ∀ (z : Slot), (z = .unset ∨ ∃ w, z = .val w ∧ w.category = 1) → ∀ (Tl : State) (Bk : Cell), Stand p l e { frames := 0, locals := 0, cells := 0, slots := 0 } s m #[.ref b, .int (Int32.ofNat o), .ref d, .int (Int32.ofNat q), .int (Int32.ofNat len)] below meth c Tl ([] ++ copyLocs d q i) 0 0 → Put d Bk s₁ Tl → Laid B Bk q (q + i) (fun j => Value.int (lo8 (cv A (o + (j - q))))) →
      Steps p.tables e below (s₁.setTop (entryFrame m #[.ref b, .int (Int32.ofNat o), .ref d, .int (Int32.ofNat q), .int (Int32.ofNat len)] 7)) (Tl.setTop (mkF m 3 #[.val (.ref b), .val (.int (Int32.ofNat (o + i))), .val (.ref d), .val (.int (Int32.ofNat (q + i))), .val (.int (Int32.ofNat len)), .val (.int (Int32.ofNat i)), z] [])) → ∃ (T' : State) (B' : Cell) (z' : Slot), Stand p l e { frames := 0, locals := 0, cells := 0, slots := 0 } s m #[.ref b, .int (Int32.ofNat o), .ref d, .int (Int32.ofNat q), .int (Int32.ofNat len)] below meth c T' ([] ++ copyLocs d q len) 0 0 ∧ Put d B' s₁ T' ∧ Laid B B' q (q + len) (fun j => Value.int (lo8 (cv A (o + (j - q))))) ∧
      Steps p.tables e below (s₁.setTop (entryFrame m #[.ref b, .int (Int32.ofNat o), .ref d, .int (Int32.ofNat q), .int (Int32.ofNat len)] 7)) (T'.setTop (mkF m 3 #[.val (.ref b), .val (.int (Int32.ofNat (o + len))), .val (.ref d), .val (.int (Int32.ofNat (q + len))), .val (.int (Int32.ofNat len)), .val (.int (Int32.ofNat len)), z'] [])) := by
    intro r
    induction r with
    | zero =>
      intro i hi z hz Tl Bk Xl pl fl cl
      have hil : i = len := by omega
      rw [hil] at Xl fl cl
      exact ⟨Tl, Bk, z, Xl, pl, fl, cl⟩
    | succ r ih =>
      intro i hi z hz Tl Bk Xl pl fl cl
      have all := X0.warmed.alike.symm.trans Xl.warmed.alike
      have hAl := hA0.keep all (pl.other hne hA0.1)
      have hBk := hB0.like all pl.1 fl.1 fl.2.1 fl.2.2.1
      have hlt : q + i < Bk.slots.size := by rw [fl.2.2.1]; omega
      have c3 : Steps p.tables e below (s₁.setTop (entryFrame m #[.ref b, .int (Int32.ofNat o), .ref d, .int (Int32.ofNat q), .int (Int32.ofNat len)] 7)) (Tl.setTop (mkF m 12 #[.val (.ref b), .val (.int (Int32.ofNat (o + i))), .val (.ref d), .val (.int (Int32.ofNat (q + i))), .val (.int (Int32.ofNat len)), .val (.int (Int32.ofNat i)), z] [.int (Int32.ofNat (o + i)), .ref b])) := cl.trans (by
        refine XS.iload Xl.here hexec rfl (hb hbytes d3) rfl ?_
        refine XS.iload Xl.here hexec rfl (hb hbytes d5) rfl ?_
        refine XS.icmpNo Xl.here hexec rfl (hb hbytes d7) rfl (ii_ge_f (lt32 (by omega) (by omega))) ?_
        refine XS.aloadN Xl.here hexec rfl (hb hbytes d10) rfl rfl ?_
        refine XS.iloadN Xl.here hexec rfl (hb hbytes d11) rfl ?_
        exact Steps.refl _)
      have c4 : Steps p.tables e below (s₁.setTop (entryFrame m #[.ref b, .int (Int32.ofNat o), .ref d, .int (Int32.ofNat q), .int (Int32.ofNat len)] 7)) (Tl.setTop (mkF m 13 #[.val (.ref b), .val (.int (Int32.ofNat (o + i))), .val (.ref d), .val (.int (Int32.ofNat (q + i))), .val (.int (Int32.ofNat len)), .val (.int (Int32.ofNat i)), z] [.int (cv A (o + i))])) := c3.trans (by
        refine Xl.aget hexec hAl rfl (hA.get (i := o + i) (by omega)) rfl rfl (hb hbytes d12) ?_
        exact Steps.refl _)
      have c5 : Steps p.tables e below (s₁.setTop (entryFrame m #[.ref b, .int (Int32.ofNat o), .ref d, .int (Int32.ofNat q), .int (Int32.ofNat len)] 7)) (Tl.setTop (mkF m 15 #[.val (.ref b), .val (.int (Int32.ofNat (o + i))), .val (.ref d), .val (.int (Int32.ofNat (q + i))), .val (.int (Int32.ofNat len)), .val (.int (Int32.ofNat i)), .val (.int (cv A (o + i)))] [])) := c4.trans (by
        refine XS.istoreS Xl.here hexec rfl (hb hbytes d13) rfl rfl hz ?_
        exact Steps.refl _)
      have c6 : Steps p.tables e below (s₁.setTop (entryFrame m #[.ref b, .int (Int32.ofNat o), .ref d, .int (Int32.ofNat q), .int (Int32.ofNat len)] 7)) (Tl.setTop (mkF m 31 #[.val (.ref b), .val (.int (Int32.ofNat (o + i))), .val (.ref d), .val (.int (Int32.ofNat (q + i))), .val (.int (Int32.ofNat len)), .val (.int (Int32.ofNat i)), .val (.int (cv A (o + i)))] [.int (lo8 (cv A (o + i))), .int (Int32.ofNat (q + i)), .ref d])) := c5.trans (by
        refine XS.iload Xl.here hexec rfl (hb hbytes d15) rfl ?_
        refine sipushV Xl.here hexec rfl 255 (hb hbytes d17) (by decide) ?_
        refine XS.icmpYes Xl.here hexec rfl (pc0 := 20) rfl (hb hbytes d20) rfl (ii_le_t (hp i (by omega))) (by decide) rfl ?_
        refine XS.aloadN Xl.here hexec rfl (hb hbytes d26) rfl rfl ?_
        refine XS.iloadN Xl.here hexec rfl (hb hbytes d27) rfl ?_
        refine XS.iload Xl.here hexec rfl (hb hbytes d28) rfl ?_
        refine i2b Xl.here hexec rfl (hb hbytes d30) rfl ?_
        exact Steps.refl _)
      obtain ⟨T7, X7, p7, st7⟩ := Xl.aput hexec hBk rfl hlt rfl (fits_lo8 (cv A (o + i))) (g := (mkF m 31 #[.val (.ref b), .val (.int (Int32.ofNat (o + i))), .val (.ref d), .val (.int (Int32.ofNat (q + i))), .val (.int (Int32.ofNat len)), .val (.int (Int32.ofNat i)), .val (.int (cv A (o + i)))] [.int (lo8 (cv A (o + i))), .int (Int32.ofNat (q + i)), .ref d])) rfl (rest := []) rfl (hb hbytes d31)
      have c8 : Steps p.tables e below (s₁.setTop (entryFrame m #[.ref b, .int (Int32.ofNat o), .ref d, .int (Int32.ofNat q), .int (Int32.ofNat len)] 7)) (T7.setTop (mkF m 32 #[.val (.ref b), .val (.int (Int32.ofNat (o + i))), .val (.ref d), .val (.int (Int32.ofNat (q + i))), .val (.int (Int32.ofNat len)), .val (.int (Int32.ofNat i)), .val (.int (cv A (o + i)))] [])) := c6.trans (st7 _ (Steps.refl _))
      have c9 : Steps p.tables e below (s₁.setTop (entryFrame m #[.ref b, .int (Int32.ofNat o), .ref d, .int (Int32.ofNat q), .int (Int32.ofNat len)] 7)) (T7.setTop (mkF m 3 #[.val (.ref b), .val (.int (Int32.ofNat (o + i) + 1)), .val (.ref d), .val (.int (Int32.ofNat (q + i) + 1)), .val (.int (Int32.ofNat len)), .val (.int (Int32.ofNat i + 1)), .val (.int (cv A (o + i)))] [])) := c8.trans (by
        refine iincV X7.here hexec rfl 1 (hb hbytes d32) (by decide) rfl rfl ?_
        refine iincV X7.here hexec rfl 1 (hb hbytes d35) (by decide) rfl rfl ?_
        refine iincV X7.here hexec rfl 1 (hb hbytes d38) (by decide) rfl rfl ?_
        refine XS.goto X7.here hexec rfl (pc0 := 41) rfl (hb hbytes d41) (by decide) rfl ?_
        exact Steps.refl _)
      have c10 : Steps p.tables e below (s₁.setTop (entryFrame m #[.ref b, .int (Int32.ofNat o), .ref d, .int (Int32.ofNat q), .int (Int32.ofNat len)] 7)) (T7.setTop (mkF m 3 #[.val (.ref b), .val (.int (Int32.ofNat (o + (i + 1)))), .val (.ref d), .val (.int (Int32.ofNat (q + (i + 1)))), .val (.int (Int32.ofNat len)), .val (.int (Int32.ofNat (i + 1))), .val (.int (cv A (o + i)))] [])) := by
        have := c9
        rw [succ32, succ32, succ32] at this
        exact this
      exact ih (i + 1) (by omega) _ (Or.inr ⟨_, rfl, rfl⟩) T7 _ (by rw [copyLocs_step, ← List.append_assoc]; exact X7) (pl.trans p7) (fl.step (by omega) hlt (by simp)) c10
  obtain ⟨T9, B9, z9, X9, p9, f9, g9⟩ := loop len 0 (by omega) .unset (Or.inl rfl) s₁ B (by simpa [copyLocs] using X0) ⟨hB0.1, fun _ _ => rfl, rfl⟩ (Laid.zero _ _ _) c2
  have c11 : Steps p.tables e below (s₁.setTop (entryFrame m #[.ref b, .int (Int32.ofNat o), .ref d, .int (Int32.ofNat q), .int (Int32.ofNat len)] 7)) (T9.setTop (mkF m 46 #[.val (.ref b), .val (.int (Int32.ofNat (o + len))), .val (.ref d), .val (.int (Int32.ofNat (q + len))), .val (.int (Int32.ofNat len)), .val (.int (Int32.ofNat len)), z9] [.int (Int32.ofNat len)])) := g9.trans (by
    refine XS.iload X9.here hexec rfl (hb hbytes d3) rfl ?_
    refine XS.iload X9.here hexec rfl (hb hbytes d5) rfl ?_
    refine XS.icmpYes X9.here hexec rfl (pc0 := 7) rfl (hb hbytes d7) rfl (ii_ge_t (nlt32 (by omega) (Nat.le_refl _))) (by decide) rfl ?_
    refine XS.iload X9.here hexec rfl (hb hbytes d44) rfl ?_
    exact Steps.refl _)
  exact ⟨T9, some (.int (Int32.ofNat len)), _, _, _, X9, by simp, rfl, rfl, (fun h => by cases h), ⟨rfl, B9, p9.from hh0, f9⟩, fun fs hl => c11.trans (X9.ireturnOut hexec hret rfl (Or.inl rfl) (hb hbytes d46) hl)⟩
end Cmp5
namespace Cmp3
def yN : MethodName := ⟨"java/lang/StringUTF16", "compress", "([CII)[B"⟩
abbrev yB : ByteArray := jdk_52_method_16_code
theorem d0 : decode yB 0 = .ok (.iload_n 2, 1) := by decide +kernel
theorem d1 : decode yB 1 = .ok (.newarray .byte, 2) := by decide +kernel
theorem d3 : decode yB 3 = .ok (.astore_n 3, 1) := by decide +kernel
theorem d4 : decode yB 4 = .ok (.aload_n 0, 1) := by decide +kernel
theorem d5 : decode yB 5 = .ok (.iload_n 1, 1) := by decide +kernel
theorem d6 : decode yB 6 = .ok (.aload_n 3, 1) := by decide +kernel
theorem d7 : decode yB 7 = .ok (.iconst 0, 1) := by decide +kernel
theorem d8 : decode yB 8 = .ok (.iload_n 2, 1) := by decide +kernel
theorem d9 : decode yB 9 = .ok (.invokestatic 115, 3) := by decide +kernel
theorem d12 : decode yB 12 = .ok (.istore 4, 2) := by decide +kernel
theorem d14 : decode yB 14 = .ok (.iload 4, 2) := by decide +kernel
theorem d16 : decode yB 16 = .ok (.iload_n 2, 1) := by decide +kernel
theorem d17 : decode yB 17 = .ok (.if_icmp (.eq) 40, 3) := by decide +kernel
theorem d57 : decode yB 57 = .ok (.aload_n 3, 1) := by decide +kernel
theorem d58 : decode yB 58 = .ok (.areturn, 1) := by decide +kernel
def site : List Cond := [.arrayClass .byte, Cmp5.tab] ++ staticW U16 115 Cmp5.yN
def tab : Cond := tabOf yN yB 6 (some (.array .byte)) site
def P (b : Addr) (A : Cell) (o len : Nat) (args : Array Value) (s : State) : Prop := args = #[.ref b, .int (Int32.ofNat o), .int (Int32.ofNat len)] ∧ Ch b A s ∧ o + len ≤ A.slots.size ∧ len ≤ 536870912 ∧ ∀ i, i < len → ¬ 255 < cv A (o + i)
def E (b : Addr) (A : Cell) (o len : Nat) (r : Option Value) (s u : State) : Prop := NewArr .byte "[B" len (fun j => .int (lo8 (cv A (o + j)))) r s u ∧ u.heap.size = s.heap.size + 1
/-- no char of the range above 255: a new byte[] of their low bytes -/
theorem law (l : Launch) (b : Addr) (A : Cell) (o len : Nat) : Law l yN 3 3 1 18 yB 6 (some (.array .byte)) site (P b A o len) (E b A o len) [] 1 len := by
  refine Law.of_walk (plainFor_of_name (by decide +kernel)) (by decide +kernel) (by decide +kernel) (by decide) (fun _ _ h => by rw [h.1]; rfl) (fun _ U U' hal hh h => ⟨h.1, h.2.1.mv hal hh, h.2.2⟩) (fun r U U' V V' h1 hal h2 h => ⟨NewArr.mv r U U' V V' h1 hal h2 h.1, by rw [h1, h2]; exact h.2⟩) ?_
  intro p e s m args below meth c s₁ X0 hexec hbytes hml hret hlk hnm hown hh0 W hP
  obtain ⟨rfl, hA, l1, l2, hp⟩ := hP
  have a31 := hA.1.2.2.2
  have c1 : Steps p.tables e below (s₁.setTop (entryFrame m #[.ref b, .int (Int32.ofNat o), .int (Int32.ofNat len)] 6)) (s₁.setTop (mkF m 0 #[.val (.ref b), .val (.int (Int32.ofNat o)), .val (.int (Int32.ofNat len)), .unset, .unset, .unset] [])) := entry rfl
  have c2 : Steps p.tables e below (s₁.setTop (entryFrame m #[.ref b, .int (Int32.ofNat o), .int (Int32.ofNat len)] 6)) (s₁.setTop (mkF m 1 #[.val (.ref b), .val (.int (Int32.ofNat o)), .val (.int (Int32.ofNat len)), .unset, .unset, .unset] [.int (Int32.ofNat len)])) := c1.trans (by
    refine XS.iloadN X0.here hexec rfl (hb hbytes d0) rfl ?_
    exact Steps.refl _)
  obtain ⟨T3, B3, X3, ba3, bs3, bv3, bh3, bf3, st3⟩ := X0.anew hexec (atype := .byte) (wk W (.arrayClass .byte)) rfl (by show len * 1 ≤ _; omega) (by omega) (g := (mkF m 1 #[.val (.ref b), .val (.int (Int32.ofNat o)), .val (.int (Int32.ofNat len)), .unset, .unset, .unset] [.int (Int32.ofNat len)])) rfl (hb hbytes d1) (rest := []) rfl (Nat.le_refl _) (by show 0 + len ≤ len; omega)
  rw [hh0] at ba3 st3
  have kp3 : XT.Kept s T3 := (XT.Kept.of_eq hh0).push bh3
  have hA3 := hA.keep X3.warmed.alike (kp3 _ _ hA.1.1)
  have hne : b ≠ s.heap.size := hA.1.ne
  have c4 : Steps p.tables e below (s₁.setTop (entryFrame m #[.ref b, .int (Int32.ofNat o), .int (Int32.ofNat len)] 6)) (T3.setTop (mkF m 3 #[.val (.ref b), .val (.int (Int32.ofNat o)), .val (.int (Int32.ofNat len)), .unset, .unset, .unset] [.ref s.heap.size])) := c2.trans (st3 _ (Steps.refl _))
  have c5 : Steps p.tables e below (s₁.setTop (entryFrame m #[.ref b, .int (Int32.ofNat o), .int (Int32.ofNat len)] 6)) (T3.setTop (mkF m 9 #[.val (.ref b), .val (.int (Int32.ofNat o)), .val (.int (Int32.ofNat len)), .val (.ref s.heap.size), .unset, .unset] [.int (Int32.ofNat len), .int 0, .ref s.heap.size, .int (Int32.ofNat o), .ref b])) := c4.trans (by
    refine XS.astoreN X3.here hexec rfl (hb hbytes d3) rfl rfl rfl ?_
    refine XS.aloadN X3.here hexec rfl (hb hbytes d4) rfl rfl ?_
    refine XS.iloadN X3.here hexec rfl (hb hbytes d5) rfl ?_
    refine XS.aloadN X3.here hexec rfl (hb hbytes d6) rfl rfl ?_
    refine iconstV X3.here hexec rfl 0 (hb hbytes d7) (by decide) ?_
    refine XS.iloadN X3.here hexec rfl (hb hbytes d8) rfl ?_
    exact Steps.refl _)
  obtain ⟨v6, T6, X6, E6, g6⟩ := X3.callS hexec (Cmp5.law l b A s.heap.size B3 o 0 len) hown (wks W (staticW U16 115 Cmp5.yN)) (wk W Cmp5.tab) (W := 0) (Nat.le_of_ble_eq_true rfl) (Nat.le_of_ble_eq_true rfl) (Nat.le_refl _) (by show 0 + len + 0 ≤ len; omega) (g := (mkF m 9 #[.val (.ref b), .val (.int (Int32.ofNat o)), .val (.int (Int32.ofNat len)), .val (.ref s.heap.size), .unset, .unset] [.int (Int32.ofNat len), .int (Int32.ofNat 0), .ref s.heap.size, .int (Int32.ofNat o), .ref b])) rfl (by rw [hml]; rfl) c5 (argsL := [.ref b, .int (Int32.ofNat o), .ref s.heap.size, .int (Int32.ofNat 0), .int (Int32.ofNat len)]) (rest := []) rfl rfl (by show 2 * 0 + 0 ≤ _; decide) (hb hbytes d9) (⟨rfl, hA3, ba3, hne, l1, by rw [bs3]; simp, hp⟩)
  obtain ⟨rfl, B6, p6, f6⟩ := E6
  have c7 : Steps p.tables e below (s₁.setTop (entryFrame m #[.ref b, .int (Int32.ofNat o), .int (Int32.ofNat len)] 6)) (T6.setTop (mkF m 12 #[.val (.ref b), .val (.int (Int32.ofNat o)), .val (.int (Int32.ofNat len)), .val (.ref s.heap.size), .unset, .unset] [.int (Int32.ofNat len)])) := g6
  have c8 : Steps p.tables e below (s₁.setTop (entryFrame m #[.ref b, .int (Int32.ofNat o), .int (Int32.ofNat len)] 6)) (T6.setTop (mkF m 58 #[.val (.ref b), .val (.int (Int32.ofNat o)), .val (.int (Int32.ofNat len)), .val (.ref s.heap.size), .val (.int (Int32.ofNat len)), .unset] [.ref s.heap.size])) := c7.trans (by
    refine XS.istore X6.here hexec rfl (hb hbytes d12) rfl rfl ?_
    refine XS.iload X6.here hexec rfl (hb hbytes d14) rfl ?_
    refine XS.iloadN X6.here hexec rfl (hb hbytes d16) rfl ?_
    refine XS.icmpYes X6.here hexec rfl (pc0 := 17) rfl (hb hbytes d17) rfl (ii_eq_t rfl) (by decide) rfl ?_
    refine XS.aloadN X6.here hexec rfl (hb hbytes d57) rfl rfl ?_
    exact Steps.refl _)
  have X8 := X6.wide (L' := []) (cells' := 1) (slots' := len) (fun x hx hlt => by
    simp only [List.nil_append, copyLocs, List.mem_map, List.mem_range] at hx
    obtain ⟨i, -, rfl⟩ := hx
    exact absurd hlt (Nat.lt_irrefl _)) (Nat.le_refl _) (by omega)
  exact ⟨T6, some (.ref s.heap.size), _, _, _, X8, rfl, rfl, rfl, (fun h => by cases h), ⟨⟨rfl, B6, ba3.like (X3.warmed.alike.symm.trans X6.warmed.alike) p6.1 f6.1 f6.2.1 f6.2.2.1, f6.2.1.trans bv3, by rw [X6.warmed.alike.findClass, f6.1]; exact bf3, by rw [f6.2.2.1, bs3]; simp, fun j hj => by rw [f6.2.2.2 j, if_pos (by omega)]; rfl, kp3.put p6 (Nat.le_refl _)⟩, by rw [p6.2.2, bh3, hh0]; simp⟩, fun fs hl => c8.trans (X8.areturnOut hexec rfl hret rfl (hb hbytes d58) hl)⟩
end Cmp3
namespace CodL
def yN : MethodName := ⟨"java/lang/StringUTF16", "coderFromArrayLen", "([BI)B"⟩
abbrev yB : ByteArray := jdk_52_method_15_code
theorem d0 : decode yB 0 = .ok (.iload_n 1, 1) := by decide +kernel
theorem d1 : decode yB 1 = .ok (.aload_n 0, 1) := by decide +kernel
theorem d2 : decode yB 2 = .ok (.arraylength, 1) := by decide +kernel
theorem d3 : decode yB 3 = .ok (.isub, 1) := by decide +kernel
theorem d4 : decode yB 4 = .ok (.bipush 31, 2) := by decide +kernel
theorem d6 : decode yB 6 = .ok (.iushr, 1) := by decide +kernel
theorem d7 : decode yB 7 = .ok (.i2b, 1) := by decide +kernel
theorem d8 : decode yB 8 = .ok (.ireturn, 1) := by decide +kernel
def site : List Cond := []
def tab : Cond := tabOf yN yB 2 (some .byte) site
def P (d : Addr) (B : Cell) (args : Array Value) (s : State) : Prop := args = #[.ref d, .int (Int32.ofNat B.slots.size)] ∧ Arr .byte d B s
def E (r : Option Value) (s u : State) : Prop := XT.PureE (some (.int 0)) r s u
/-- an array as long as the number of chars: LATIN1 -/
theorem law (l : Launch) (d : Addr) (B : Cell) : Law l yN 2 2 0 0 yB 2 (some .byte) site (P d B) E [] 0 0 := by
  refine Law.of_walk (plainFor_of_name (by decide +kernel)) (by decide +kernel) (by decide +kernel) (by decide) (fun _ _ h => by rw [h.1]; rfl) (fun _ U U' hal hh h => ⟨h.1, h.2.mv hal hh⟩) (fun r U U' V V' h1 hal h2 h => XT.PureE.mv r U U' V V' h1 hal h2 h) ?_
  intro p e s m args below meth c s₁ X0 hexec hbytes hml hret hlk hnm hown hh0 W hP
  obtain ⟨rfl, hB⟩ := hP
  have hB0 := hB.mv X0.warmed.alike hh0
  have c1 : Steps p.tables e below (s₁.setTop (entryFrame m #[.ref d, .int (Int32.ofNat B.slots.size)] 2)) (s₁.setTop (mkF m 0 #[.val (.ref d), .val (.int (Int32.ofNat B.slots.size))] [])) := entry rfl
  have c2 : Steps p.tables e below (s₁.setTop (entryFrame m #[.ref d, .int (Int32.ofNat B.slots.size)] 2)) (s₁.setTop (mkF m 2 #[.val (.ref d), .val (.int (Int32.ofNat B.slots.size))] [.ref d, .int (Int32.ofNat B.slots.size)])) := c1.trans (by
    refine XS.iloadN X0.here hexec rfl (hb hbytes d0) rfl ?_
    refine XS.aloadN X0.here hexec rfl (hb hbytes d1) rfl rfl ?_
    exact Steps.refl _)
  have c3 : Steps p.tables e below (s₁.setTop (entryFrame m #[.ref d, .int (Int32.ofNat B.slots.size)] 2)) (s₁.setTop (mkF m 8 #[.val (.ref d), .val (.int (Int32.ofNat B.slots.size))] [.int (lo8 (ushr (Int32.ofNat B.slots.size - Int32.ofNat B.slots.size) 31))])) := c2.trans (by
    refine X0.alen hexec hB0 rfl rfl (hb hbytes d2) ?_
    refine XS.isub X0.here hexec rfl (hb hbytes d3) rfl ?_
    refine bipushV X0.here hexec rfl 31 (hb hbytes d4) (by decide) ?_
    refine iushr X0.here hexec rfl (hb hbytes d6) rfl ?_
    refine i2b X0.here hexec rfl (hb hbytes d7) rfl ?_
    exact Steps.refl _)
  have e0 : lo8 (ushr (Int32.ofNat B.slots.size - Int32.ofNat B.slots.size) 31) = 0 := by rw [Int32.sub_self]; decide
  rw [e0] at c3
  exact ⟨s₁, some (.int 0), _, _, _, X0, rfl, rfl, rfl, (fun h => by cases h), ⟨rfl, hh0⟩, fun fs hl => c3.trans (X0.ireturnOut hexec hret rfl (Or.inr (Or.inr (Or.inl rfl))) (hb hbytes d8) hl)⟩
end CodL
/-- the String at a is Latin-1 over a new byte[] (the heap's one new cell): the low bytes of the len chars of A from o on; every cell but a is kept -/
def Got (a : Addr) (D : Cell) (fV fC : Field) (A : Cell) (o len : Nat) (r : Option Value) (s u : State) : Prop := r = none ∧ ∃ D' V : Cell, Blank "java/lang/String" a D' u ∧ Same D D' [fV.slot, fC.slot] ∧ D'.slots[fV.slot]? = some (.ref s.heap.size) ∧ D'.slots[fC.slot]? = some (.int 0) ∧ Arr .byte s.heap.size V u ∧ V.vm = .none ∧ u.vm.findClass "[B" = some V.cls ∧ V.slots.size = len ∧ (∀ j, j < len → V.slots[j]? = some (.int (lo8 (cv A (o + j))))) ∧ (∀ (y : Addr) (c : Cell), y ≠ a → s.heap[y]? = some c → u.heap[y]? = some c) ∧ u.heap.size = s.heap.size + 1
theorem Got.mv {a : Addr} {D A : Cell} {fV fC : Field} {o len : Nat} : ∀ r (U U' V V' : State), U'.heap = U.heap → V.vm.Alike V'.vm → V'.heap = V.heap → Got a D fV fC A o len r U V → Got a D fV fC A o len r U' V' :=
  fun r U U' V V' h1 hal h2 ⟨e0, D', X, a1, a2, a3, a4, a5, a6, a7, a8, a9, a10, a11⟩ => ⟨e0, D', X, a1.mv hal h2, a2, by rw [h1]; exact a3, a4, by rw [h1]; exact a5.mv hal h2, a6, by rw [hal.findClass]; exact a7, a8, a9, by rw [h1, h2]; exact a10, by rw [h1, h2]; exact a11⟩
namespace New4
def yN : MethodName := ⟨"java/lang/String", "<init>", "([CIILjava/lang/Void;)V"⟩
abbrev yB : ByteArray := jdk_42_method_149_code
theorem d0 : decode yB 0 = .ok (.aload_n 0, 1) := by decide +kernel
theorem d1 : decode yB 1 = .ok (.invokespecial 1, 3) := by decide +kernel
theorem d4 : decode yB 4 = .ok (.iload_n 3, 1) := by decide +kernel
theorem d5 : decode yB 5 = .ok (.ifCond (.ne) 22, 3) := by decide +kernel
theorem d27 : decode yB 27 = .ok (.getstatic 38, 3) := by decide +kernel
theorem d30 : decode yB 30 = .ok (.ifCond (.eq) 28, 3) := by decide +kernel
theorem d33 : decode yB 33 = .ok (.aload_n 1, 1) := by decide +kernel
theorem d34 : decode yB 34 = .ok (.iload_n 2, 1) := by decide +kernel
theorem d35 : decode yB 35 = .ok (.iload_n 3, 1) := by decide +kernel
theorem d36 : decode yB 36 = .ok (.invokestatic 177, 3) := by decide +kernel
theorem d39 : decode yB 39 = .ok (.astore 5, 2) := by decide +kernel
theorem d41 : decode yB 41 = .ok (.aload_n 0, 1) := by decide +kernel
theorem d42 : decode yB 42 = .ok (.aload 5, 2) := by decide +kernel
theorem d44 : decode yB 44 = .ok (.iload_n 3, 1) := by decide +kernel
theorem d45 : decode yB 45 = .ok (.invokestatic 47, 3) := by decide +kernel
theorem d48 : decode yB 48 = .ok (.putfield 15, 3) := by decide +kernel
theorem d51 : decode yB 51 = .ok (.aload_n 0, 1) := by decide +kernel
theorem d52 : decode yB 52 = .ok (.aload 5, 2) := by decide +kernel
theorem d54 : decode yB 54 = .ok (.putfield 9, 3) := by decide +kernel
theorem d57 : decode yB 57 = .ok (.return_, 1) := by decide +kernel
def site : List Cond := [.fieldLink "java/lang/String" 38 "java/lang/String" "COMPACT_STRINGS" "Z", Cmp3.tab, CodL.tab, .laysFinal "java/lang/String" "java/lang/String" "value" "[B", .fieldLink "java/lang/String" 9 "java/lang/String" "value" "[B", .laysFinal "java/lang/String" "java/lang/String" "coder" "B", .fieldLink "java/lang/String" 15 "java/lang/String" "coder" "B"] ++ objW "java/lang/String" 1 ++ staticW "java/lang/String" 177 Cmp3.yN ++ staticW "java/lang/String" 47 CodL.yN
def tab : Cond := tabOf yN yB 6 none site
def P (a : Addr) (D : Cell) (fV fC : Field) (b : Addr) (A : Cell) (z : Int32) (o len : Nat) (args : Array Value) (s : State) : Prop := args = #[.ref a, .ref b, .int (Int32.ofNat o), .int (Int32.ofNat len), .null] ∧ Blank "java/lang/String" a D s ∧ Found "java/lang/String" "value" "[B" fV s ∧ Found "java/lang/String" "coder" "B" fC s ∧ Ch b A s ∧ StaticIs s "java/lang/String" "COMPACT_STRINGS" "Z" (.int z) ∧ ¬ z = 0 ∧ 0 < len ∧ o + len ≤ A.slots.size ∧ len ≤ 536870912 ∧ ∀ i, i < len → ¬ 255 < cv A (o + i)
def E (a : Addr) (D : Cell) (fV fC : Field) (A : Cell) (o len : Nat) (r : Option Value) (s u : State) : Prop := Got a D fV fC A o len r s u
/-- len > 0, no char of the range above 255: a Latin-1 String of their low bytes -/
theorem law (l : Launch) (a : Addr) (D : Cell) (fV fC : Field) (b : Addr) (A : Cell) (z : Int32) (o len : Nat) : Law l yN 5 4 2 35 yB 6 none site (P a D fV fC b A z o len) (E a D fV fC A o len) [⟨a, fC.slot⟩, ⟨a, fV.slot⟩] 1 len := by
  refine Law.of_walk (plainFor_of_name (by decide +kernel)) (by decide +kernel) (by decide +kernel) (by decide) (fun _ _ h => by rw [h.1]; rfl) (fun _ U U' hal hh h => ⟨h.1, h.2.1.mv hal hh, h.2.2.1.al hal, h.2.2.2.1.al hal, h.2.2.2.2.1.mv hal hh, h.2.2.2.2.2.1.there hal hh, h.2.2.2.2.2.2⟩) (fun r U U' V V' h1 hal h2 h => Got.mv r U U' V V' h1 hal h2 h) ?_
  intro p e s m args below meth c s₁ X0 hexec hbytes hml hret hlk hnm hown hh0 W hP
  obtain ⟨rfl, hB, f1, f2, hA, s1, hz, l0, l1, l2, hp⟩ := hP
  have a31 := hA.1.2.2.2
  have c1 : Steps p.tables e below (s₁.setTop (entryFrame m #[.ref a, .ref b, .int (Int32.ofNat o), .int (Int32.ofNat len), .null] 6)) (s₁.setTop (mkF m 0 #[.val (.ref a), .val (.ref b), .val (.int (Int32.ofNat o)), .val (.int (Int32.ofNat len)), .val .null, .unset] [])) := entry rfl
  have c2 : Steps p.tables e below (s₁.setTop (entryFrame m #[.ref a, .ref b, .int (Int32.ofNat o), .int (Int32.ofNat len), .null] 6)) (s₁.setTop (mkF m 1 #[.val (.ref a), .val (.ref b), .val (.int (Int32.ofNat o)), .val (.int (Int32.ofNat len)), .val .null, .unset] [.ref a])) := c1.trans (by
    refine XS.aloadN X0.here hexec rfl (hb hbytes d0) rfl rfl ?_
    exact Steps.refl _)
  obtain ⟨T3, X3, q3, st3⟩ := X0.oinit hexec hown (wks W (objW "java/lang/String" 1)) (g := (mkF m 1 #[.val (.ref a), .val (.ref b), .val (.int (Int32.ofNat o)), .val (.int (Int32.ofNat len)), .val .null, .unset] [.ref a])) rfl (by rw [hml]; rfl) (rest := []) rfl (hb hbytes d1) (W := 0) (by show 2 * 0 + 0 ≤ _; decide) (Nat.le_of_ble_eq_true rfl) (Nat.le_of_ble_eq_true rfl)
  have hh3 := q3.trans hh0
  have c4 : Steps p.tables e below (s₁.setTop (entryFrame m #[.ref a, .ref b, .int (Int32.ofNat o), .int (Int32.ofNat len), .null] 6)) (T3.setTop (mkF m 27 #[.val (.ref a), .val (.ref b), .val (.int (Int32.ofNat o)), .val (.int (Int32.ofNat len)), .val .null, .unset] [])) := (c2.trans (st3 _ (Steps.refl _))).trans (by
    refine XS.iloadN X3.here hexec rfl (hb hbytes d4) rfl ?_
    refine XS.ifYes X3.here hexec rfl (pc0 := 5) rfl (hb hbytes d5) rfl (i0_ne_t (nz32 (by omega) l0)) (by decide) rfl ?_
    exact Steps.refl _)
  obtain ⟨T5, X5, q5, st5⟩ := X3.sget hexec hown (wk W (.fieldLink "java/lang/String" 38 "java/lang/String" "COMPACT_STRINGS" "Z")) s1 (fun _ _ h => by rw [hh3]; exact h) (g := (mkF m 27 #[.val (.ref a), .val (.ref b), .val (.int (Int32.ofNat o)), .val (.int (Int32.ofNat len)), .val .null, .unset] [])) rfl (hb hbytes d27)
  have hh5 := q5.trans hh3
  have c6 : Steps p.tables e below (s₁.setTop (entryFrame m #[.ref a, .ref b, .int (Int32.ofNat o), .int (Int32.ofNat len), .null] 6)) (T5.setTop (mkF m 30 #[.val (.ref a), .val (.ref b), .val (.int (Int32.ofNat o)), .val (.int (Int32.ofNat len)), .val .null, .unset] [.int z])) := c4.trans (st5 _ (Steps.refl _))
  have c7 : Steps p.tables e below (s₁.setTop (entryFrame m #[.ref a, .ref b, .int (Int32.ofNat o), .int (Int32.ofNat len), .null] 6)) (T5.setTop (mkF m 36 #[.val (.ref a), .val (.ref b), .val (.int (Int32.ofNat o)), .val (.int (Int32.ofNat len)), .val .null, .unset] [.int (Int32.ofNat len), .int (Int32.ofNat o), .ref b])) := c6.trans (by
    refine XS.ifNo X5.here hexec rfl (hb hbytes d30) rfl (i0_eq_f hz) ?_
    refine XS.aloadN X5.here hexec rfl (hb hbytes d33) rfl rfl ?_
    refine XS.iloadN X5.here hexec rfl (hb hbytes d34) rfl ?_
    refine XS.iloadN X5.here hexec rfl (hb hbytes d35) rfl ?_
    exact Steps.refl _)
  obtain ⟨v8, T8, X8, E8, g8⟩ := X5.callS hexec (Cmp3.law l b A o len) hown (wks W (staticW "java/lang/String" 177 Cmp3.yN)) (wk W Cmp3.tab) (W := 0) (Nat.le_of_ble_eq_true rfl) (Nat.le_of_ble_eq_true rfl) (Nat.le_refl _) (by show 0 + len ≤ len; omega) (g := (mkF m 36 #[.val (.ref a), .val (.ref b), .val (.int (Int32.ofNat o)), .val (.int (Int32.ofNat len)), .val .null, .unset] [.int (Int32.ofNat len), .int (Int32.ofNat o), .ref b])) rfl (by rw [hml]; rfl) c7 (argsL := [.ref b, .int (Int32.ofNat o), .int (Int32.ofNat len)]) (rest := []) rfl rfl (by show 2 * 0 + 0 ≤ _; decide) (hb hbytes d36) (⟨rfl, hA.mv X5.warmed.alike hh5, l1, l2, hp⟩)
  obtain ⟨e8, z8⟩ := E8
  obtain ⟨rfl, N, n1, n2, n3, n4, n5, n6⟩ := NewArr.mv _ T5 s _ _ hh5.symm (Vm.Alike.refl _) rfl e8
  rw [hh5] at z8
  have hB1 := hB.keep X8.warmed.alike (n6 _ _ hB.1)
  have hne : s.heap.size ≠ a := (Nat.ne_of_lt (Array.getElem?_eq_some_iff.mp hB.1).1).symm
  have c9 : Steps p.tables e below (s₁.setTop (entryFrame m #[.ref a, .ref b, .int (Int32.ofNat o), .int (Int32.ofNat len), .null] 6)) (T8.setTop (mkF m 39 #[.val (.ref a), .val (.ref b), .val (.int (Int32.ofNat o)), .val (.int (Int32.ofNat len)), .val .null, .unset] [.ref s.heap.size])) := g8
  have c10 : Steps p.tables e below (s₁.setTop (entryFrame m #[.ref a, .ref b, .int (Int32.ofNat o), .int (Int32.ofNat len), .null] 6)) (T8.setTop (mkF m 45 #[.val (.ref a), .val (.ref b), .val (.int (Int32.ofNat o)), .val (.int (Int32.ofNat len)), .val .null, .val (.ref s.heap.size)] [.int (Int32.ofNat N.slots.size), .ref s.heap.size, .ref a])) := by
    have hc : Steps p.tables e below (s₁.setTop (entryFrame m #[.ref a, .ref b, .int (Int32.ofNat o), .int (Int32.ofNat len), .null] 6)) (T8.setTop (mkF m 45 #[.val (.ref a), .val (.ref b), .val (.int (Int32.ofNat o)), .val (.int (Int32.ofNat len)), .val .null, .val (.ref s.heap.size)] [.int (Int32.ofNat len), .ref s.heap.size, .ref a])) := c9.trans (by
      refine XS.astore X8.here hexec rfl (hb hbytes d39) rfl rfl rfl ?_
      refine XS.aloadN X8.here hexec rfl (hb hbytes d41) rfl rfl ?_
      refine XS.aload X8.here hexec rfl (hb hbytes d42) rfl rfl ?_
      refine XS.iloadN X8.here hexec rfl (hb hbytes d44) rfl ?_
      exact Steps.refl _)
    rw [n4]; exact hc
  obtain ⟨v11, T11, X11, E11, g11⟩ := X8.callS hexec (CodL.law l s.heap.size N) hown (wks W (staticW "java/lang/String" 47 CodL.yN)) (wk W CodL.tab) (W := 1) (Nat.le_of_ble_eq_true rfl) (Nat.le_of_ble_eq_true rfl) (Nat.le_refl _) (by show 0 + len + 0 ≤ len; omega) (g := (mkF m 45 #[.val (.ref a), .val (.ref b), .val (.int (Int32.ofNat o)), .val (.int (Int32.ofNat len)), .val .null, .val (.ref s.heap.size)] [.int (Int32.ofNat N.slots.size), .ref s.heap.size, .ref a])) rfl (by rw [hml]; rfl) c10 (argsL := [.ref s.heap.size, .int (Int32.ofNat N.slots.size)]) (rest := [.ref a]) rfl rfl (by show 2 * 0 + (1 + 0) ≤ _; decide) (hb hbytes d45) (⟨rfl, n1⟩)
  obtain ⟨rfl, q11⟩ := E11
  have hB11 := hB1.mv (X8.warmed.alike.symm.trans X11.warmed.alike) q11
  have c12 : Steps p.tables e below (s₁.setTop (entryFrame m #[.ref a, .ref b, .int (Int32.ofNat o), .int (Int32.ofNat len), .null] 6)) (T11.setTop (mkF m 48 #[.val (.ref a), .val (.ref b), .val (.int (Int32.ofNat o)), .val (.int (Int32.ofNat len)), .val .null, .val (.ref s.heap.size)] [.int 0, .ref a])) := g11
  obtain ⟨T13, X13, p13, bl13, sl13, st13⟩ := X11.finit hexec hown (wk W (.fieldLink "java/lang/String" 15 "java/lang/String" "coder" "B")) (Or.inr ⟨_, (wk W (.laysFinal "java/lang/String" "java/lang/String" "coder" "B"))⟩) (Or.inl ⟨rfl, hnm⟩) f2 (Or.inl rfl) hB11 (t := .byte) (by decide +kernel) rfl (g := (mkF m 48 #[.val (.ref a), .val (.ref b), .val (.int (Int32.ofNat o)), .val (.int (Int32.ofNat len)), .val .null, .val (.ref s.heap.size)] [.int 0, .ref a])) rfl (rest := []) rfl (hb hbytes d48)
  have c14 : Steps p.tables e below (s₁.setTop (entryFrame m #[.ref a, .ref b, .int (Int32.ofNat o), .int (Int32.ofNat len), .null] 6)) (T13.setTop (mkF m 54 #[.val (.ref a), .val (.ref b), .val (.int (Int32.ofNat o)), .val (.int (Int32.ofNat len)), .val .null, .val (.ref s.heap.size)] [.ref s.heap.size, .ref a])) := (c12.trans (st13 _ (Steps.refl _))).trans (by
    refine XS.aloadN X13.here hexec rfl (hb hbytes d51) rfl rfl ?_
    refine XS.aload X13.here hexec rfl (hb hbytes d52) rfl rfl ?_
    exact Steps.refl _)
  obtain ⟨T15, X15, p15, bl15, sl15, st15⟩ := X13.finit hexec hown (wk W (.fieldLink "java/lang/String" 9 "java/lang/String" "value" "[B")) (Or.inr ⟨_, (wk W (.laysFinal "java/lang/String" "java/lang/String" "value" "[B"))⟩) (Or.inl ⟨rfl, hnm⟩) f1 (Or.inl rfl) bl13 (t := (.array .byte)) (by decide +kernel) rfl (g := (mkF m 54 #[.val (.ref a), .val (.ref b), .val (.int (Int32.ofNat o)), .val (.int (Int32.ofNat len)), .val .null, .val (.ref s.heap.size)] [.ref s.heap.size, .ref a])) rfl (rest := []) rfl (hb hbytes d54)
  have c16 : Steps p.tables e below (s₁.setTop (entryFrame m #[.ref a, .ref b, .int (Int32.ofNat o), .int (Int32.ofNat len), .null] 6)) (T15.setTop (mkF m 57 #[.val (.ref a), .val (.ref b), .val (.int (Int32.ofNat o)), .val (.int (Int32.ofNat len)), .val .null, .val (.ref s.heap.size)] [])) := c14.trans (st15 _ (Steps.refl _))
  have ap := apart (Or.inr ⟨_, (wk W (.laysFinal "java/lang/String" "java/lang/String" "value" "[B"))⟩) (Or.inr ⟨_, (wk W (.laysFinal "java/lang/String" "java/lang/String" "coder" "B"))⟩) f1 f2 (t₁ := .array .byte) (t₂ := .byte) (by decide +kernel) (by decide +kernel) (by decide)
  have al := X8.warmed.alike.symm.trans X15.warmed.alike
  have n7 : T11.heap[s.heap.size]? = some N := by rw [q11]; exact n1.1
  exact ⟨T15, none, _, _, _, X15, by simp, rfl, by omega, (fun _ => rfl), ⟨rfl, _, N, bl15, ((Same.refl D _).set _ (by simp)).set _ (by simp), sl15, (Cell.slots_setSlot_ne _ ap).trans sl13, n1.keep al (p15.other hne (p13.other hne n7)), n2, by rw [al.findClass]; exact n3, n4, n5, fun y c h1 h2 => p15.other h1 (p13.other h1 (by rw [q11]; exact n6 y c h2)), by rw [p15.2.2, p13.2.2, q11]; exact z8⟩, fun fs hl => c16.trans (X15.returnOut hexec hret (hb hbytes d57) hl)⟩
end New4
namespace New1
def yN : MethodName := ⟨"java/lang/String", "<init>", "([C)V"⟩
abbrev yB : ByteArray := jdk_42_method_3_code
theorem d0 : decode yB 0 = .ok (.aload_n 0, 1) := by decide +kernel
theorem d1 : decode yB 1 = .ok (.aload_n 1, 1) := by decide +kernel
theorem d2 : decode yB 2 = .ok (.iconst 0, 1) := by decide +kernel
theorem d3 : decode yB 3 = .ok (.aload_n 1, 1) := by decide +kernel
theorem d4 : decode yB 4 = .ok (.arraylength, 1) := by decide +kernel
theorem d5 : decode yB 5 = .ok (.aconst_null, 1) := by decide +kernel
theorem d6 : decode yB 6 = .ok (.invokespecial 27, 3) := by decide +kernel
theorem d9 : decode yB 9 = .ok (.return_, 1) := by decide +kernel
def site : List Cond := [New4.tab] ++ initW "java/lang/String" 27 New4.yN
def tab : Cond := tabOf yN yB 2 none site
def P (a : Addr) (D : Cell) (fV fC : Field) (b : Addr) (A : Cell) (z : Int32) (args : Array Value) (s : State) : Prop := args = #[.ref a, .ref b] ∧ Blank "java/lang/String" a D s ∧ Found "java/lang/String" "value" "[B" fV s ∧ Found "java/lang/String" "coder" "B" fC s ∧ Ch b A s ∧ StaticIs s "java/lang/String" "COMPACT_STRINGS" "Z" (.int z) ∧ ¬ z = 0 ∧ 0 < A.slots.size ∧ A.slots.size ≤ 536870912 ∧ ∀ i, i < A.slots.size → ¬ 255 < cv A i
def E (a : Addr) (D : Cell) (fV fC : Field) (A : Cell) (r : Option Value) (s u : State) : Prop := Got a D fV fC A 0 A.slots.size r s u
/-- new String(chars), not empty, no char above 255: a Latin-1 String of their low bytes -/
theorem law (l : Launch) (a : Addr) (D : Cell) (fV fC : Field) (b : Addr) (A : Cell) (z : Int32) : Law l yN 2 1 3 52 yB 2 none site (P a D fV fC b A z) (E a D fV fC A) [⟨a, fC.slot⟩, ⟨a, fV.slot⟩] 1 A.slots.size := by
  refine Law.of_walk (plainFor_of_name (by decide +kernel)) (by decide +kernel) (by decide +kernel) (by decide) (fun _ _ h => by rw [h.1]; rfl) (fun _ U U' hal hh h => ⟨h.1, h.2.1.mv hal hh, h.2.2.1.al hal, h.2.2.2.1.al hal, h.2.2.2.2.1.mv hal hh, h.2.2.2.2.2.1.there hal hh, h.2.2.2.2.2.2⟩) (fun r U U' V V' h1 hal h2 h => Got.mv r U U' V V' h1 hal h2 h) ?_
  intro p e s m args below meth c s₁ X0 hexec hbytes hml hret hlk hnm hown hh0 W hP
  obtain ⟨rfl, hB, f1, f2, hA, s1, hz, l0, l2, hp⟩ := hP
  have c1 : Steps p.tables e below (s₁.setTop (entryFrame m #[.ref a, .ref b] 2)) (s₁.setTop (mkF m 0 #[.val (.ref a), .val (.ref b)] [])) := entry rfl
  have c2 : Steps p.tables e below (s₁.setTop (entryFrame m #[.ref a, .ref b] 2)) (s₁.setTop (mkF m 6 #[.val (.ref a), .val (.ref b)] [.null, .int (Int32.ofNat A.slots.size), .int 0, .ref b, .ref a])) := c1.trans (by
    refine XS.aloadN X0.here hexec rfl (hb hbytes d0) rfl rfl ?_
    refine XS.aloadN X0.here hexec rfl (hb hbytes d1) rfl rfl ?_
    refine iconstV X0.here hexec rfl 0 (hb hbytes d2) (by decide) ?_
    refine XS.aloadN X0.here hexec rfl (hb hbytes d3) rfl rfl ?_
    refine X0.alen hexec (hA.1.mv X0.warmed.alike hh0) rfl rfl (hb hbytes d4) ?_
    refine XS.aconstNull X0.here hexec rfl (hb hbytes d5) ?_
    exact Steps.refl _)
  obtain ⟨v3, T3, X3, E3, g3⟩ := X0.callN hexec (New4.law l a D fV fC b A z 0 A.slots.size) rfl hown (wks W (initW "java/lang/String" 27 New4.yN)) (W New4.tab (by simp only [site, List.mem_cons, List.mem_append, true_or, or_true])) (W := 0) (Nat.le_of_ble_eq_true rfl) (Nat.le_of_ble_eq_true rfl) (Nat.le_refl _) (by show 0 + A.slots.size ≤ A.slots.size; omega) (g := (mkF m 6 #[.val (.ref a), .val (.ref b)] [.null, .int (Int32.ofNat A.slots.size), .int (Int32.ofNat 0), .ref b, .ref a])) rfl (by rw [hml]; rfl) c2 (argsL := [.ref b, .int (Int32.ofNat 0), .int (Int32.ofNat A.slots.size), .null]) (rest := []) rfl rfl (by show 2 * 0 + 0 ≤ _; decide) (hb hbytes d6) (⟨rfl, hB.mv X0.warmed.alike hh0, f1.al X0.warmed.alike, f2.al X0.warmed.alike, hA.mv X0.warmed.alike hh0, s1.there X0.warmed.alike hh0, hz, l0, by omega, l2, fun i hi => by rw [Nat.zero_add]; exact hp i hi⟩)
  have e0 := Got.mv _ s₁ s _ _ hh0.symm (Vm.Alike.refl _) rfl E3
  obtain rfl := e0.1
  have c4 : Steps p.tables e below (s₁.setTop (entryFrame m #[.ref a, .ref b] 2)) (T3.setTop (mkF m 9 #[.val (.ref a), .val (.ref b)] [])) := g3
  exact ⟨T3, none, _, _, _, X3, by simp, rfl, by omega, (fun _ => rfl), e0, fun fs hl => c4.trans (X3.returnOut hexec hret (hb hbytes d9) hl)⟩
theorem pays {l : Launch} {R : Room} {p : Program} {e : Env} {below : List Frame} {s : State} {sargs : Array Value} {len W : Nat} (a : Addr) (D : Cell) (fV fC : Field) (b : Addr) (A : Cell) (z : Int32) (htab : tab.before sargs s = true) (hfr : 4 ≤ R.frames) (hlo : W + 65 ≤ R.locals) :
    Back l R p e below s sargs yN len W (fun A₁ a₁ => A₁.cells + 1 ≤ R.cells ∧ A₁.slots + A.slots.size ≤ R.slots ∧ P a D fV fC b A z a₁ A₁.U) (fun A₁ _ v₁ B₁ => E a D fV fC A v₁ A₁.U B₁.U ∧ B₁.locs = A₁.locs ++ [⟨a, fC.slot⟩, ⟨a, fV.slot⟩] ∧ B₁.cells = A₁.cells + 1 ∧ B₁.slots = A₁.slots + A.slots.size) :=
  (law l a D fV fC b A z).pays htab hfr (by omega)
end New1
/-- the byte, read back as charAt reads it, is the char -/
theorem lo8_mask {x : Int32} (h0 : ¬ x < 0) (h1 : ¬ 255 < x) : lo8 x &&& 255 = x := by
  have t : ∀ k : Fin 256, lo8 (Int32.ofNat k.val) &&& 255 = Int32.ofNat k.val := by decide +kernel
  rw [Int32.lt_iff_toInt_lt] at h0 h1
  have e0 : (0 : Int32).toInt = 0 := rfl
  have e1 : (255 : Int32).toInt = 255 := rfl
  obtain ⟨k, hk⟩ : ∃ k : Nat, x.toInt = k := ⟨x.toInt.toNat, by omega⟩
  have hx : x = Int32.ofNat k := Int32.toInt_inj.mp (by rw [hk, Int32.toInt_ofNat_small (by omega)])
  rw [hx]
  exact t ⟨k, by omega⟩
end StrChars
namespace StrChars.Road
open Jvm Sem ClassFile Op Lib Jvm.Stand Jvm.Free Jvm.Free.XT
open Jvm.Lib.Cold (StaticIs)
abbrev ST : String := "java/lang/String"
/-- every table word that New1's law asks, flat -/
abbrev words : List Jvm.Cond := [.code New1.yN New1.yB 2 none, .initialized ST, .methodLink ST 27 New4.yN, .instanceMethod New4.yN,
  .code New4.yN New4.yB 6 none, .fieldLink ST 38 ST "COMPACT_STRINGS" "Z", .laysFinal ST ST "value" "[B", .fieldLink ST 9 ST "value" "[B", .laysFinal ST ST "coder" "B", .fieldLink ST 15 ST "coder" "B",
  .methodLink ST 1 Lib.objectInit, .instanceMethod Lib.objectInit, .code Lib.objectInit ⟨#[0xb1]⟩ 1 none, .methodLink ST 177 Cmp3.yN, .static Cmp3.yN, .methodLink ST 47 CodL.yN, .static CodL.yN,
  .code Cmp3.yN Cmp3.yB 6 (some (.array .byte)), .initialized U16, .arrayClass .byte, .methodLink U16 115 Cmp5.yN, .static Cmp5.yN, .code Cmp5.yN Cmp5.yB 7 (some .int), .code CodL.yN CodL.yB 2 (some .byte)]
theorem tab_of {a : Array Value} {s : State} (h : ∀ w ∈ words, w.before a s = true) : New1.tab.before a s = true := by
  have h5 : Cmp5.tab.before a s = true := unparts (wk h (.code Cmp5.yN Cmp5.yB 7 (some .int))) (wks h (.initialized Cmp5.yN.cls :: Cmp5.site))
  have hc : CodL.tab.before a s = true := unparts (wk h (.code CodL.yN CodL.yB 2 (some .byte))) (wks h (.initialized CodL.yN.cls :: CodL.site))
  have q5 : ∀ w ∈ Cmp5.tab :: words, w.before a s = true := fun w hw => (List.mem_cons.mp hw).elim (fun e => e ▸ h5) (h w)
  have h3 : Cmp3.tab.before a s = true := unparts (wk q5 (.code Cmp3.yN Cmp3.yB 6 (some (.array .byte)))) (wks q5 (.initialized Cmp3.yN.cls :: Cmp3.site))
  have q3 : ∀ w ∈ Cmp3.tab :: CodL.tab :: words, w.before a s = true := fun w hw => (List.mem_cons.mp hw).elim (fun e => e ▸ h3) fun hw => (List.mem_cons.mp hw).elim (fun e => e ▸ hc) (h w)
  have h4 : New4.tab.before a s = true := unparts (wk q3 (.code New4.yN New4.yB 6 none)) (wks q3 (.initialized New4.yN.cls :: New4.site))
  have q4 : ∀ w ∈ New4.tab :: words, w.before a s = true := fun w hw => (List.mem_cons.mp hw).elim (fun e => e ▸ h4) (h w)
  exact unparts (wk q4 (.code New1.yN New1.yB 2 none)) (wks q4 (.initialized New1.yN.cls :: New1.site))
/-- the words ride from the start Z to the walk's own state -/
theorem moved {Z s : State} {a0 args : Array Value} (hZ : Z.Warmed39 s.vm) (hw : ∀ d ∈ words, d.before a0 Z = true) : ∀ d ∈ words, d.before args s = true := fun d hd => by
  have q := hw d hd
  have t : ∀ d ∈ words, d = .arrayClass .byte ∨ (d.onTables && d.keepsFace) = true := by decide +kernel
  rcases t d hd with rfl | t
  · exact RoadKit.mvA hZ q
  · exact RoadKit.mv hZ q t
/-- WHAT COMES BACK, over the tables of the start Z: h the heap at the call, h' behind it -/
def Q (Z : State) (x : Addr) (A : Cell) (h : Heap) (v : Option Value) (h' : Heap) (L : List Loc) : Prop := v = none ∧ (∀ y ∈ L, y.base = x) ∧ RoadKit.Keep h h' [x] ∧ h'.size = h.size + 1 ∧ RoadKit.Exa Z h' x ST ∧ RoadKit.Fld Z h' x ST "value" "[B" (.ref h.size) ∧ RoadKit.Fld Z h' x ST "coder" "B" (.int 0) ∧
  (∃ V : Cell, RoadKit.Arr Z h' h.size V .byte ∧ V.vm = .none ∧ Z.vm.findClass "[B" = some V.cls ∧ V.slots.size = A.slots.size ∧ ∀ j, j < A.slots.size → V.slots[j]? = some (.int (lo8 (cv A j)))) ∧
  ∀ (O n d : String) (w : Value), RoadKit.Fld Z h x O n d w → RoadKit.slotOf Z O n d ≠ RoadKit.slotOf Z ST "value" "[B" → RoadKit.slotOf Z O n d ≠ RoadKit.slotOf Z ST "coder" "B" → RoadKit.Fld Z h' x O n d w
/-- **new String(chars) AT A CALL, IN THE ROAD'S FORM**: for specialBack behind newO: x the fresh String, b the char[] with the cell A -/
theorem back {p : Program} {l : Launch} {e : Env} {R : Room} {s : State} {args : Array Value} {below : List Frame} {len W : Nat} {Z : State} {a0 : Array Value} {h : Heap} (hZ : Z.Warmed39 s.vm) (hw : ∀ d ∈ words, d.before a0 Z = true) {kI : Nat} (wi : (Jvm.Cond.instantiable ST kI).before a0 Z = true)
    {x b : Addr} {A : Cell} {z : Int32} {v0 c0 : Value} (E : RoadKit.Exa Z h x ST) (V : RoadKit.Fld Z h x ST "value" "[B" v0) (C : RoadKit.Fld Z h x ST "coder" "B" c0) (K : RoadKit.Arr Z h b A .char) (hty : Typed .char A) (S : RoadKit.Sta Z h ST "COMPACT_STRINGS" "Z" (.int z)) (hz : ¬ z = 0)
    (l0 : 0 < A.slots.size) (l2 : A.slots.size ≤ 536870912) (hp : ∀ i, i < A.slots.size → ¬ 255 < cv A i) (hfr : 4 ≤ R.frames) (hlo : W + 65 ≤ R.locals) :
    Back l R p e below s args New1.yN len W (fun P a => a = #[.ref x, .ref b] ∧ P.U.heap = h ∧ P.cells + 1 ≤ R.cells ∧ P.slots + A.slots.size ≤ R.slots)
      (fun P _ v B => ∃ L, Q Z x A h v B.U.heap L ∧ B.locs = P.locs ++ L ∧ B.cells = P.cells + 1 ∧ B.slots = P.slots + A.slots.size) := by
  intro m meth c P g ig mk a X hg hsize hdg hW hn hp'
  obtain ⟨rfl, rfl, r1, r2⟩ := hp'
  have al : Z.vm.Alike P.U.vm := hZ.alike.trans X.warmed.alike
  obtain ⟨D, cfV, kV, iV, fV, hD, gV, stV, knV, obV, asV, slV⟩ := id V
  obtain ⟨D', cfC, kC, iC, fC, hD', gC, stC, -, -, asC, slC⟩ := id C
  cases hD.symm.trans hD'
  obtain ⟨D2, kD, e1, e2, e3, e4, e5⟩ := id E
  cases hD.symm.trans e1
  obtain ⟨c2, k2, i1, i2, i3, -⟩ := Cond.instantiable_spec wi
  cases e2.symm.trans i1
  cases e3.symm.trans i2
  obtain ⟨kU, u1, u2⟩ := al.2.2 _ _ e3
  have hB : Blank ST x D P.U := ⟨hD, ⟨knV, fun q hq => by rw [hq] at obV; cases obV⟩, by rw [al.findClass]; exact e2, kU, u1, by rw [u2]; exact i3, by rw [u2]; exact e5 i3⟩
  have F1 : Found ST "value" "[B" fV P.U := ⟨SBG.found_only al ⟨cfV, kV, iV, gV⟩, stV⟩
  have F2 : Found ST "coder" "B" fC P.U := ⟨SBG.found_only al ⟨cfC, kC, iC, gC⟩, stC⟩
  have hA : Ch b A P.U := ⟨⟨K.1, State.isArrayOf_alike al K.2.1, K.2.2, by omega⟩, hty⟩
  have hS : StaticIs P.U ST "COMPACT_STRINGS" "Z" (.int z) := by
    obtain ⟨cfS, iS, kS, fS, st, cS, t1, t2, t3, t4, t5, t6, t7⟩ := S
    exact StaticIs.there (s := { Z with heap := P.U.heap }) ⟨cfS, iS, kS, fS, st, cS, t1, t2, t3, t4, t5, (fun q => by rw [q] at t6; cases t6), t7⟩ al rfl
  obtain ⟨v, B, X', ⟨⟨hv, E', V', q1, q2, q3, q4, q5, q6, q7, q8, q9, q10, q11⟩, hl, hc, hs⟩, st⟩ := New1.pays x D fV fC b A z (tab_of (moved hZ hw)) hfr hlo m meth c P g ig mk _ X hg hsize hdg hW hn ⟨r1, r2, rfl, hB, F1, F2, hA, hS, hz, l0, l2, hp⟩
  have al' : Z.vm.Alike B.U.vm := hZ.alike.trans X'.warmed.alike
  have hsz : E'.slots.size = D.slots.size := by
    obtain ⟨-, -, -, kB, w1, w2, w3⟩ := q1
    obtain ⟨kB', y1, y2⟩ := al'.2.2 _ _ e3
    rw [q2.2.1] at w1
    cases w1.symm.trans y1
    rw [w3, e5 i3, y2]
  refine ⟨v, B, X', ⟨_, ⟨hv, ?_, ⟨by omega, fun y cy hy hn' => q10 y cy (by simpa using hn') hy, fun y cy hy => ?_⟩, q11, ⟨E', _, q1.1, by rw [q2.2.1]; exact e2, by rw [q2.2.1]; exact e3, by rw [q2.1]; exact obV, fun _ => by rw [hsz]; exact e5 i3⟩,
    ⟨E', cfV, kV, iV, fV, q1.1, gV, stV, by rw [q2.1]; exact knV, by rw [q2.1]; exact obV, by rw [q2.2.1]; exact asV, q3⟩, ⟨E', cfC, kC, iC, fC, q1.1, gC, stC, by rw [q2.1]; exact knV, by rw [q2.1]; exact obV, by rw [q2.2.1]; exact asC, q4⟩,
    ⟨V', ⟨q5.1, State.isArrayOf_alike al'.symm q5.2.1, q5.2.2.1⟩, q6, by rw [← al'.findClass]; exact q7, q8, fun j hj => by have := q9 j hj; rwa [Nat.zero_add] at this⟩, fun O n d w F n1 n2 => ?_⟩, hl, hc, hs⟩, st⟩
  · intro y hy
    simp only [List.mem_cons, List.not_mem_nil, or_false] at hy
    rcases hy with rfl | rfl <;> rfl
  · by_cases q : y = x
    · subst q
      cases hD.symm.trans hy
      exact ⟨E', q1.1, q2.2.1, q2.1, hsz⟩
    · exact ⟨cy, q10 y cy q hy, rfl, rfl, rfl⟩
  · obtain ⟨D3, cf, k, i, f, g1, g2, g3, g4, g5, g6, g7⟩ := F
    cases hD.symm.trans g1
    simp only [RoadKit.slotOf, g2, gV, gC, Option.map_some, Option.getD_some] at n1 n2
    exact ⟨E', cf, k, i, f, q1.1, g2, g3, by rw [q2.1]; exact g4, by rw [q2.1]; exact g5, by rw [q2.2.1]; exact g6, by rw [q2.2.2 f.slot (by simp [n1, n2])]; exact g7⟩
end StrChars.Road
namespace StrChars.Road
open Jvm Sem ClassFile Op Lib Jvm.Stand Jvm.Free Jvm.Free.XT
/-- WHAT COMES BACK, the byte[] as a list of values -/
def QA (Z : State) (x : Addr) (zn : Int32) (cs : List Int32) (h : Heap) (v : Option Value) (h' : Heap) (L : List Loc) : Prop := v = none ∧ (∀ y ∈ L, y.base = x) ∧ RoadKit.Keep h h' [x] ∧ h'.size = h.size + 1 ∧ RoadKit.Exa Z h' x ST ∧ RoadKit.Fld Z h' x ST "value" "[B" (.ref h.size) ∧ RoadKit.Fld Z h' x ST "coder" "B" (.int 0) ∧
  (∃ kb, Z.vm.findClass "[B" = some kb ∧ RoadKit.Arv Z h' h.size kb .byte zn (cs.map fun c => .int (lo8 c)) (.int 0)) ∧
  ∀ (O n d : String) (w : Value), RoadKit.Fld Z h x O n d w → RoadKit.slotOf Z O n d ≠ RoadKit.slotOf Z ST "value" "[B" → RoadKit.slotOf Z O n d ≠ RoadKit.slotOf Z ST "coder" "B" → RoadKit.Fld Z h' x O n d w
/-- **new String(chars) AT A CALL, THE ARRAYS AS LISTS**: the char[] at b holds cs, not empty, no char above 255 -/
theorem backArv {p : Program} {l : Launch} {e : Env} {R : Room} {s : State} {args : Array Value} {below : List Frame} {len W : Nat} {Z : State} {a0 : Array Value} {h : Heap} (hZ : Z.Warmed39 s.vm) (hw : ∀ d ∈ words, d.before a0 Z = true) {kI : Nat} (wi : (Jvm.Cond.instantiable ST kI).before a0 Z = true)
    {x b : Addr} {k : ClassId} {zn z : Int32} {cs : List Int32} {dv v0 c0 : Value} (E : RoadKit.Exa Z h x ST) (V : RoadKit.Fld Z h x ST "value" "[B" v0) (C : RoadKit.Fld Z h x ST "coder" "B" c0) (K : RoadKit.Arv Z h b k .char zn (cs.map Value.int) dv) (S : RoadKit.Sta Z h ST "COMPACT_STRINGS" "Z" (.int z)) (hz : ¬ z = 0)
    (hlen : zn.toNatClampNeg = cs.length) (h0 : 0 < cs.length) (hbig : cs.length ≤ 536870912) (hall : ∀ c ∈ cs, ¬ 255 < c) (hfr : 4 ≤ R.frames) (hlo : W + 65 ≤ R.locals) :
    Back l R p e below s args New1.yN len W (fun P a => a = #[.ref x, .ref b] ∧ P.U.heap = h ∧ P.cells + 1 ≤ R.cells ∧ P.slots + cs.length ≤ R.slots)
      (fun P _ v B => ∃ L, QA Z x zn cs h v B.U.heap L ∧ B.locs = P.locs ++ L ∧ B.cells = P.cells + 1 ∧ B.slots = P.slots + cs.length) := by
  obtain ⟨A, K1, K2, K3, K4, K5, K6⟩ := K
  have e : A.slots.size = cs.length := K3.trans hlen
  have hat : ∀ (i : Nat) (hi : i < cs.length), A.slots[i]? = some (.int cs[i]) := fun i hi => by rw [K5 i (by omega)]; simp [List.getD_eq_getElem?_getD, hi]
  have hcv : ∀ (i : Nat) (hi : i < cs.length), cv A i = cs[i] := fun i hi => by unfold cv; rw [hat i hi]
  have hty : Typed .char A := fun i v hv => by
    have hi : i < A.slots.size := (Array.getElem?_eq_some_iff.mp hv).1
    have q := K5 i hi
    rw [hv] at q
    rw [Option.some.inj q]
    exact K6 i hi
  refine Back.mono (back hZ hw wi E V C K1 hty S hz (by omega) (by omega) (fun i hi => by rw [hcv i (by omega)]; exact hall _ (List.getElem_mem _)) hfr hlo) (fun P a hp => ⟨hp.1, hp.2.1, hp.2.2.1, by rw [e]; exact hp.2.2.2⟩) (fun P a v B hp hq => ?_)
  obtain ⟨L, ⟨q1, q2, q3, q4, q5, q6, q7, ⟨V', v1, v2, v3, v4, v5⟩, q9⟩, hl, hc, hs⟩ := hq
  refine ⟨L, ⟨q1, q2, q3, q4, q5, q6, q7, ⟨V'.cls, v3, V', v1, rfl, by rw [v4, e, hlen], K4, fun i hi => ?_, fun i hi => ?_⟩, q9⟩, hl, hc, by rw [hs, e]⟩
  · have hi' : i < cs.length := by omega
    rw [v5 i (by omega), hcv i hi']; simp [List.getD_eq_getElem?_getD, hi']
  · have hi' : i < cs.length := by omega
    simp only [List.getD_eq_getElem?_getD, List.getElem?_map, List.getElem?_eq_getElem hi', Option.map_some, Option.getD_some]
    exact fits_lo8 _
end StrChars.Road
namespace StrChars.Road
open Jvm Sem ClassFile Op Lib Jvm.Stand Jvm.Free Jvm.Free.XT
/-- WHAT COMES BACK, in the writer's own shape -/
def QV (Z : State) (x : Addr) (N : Int32) (bs : List Int32) (h : Heap) (n0 : Nat) (v : Option Value) (h' : Heap) (L : List Loc) : Prop := v = none ∧ RoadKit.Fr n0 L ∧ RoadKit.Keep h h' [x] ∧ RoadKit.Exa Z h' x ST ∧ RoadKit.Fld Z h' x ST "coder" "B" (.int 0) ∧
  ∃ (t : Addr) (kb : ClassId), n0 ≤ t ∧ h.size ≤ t ∧ ¬ t = x ∧ RoadKit.Fld Z h' x ST "value" "[B" (.ref t) ∧ RoadKit.Arv Z h' t kb .byte N (bs.map Value.int) (.int 0)
/-- **new String(chars) AT A CALL, FOR THE WRITER**: a char[] of n known ints, each 0 to 255 -/
theorem backV {p : Program} {l : Launch} {e : Env} {R : Room} {s : State} {args : Array Value} {below : List Frame} {len W : Nat} {Z : State} {a0 : Array Value} {h : Heap} (hZ : Z.Warmed39 s.vm) (hw : ∀ d ∈ words, d.before a0 Z = true) {kI : Nat} (wi : (Jvm.Cond.instantiable ST kI).before a0 Z = true)
    {x b : Addr} {kC : ClassId} {cs bs : List Int32} {d v0 c0 : Value} {z N : Int32} {n n0 : Nat} (hx0 : n0 ≤ x) (hh0 : n0 ≤ h.size) (E : RoadKit.Exa Z h x ST) (V : RoadKit.Fld Z h x ST "value" "[B" v0) (C : RoadKit.Fld Z h x ST "coder" "B" c0) (K : RoadKit.Arv Z h b kC .char N (cs.map Value.int) d) (S : RoadKit.Sta Z h ST "COMPACT_STRINGS" "Z" (.int z)) (hz : ¬ z = 0)
    (hn : cs.length = n) (hN : N = Int32.ofNat n) (l0 : 0 < n) (l2 : n ≤ 4000) (hp : ∀ c ∈ cs, ¬ c < 0 ∧ ¬ (255 : Int32) < c) (hb : bs = cs.map (fun c => c.toInt8.toInt32)) (hfr : 4 ≤ R.frames) (hlo : W + 65 ≤ R.locals) :
    Back l R p e below s args (⟨"java/lang/String", "<init>", "([C)V"⟩ : MethodName) len W (fun P a => a = #[.ref x, .ref b] ∧ P.U.heap = h ∧ P.cells + 1 ≤ R.cells ∧ P.slots + n ≤ R.slots)
      (fun P _ v B => ∃ L, QV Z x N bs h n0 v B.U.heap L ∧ B.locs = P.locs ++ L ∧ B.cells = P.cells + 1 ∧ B.slots = P.slots + n) := by
  subst hn hN hb
  refine Back.mono (backArv hZ hw wi E V C K S hz (n32 (by omega)) l0 (by omega) (fun c hc => (hp c hc).2) hfr hlo) (fun P a hp => hp) (fun P a v B hp hq => ?_)
  obtain ⟨L, ⟨q1, q2, q3, q4, q5, q6, q7, ⟨kb, v1, v2⟩, q9⟩, hl, hc, hs⟩ := hq
  exact ⟨L, ⟨q1, fun y hy => by rw [q2 y hy]; exact hx0, q3, q5, q7, h.size, kb, hh0, Nat.le_refl _, Nat.ne_of_gt E.lt, q6, by rw [List.map_map]; exact v2⟩, hl, hc, hs⟩
end StrChars.Road
namespace StrChars
open Jvm Sem ClassFile Op Lib Jvm.Stand Jvm.Free.XT Jvm.Free.ALB Jvm.Free.JM Jvm.Free
open Jvm.Lib.Cold (StaticIs)
def hi8 (x : Int32) : Int32 := lo8 (x >>> ((8 : Int32) &&& 31))
/-- what StringUTF16.getChar makes of two bytes -/
def pairCh (u v : Int32) : Int32 := (((u &&& 255) <<< ((0 : Int32) &&& 31)) ||| ((v &&& 255) <<< ((8 : Int32) &&& 31))).toUInt32.toUInt16.toUInt32.toInt32
theorem lo8_and (x : Int32) : (lo8 x &&& 255).toBitVec.toNat = x.toBitVec.toNat % 256 := by
  have h : (lo8 x).toBitVec = (x.toBitVec.signExtend 8).signExtend 32 := by rw [lo8, Int8.toBitVec_toInt32, Int32.toBitVec_toInt8]
  rw [Int32.toBitVec_and, BitVec.toNat_and, h]
  have e : ((x.toBitVec.signExtend 8).signExtend 32).toNat % 256 = x.toBitVec.toNat % 256 := by
    rw [BitVec.toNat_signExtend]
    have hlt := x.toBitVec.isLt
    simp only [BitVec.toNat_setWidth, BitVec.toNat_signExtend]
    split <;> split <;> omega
  rw [← e]
  exact Nat.and_two_pow_sub_one_eq_mod _ 8
theorem pair_says {c : Int32} (h0 : ¬ c < 0) (h1 : ¬ 65535 < c) : pairCh (lo8 c) (hi8 c) = c := by
  rw [Int32.lt_iff_toInt_lt] at h0 h1
  have e0 : (0 : Int32).toInt = 0 := rfl
  have e1 : (65535 : Int32).toInt = 65535 := rfl
  have hc : c.toInt = c.toBitVec.toNat := by
    have := c.toBitVec.isLt
    have e : c.toInt = c.toBitVec.toInt := rfl
    rw [e] at h0 h1
    rw [e]
    rw [BitVec.toInt_eq_toNat_cond] at h0 h1 ⊢
    split at h0 <;> split <;> omega
  have hn : c.toBitVec.toNat < 65536 := by omega
  have a1 := lo8_and c
  have a2 : (hi8 c &&& 255).toBitVec.toNat = c.toBitVec.toNat / 256 := by
    rw [hi8, lo8_and]
    have e : ((8 : Int32) &&& 31) = 8 := by decide
    rw [e, Int32.toBitVec_shiftRight]
    have e2 : ((8 : Int32).toBitVec.smod 32) = 8#32 := by decide
    rw [e2, BitVec.sshiftRight_eq', BitVec.toNat_sshiftRight_of_msb_false (by rw [BitVec.msb_eq_false_iff_two_mul_lt]; omega)]
    show c.toBitVec.toNat >>> 8 % 256 = _
    rw [Nat.shiftRight_eq_div_pow]
    omega
  unfold pairCh
  apply Int32.toBitVec_inj.mp
  apply BitVec.eq_of_toNat_eq
  have f0 : ((0 : Int32) &&& 31) = 0 := by decide
  have f8 : ((8 : Int32) &&& 31) = 8 := by decide
  rw [f0, f8]
  have g : (((lo8 c &&& 255) <<< (0 : Int32)) ||| ((hi8 c &&& 255) <<< (8 : Int32))).toBitVec.toNat = c.toBitVec.toNat := by
    rw [Int32.toBitVec_or, Int32.toBitVec_shiftLeft, Int32.toBitVec_shiftLeft]
    have s0 : ((0 : Int32).toBitVec.smod 32) = 0#32 := by decide
    have s8 : ((8 : Int32).toBitVec.smod 32) = 8#32 := by decide
    rw [s0, s8, BitVec.toNat_or]
    simp only [BitVec.shiftLeft_eq', BitVec.toNat_shiftLeft, a1, a2]
    show (c.toBitVec.toNat % 256) <<< 0 % 2 ^ 32 ||| (c.toBitVec.toNat / 256) <<< 8 % 2 ^ 32 = _
    rw [Nat.shiftLeft_zero, Nat.mod_eq_of_lt (show c.toBitVec.toNat % 256 < 2 ^ 32 by omega), Nat.mod_eq_of_lt (show (c.toBitVec.toNat / 256) <<< 8 < 2 ^ 32 by rw [Nat.shiftLeft_eq]; omega), Nat.or_comm, ← Nat.shiftLeft_add_eq_or_of_lt (by omega), Nat.shiftLeft_eq]
    omega
  show BitVec.toNat (((((lo8 c &&& 255) <<< (0 : Int32)) ||| ((hi8 c &&& 255) <<< (8 : Int32))).toBitVec.setWidth 16).setWidth 32) = _
  rw [BitVec.toNat_setWidth, BitVec.toNat_setWidth, g]
  omega
end StrChars
namespace StrChars
open Jvm Sem ClassFile Op Lib Jvm.Stand Jvm.Free.XT Jvm.Free.ALB Jvm.Free.JM Jvm.Free
open Jvm.Lib.Cold (StaticIs)
/-- charAt's cast of a byte read back -/
def chr8 (u : Int32) : Int32 := (u &&& 255).toUInt32.toUInt16.toUInt32.toInt32
theorem chr8_lo8 {c : Int32} (h0 : ¬ c < 0) (h1 : ¬ 255 < c) : chr8 (lo8 c) = c := by
  have t : ∀ k : Fin 256, (Int32.ofNat k.val).toUInt32.toUInt16.toUInt32.toInt32 = Int32.ofNat k.val := by decide +kernel
  unfold chr8
  rw [lo8_mask h0 h1]
  rw [Int32.lt_iff_toInt_lt] at h0 h1
  have e0 : (0 : Int32).toInt = 0 := rfl
  have e1 : (255 : Int32).toInt = 255 := rfl
  obtain ⟨k, hk⟩ : ∃ k : Nat, c.toInt = k := ⟨c.toInt.toNat, by omega⟩
  have hx : c = Int32.ofNat k := Int32.toInt_inj.mp (by rw [hk, Int32.toInt_ofNat_small (by omega)])
  rw [hx]
  exact t ⟨k, by omega⟩
theorem narrow_ch {c : Int32} (h0 : ¬ c < 0) (h1 : ¬ 65535 < c) : narrow .char (.int c) = .int c := by
  have q : narrow .char (.int (pairCh (lo8 c) (hi8 c))) = .int (pairCh (lo8 c) (hi8 c)) := narrow_c _
  rwa [pair_says h0 h1] at q
/-- the array's cell V codes the n chars f 0 .. f (n - 1) by the coder cd, as the JDK does: coder 1 just where some char is above 255 -/
def Cod (cd : Int32) (n : Nat) (f : Nat → Int32) (V : Cell) : Prop := (cd = 0 ∧ V.slots.size = n ∧ ∀ j, j < n → V.slots[j]? = some (.int (lo8 (f j))) ∧ ¬ 255 < f j) ∨ (cd = 1 ∧ V.slots.size = 2 * n ∧ (∀ j, j < n → V.slots[2 * j]? = some (.int (lo8 (f j))) ∧ V.slots[2 * j + 1]? = some (.int (hi8 (f j)))) ∧ ∃ j, j < n ∧ 255 < f j)
theorem Cod.cd {cd : Int32} {n : Nat} {f : Nat → Int32} {V : Cell} (h : Cod cd n f V) : cd = 0 ∨ cd = 1 := h.imp (fun q => q.1) fun q => q.1
/-- **x is a String of the n chars f 0 .. f (n - 1)**, Latin-1 or UTF-16; its array at t has the cell V -/
def Txt (x t : Addr) (V : Cell) (cd : Int32) (n : Nat) (f : Nat → Int32) (U : State) : Prop := Exact "java/lang/String" x U ∧ Has x "java/lang/String" "value" "[B" (.ref t) U ∧ Has x "java/lang/String" "coder" "B" (.int cd) U ∧ XT.Arr .byte t V U ∧ Cod cd n f V ∧ ∀ j, j < n → ¬ f j < 0 ∧ ¬ 65535 < f j
theorem Txt.mv {x t : Addr} {V : Cell} {cd : Int32} {n : Nat} {f : Nat → Int32} {U U' : State} (h : Txt x t V cd n f U) (hal : U.vm.Alike U'.vm) (hh : U'.heap = U.heap) : Txt x t V cd n f U' := ⟨h.1.mv hal hh, h.2.1.mv hal hh, h.2.2.1.mv hal hh, h.2.2.2.1.mv hal hh, h.2.2.2.2⟩
namespace IsL
def yN : MethodName := ⟨"java/lang/String", "isLatin1", "()Z"⟩
abbrev yB : ByteArray := jdk_42_method_154_code
theorem d0 : decode yB 0 = .ok (.getstatic 38, 3) := by decide +kernel
theorem d3 : decode yB 3 = .ok (.ifCond (.eq) 14, 3) := by decide +kernel
theorem d6 : decode yB 6 = .ok (.aload_n 0, 1) := by decide +kernel
theorem d7 : decode yB 7 = .ok (.getfield 15, 3) := by decide +kernel
theorem d10 : decode yB 10 = .ok (.ifCond (.ne) 7, 3) := by decide +kernel
theorem d13 : decode yB 13 = .ok (.iconst 1, 1) := by decide +kernel
theorem d14 : decode yB 14 = .ok (.goto 4, 3) := by decide +kernel
theorem d17 : decode yB 17 = .ok (.iconst 0, 1) := by decide +kernel
theorem d18 : decode yB 18 = .ok (.ireturn, 1) := by decide +kernel
def site : List Cond := [.fieldLink "java/lang/String" 38 "java/lang/String" "COMPACT_STRINGS" "Z", .fieldLink "java/lang/String" 15 "java/lang/String" "coder" "B"]
def tab : Cond := tabOf yN yB 1 (some .boolean) site
def P (x : Addr) (cd z : Int32) (args : Array Value) (s : State) : Prop := args = #[.ref x] ∧ Has x "java/lang/String" "coder" "B" (.int cd) s ∧ (cd = 0 ∨ cd = 1) ∧ StaticIs s "java/lang/String" "COMPACT_STRINGS" "Z" (.int z) ∧ ¬ z = 0
def E (cd : Int32) (r : Option Value) (s u : State) : Prop := XT.PureE (some (.int (1 - cd))) r s u
theorem law (l : Launch) (x : Addr) (cd z : Int32) : Law l yN 1 0 0 0 yB 1 (some .boolean) site (P x cd z) (E cd) [] 0 0 := by
  refine Law.of_walk (plainFor_of_name (by decide +kernel)) (by decide +kernel) (by decide +kernel) (by decide) (fun _ _ h => by rw [h.1]; rfl) (fun _ U U' hal hh h => ⟨h.1, h.2.1.mv hal hh, h.2.2.1, h.2.2.2.1.there hal hh, h.2.2.2.2⟩) (fun r U U' V V' h1 hal h2 h => XT.PureE.mv r U U' V V' h1 hal h2 h) ?_
  intro p e s m args below meth c s₁ X0 hexec hbytes hml hret hlk hnm hown hh0 W hP
  obtain ⟨rfl, hx, hc, s1, hz⟩ := hP
  have c1 : Steps p.tables e below (s₁.setTop (entryFrame m #[.ref x] 1)) (s₁.setTop (mkF m 0 #[.val (.ref x)] [])) := entry rfl
  obtain ⟨T2, X2, q2, st2⟩ := X0.sget hexec hown (wk W (.fieldLink "java/lang/String" 38 "java/lang/String" "COMPACT_STRINGS" "Z")) s1 (fun _ _ h => by rw [hh0]; exact h) (g := (mkF m 0 #[.val (.ref x)] [])) rfl (hb hbytes d0)
  have hh2 := q2.trans hh0
  have c3 : Steps p.tables e below (s₁.setTop (entryFrame m #[.ref x] 1)) (T2.setTop (mkF m 7 #[.val (.ref x)] [.ref x])) := (c1.trans (st2 _ (Steps.refl _))).trans (by
    refine XS.ifNo X2.here hexec rfl (hb hbytes d3) rfl (i0_eq_f hz) ?_
    refine XS.aloadN X2.here hexec rfl (hb hbytes d6) rfl rfl ?_
    exact Steps.refl _)
  obtain ⟨T4, X4, q4, st4⟩ := X2.hget hexec hown (wk W (.fieldLink "java/lang/String" 15 "java/lang/String" "coder" "B")) (hx.mv X2.warmed.alike hh2) (g := (mkF m 7 #[.val (.ref x)] [.ref x])) rfl (rest := []) rfl (hb hbytes d7)
  have c5 : Steps p.tables e below (s₁.setTop (entryFrame m #[.ref x] 1)) (T4.setTop (mkF m 10 #[.val (.ref x)] [.int cd])) := c3.trans (st4 _ (Steps.refl _))
  have c6 : Steps p.tables e below (s₁.setTop (entryFrame m #[.ref x] 1)) (T4.setTop (mkF m 18 #[.val (.ref x)] [.int (1 - cd)])) := by
    rcases hc with rfl | rfl
    · exact c5.trans (by
        refine XS.ifNo X4.here hexec rfl (hb hbytes d10) rfl (i0_ne_f rfl) ?_
        refine iconstV X4.here hexec rfl 1 (hb hbytes d13) (by decide) ?_
        refine XS.goto X4.here hexec rfl (pc0 := 14) rfl (hb hbytes d14) (by decide) rfl ?_
        exact Steps.refl _)
    · exact c5.trans (by
        refine XS.ifYes X4.here hexec rfl (pc0 := 10) rfl (hb hbytes d10) rfl (i0_ne_t (by decide)) (by decide) rfl ?_
        refine iconstV X4.here hexec rfl 0 (hb hbytes d17) (by decide) ?_
        exact Steps.refl _)
  exact ⟨T4, some (.int (1 - cd)), _, _, _, X4, rfl, rfl, rfl, (fun h => by cases h), ⟨rfl, q4.trans hh2⟩, fun fs hl => c6.trans (X4.ireturnOut hexec hret (by rcases hc with rfl | rfl <;> rfl) (Or.inr (Or.inl rfl)) (hb hbytes d18) hl)⟩
end IsL
namespace LChA
def yN : MethodName := ⟨"java/lang/StringLatin1", "charAt", "([BI)C"⟩
abbrev yB : ByteArray := jdk_43_method_2_code
theorem d0 : decode yB 0 = .ok (.iload_n 1, 1) := by decide +kernel
theorem d1 : decode yB 1 = .ok (.aload_n 0, 1) := by decide +kernel
theorem d2 : decode yB 2 = .ok (.arraylength, 1) := by decide +kernel
theorem d3 : decode yB 3 = .ok (.invokestatic 9, 3) := by decide +kernel
theorem d6 : decode yB 6 = .ok (.aload_n 0, 1) := by decide +kernel
theorem d7 : decode yB 7 = .ok (.iload_n 1, 1) := by decide +kernel
theorem d8 : decode yB 8 = .ok (.baload, 1) := by decide +kernel
theorem d9 : decode yB 9 = .ok (.sipush 255, 3) := by decide +kernel
theorem d12 : decode yB 12 = .ok (.iand, 1) := by decide +kernel
theorem d13 : decode yB 13 = .ok (.i2c, 1) := by decide +kernel
theorem d14 : decode yB 14 = .ok (.ireturn, 1) := by decide +kernel
def site : List Cond := [JO.Str_checkIndex.tab] ++ staticW "java/lang/StringLatin1" 9 JO.Str_checkIndex.yN
def tab : Cond := tabOf yN yB 2 (some .char) site
def P (t : Addr) (V : Cell) (i : Nat) (u : Int32) (fm : Value) (args : Array Value) (s : State) : Prop := args = #[.ref t, .int (Int32.ofNat i)] ∧ XT.Arr .byte t V s ∧ V.slots[i]? = some (.int u) ∧ (StaticIs s "jdk/internal/util/Preconditions" "SIOOBE_FORMATTER" "Ljava/util/function/BiFunction;" fm ∧ fm.isRef = true)
def E (u : Int32) (r : Option Value) (s w : State) : Prop := XT.PureE (some (.int (chr8 u))) r s w
theorem law (l : Launch) (t : Addr) (V : Cell) (i : Nat) (u : Int32) (fm : Value) : Law l yN 2 2 2 27 yB 2 (some .char) site (P t V i u fm) (E u) [] 0 0 := by
  refine Law.of_walk (plainFor_of_name (by decide +kernel)) (by decide +kernel) (by decide +kernel) (by decide) (fun _ _ h => by rw [h.1]; rfl) (fun _ U U' hal hh h => ⟨h.1, h.2.1.mv hal hh, h.2.2.1, h.2.2.2.1.there hal hh, h.2.2.2.2⟩) (fun r U U' V V' h1 hal h2 h => XT.PureE.mv r U U' V V' h1 hal h2 h) ?_
  intro p e s m args below meth c s₁ X0 hexec hbytes hml hret hlk hnm hown hh0 W hP
  obtain ⟨rfl, hV, hu, s1, rf⟩ := hP
  have v31 := hV.2.2.2
  have hi : i < V.slots.size := (Array.getElem?_eq_some_iff.mp hu).1
  have c1 : Steps p.tables e below (s₁.setTop (entryFrame m #[.ref t, .int (Int32.ofNat i)] 2)) (s₁.setTop (mkF m 0 #[.val (.ref t), .val (.int (Int32.ofNat i))] [])) := entry rfl
  have c2 : Steps p.tables e below (s₁.setTop (entryFrame m #[.ref t, .int (Int32.ofNat i)] 2)) (s₁.setTop (mkF m 3 #[.val (.ref t), .val (.int (Int32.ofNat i))] [.int (Int32.ofNat V.slots.size), .int (Int32.ofNat i)])) := c1.trans (by
    refine XS.iloadN X0.here hexec rfl (hb hbytes d0) rfl ?_
    refine XS.aloadN X0.here hexec rfl (hb hbytes d1) rfl rfl ?_
    refine X0.alen hexec (hV.mv X0.warmed.alike hh0) rfl rfl (hb hbytes d2) ?_
    exact Steps.refl _)
  obtain ⟨v3, T3, X3, E3, g3⟩ := X0.callS hexec (JO.Str_checkIndex.law l (Int32.ofNat i) (Int32.ofNat V.slots.size) fm) hown (wks W (staticW "java/lang/StringLatin1" 9 JO.Str_checkIndex.yN)) (wk W JO.Str_checkIndex.tab) (W := 0) (Nat.le_of_ble_eq_true rfl) (Nat.le_of_ble_eq_true rfl) (Nat.le_refl _) (Nat.le_refl _) (g := (mkF m 3 #[.val (.ref t), .val (.int (Int32.ofNat i))] [.int (Int32.ofNat V.slots.size), .int (Int32.ofNat i)])) rfl (by rw [hml]; rfl) c2 (argsL := [.int (Int32.ofNat i), .int (Int32.ofNat V.slots.size)]) (rest := []) rfl rfl (by show 2 * 0 + 0 ≤ _; decide) (hb hbytes d3) (⟨rfl, rf, s1.there X0.warmed.alike hh0, Int32.ofNat_not_neg (by omega), lt32 v31 hi⟩)
  obtain ⟨rfl, q3⟩ := E3
  have hh3 := q3.trans hh0
  have c4 : Steps p.tables e below (s₁.setTop (entryFrame m #[.ref t, .int (Int32.ofNat i)] 2)) (T3.setTop (mkF m 14 #[.val (.ref t), .val (.int (Int32.ofNat i))] [.int (chr8 u)])) := Steps.trans g3 (by
    refine XS.aloadN X3.here hexec rfl (hb hbytes d6) rfl rfl ?_
    refine XS.iloadN X3.here hexec rfl (hb hbytes d7) rfl ?_
    refine X3.aget hexec (hV.mv X3.warmed.alike hh3) rfl hu rfl rfl (hb hbytes d8) ?_
    refine sipushV X3.here hexec rfl 255 (hb hbytes d9) (by decide) ?_
    refine XS.iand X3.here hexec rfl (hb hbytes d12) rfl ?_
    refine i2c X3.here hexec rfl (hb hbytes d13) rfl ?_
    exact Steps.refl _)
  exact ⟨T3, some (.int (chr8 u)), _, _, _, X3, rfl, rfl, rfl, (fun h => by cases h), ⟨rfl, hh3⟩, fun fs hl => c4.trans (X3.ireturnOut hexec hret (narrow_c _) (Or.inr (Or.inr (Or.inr (Or.inl rfl)))) (hb hbytes d14) hl)⟩
end LChA
end StrChars
namespace StrChars.Road
open Jvm Sem ClassFile Op Lib Jvm.Stand Jvm.Free Jvm.Free.XT
open Jvm.Lib.Cold (StaticIs)
theorem consq {a : Array Value} {s : State} {c : Jvm.Cond} {L : List Jvm.Cond} (h0 : c.before a s = true) (h : ∀ w ∈ L, w.before a s = true) : ∀ w ∈ c :: L, w.before a s = true := fun w hw => (List.mem_cons.mp hw).elim (fun e => e ▸ h0) (h w)
/-- the bytes of the chars cs, low before high -/
def wideBytes : List Int32 → List Value
  | [] => []
  | c :: cs => .int (lo8 c) :: .int (hi8 c) :: wideBytes cs
theorem wide_lo (d : Value) : ∀ (cs : List Int32) (j : Nat), j < cs.length → (wideBytes cs).getD (2 * j) d = .int (lo8 (cs.getD j 0))
  | [], j, h => absurd h (Nat.not_lt_zero j)
  | c :: cs, 0, _ => rfl
  | c :: cs, j + 1, h => by
    have q := wide_lo d cs j (by simpa using h)
    rw [show 2 * (j + 1) = 2 * j + 1 + 1 from by omega]
    simpa [wideBytes] using q
theorem wide_hi (d : Value) : ∀ (cs : List Int32) (j : Nat), j < cs.length → (wideBytes cs).getD (2 * j + 1) d = .int (hi8 (cs.getD j 0))
  | [], j, h => absurd h (Nat.not_lt_zero j)
  | c :: cs, 0, _ => rfl
  | c :: cs, j + 1, h => by
    have q := wide_hi d cs j (by simpa using h)
    rw [show 2 * (j + 1) + 1 = 2 * j + 1 + 1 + 1 from by omega]
    simpa [wideBytes] using q
theorem low_at (d : Value) (cs : List Int32) (j : Nat) (h : j < cs.length) : (cs.map fun c => Value.int (lo8 c)).getD j d = .int (lo8 (cs.getD j 0)) := by
  simp [List.getD_eq_getElem?_getD, h]
/-- an array of N2 bytes vs codes the chars cs by the coder cd -/
def CodA (cs : List Int32) (cd N2 : Int32) (vs : List Value) : Prop := (cd = 0 ∧ N2 = Int32.ofNat cs.length ∧ vs = (cs.map fun c => Value.int (lo8 c)) ∧ ∀ c ∈ cs, ¬ 255 < c) ∨ (cd = 1 ∧ N2 = Int32.ofNat (2 * cs.length) ∧ vs = wideBytes cs ∧ ∃ c ∈ cs, 255 < c)
theorem CodA.cod {cs : List Int32} {cd N2 : Int32} {vs : List Value} {V : Cell} (h : CodA cs cd N2 vs) (hn : 2 * cs.length < 2 ^ 31) (hs : V.slots.size = N2.toNatClampNeg) (hv : RoadKit.Has V vs (.int 0)) : Cod cd cs.length (fun j => cs.getD j 0) V := by
  rcases h with ⟨rfl, rfl, rfl, h⟩ | ⟨rfl, rfl, rfl, c, hc, hw⟩
  · rw [n32 (by omega)] at hs
    exact Or.inl ⟨rfl, hs, fun j hj => ⟨by rw [hv j (by omega), low_at _ _ _ hj], by
      have e : cs.getD j 0 = cs[j] := by simp [List.getD_eq_getElem?_getD, hj]
      show ¬ 255 < cs.getD j 0
      rw [e]; exact h _ (List.getElem_mem _)⟩⟩
  · rw [n32 (by omega)] at hs
    obtain ⟨j, hj, rfl⟩ := List.getElem_of_mem hc
    exact Or.inr ⟨rfl, hs, fun j hj => ⟨by rw [hv _ (by omega), wide_lo _ _ _ hj], by rw [hv _ (by omega), wide_hi _ _ _ hj]⟩, j, hj, by
      have e : cs.getD j 0 = cs[j] := by simp [List.getD_eq_getElem?_getD, hj]
      show 255 < cs.getD j 0
      rw [e]; exact hw⟩
/-- an object of exactly java/lang/String, its two fields found: as the laws ask it -/
theorem strObj {Z U : State} {a0 : Array Value} {kI : Nat} (wi : (Jvm.Cond.instantiable ST kI).before a0 Z = true) (al : Z.vm.Alike U.vm) {x : Addr} {v0 c0 : Value} (E : RoadKit.Exa Z U.heap x ST) (V : RoadKit.Fld Z U.heap x ST "value" "[B" v0) (C : RoadKit.Fld Z U.heap x ST "coder" "B" c0) :
    ∃ (D : Cell) (fV fC : Field), Blank ST x D U ∧ Found ST "value" "[B" fV U ∧ Found ST "coder" "B" fC U ∧ D.slots[fV.slot]? = some v0 ∧ D.slots[fC.slot]? = some c0 ∧ RoadKit.slotOf Z ST "value" "[B" = fV.slot ∧ RoadKit.slotOf Z ST "coder" "B" = fC.slot := by
  obtain ⟨D, cfV, kV, iV, fV, hD, gV, stV, knV, obV, asV, slV⟩ := V
  obtain ⟨D', cfC, kC, iC, fC, hD', gC, stC, -, -, asC, slC⟩ := C
  cases hD.symm.trans hD'
  obtain ⟨D2, kD, e1, e2, e3, e4, e5⟩ := E
  cases hD.symm.trans e1
  obtain ⟨c2, k2, i1, i2, i3, -⟩ := Cond.instantiable_spec wi
  cases e2.symm.trans i1
  cases e3.symm.trans i2
  obtain ⟨kU, u1, u2⟩ := al.2.2 _ _ e3
  exact ⟨D, fV, fC, ⟨hD, ⟨knV, fun q hq => by rw [hq] at obV; cases obV⟩, by rw [al.findClass]; exact e2, kU, u1, by rw [u2]; exact i3, by rw [u2]; exact e5 i3⟩, ⟨SBG.found_only al ⟨cfV, kV, iV, gV⟩, stV⟩, ⟨SBG.found_only al ⟨cfC, kC, iC, gC⟩, stC⟩, slV, slC, by simp [RoadKit.slotOf, gV], by simp [RoadKit.slotOf, gC]⟩
theorem sta_is {Z U : State} (al : Z.vm.Alike U.vm) {C n d : String} {v : Value} (S : RoadKit.Sta Z U.heap C n d v) : StaticIs U C n d v := by
  obtain ⟨cfS, iS, kS, fS, st, cS, t1, t2, t3, t4, t5, t6, t7⟩ := S
  exact StaticIs.there (s := { Z with heap := U.heap }) ⟨cfS, iS, kS, fS, st, cS, t1, t2, t3, t4, t5, (fun q => by rw [q] at t6; cases t6), t7⟩ al rfl
end StrChars.Road
namespace StrChars.Road
open Jvm Sem ClassFile Op Lib Jvm.Stand Jvm.Free Jvm.Free.XT
open Jvm.Lib.Cold (StaticIs)
/-- the road's facts of a String, as the laws ask it -/
theorem txt_of {Z U : State} {a0 : Array Value} {kI : Nat} (wi : (Jvm.Cond.instantiable ST kI).before a0 Z = true) (al : Z.vm.Alike U.vm) {x t : Addr} {kb : ClassId} {cs : List Int32} {cd N2 : Int32} {vs : List Value} (E : RoadKit.Exa Z U.heap x ST) (V : RoadKit.Fld Z U.heap x ST "value" "[B" (.ref t)) (C : RoadKit.Fld Z U.heap x ST "coder" "B" (.int cd)) (K : RoadKit.Arv Z U.heap t kb .byte N2 vs (.int 0)) (hc : CodA cs cd N2 vs) (hb : ∀ c ∈ cs, ¬ c < 0 ∧ ¬ (65535 : Int32) < c) (l2 : cs.length ≤ 4000) :
    ∃ A, Txt x t A cd cs.length (fun j => cs.getD j 0) U := by
  obtain ⟨A, K1, K2, K3, K4, K5, K6⟩ := K
  have hcod := hc.cod (by omega) K3 K5
  obtain ⟨D, fV, fC, hB, F1, F2, g1, g2, -, -⟩ := strObj wi al E V C
  exact ⟨A, ⟨_, hB.2.2.1, D, hB.1, rfl, by cases q : D.vm <;> first | rfl | exact absurd q (hB.2.1.2 _)⟩, Has.of hB F1 g1, Has.of hB F2 g2, ⟨K1.1, State.isArrayOf_alike al K1.2.1, K1.2.2, by rcases hcod with ⟨-, q, -⟩ | ⟨-, q, -⟩ <;> omega⟩, hcod, fun j hj => by
    have e : cs.getD j 0 = cs[j] := by simp [List.getD_eq_getElem?_getD, hj]
    show ¬ cs.getD j 0 < 0 ∧ ¬ 65535 < cs.getD j 0
    rw [e]; exact hb _ (List.getElem_mem _)⟩
end StrChars.Road
namespace StrChars
open Jvm Sem ClassFile Op Lib Jvm.Stand Jvm.Free.XT Jvm.Free.ALB Jvm.Free.JM Jvm.Free
open Jvm.Lib.Cold (StaticIs)
namespace ChN
def yN : MethodName := ⟨"java/lang/String", "charAt", "(I)C"⟩
abbrev yB : ByteArray := jdk_42_method_56_code
theorem d0 : decode yB 0 = .ok (.aload_n 0, 1) := by decide +kernel
theorem d1 : decode yB 1 = .ok (.invokevirtual 492, 3) := by decide +kernel
theorem d4 : decode yB 4 = .ok (.ifCond (.eq) 12, 3) := by decide +kernel
theorem d7 : decode yB 7 = .ok (.aload_n 0, 1) := by decide +kernel
theorem d8 : decode yB 8 = .ok (.getfield 9, 3) := by decide +kernel
theorem d11 : decode yB 11 = .ok (.iload_n 1, 1) := by decide +kernel
theorem d12 : decode yB 12 = .ok (.invokestatic 495, 3) := by decide +kernel
theorem d15 : decode yB 15 = .ok (.ireturn, 1) := by decide +kernel
def site : List Cond := [.fieldLink "java/lang/String" 9 "java/lang/String" "value" "[B", IsL.tab, LChA.tab] ++ virtW "java/lang/String" 492 "java/lang/String" IsL.yN IsL.yN ++ staticW "java/lang/String" 495 LChA.yN
def tab : Cond := tabOf yN yB 2 (some .char) site
def P (x t : Addr) (V : Cell) (n : Nat) (f : Nat → Int32) (z : Int32) (fm : Value) (i : Nat) (args : Array Value) (s : State) : Prop := args = #[.ref x, .int (Int32.ofNat i)] ∧ Txt x t V 0 n f s ∧ i < n ∧ StaticIs s "java/lang/String" "COMPACT_STRINGS" "Z" (.int z) ∧ ¬ z = 0 ∧ StaticIs s "jdk/internal/util/Preconditions" "SIOOBE_FORMATTER" "Ljava/util/function/BiFunction;" fm ∧ fm.isRef = true
def E (f : Nat → Int32) (i : Nat) (r : Option Value) (s u : State) : Prop := XT.PureE (some (.int (f i))) r s u
/-- charAt(i) of a Latin-1 String of n chars, i < n: f i -/
theorem law (l : Launch) (x t : Addr) (V : Cell) (n : Nat) (f : Nat → Int32) (z : Int32) (fm : Value) (i : Nat) : Law l yN 2 1 3 40 yB 2 (some .char) site (P x t V n f z fm i) (E f i) [] 0 0 := by
  refine Law.of_walk (plainFor_of_name (by decide +kernel)) (by decide +kernel) (by decide +kernel) (by decide) (fun _ _ h => by rw [h.1]; rfl) (fun _ U U' hal hh h => ⟨h.1, h.2.1.mv hal hh, h.2.2.1, h.2.2.2.1.there hal hh, h.2.2.2.2.1, h.2.2.2.2.2.1.there hal hh, h.2.2.2.2.2.2⟩) (fun r U U' V V' h1 hal h2 h => XT.PureE.mv r U U' V V' h1 hal h2 h) ?_
  intro p e s m args below meth c s₁ X0 hexec hbytes hml hret hlk hnm hown hh0 W hP
  obtain ⟨rfl, hx, hi, s1, hz, s3, rf⟩ := hP
  have v31 := hx.2.2.2.1.2.2.2
  have hr := hx.2.2.2.2.2 i hi
  have hx0 := hx.mv X0.warmed.alike hh0
  have c1 : Steps p.tables e below (s₁.setTop (entryFrame m #[.ref x, .int (Int32.ofNat i)] 2)) (s₁.setTop (mkF m 1 #[.val (.ref x), .val (.int (Int32.ofNat i))] [.ref x])) := Steps.trans (entry rfl) (by
    show Steps p.tables e below (s₁.setTop (mkF m 0 #[.val (.ref x), .val (.int (Int32.ofNat i))] [])) _
    refine XS.aloadN X0.here hexec rfl (hb hbytes d0) rfl rfl ?_
    exact Steps.refl _)
  obtain ⟨v2, T2, X2, E2, g2⟩ := X0.callV hexec (IsL.law l x 0 z) hown (wks W (virtW "java/lang/String" 492 "java/lang/String" IsL.yN IsL.yN)) rfl (by decide) (wk W IsL.tab) (W := 0) (Nat.le_of_ble_eq_true rfl) (Nat.le_of_ble_eq_true rfl) (Nat.le_refl _) (Nat.le_refl _) (hx0.1.fc X0.warmed.alike) hx0.1.is (g := (mkF m 1 #[.val (.ref x), .val (.int (Int32.ofNat i))] [.ref x])) rfl (by rw [hml]; rfl) c1 (argsL := []) (rest := []) rfl rfl (by show 2 * 0 + 0 ≤ _; decide) (hb hbytes d1) (⟨rfl, hx0.2.2.1, hx.2.2.2.2.1.cd, s1.there X0.warmed.alike hh0, hz⟩)
  obtain ⟨rfl, q2⟩ := E2
  have hh2 := q2.trans hh0
  have hx2 := hx.mv X2.warmed.alike hh2
  obtain ⟨-, k1, k2⟩ | ⟨k0, -⟩ := hx.2.2.2.2.1
  · have c3 : Steps p.tables e below (s₁.setTop (entryFrame m #[.ref x, .int (Int32.ofNat i)] 2)) (T2.setTop (mkF m 8 #[.val (.ref x), .val (.int (Int32.ofNat i))] [.ref x])) := Steps.trans g2 (by
      refine XS.ifNo X2.here hexec rfl (hb hbytes d4) rfl (i0_eq_f (by decide)) ?_
      refine XS.aloadN X2.here hexec rfl (hb hbytes d7) rfl rfl ?_
      exact Steps.refl _)
    obtain ⟨T4, X4, q4, st4⟩ := X2.hget hexec hown (wk W (.fieldLink "java/lang/String" 9 "java/lang/String" "value" "[B")) hx2.2.1 (g := (mkF m 8 #[.val (.ref x), .val (.int (Int32.ofNat i))] [.ref x])) rfl (rest := []) rfl (hb hbytes d8)
    have hh4 := q4.trans hh2
    have c5 : Steps p.tables e below (s₁.setTop (entryFrame m #[.ref x, .int (Int32.ofNat i)] 2)) (T4.setTop (mkF m 12 #[.val (.ref x), .val (.int (Int32.ofNat i))] [.int (Int32.ofNat i), .ref t])) := (c3.trans (st4 _ (Steps.refl _))).trans (by
      refine XS.iloadN X4.here hexec rfl (hb hbytes d11) rfl ?_
      exact Steps.refl _)
    obtain ⟨v6, T6, X6, E6, g6⟩ := X4.callS hexec (LChA.law l t V i (lo8 (f i)) fm) hown (wks W (staticW "java/lang/String" 495 LChA.yN)) (wk W LChA.tab) (W := 0) (Nat.le_of_ble_eq_true rfl) (Nat.le_of_ble_eq_true rfl) (Nat.le_refl _) (Nat.le_refl _) (g := (mkF m 12 #[.val (.ref x), .val (.int (Int32.ofNat i))] [.int (Int32.ofNat i), .ref t])) rfl (by rw [hml]; rfl) c5 (argsL := [.ref t, .int (Int32.ofNat i)]) (rest := []) rfl rfl (by show 2 * 0 + 0 ≤ _; decide) (hb hbytes d12) (⟨rfl, hx.2.2.2.1.mv X4.warmed.alike hh4, (k2 i hi).1, s3.there X4.warmed.alike hh4, rf⟩)
    obtain ⟨rfl, q6⟩ := E6
    rw [chr8_lo8 hr.1 (k2 i hi).2] at g6
    exact ⟨T6, some (.int (f i)), _, _, _, X6, rfl, rfl, rfl, (fun h => by cases h), ⟨rfl, q6.trans hh4⟩, fun fs hl => Steps.trans g6 (X6.ireturnOut hexec hret (narrow_ch hr.1 hr.2) (Or.inr (Or.inr (Or.inr (Or.inl rfl)))) (hb hbytes d15) hl)⟩
  · exact absurd k0 (by decide)
theorem pays {l : Launch} {R : Room} {p : Program} {e : Env} {below : List Frame} {s : State} {sargs : Array Value} {len W : Nat} (x t : Addr) (V : Cell) (n : Nat) (f : Nat → Int32) (z : Int32) (fm : Value) (i : Nat) (htab : tab.before sargs s = true) (hfr : 4 ≤ R.frames) (hlo : W + 53 ≤ R.locals) :
    Back l R p e below s sargs yN len W (fun A₁ a₁ => A₁.cells + 0 ≤ R.cells ∧ A₁.slots + 0 ≤ R.slots ∧ P x t V n f z fm i a₁ A₁.U) (fun A₁ _ v₁ B₁ => E f i v₁ A₁.U B₁.U ∧ B₁.locs = A₁.locs ++ [] ∧ B₁.cells = A₁.cells + 0 ∧ B₁.slots = A₁.slots + 0) :=
  (law l x t V n f z fm i).pays htab hfr (by omega)
end ChN
end StrChars
namespace StrChars.Road
open Jvm Sem ClassFile Op Lib Jvm.Stand Jvm.Free Jvm.Free.XT
open Jvm.Lib.Cold (StaticIs)
/-- the words of String.charAt(int), the Latin-1 road alone -/
abbrev wordsChN : List Jvm.Cond := [.code ChN.yN ChN.yB 2 (some .char), .initialized ST, .fieldLink ST 9 ST "value" "[B", .fieldLink ST 38 ST "COMPACT_STRINGS" "Z", .fieldLink ST 15 ST "coder" "B", .code IsL.yN IsL.yB 1 (some .boolean), .methodLink ST 492 IsL.yN, .declares IsL.yN, .selects ST IsL.yN IsL.yN, .instanceMethod IsL.yN,
  .methodLink ST 495 LChA.yN, .static LChA.yN, .code LChA.yN LChA.yB 2 (some .char), .initialized "java/lang/StringLatin1", .methodLink "java/lang/StringLatin1" 9 JO.Str_checkIndex.yN, .static JO.Str_checkIndex.yN, .code JO.Str_checkIndex.yN JO.Str_checkIndex.yB 2 none,
  .fieldLink ST 1053 "jdk/internal/util/Preconditions" "SIOOBE_FORMATTER" "Ljava/util/function/BiFunction;", .methodLink ST 1059 JC.PreCheck.yN, .static JC.PreCheck.yN, .code JC.PreCheck.yN JC.PreCheck.yB 3 (some .int), .initialized "jdk/internal/util/Preconditions"]
theorem tabChN_of {a : Array Value} {s : State} (h : ∀ w ∈ wordsChN, w.before a s = true) : ChN.tab.before a s = true := by
  have hp : JC.PreCheck.tab.before a s = true := unparts (wk h (.code JC.PreCheck.yN JC.PreCheck.yB 3 (some .int))) (wks h (.initialized JC.PreCheck.yN.cls :: JC.PreCheck.site))
  have qk := consq hp h
  have hk : JO.Str_checkIndex.tab.before a s = true := unparts (wk qk (.code JO.Str_checkIndex.yN JO.Str_checkIndex.yB 2 none)) (wks qk (.initialized JO.Str_checkIndex.yN.cls :: JO.Str_checkIndex.site))
  have ql := consq hk h
  have hl : LChA.tab.before a s = true := unparts (wk ql (.code LChA.yN LChA.yB 2 (some .char))) (wks ql (.initialized LChA.yN.cls :: LChA.site))
  have hi : IsL.tab.before a s = true := unparts (wk h (.code IsL.yN IsL.yB 1 (some .boolean))) (wks h (.initialized IsL.yN.cls :: IsL.site))
  have q := consq hi (consq hl h)
  exact unparts (wk q (.code ChN.yN ChN.yB 2 (some .char))) (wks q (.initialized ChN.yN.cls :: ChN.site))
theorem movedChN {Z s : State} {a0 args : Array Value} (hZ : Z.Warmed39 s.vm) (hw : ∀ d ∈ wordsChN, d.before a0 Z = true) : ∀ d ∈ wordsChN, d.before args s = true := fun d hd => by
  have t : ∀ d ∈ wordsChN, (d.onTables && d.keepsFace) = true := by decide +kernel
  exact RoadKit.mv hZ (hw d hd) (t d hd)
/-- **charAt(i) OF A LATIN-1 STRING**, i < n: the char -/
theorem chN {p : Program} {l : Launch} {e : Env} {R : Room} {s : State} {args : Array Value} {below : List Frame} {len W : Nat} {Z : State} {a0 : Array Value} {h : Heap} (hZ : Z.Warmed39 s.vm) (hw : ∀ d ∈ wordsChN, d.before a0 Z = true) {kI : Nat} (wi : (Jvm.Cond.instantiable ST kI).before a0 Z = true)
    {x t : Addr} {kb : ClassId} {cs : List Int32} {N2 z : Int32} {vs : List Value} {fm : Value} {i : Nat} {j : Int32} (E : RoadKit.Exa Z h x ST) (V : RoadKit.Fld Z h x ST "value" "[B" (.ref t)) (C : RoadKit.Fld Z h x ST "coder" "B" (.int 0)) (K : RoadKit.Arv Z h t kb .byte N2 vs (.int 0)) (hc : CodA cs 0 N2 vs) (hb : ∀ c ∈ cs, ¬ c < 0 ∧ ¬ (65535 : Int32) < c)
    (S : RoadKit.Sta Z h ST "COMPACT_STRINGS" "Z" (.int z)) (hz : ¬ z = 0) (F : RoadKit.Sta Z h "jdk/internal/util/Preconditions" "SIOOBE_FORMATTER" "Ljava/util/function/BiFunction;" fm) (rf : fm.isRef = true) (l2 : cs.length ≤ 4000) (hi : i < cs.length) (hj : j = Int32.ofNat i) (hfr : 4 ≤ R.frames) (hlo : W + 53 ≤ R.locals) :
    Back l R p e below s args (⟨"java/lang/String", "charAt", "(I)C"⟩ : MethodName) len W (fun P a => a = #[.ref x, .int j] ∧ P.U.heap = h ∧ P.cells + 0 ≤ R.cells ∧ P.slots + 0 ≤ R.slots)
      (fun P _ v B => ∃ L, (v = some (.int (cs.getD i 0)) ∧ L = [] ∧ B.U.heap = h) ∧ B.locs = P.locs ++ L ∧ B.cells = P.cells + 0 ∧ B.slots = P.slots + 0) := by
  subst hj
  intro m meth c P g ig mk a X hg hsize hdg hW hn hp'
  obtain ⟨rfl, rfl, r1, r2⟩ := hp'
  have al : Z.vm.Alike P.U.vm := hZ.alike.trans X.warmed.alike
  obtain ⟨A, hx⟩ := txt_of wi al E V C K hc hb l2
  obtain ⟨v, B, X', ⟨⟨hv, hh⟩, hl, hk, hs⟩, st⟩ := ChN.pays x t A cs.length (fun j => cs.getD j 0) z fm i (tabChN_of (movedChN hZ hw)) hfr hlo m meth c P g ig mk _ X hg hsize hdg hW hn ⟨r1, r2, rfl, hx, hi, sta_is al S, hz, sta_is al F, rf⟩
  exact ⟨v, B, X', ⟨[], ⟨hv, rfl, hh⟩, hl, hk, hs⟩, st⟩
/-- what backV says of its String, as the contracts of this text ask it: cs's low bytes, coder 0 -/
theorem codOf {cs : List Int32} {n : Nat} (hn : cs.length = n) (hb : ∀ c ∈ cs, ¬ 255 < c) : CodA cs 0 (Int32.ofNat n) ((cs.map lo8).map Value.int) := Or.inl ⟨rfl, by rw [hn], by simp [List.map_map, Function.comp_def], hb⟩
end StrChars.Road
end Jvm.Pilot.@@N@@

namespace Jvm.Pilot.@@N@@
open Jvm Jvm.ClassFile Sem Op Lib Jvm.Free Jvm.Stand Jvm.LawKit Jvm.RoadKit Bundle Jvm.Pilot.@@N@@.Jvm.D
theorem own_mi {α : Type} {l : List α} {a : α} (i : Nat) (h : l[i]? = some a) : a ∈ l := List.mem_of_getElem? h
def own_Rn (p : Program) (e : Env) (below : List Frame) (P : Outcome → State → Prop) (S : State) : Prop := ∃ U o, Steps p.tables e below S U ∧ U.status = .running ∧ Ended U below o ∧ P o U
theorem own_go {p : Program} {e : Env} {below : List Frame} {P : Outcome → State → Prop} {S S' : State} (k : ∀ t, Steps p.tables e below S' t → Steps p.tables e below S t) (h : own_Rn p e below P S') : own_Rn p e below P S := by
  obtain ⟨U, o, h1, h2⟩ := h
  exact ⟨U, o, k U h1, h2⟩
theorem own_ret {p : Program} {l : Launch} {e : Env} {R : Room} {s : State} {m : MethodId} {args : Array Value} {below : List Frame} {meth : Method} {c : Code} {T : State} {locs : List Loc} {cells slots : Nat} (X : Stand p l e R s m args below meth c T locs cells slots)
    {v : Option Value} (hv : meth.sig.returnType = none → v = none) {S : State} {Q : Option Value → Heap → List Loc → Prop} {C N : Nat}
    (k : ∀ fs, (∀ (f : JFrame) (acts : List Action), f.method = m → f.locked = none → f.entered = [] → (doReturn e (T.setTop f) acts v).1 = T.setFrames fs) → Steps p.tables e below S (T.setFrames fs)) (hq : Q v T.heap locs) (hc : cells ≤ C) (hs : slots ≤ N)
    (hlocks : meth.locks = false := by first | assumption | exact BodyLoose.notSynchronized (by assumption) | exact Body.notSynchronized (by assumption)) :
    own_Rn p e below (fun o U' => ∃ v L, o = .returned v ∧ Q v U'.heap L ∧ FrameEnd s o U' L C N) S := by
  obtain ⟨fs, hr, hrun, hended, hW, hsame⟩ := X.leave hv hlocks
  exact ⟨_, _, k fs hr, hrun, hended, _, _, rfl, hq, ⟨_, rfl⟩, hW, hsame.mono hc hs⟩
theorem own_nea {a b : Addr} (h : @LT.lt Nat _ a b ∨ @LT.lt Nat _ b a) : a ≠ b := by
  intro e
  have e' : @Eq Nat a b := e
  omega
theorem own_fits_byte (x : Int32) : fits .byte (.int (nar .byte x)) = true := by
  have h := c_i2b x
  have h1 : (-128 : Int32) ≤ x.toInt8.toInt32 := by rw [Int32.le_iff_toInt_le]; exact h.2.1
  have h2 : x.toInt8.toInt32 ≤ (127 : Int32) := by rw [Int32.le_iff_toInt_le]; exact Int.le_of_lt_add_one h.2.2
  simp only [fits, Bool.and_eq_true]
  exact ⟨decide_eq_true h1, decide_eq_true h2⟩
theorem own_fitsB (x : Int32) : fits .byte (.int x.toInt8.toInt32) = true := own_fits_byte x
theorem own_retS {p : Program} {l : Launch} {e : Env} {R : Room} {s : State} {m : MethodId} {args : Array Value} {below : List Frame} {meth : Method} {c : Code} {T : State} {locs : List Loc} {cells slots : Nat} {vm₁ : Vm} (X : Stand p l e R (s.setVm vm₁) m args below meth c T locs cells slots) {n : Nat} (hS : s.Since vm₁ n) (hn : n ≤ T.heap.size)
    {v : Option Value} (hv : meth.sig.returnType = none → v = none) {S : State} {Z : State} {EL : List (String × Nat)} {Q : Option Value → Heap → List Loc → Prop} {C N : Nat}
    (k : ∀ fs, (∀ (f : JFrame) (acts : List Action), f.method = m → f.locked = none → f.entered = [] → (doReturn e (T.setTop f) acts v).1 = T.setFrames fs) → Steps p.tables e below S (T.setFrames fs)) (hq : Q v T.heap locs) (hR : CHr Z EL s.vm s.heap T.vm T.heap) (hc : cells ≤ C) (hs : slots ≤ N)
    (hlocks : meth.locks = false := by first | assumption | exact BodyLoose.notSynchronized (by assumption) | exact Body.notSynchronized (by assumption)) :
    own_Rn p e below (fun o U' => ∃ v L, o = .returned v ∧ Q v U'.heap L ∧ CHr Z EL s.vm s.heap U'.vm U'.heap ∧ ReturnedEndW s o U' L C N) S := by
  obtain ⟨fs, hr, hrun, hended, h1, h2, h3, h4⟩ := X.leaveW hS hn hv hlocks
  exact ⟨_, _, k fs hr, hrun, hended, _, _, rfl, hq, hR, h1, h2, h3, h4.mono hc hs⟩
theorem own_safeAt {Z : State} {EL : List (String × Nat)} {vm vm1 : Vm} {h : Heap} {x : Addr} (A : CHr Z EL vm h vm1 h) (S : Safe Z EL vm h x) : Safe Z EL vm1 h x := by
  rcases Nat.lt_or_ge x h.size with hx | hx
  · exact A.safe hx S
  · exact Safe.new hx
theorem own_backSH {p : Program} {l : Launch} {e : Env} {R : Room} {s : State} {args : Array Value} {below : List Frame} {Z : State} {a0 : Array Value} {EL : List (String × Nat)} {h : Heap} {vm0 : Vm} {sf : List Addr}
    {y : MethodName} {bytes : ByteArray} {maxL : Nat} {ret : Option FieldType} {rm : Room} {len W : Nat} {as' : Array Value} {Q : Option Value → Heap → List Loc → Prop}
    (hM : MetFree l y (head1 [Cond.code y bytes maxL ret] rm) (fun a U => a = as' ∧ Z.Warmed39 U.vm ∧ U.heap = h ∧ CHv Z EL U.vm h ∧ ∀ x ∈ sf, Safe Z EL U.vm h x) (fun _ _ _ _ _ => True) (fun _ U o U' => ∃ v L, o = .returned v ∧ Q v U'.heap L ∧ CHr Z EL U.vm U.heap U'.vm U'.heap ∧ ReturnedEndW U o U' L rm.cells rm.slots))
    (hZ : Z.Warmed39 vm0) (wc : (Cond.code y bytes maxL ret).before a0 Z = true) (wz : (Cond.initialized y.cls).before a0 Z = true) (hf : rm.frames + 1 ≤ R.frames) (hl : W + (maxL + 11) + rm.locals ≤ R.locals) (hEL : EW Z a0 EL) (H : CHv Z EL vm0 h) (hsf : ∀ x ∈ sf, Safe Z EL vm0 h x) :
    BackS l R p e below (s.setVm vm0) args y len W (fun A a => a = as' ∧ A.U.heap = h ∧ A.cells + rm.cells ≤ R.cells ∧ A.slots + rm.slots ≤ R.slots)
      (fun A _ v B => ∃ L, Q v B.U.heap L ∧ B.locs = A.locs ++ L ∧ B.cells = A.cells + rm.cells ∧ B.slots = A.slots + rm.slots ∧ CHr Z EL vm0 h B.U.vm B.U.heap) :=
  BackS.of_freeW (bytes := bytes) (maxL := maxL) (ret := ret) (E := fun _ first o t L k n => k = rm.cells ∧ n = rm.slots ∧ (∃ v, o = .returned v ∧ Q v t.heap L) ∧ CHr Z EL first.vm first.heap t.vm t.heap) hM hf hl
    (fun m meth c A a Y hp => have hU : Z.Warmed39 A.U.vm := wtrans (s := s.setVm vm0) hZ Y.warmed
      ⟨by show (Cond.and _ .tt).before a A.U = true; rw [Cond.before_and, mv hU wc]; rfl, mv hU wc, mv hU wz, hp.2.2.1, hp.2.2.2⟩)
    (fun m meth c A a g mk Y hp => ⟨hp.1, wtrans (s := s.setVm vm0) hZ Y.warmed, hp.2.1, (CHv.at Y hZ hEL H).1, fun x hx => show Safe Z EL A.U.vm h x from own_safeAt (CHv.at Y hZ hEL H) (hsf x hx)⟩) (fun _ _ _ _ _ _ _ _ _ => trivial)
    (fun _ _ _ _ ⟨v, L, h1, h2, h3, h4⟩ => ⟨L, _, _, h4, rfl, rfl, ⟨v, h1, h2⟩, h3⟩)
    (fun m meth c A a g mk v t L k n Y hp _ _ ⟨e1, e2, ⟨v', e3, e4⟩, e5⟩ => by
      cases e3; subst e1 e2
      refine ⟨L, e4, rfl, rfl, rfl, (CHv.at Y hZ hEL H).trans ?_⟩
      rw [← hp.2.1]; exact e5)
theorem own_and255 (x : Int32) : ¬ (x &&& (255 : Int32)) < 0 ∧ ¬ (255 : Int32) < (x &&& (255 : Int32)) := by
  have h := c_and x 255 (by decide)
  have e2 : (255 : Int32).toInt = 255 := rfl
  rw [Int32.lt_iff_toInt_lt, Int32.lt_iff_toInt_lt]
  have e0 : (0 : Int32).toInt = 0 := rfl
  omega
theorem own_c16 (r : Int32) (h : ¬ r < 0 ∧ ¬ (65535 : Int32) < r) : r.toUInt32.toUInt16.toUInt32.toInt32 = r := by
  have h1 := c_i2c r
  rw [Int32.lt_iff_toInt_lt, Int32.lt_iff_toInt_lt] at h
  have e2 : (65535 : Int32).toInt = 65535 := rfl
  have e0 : (0 : Int32).toInt = 0 := rfl
  apply Int32.toInt_inj.mp
  omega
theorem own_up (r : Int32) (h : ¬ r < 0 ∧ ¬ (255 : Int32) < r) : ¬ r < 0 ∧ ¬ (65535 : Int32) < r := by
  rw [Int32.lt_iff_toInt_lt, Int32.lt_iff_toInt_lt] at *
  have e2 : (65535 : Int32).toInt = 65535 := rfl
  have e3 : (255 : Int32).toInt = 255 := rfl
  have e0 : (0 : Int32).toInt = 0 := rfl
  omega
theorem own_narC (r : Int32) (h : ¬ r < 0 ∧ ¬ (255 : Int32) < r) : nar .char r = r := own_c16 r (own_up r h)
theorem own_chr (x : Int32) : ((x &&& (255 : Int32)).toUInt32.toUInt16.toUInt32.toInt32) = x &&& 255 := own_c16 _ (own_up _ (own_and255 x))
theorem own_chr_rng (x : Int32) : ¬ ((x &&& (255 : Int32)).toUInt32.toUInt16.toUInt32.toInt32) < 0 ∧ ¬ (255 : Int32) < ((x &&& (255 : Int32)).toUInt32.toUInt16.toUInt32.toInt32) := by rw [own_chr]; exact own_and255 x
theorem own_narB (x : Int32) : nar .byte (x.toInt8.toInt32) = x.toInt8.toInt32 := by
  show (x.toInt8.toInt32).toInt8.toInt32 = x.toInt8.toInt32
  rw [Int8.toInt8_toInt32]
theorem own_shr0 (x : Int32) : x >>> ((0 : Int32) &&& 31) = x := by
  apply Int32.toInt_inj.mp
  rw [c_ishr x 0 0 rfl]; simp
theorem own_shl0 (x : Int32) : x <<< ((0 : Int32) &&& 31) = x := by
  show x <<< (0 : Int32) = x
  simp
abbrev own_bs (cs : List Int32) : List Value := (cs.map (fun c => c.toInt8.toInt32)).map Value.int
theorem own_bs_len (cs : List Int32) : (own_bs cs).length = cs.length := by simp [own_bs]
theorem own_bs_app (cs ds : List Int32) : own_bs (cs ++ ds) = own_bs cs ++ own_bs ds := by simp [own_bs]
theorem own_range_getD (vs : List Value) (d : Value) : (List.range vs.length).map (fun i => vs.getD (0 + i) d) = vs := by
  apply List.ext_getElem
  · simp
  · intro i h1 h2
    simp [List.getD_eq_getElem?_getD, h2]
theorem own_clampN {n : Nat} (h : n < 2147483648) : (Int32.ofNat n).toNatClampNeg = n := Int32.toNatClampNeg_ofNat_of_lt h
theorem own_nneg {n : Nat} (h : n < 2147483648) : ¬ Int32.ofNat n < 0 := by
  rw [Int32.lt_iff_toInt_lt, Int32.toInt_ofNat_small (by omega)]
  have e0 : (0 : Int32).toInt = 0 := rfl
  omega
theorem own_ofNat_add (a b : Nat) : Int32.ofNat (a + b) = Int32.ofNat a + Int32.ofNat b := Int32.ofNat_add a b
theorem own_le15 {n : Nat} (h : n ≤ 15) : ¬ (0 : Int32) < Int32.ofNat n - 16 := by
  have c := c_isub (Int32.ofNat n) 16
  rw [Int32.toInt_ofNat_small (by omega), show (16 : Int32).toInt = 16 from rfl] at c
  have r := rng32 (Int32.ofNat n - 16)
  rw [Int32.lt_iff_toInt_lt, show (0 : Int32).toInt = 0 from rfl]
  omega
theorem own_lt16 {n : Nat} (h : n ≤ 15) : Int32.ofNat n < (16 : Int32) := by
  rw [Int32.lt_iff_toInt_lt, Int32.toInt_ofNat_small (by omega), show (16 : Int32).toInt = 16 from rfl]; omega
theorem own_ne16 {n : Nat} (h : n ≤ 15) : ¬ Int32.ofNat n = (16 : Int32) := by
  intro e
  have := congrArg Int32.toInt e
  rw [Int32.toInt_ofNat_small (by omega), show (16 : Int32).toInt = 16 from rfl] at this
  omega
theorem own_us (ds : List Int32) (h : ds.length < 2147483648) : own_bs ds = (List.range (Int32.ofNat ds.length).toNatClampNeg).map fun i => (own_bs ds).getD ((0 : Int32).toNatClampNeg + i) (.int 0) := by
  rw [own_clampN h]
  have e : (0 : Int32).toNatClampNeg = 0 := rfl
  rw [e, ← own_bs_len ds, own_range_getD]
theorem own_cat {Z : State} {h : Heap} {b : Addr} {k : ClassId} {z : Int32} {cs ds es : List Int32} {dp nn : Int32} {m : Nat} (hes : es = cs ++ ds) (h16 : cs.length < 2147483648 ∧ ds.length < 2147483648) (hm : ds.length ≤ m) (hd : dp = Int32.ofNat cs.length) (hn : nn = Int32.ofNat ds.length)
    (F : Arv Z h b k .byte z ((own_bs cs ++ List.replicate m (Value.int 0)).take dp.toNatClampNeg ++ own_bs ds ++ (own_bs cs ++ List.replicate m (Value.int 0)).drop (dp.toNatClampNeg + nn.toNatClampNeg)) (.int 0)) : Arv Z h b k .byte z (own_bs es) (.int 0) := by
  subst hd hn
  rw [own_clampN h16.1, own_clampN h16.2] at F
  have e1 : (own_bs cs ++ List.replicate m (Value.int 0)).take cs.length = own_bs cs := by
    rw [← own_bs_len cs, List.take_left]
  have e2 : (own_bs cs ++ List.replicate m (Value.int 0)).drop (cs.length + ds.length) = List.replicate (m - ds.length) (.int 0) := by
    rw [← own_bs_len cs, List.drop_append, List.drop_replicate]
    simp
  rw [e1, e2, ← own_bs_app, ← hes] at F
  exact F.pad (fun i => (pad_rep (own_bs es) (.int 0) (m - ds.length) i).symm)
theorem own_notI {Z : State} {a0 : Array Value} {C : String} {x z : MethodName} (w : (Cond.selects C x z).before a0 Z = true) : ∃ c k, Z.vm.findClass z.cls = some c ∧ Z.vm.classes[c]? = some k ∧ k.isInterface = false := by
  obtain ⟨c, r, m, -, -, h3, -, k, h5, h6⟩ := Cond.selects_spec w
  exact ⟨m.cls, k, findClass_of_methodNamed h3, h5, h6⟩
theorem own_sameM {Z : State} {a0 : Array Value} {C : String} {x y z : MethodName} (w1 : (Cond.instanceMethod y).before a0 Z = true) (w : (Cond.selects C x z).before a0 Z = true) (e : z.cls = y.cls) (hy : y.cls ≠ "java/lang/invoke/MethodHandle" ∧ y.cls ≠ "java/lang/invoke/VarHandle") : (Cond.sameMethod y.cls y.cls y.name y.desc).before a0 Z = true := by
  obtain ⟨c, k, h1, h2, h3⟩ := own_notI w
  rw [e] at h1
  obtain ⟨mk, methM, hnamed, hmethM, -, -⟩ := Cond.instanceMethod_spec w1
  have hfound : Z.methodFound? y.cls y.name y.desc = some mk := State.methodFound?_of_named hnamed hy
  simp only [Cond.before, Cond.holds, Cond.value, h1, hfound, hnamed, h2]
  simp [h3]
theorem own_nf {s : State} {a0 : Array Value} {C : String} {x y z : MethodName} (w : (Cond.selects C x z).before a0 s = true) (e : z.cls = y.cls) : NotFace s y := by
  obtain ⟨c, k, h1, h2, h3⟩ := own_notI w
  intro r0 hr
  have := findClass_of_methodNamed hr
  rw [← e, h1] at this
  cases this
  exact ⟨k, h2, h3⟩
theorem own_selP {Z : State} {a0 : Array Value} {C : String} {y : MethodName} (w : (Cond.selects C y y).before a0 Z = true) (wp : (Cond.privateMethod y).before a0 Z = true) (wi : (Cond.instanceMethod y).before a0 Z = true) (hy : y.cls ≠ "java/lang/invoke/MethodHandle" ∧ y.cls ≠ "java/lang/invoke/VarHandle") : (Cond.selects y.cls y y).before a0 Z = true := by
  obtain ⟨c, k, h1, h2, h3⟩ := own_notI w
  exact Jvm.Stand.selects_self_of_private h1 h2 h3 (Cond.privateMethod_at wp) wi hy
def own_str (K : Nat) (a b : Int32) : List Int32 := match K with | 0 => [] | 1 => [a] | _ => [a, b]
def own_es (K1 : Nat) (a b : Int32) (K2 : Nat) (n0 n1 : Int32) : List Int32 := (own_str K1 a b ++ [32, 105, 110, 32]) ++ own_str K2 n0 n1
theorem own_str_len {K : Nat} (h : K < 3) (a b : Int32) : (own_str K a b).length = K := by
  obtain rfl | rfl | rfl : K = 0 ∨ K = 1 ∨ K = 2 := by omega
  all_goals rfl
theorem own_es_len {K1 K2 : Nat} (h : K1 < 3) (h2 : K2 < 3) (a b n0 n1 : Int32) : (own_es K1 a b K2 n0 n1).length = K1 + 4 + K2 := by
  rw [own_es, List.length_append, List.length_append, own_str_len h, own_str_len h2]; rfl
theorem own_str_rng {K : Nat} {a b : Int32} (ha : ¬ a < 0 ∧ ¬ (255 : Int32) < a) (hb : ¬ b < 0 ∧ ¬ (255 : Int32) < b) : ∀ c ∈ own_str K a b, ¬ c < 0 ∧ ¬ (255 : Int32) < c := by
  intro c hc
  match K with
  | 0 => exact nomatch hc
  | 1 => rw [own_str, List.mem_singleton] at hc; subst hc; exact ha
  | _ + 2 =>
    simp only [own_str, List.mem_cons, List.not_mem_nil, or_false] at hc
    rcases hc with rfl | rfl
    · exact ha
    · exact hb
theorem own_es_rng {K1 K2 : Nat} {a b n0 n1 : Int32} (ha : ¬ a < 0 ∧ ¬ (255 : Int32) < a) (hb : ¬ b < 0 ∧ ¬ (255 : Int32) < b) (h0 : ¬ n0 < 0 ∧ ¬ (255 : Int32) < n0) (h1 : ¬ n1 < 0 ∧ ¬ (255 : Int32) < n1) : ∀ c ∈ own_es K1 a b K2 n0 n1, ¬ c < 0 ∧ ¬ (255 : Int32) < c := by
  intro c hc
  rw [own_es, List.mem_append, List.mem_append] at hc
  rcases hc with (hc | hc) | hc
  · exact own_str_rng ha hb c hc
  · simp only [List.mem_cons, List.not_mem_nil, or_false] at hc
    rcases hc with rfl | rfl | rfl | rfl <;> decide
  · exact own_str_rng h0 h1 c hc
def own_exp (i hl a b n0 n1 : Int32) : Int32 := if i < hl then (if i = 0 then a else b) else if i - hl = 0 then 32 else if i - hl = 1 then 105 else if i - hl = 2 then 110 else if i - hl = 3 then 32 else if i - hl = 4 then n0 else n1
theorem own_at (K1 K2 i : Nat) (h1 : K1 < 3) (h2 : K2 < 3) (a b n0 n1 : Int32) (hi : i < K1 + 4 + K2) : (own_es K1 a b K2 n0 n1).getD i 0 = own_exp (Int32.ofNat i) (Int32.ofNat K1) a b n0 n1 := by
  obtain rfl | rfl | rfl | rfl | rfl | rfl | rfl | rfl : i = 0 ∨ i = 1 ∨ i = 2 ∨ i = 3 ∨ i = 4 ∨ i = 5 ∨ i = 6 ∨ i = 7 := by omega
  all_goals
    obtain rfl | rfl | rfl : K1 = 0 ∨ K1 = 1 ∨ K1 = 2 := by omega
    all_goals
      obtain rfl | rfl | rfl : K2 = 0 ∨ K2 = 1 ∨ K2 = 2 := by omega
      all_goals first | (exfalso; omega) | rfl
theorem own_m3 (x : Int32) (h : 0 ≤ x.toInt ∧ x.toInt ≤ 15) : ∃ K : Nat, K < 3 ∧ x % (3 : Int32) = Int32.ofNat K := by
  have h2 := (c_irem x 3 3 rfl).1 h.1
  refine ⟨(x % (3 : Int32)).toInt.toNat, by omega, ?_⟩
  apply Int32.toInt_inj.mp
  rw [Int32.toInt_ofNat_small (by omega)]
  omega
theorem own_and15 (x : Int32) : 0 ≤ (x &&& (15 : Int32)).toInt ∧ (x &&& (15 : Int32)).toInt ≤ 15 := c_and x 15 (by decide)
theorem own_lt_of {i n : Nat} (hi : i < 2147483648) (hn : n < 2147483648) (h : Int32.ofNat i < Int32.ofNat n) : i < n := by
  rw [Int32.lt_iff_toInt_lt, Int32.toInt_ofNat_small hi, Int32.toInt_ofNat_small hn] at h; omega
theorem own_ef_rmCan (m : MethodId) (ch : Int32) : entryFrame m #[(.int ch)] 1 = mkF m 0 #[.val (.int ch)] [] := by first | (simp [entryFrame, mkF, argsToLocals, Value.category]; done) | rfl
theorem own_pn_java_lang_StringLatin1 : plainName "java/lang/StringLatin1" = true := by first | (simp [plainName, overriddenIn]; done) | decide +kernel
theorem own_d8_0 : decode jdk_43_method_3_code 0 = .ok (.iload_n 0, 1) := by decide +kernel
theorem own_d8_1 : decode jdk_43_method_3_code 1 = .ok (.sipush 255, 3) := by decide +kernel
theorem own_d8_4 : decode jdk_43_method_3_code 4 = .ok (.if_icmp .gt 7, 3) := by decide +kernel
theorem own_d8_7 : decode jdk_43_method_3_code 7 = .ok (.iconst 1, 1) := by decide +kernel
theorem own_d8_8 : decode jdk_43_method_3_code 8 = .ok (.goto 4, 3) := by decide +kernel
theorem own_d8_12 : decode jdk_43_method_3_code 12 = .ok (.ireturn, 1) := by decide +kernel
def Q_rmCan (Z : State) (ch : Int32) (h0 : Heap) (n0 : Nat) (vq : Option Value) (hhq : Heap) (Lq : List Loc) : Prop := vq = some (.int (1 : Int32)) ∧ Fr n0 Lq ∧ hhq = h0
set_option maxRecDepth 65536 in
set_option maxHeartbeats 40000000 in
theorem rmCan (l : Launch) (Z : State) (a0 : Array Value) (hw : ∀ d ∈ tables_1, d.before a0 Z = true) (ws : List Jvm.Cond) (ch : Int32) (h0 : Heap) (n0 : Nat) (Z0 : n0 ≤ h0.size) (hR : (¬ ch < 0 ∧ ¬ (255 : Int32) < ch)) :
    MetFree l (⟨"java/lang/StringLatin1", "canEncode", "(C)Z"⟩ : MethodName) (head1 (Jvm.Cond.code (⟨"java/lang/StringLatin1", "canEncode", "(C)Z"⟩ : MethodName) jdk_43_method_3_code 1 (some .boolean) :: ws) ({ frames := 0, cells := 0, slots := 0, locals := 0 } : Room)) (fun aq U => aq = #[(.int ch)] ∧ Z.Warmed39 U.vm ∧ U.heap = h0) (fun _ _ _ _ _ => True) (fun _ U oq U' => ∃ vq Lq, oq = .returned vq ∧ Q_rmCan Z ch h0 n0 vq U'.heap Lq ∧ FrameEnd U oq U' Lq ({ frames := 0, cells := 0, slots := 0, locals := 0 } : Room).cells ({ frames := 0, cells := 0, slots := 0, locals := 0 } : Room).slots) := by
  refine MetFree.of_bodySF (plainFor_of_name own_pn_java_lang_StringLatin1) hisR ?_
  intro p e s m args below meth c s₁ Bd hml0 hP hK
  obtain ⟨rfl, hZ, hh⟩ := hP
  have hx := Bd.exec
  have hby := Bd.bytes
  have hml : c.maxLocals = 1 := hml0
  have hown : s.vm.findClass "java/lang/StringLatin1" = some m.cls := findClass_of_methodNamed Bd.named
  have hnm := (name_of_methodNamed Bd.named Bd.method).1
  have X0 : Stand p l e ({ frames := 0, cells := 0, slots := 0, locals := 0 } : Room) s m #[(.int ch)] below meth c s₁ [] 0 0 := Stand.of_body Bd
  have e0 : s₁.heap = h0 := by rw [← hh, Bd.state]; rfl
  have N0 := Fr.nil n0
  have K0 : Keep h0 h0 [] := Keep.refl _ _
  refine own_go (S' := s₁.setTop (mkF m 0 #[.val (.int ch)] [])) (fun tq kq => castTop (own_ef_rmCan m ch) kq) ?_
  refine own_go (fun tq kq => XS.iloadN X0.here hx rfl (hb hby own_d8_0) rfl kq) ?_
  show own_Rn p e below _ (s₁.setTop (mkF m 1 #[.val (.int ch)] [(.int ch)]))
  refine own_go (fun tq kq => XS.sipush X0.here hx rfl (hb hby own_d8_1) kq) ?_
  show own_Rn p e below _ (s₁.setTop (mkF m 4 #[.val (.int ch)] [(.int (255 : Int32)), (.int ch)]))
  refine own_go (fun tq kq => XS.icmpNo X0.here hx rfl (hb hby own_d8_4) rfl (flt (hR.2 : ¬ ((255 : Int32) < ch))).2.2.1 kq) ?_
  show own_Rn p e below _ (s₁.setTop (mkF m 7 #[.val (.int ch)] []))
  refine own_go (fun tq kq => XS.iconst X0.here hx rfl (hb hby own_d8_7) kq) ?_
  show own_Rn p e below _ (s₁.setTop (mkF m 8 #[.val (.int ch)] [(.int (1 : Int32))]))
  refine own_go (fun tq kq => XS.goto X0.here hx rfl (pc0 := 8) (pc' := 12) rfl (hb hby own_d8_8) (by decide) (by decide) kq) ?_
  show own_Rn p e below _ (s₁.setTop (mkF m 12 #[.val (.int ch)] [(.int (1 : Int32))]))
  exact own_ret X0 (v := some (.int (nar .boolean (1 : Int32)))) (fun h => by rw [Bd.returns] at h; cases h) (fun fs hr => retN X0 hx (t := .boolean) Bd.returns (by simp) (hb hby own_d8_12) hr) (by rw [e0]; exact ⟨rfl, N0, rfl⟩) (by decide) (by decide)
theorem own_ef_rmToB (m : MethodId) (ch : Int32) : entryFrame m #[(.int ch)] 1 = mkF m 0 #[.val (.int ch)] [] := by first | (simp [entryFrame, mkF, argsToLocals, Value.category]; done) | rfl
theorem own_d9_0 : decode jdk_43_method_46_code 0 = .ok (.iconst 1, 1) := by decide +kernel
theorem own_d9_1 : decode jdk_43_method_46_code 1 = .ok (.newarray .byte, 2) := by decide +kernel
theorem own_d9_3 : decode jdk_43_method_46_code 3 = .ok (.dup, 1) := by decide +kernel
theorem own_d9_4 : decode jdk_43_method_46_code 4 = .ok (.iconst 0, 1) := by decide +kernel
theorem own_d9_5 : decode jdk_43_method_46_code 5 = .ok (.iload_n 0, 1) := by decide +kernel
theorem own_d9_6 : decode jdk_43_method_46_code 6 = .ok (.i2b, 1) := by decide +kernel
theorem own_d9_7 : decode jdk_43_method_46_code 7 = .ok (.bastore, 1) := by decide +kernel
theorem own_d9_8 : decode jdk_43_method_46_code 8 = .ok (.areturn, 1) := by decide +kernel
def Q_rmToB (Z : State) (ch : Int32) (h0 : Heap) (n0 : Nat) (vq : Option Value) (hhq : Heap) (Lq : List Loc) : Prop := ∃ (t : Addr), ∃ (kb : ClassId), vq = some (.ref t) ∧ Fr n0 Lq ∧ Keep h0 hhq [] ∧ h0.size ≤ t ∧ n0 ≤ t ∧ Arv Z hhq t kb .byte (1 : Int32) [(.int (ch.toInt8.toInt32))] (.int (0 : Int32))
set_option maxRecDepth 65536 in
set_option maxHeartbeats 40000000 in
theorem rmToB (l : Launch) (Z : State) (a0 : Array Value) (hw : ∀ d ∈ tables_1, d.before a0 Z = true) (ws : List Jvm.Cond) (ch : Int32) (h0 : Heap) (n0 : Nat) (Z0 : n0 ≤ h0.size)  :
    MetFree l (⟨"java/lang/StringLatin1", "toBytes", "(C)[B"⟩ : MethodName) (head1 (Jvm.Cond.code (⟨"java/lang/StringLatin1", "toBytes", "(C)[B"⟩ : MethodName) jdk_43_method_46_code 1 (some (.array .byte)) :: ws) ({ frames := 0, cells := 1, slots := 1, locals := 0 } : Room)) (fun aq U => aq = #[(.int ch)] ∧ Z.Warmed39 U.vm ∧ U.heap = h0) (fun _ _ _ _ _ => True) (fun _ U oq U' => ∃ vq Lq, oq = .returned vq ∧ Q_rmToB Z ch h0 n0 vq U'.heap Lq ∧ FrameEnd U oq U' Lq ({ frames := 0, cells := 1, slots := 1, locals := 0 } : Room).cells ({ frames := 0, cells := 1, slots := 1, locals := 0 } : Room).slots) := by
  refine MetFree.of_bodySF (plainFor_of_name own_pn_java_lang_StringLatin1) hisR ?_
  intro p e s m args below meth c s₁ Bd hml0 hP hK
  obtain ⟨rfl, hZ, hh⟩ := hP
  have hx := Bd.exec
  have hby := Bd.bytes
  have hml : c.maxLocals = 1 := hml0
  have hown : s.vm.findClass "java/lang/StringLatin1" = some m.cls := findClass_of_methodNamed Bd.named
  have hnm := (name_of_methodNamed Bd.named Bd.method).1
  have X0 : Stand p l e ({ frames := 0, cells := 1, slots := 1, locals := 0 } : Room) s m #[(.int ch)] below meth c s₁ [] 0 0 := Stand.of_body Bd
  have e0 : s₁.heap = h0 := by rw [← hh, Bd.state]; rfl
  have N0 := Fr.nil n0
  have K0 : Keep h0 h0 [] := Keep.refl _ _
  refine own_go (S' := s₁.setTop (mkF m 0 #[.val (.int ch)] [])) (fun tq kq => castTop (own_ef_rmToB m ch) kq) ?_
  refine own_go (fun tq kq => XS.iconst X0.here hx rfl (hb hby own_d9_0) kq) ?_
  show own_Rn p e below _ (s₁.setTop (mkF m 1 #[.val (.int ch)] [(.int (1 : Int32))]))
  obtain ⟨T2, h2, k2, X2, e2, E2, A2, st2⟩ := newP X0 hx hZ (hw _ (own_mi 23 rfl)) e0 (g := (mkF m 1 #[.val (.int ch)] [(.int (1 : Int32))])) rfl (hb hby own_d9_1) rfl (by decide) (cap := 1) (by decide) (by decide) (by decide) (by decide)
  obtain ⟨b2, g2⟩ : ∃ z, z = h0.size := ⟨_, rfl⟩
  rw [← g2] at A2 st2
  refine own_go st2 ?_
  have sz3 : h0.size ≤ h2.size := E2.1
  have K3 := K0.ext E2
  have gn2 : n0 ≤ b2 := by omega
  have V2 : Arv Z h2 b2 k2 .byte (1 : Int32) [(.int (0 : Int32))] (.int (0 : Int32)) := (Arv.new A2 (by decide)).pad (pad_rep [] _ 1)
  have lt4 : @LT.lt Nat _ b2 h2.size := V2.lt
  show own_Rn p e below _ (T2.setTop (mkF m 3 #[.val (.int ch)] [(.ref b2)]))
  refine own_go (fun tq kq => XS.dup X2.here hx rfl (hb hby own_d9_3) rfl rfl kq) ?_
  show own_Rn p e below _ (T2.setTop (mkF m 4 #[.val (.int ch)] [(.ref b2), (.ref b2)]))
  refine own_go (fun tq kq => XS.iconst X2.here hx rfl (hb hby own_d9_4) kq) ?_
  show own_Rn p e below _ (T2.setTop (mkF m 5 #[.val (.int ch)] [(.int (0 : Int32)), (.ref b2), (.ref b2)]))
  refine own_go (fun tq kq => XS.iloadN X2.here hx rfl (hb hby own_d9_5) rfl kq) ?_
  show own_Rn p e below _ (T2.setTop (mkF m 6 #[.val (.int ch)] [(.int ch), (.int (0 : Int32)), (.ref b2), (.ref b2)]))
  refine own_go (fun tq kq => XS.i2b X2.here hx rfl (hb hby own_d9_6) rfl kq) ?_
  show own_Rn p e below _ (T2.setTop (mkF m 7 #[.val (.int ch)] [(.int (ch.toInt8.toInt32)), (.int (0 : Int32)), (.ref b2), (.ref b2)]))
  obtain ⟨cl5, Ar5, q5, Sz5, Nn5, Hs5, G5⟩ := id V2
  obtain ⟨T5, h5, X5, e5, W5, st5⟩ := stB X2 hx hZ e2 Ar5 (j := (0 : Int32)) (inb_of Sz5 ⟨by decide, by decide⟩) (g := (mkF m 7 #[.val (.int ch)] [(.int (ch.toInt8.toInt32)), (.int (0 : Int32)), (.ref b2), (.ref b2)])) rfl rfl (hb hby own_d9_7)
  refine own_go st5 ?_
  have V5 : Arv Z h5 b2 k2 .byte (1 : Int32) [(.int (nar .byte (ch.toInt8.toInt32)))] (.int (0 : Int32)) := Arv.set Ar5 q5 Sz5 Nn5 Hs5 G5 (own_fits_byte _) W5 0 rfl (Nat.le_of_ble_eq_true rfl)
  have N5 := Fr.snoc X5 N0 gn2
  have sz6 : h2.size ≤ h5.size := Nat.le_of_eq (Wr.size W5).symm
  have K6 := K3.wr W5 (Or.inr (by omega))
  show own_Rn p e below _ (T5.setTop (mkF m 8 #[.val (.int ch)] [(.ref b2)]))
  rw [own_narB] at V5
  exact own_ret X5 (v := some (.ref b2)) (fun h => by rw [Bd.returns] at h; cases h) (fun fs hr => X5.areturnOut hx rfl Bd.returns rfl (hb hby own_d9_8) hr) (by rw [e5]; exact ⟨b2, k2, rfl, N5, K6, (by omega), gn2, V5⟩) (by decide) (by decide)
theorem own_ef_rmSBB (m : MethodId) (x : Addr) (t : Addr) : entryFrame m #[(.ref x), (.ref t), (.int (0 : Int32))] 3 = mkF m 0 #[.val (.ref x), .val (.ref t), .val (.int (0 : Int32))] [] := by first | (simp [entryFrame, mkF, argsToLocals, Value.category]; done) | rfl
theorem own_pn_java_lang_String : plainName "java/lang/String" = true := by first | (simp [plainName, overriddenIn]; done) | decide +kernel
theorem own_d10_0 : decode jdk_42_method_151_code 0 = .ok (.aload_n 0, 1) := by decide +kernel
theorem own_d10_1 : decode jdk_42_method_151_code 1 = .ok (.invokespecial 1, 3) := by decide +kernel
theorem own_d10_4 : decode jdk_42_method_151_code 4 = .ok (.aload_n 0, 1) := by decide +kernel
theorem own_d10_5 : decode jdk_42_method_151_code 5 = .ok (.aload_n 1, 1) := by decide +kernel
theorem own_d10_6 : decode jdk_42_method_151_code 6 = .ok (.putfield 9, 3) := by decide +kernel
theorem own_fd_5bB : parseFieldDescriptor "[B" = some (.array .byte) := by decide +kernel
theorem own_d10_9 : decode jdk_42_method_151_code 9 = .ok (.aload_n 0, 1) := by decide +kernel
theorem own_d10_10 : decode jdk_42_method_151_code 10 = .ok (.iload_n 2, 1) := by decide +kernel
theorem own_d10_11 : decode jdk_42_method_151_code 11 = .ok (.putfield 15, 3) := by decide +kernel
theorem own_fd_B : parseFieldDescriptor "B" = some .byte := by decide +kernel
theorem own_d10_14 : decode jdk_42_method_151_code 14 = .ok (.return_, 1) := by decide +kernel
def Q_rmSBB (Z : State) (x : Addr) (t : Addr) (h0 : Heap) (n0 : Nat) (vq : Option Value) (hhq : Heap) (Lq : List Loc) : Prop := vq = none ∧ Fr n0 Lq ∧ Keep h0 hhq [x] ∧ Fld Z hhq x "java/lang/String" "value" "[B" (.ref t) ∧ Fld Z hhq x "java/lang/String" "coder" "B" (.int (0 : Int32))
set_option maxRecDepth 65536 in
set_option maxHeartbeats 40000000 in
theorem rmSBB (l : Launch) (Z : State) (a0 : Array Value) (hw : ∀ d ∈ tables_1, d.before a0 Z = true) (ws : List Jvm.Cond) (x : Addr) (t : Addr) (h0 : Heap) (n0 : Nat) (Z0 : n0 ≤ h0.size) (Pm0 : Exa Z h0 x "java/lang/String") (Pm1 : Fld Z h0 x "java/lang/String" "value" "[B" .null) (Pm2 : Fld Z h0 x "java/lang/String" "coder" "B" (.int (0 : Int32))) (Pm3 : n0 ≤ x) :
    MetFree l (⟨"java/lang/String", "<init>", "([BB)V"⟩ : MethodName) (head1 (Jvm.Cond.code (⟨"java/lang/String", "<init>", "([BB)V"⟩ : MethodName) jdk_42_method_151_code 3 none :: ws) ({ frames := 1, cells := 0, slots := 0, locals := 12 } : Room)) (fun aq U => aq = #[(.ref x), (.ref t), (.int (0 : Int32))] ∧ Z.Warmed39 U.vm ∧ U.heap = h0) (fun _ _ _ _ _ => True) (fun _ U oq U' => ∃ vq Lq, oq = .returned vq ∧ Q_rmSBB Z x t h0 n0 vq U'.heap Lq ∧ FrameEnd U oq U' Lq ({ frames := 1, cells := 0, slots := 0, locals := 12 } : Room).cells ({ frames := 1, cells := 0, slots := 0, locals := 12 } : Room).slots) := by
  refine MetFree.of_bodySF (plainFor_of_name own_pn_java_lang_String) hisR ?_
  intro p e s m args below meth c s₁ Bd hml0 hP hK
  obtain ⟨rfl, hZ, hh⟩ := hP
  have hx := Bd.exec
  have hby := Bd.bytes
  have hml : c.maxLocals = 3 := hml0
  have hown : s.vm.findClass "java/lang/String" = some m.cls := findClass_of_methodNamed Bd.named
  have hnm := (name_of_methodNamed Bd.named Bd.method).1
  have X0 : Stand p l e ({ frames := 1, cells := 0, slots := 0, locals := 12 } : Room) s m #[(.ref x), (.ref t), (.int (0 : Int32))] below meth c s₁ [] 0 0 := Stand.of_body Bd
  have e0 : s₁.heap = h0 := by rw [← hh, Bd.state]; rfl
  have N0 := Fr.nil n0
  have K0 : Keep h0 h0 [x] := Keep.refl _ _
  refine own_go (S' := s₁.setTop (mkF m 0 #[.val (.ref x), .val (.ref t), .val (.int (0 : Int32))] [])) (fun tq kq => castTop (own_ef_rmSBB m x t) kq) ?_
  have lt1 : @LT.lt Nat _ x h0.size := Pm0.lt
  refine own_go (fun tq kq => XS.aloadN X0.here hx rfl (hb hby own_d10_0) rfl rfl kq) ?_
  show own_Rn p e below _ (s₁.setTop (mkF m 1 #[.val (.ref x), .val (.ref t), .val (.int (0 : Int32))] [(.ref x)]))
  obtain ⟨T2, X2, e2, st2⟩ := initO X0 hx hZ hown (hw _ (own_mi 15 rfl)) (hw _ (own_mi 16 rfl)) (hw _ (own_mi 17 rfl)) e0 (g := (mkF m 1 #[.val (.ref x), .val (.ref t), .val (.int (0 : Int32))] [(.ref x)])) rfl (by rw [hml]; rfl) rfl (hb hby own_d10_1) (by decide) (W := 0) (by show 2 * 0 + _ ≤ _; exact Nat.le_of_eq rfl) (by decide)
  refine own_go st2 ?_
  show own_Rn p e below _ (T2.setTop (mkF m 4 #[.val (.ref x), .val (.ref t), .val (.int (0 : Int32))] []))
  refine own_go (fun tq kq => XS.aloadN X2.here hx rfl (hb hby own_d10_4) rfl rfl kq) ?_
  show own_Rn p e below _ (T2.setTop (mkF m 5 #[.val (.ref x), .val (.ref t), .val (.int (0 : Int32))] [(.ref x)]))
  refine own_go (fun tq kq => XS.aloadN X2.here hx rfl (hb hby own_d10_5) rfl rfl kq) ?_
  show own_Rn p e below _ (T2.setTop (mkF m 6 #[.val (.ref x), .val (.ref t), .val (.int (0 : Int32))] [(.ref t), (.ref x)]))
  obtain ⟨T3, h3, X3, e3, W3, st3⟩ := putF X2 hx hZ hown (host := "") (Or.inl (hw _ (own_mi 32 rfl))) Via.refl e2 Pm1 Pm0 (Or.inr ⟨(hw _ (own_mi 33 rfl)), rfl, hnm⟩) (hw _ (own_mi 5 rfl)) (ty := (.array .byte)) own_fd_5bB rfl rfl (g := (mkF m 6 #[.val (.ref x), .val (.ref t), .val (.int (0 : Int32))] [(.ref t), (.ref x)])) rfl rfl (hb hby own_d10_6)
  refine own_go st3 ?_
  have N3 := Fr.snoc X3 N0 Pm3
  have Fw3 := Pm1.same W3
  have sz4 : h0.size ≤ h3.size := Nat.le_of_eq (Wr.size W3).symm
  have K4 := K0.wr W3 (Or.inl (List.mem_of_getElem? (i := 0) rfl))
  show own_Rn p e below _ (T3.setTop (mkF m 9 #[.val (.ref x), .val (.ref t), .val (.int (0 : Int32))] []))
  refine own_go (fun tq kq => XS.aloadN X3.here hx rfl (hb hby own_d10_9) rfl rfl kq) ?_
  show own_Rn p e below _ (T3.setTop (mkF m 10 #[.val (.ref x), .val (.ref t), .val (.int (0 : Int32))] [(.ref x)]))
  refine own_go (fun tq kq => XS.iloadN X3.here hx rfl (hb hby own_d10_10) rfl kq) ?_
  show own_Rn p e below _ (T3.setTop (mkF m 11 #[.val (.ref x), .val (.ref t), .val (.int (0 : Int32))] [(.int (0 : Int32)), (.ref x)]))
  have F5 : Fld Z h3 x "java/lang/String" "coder" "B" (.int (0 : Int32)) := (Pm2.other W3 (Or.inr (slot_ne (Or.inr (hw _ (own_mi 31 rfl))) (Or.inr (hw _ (own_mi 33 rfl))) (by decide) (t := .byte) (t' := (.array .byte)) own_fd_B own_fd_5bB)))
  have F6 : Exa Z h3 x "java/lang/String" := (Pm0.wr W3)
  obtain ⟨T7, h7, X7, e7, W7, st7⟩ := putFN X3 hx hZ hown (hw _ (own_mi 30 rfl)) Via.refl e3 F5 F6 (Or.inr ⟨(hw _ (own_mi 31 rfl)), rfl, hnm⟩) (hw _ (own_mi 5 rfl)) (ty := .byte) (v' := (.int ((0 : Int32)))) own_fd_B rfl (by decide) (g := (mkF m 11 #[.val (.ref x), .val (.ref t), .val (.int (0 : Int32))] [(.int (0 : Int32)), (.ref x)])) rfl rfl (hb hby own_d10_11)
  refine own_go st7 ?_
  have N7 := Fr.snoc X7 N3 Pm3
  have Fw7 := F5.same W7
  have sz8 : h3.size ≤ h7.size := Nat.le_of_eq (Wr.size W7).symm
  have K8 := K4.wr W7 (Or.inl (List.mem_of_getElem? (i := 0) rfl))
  show own_Rn p e below _ (T7.setTop (mkF m 14 #[.val (.ref x), .val (.ref t), .val (.int (0 : Int32))] []))
  have F9 : Fld Z h7 x "java/lang/String" "value" "[B" (.ref t) := (Fw3.other W7 (Or.inr (slot_ne (Or.inr (hw _ (own_mi 33 rfl))) (Or.inr (hw _ (own_mi 31 rfl))) (by decide) (t := (.array .byte)) (t' := .byte) own_fd_5bB own_fd_B)))
  exact own_ret X7 (v := none) (fun _ => rfl) (fun fs hr => X7.returnOut hx Bd.returns (hb hby own_d10_14) hr) (by rw [e7]; exact ⟨rfl, N7, K8, F9, Fw7⟩) (by decide) (by decide)
theorem own_ef_rmVal (m : MethodId) (ch : Int32) (G1 : Int32) : entryFrame m #[(.int ch)] 1 = mkF m 0 #[.val (.int ch)] [] := by first | (simp [entryFrame, mkF, argsToLocals, Value.category]; done) | rfl
theorem own_d7_0 : decode jdk_42_method_139_code 0 = .ok (.getstatic 38, 3) := by decide +kernel
theorem own_d7_3 : decode jdk_42_method_139_code 3 = .ok (.ifCond .eq 23, 3) := by decide +kernel
theorem own_d7_6 : decode jdk_42_method_139_code 6 = .ok (.iload_n 0, 1) := by decide +kernel
theorem own_d7_7 : decode jdk_42_method_139_code 7 = .ok (.invokestatic 1015, 3) := by decide +kernel
theorem own_pd_28C29Z : parseMethodDescriptor "(C)Z" = some ⟨[.char], some .boolean⟩ := by decide +kernel
theorem own_d7_10 : decode jdk_42_method_139_code 10 = .ok (.ifCond .eq 16, 3) := by decide +kernel
theorem own_d7_13 : decode jdk_42_method_139_code 13 = .ok (.new 10, 3) := by decide +kernel
theorem own_d7_16 : decode jdk_42_method_139_code 16 = .ok (.dup, 1) := by decide +kernel
theorem own_d7_17 : decode jdk_42_method_139_code 17 = .ok (.iload_n 0, 1) := by decide +kernel
theorem own_d7_18 : decode jdk_42_method_139_code 18 = .ok (.invokestatic 1018, 3) := by decide +kernel
theorem own_pd_28C295bB : parseMethodDescriptor "(C)[B" = some ⟨[.char], some (.array .byte)⟩ := by decide +kernel
theorem own_d7_21 : decode jdk_42_method_139_code 21 = .ok (.iconst 0, 1) := by decide +kernel
theorem own_d7_22 : decode jdk_42_method_139_code 22 = .ok (.invokespecial 209, 3) := by decide +kernel
theorem own_pd_285bBB29V : parseMethodDescriptor "([BB)V" = some ⟨[(.array .byte), .byte], none⟩ := by decide +kernel
theorem own_d7_25 : decode jdk_42_method_139_code 25 = .ok (.areturn, 1) := by decide +kernel
def Q_rmVal (Z : State) (ch : Int32) (G1 : Int32) (h0 : Heap) (n0 : Nat) (vq : Option Value) (hhq : Heap) (Lq : List Loc) : Prop := ∃ (x : Addr), ∃ (t : Addr), ∃ (kb : ClassId), vq = some (.ref x) ∧ Fr n0 Lq ∧ Keep h0 hhq [] ∧ h0.size ≤ x ∧ h0.size ≤ t ∧ n0 ≤ x ∧ n0 ≤ t ∧ Exa Z hhq x "java/lang/String" ∧ Fld Z hhq x "java/lang/String" "value" "[B" (.ref t) ∧ Fld Z hhq x "java/lang/String" "coder" "B" (.int (0 : Int32)) ∧ Arv Z hhq t kb .byte (1 : Int32) ((([ch] : List Int32).map (fun c => c.toInt8.toInt32)).map Value.int) (.int 0)
set_option maxRecDepth 65536 in
set_option maxHeartbeats 40000000 in
theorem rmVal (l : Launch) (Z : State) (a0 : Array Value) (hw : ∀ d ∈ tables_1, d.before a0 Z = true) (ws : List Jvm.Cond) (ch : Int32) (G1 : Int32) (h0 : Heap) (n0 : Nat) (Z0 : n0 ≤ h0.size) (hR : (¬ ch < 0 ∧ ¬ (255 : Int32) < ch)) (O2 : Sta Z Z.heap "java/lang/String" "COMPACT_STRINGS" "Z" (.int G1)) (P5 : (¬ (G1 = (0 : Int32)))) (X00 : Old Z n0 h0) :
    MetFree l (⟨"java/lang/String", "valueOf", "(C)Ljava/lang/String;"⟩ : MethodName) (head1 (Jvm.Cond.code (⟨"java/lang/String", "valueOf", "(C)Ljava/lang/String;"⟩ : MethodName) jdk_42_method_139_code 1 (some (.object "java/lang/String")) :: ws) ({ frames := 2, cells := 2, slots := 5, locals := 27 } : Room)) (fun aq U => aq = #[(.int ch)] ∧ Z.Warmed39 U.vm ∧ U.heap = h0) (fun _ _ _ _ _ => True) (fun _ U oq U' => ∃ vq Lq, oq = .returned vq ∧ Q_rmVal Z ch G1 h0 n0 vq U'.heap Lq ∧ FrameEnd U oq U' Lq ({ frames := 2, cells := 2, slots := 5, locals := 27 } : Room).cells ({ frames := 2, cells := 2, slots := 5, locals := 27 } : Room).slots) := by
  refine MetFree.of_bodySF (plainFor_of_name own_pn_java_lang_String) hisR ?_
  intro p e s m args below meth c s₁ Bd hml0 hP hK
  obtain ⟨rfl, hZ, hh⟩ := hP
  have hx := Bd.exec
  have hby := Bd.bytes
  have hml : c.maxLocals = 1 := hml0
  have hown : s.vm.findClass "java/lang/String" = some m.cls := findClass_of_methodNamed Bd.named
  have hnm := (name_of_methodNamed Bd.named Bd.method).1
  have X0 : Stand p l e ({ frames := 2, cells := 2, slots := 5, locals := 27 } : Room) s m #[(.int ch)] below meth c s₁ [] 0 0 := Stand.of_body Bd
  have e0 : s₁.heap = h0 := by rw [← hh, Bd.state]; rfl
  have N0 := Fr.nil n0
  have K0 : Keep h0 h0 [] := Keep.refl _ _
  refine own_go (S' := s₁.setTop (mkF m 0 #[.val (.int ch)] [])) (fun tq kq => castTop (own_ef_rmVal m ch G1) kq) ?_
  obtain ⟨T1, X1, e1, st1⟩ := getS2 X0 hx hZ hown (host := "") (Or.inl (hw _ (own_mi 18 rfl))) Via.refl e0 (O2.ext X00.2) (g := (mkF m 0 #[.val (.int ch)] [])) rfl (hb hby own_d7_0)
  refine own_go st1 ?_
  show own_Rn p e below _ (T1.setTop (mkF m 3 #[.val (.int ch)] [(.int G1)]))
  refine own_go (fun tq kq => XS.ifNo X1.here hx rfl (hb hby own_d7_3) rfl ((if0 _ _).trans (feq (P5 : ¬ (G1 = (0 : Int32)))).1) kq) ?_
  show own_Rn p e below _ (T1.setTop (mkF m 6 #[.val (.int ch)] []))
  refine own_go (fun tq kq => XS.iloadN X1.here hx rfl (hb hby own_d7_6) rfl kq) ?_
  show own_Rn p e below _ (T1.setTop (mkF m 7 #[.val (.int ch)] [(.int ch)]))
  have Zn2 : n0 ≤ h0.size := by omega
  obtain ⟨rv2, _, ⟨T2, L2, k2, n2⟩, -, X2, ⟨Lc2, hQ2, l2, y2, z2⟩, st2⟩ := Jvm.LawKit.callS X1 hx (y := (⟨"java/lang/StringLatin1", "canEncode", "(C)Z"⟩ : MethodName)) hown (mvT hZ (hw _ (own_mi 43 rfl))) (mvT hZ (hw _ (own_mi 44 rfl))) (mvT hZ (hw _ (own_mi 45 rfl))) (mvT hZ (hw _ (own_mi 46 rfl))) (by decide) (backOf (W := 0) (rmCan l Z a0 hw [] (ch) h0 n0 Zn2 (hR)) hZ (hw _ (own_mi 46 rfl)) (hw _ (own_mi 45 rfl)) (by decide) (by decide)) (g := (mkF m 7 #[.val (.int ch)] [(.int ch)])) rfl (by rw [hml]; rfl) (argsL := [(.int ch)]) (rest := []) (lenOf own_pd_28C29Z rfl) rfl (by show 2 * 0 + _ ≤ _; exact Nat.le_of_eq rfl) (hb hby own_d7_7) (fun _ _ => ⟨rfl, e1, (by decide : 0 + 0 ≤ _), (by decide : 0 + 0 ≤ _)⟩)
  dsimp only [Pt.U, Pt.locs, Pt.cells, Pt.slots] at X2 l2 y2 z2 st2 hQ2
  subst l2 y2 z2
  obtain ⟨rfl, Nq2, eh2⟩ := hQ2
  have N2 := Fr.app N0 Nq2
  refine own_go st2 ?_
  show own_Rn p e below _ (T2.setTop (mkF m 10 #[.val (.int ch)] [(.int (1 : Int32))]))
  refine own_go (fun tq kq => XS.ifNo X2.here hx rfl (hb hby own_d7_10) rfl ((if0 _ _).trans (feq ((by decide : ¬ ((1 : Int32) = (0 : Int32))) : ¬ ((1 : Int32) = (0 : Int32)))).1) kq) ?_
  show own_Rn p e below _ (T2.setTop (mkF m 13 #[.val (.int ch)] []))
  obtain ⟨T3, h3, X3, e3, E3, A3, D3, -, st3⟩ := newO X2 hx hZ hown (hw _ (own_mi 47 rfl)) (hw _ (own_mi 5 rfl)) (hw _ (own_mi 6 rfl)) eh2 (g := (mkF m 13 #[.val (.int ch)] [])) rfl (hb hby own_d7_13) (by decide) (by decide)
  obtain ⟨b3, g3⟩ : ∃ z, z = h0.size := ⟨_, rfl⟩
  rw [← g3] at A3 D3 st3
  refine own_go st3 ?_
  have sz4 : h0.size ≤ h3.size := E3.1
  have K4 := K0.ext E3
  have lt5 : @LT.lt Nat _ b3 h3.size := A3.lt
  have gn3 : n0 ≤ b3 := by omega
  have D3_coder : Fld Z h3 b3 "java/lang/String" "coder" "B" (.int (0 : Int32)) := D3 (Or.inr (hw _ (own_mi 31 rfl))) (ty := .byte) own_fd_B
  have D3_value : Fld Z h3 b3 "java/lang/String" "value" "[B" .null := D3 (Or.inr (hw _ (own_mi 33 rfl))) (ty := (.array .byte)) own_fd_5bB
  show own_Rn p e below _ (T3.setTop (mkF m 16 #[.val (.int ch)] [(.ref b3)]))
  refine own_go (fun tq kq => XS.dup X3.here hx rfl (hb hby own_d7_16) rfl rfl kq) ?_
  show own_Rn p e below _ (T3.setTop (mkF m 17 #[.val (.int ch)] [(.ref b3), (.ref b3)]))
  refine own_go (fun tq kq => XS.iloadN X3.here hx rfl (hb hby own_d7_17) rfl kq) ?_
  show own_Rn p e below _ (T3.setTop (mkF m 18 #[.val (.int ch)] [(.int ch), (.ref b3), (.ref b3)]))
  have Zn6 : n0 ≤ h3.size := by omega
  obtain ⟨rv6, _, ⟨T6, L6, k6, n6⟩, -, X6, ⟨Lc6, hQ6, l6, y6, z6⟩, st6⟩ := Jvm.LawKit.callS X3 hx (y := (⟨"java/lang/StringLatin1", "toBytes", "(C)[B"⟩ : MethodName)) hown (mvT hZ (hw _ (own_mi 48 rfl))) (mvT hZ (hw _ (own_mi 49 rfl))) (mvT hZ (hw _ (own_mi 45 rfl))) (mvT hZ (hw _ (own_mi 50 rfl))) (by decide) (backOf (W := 2) (rmToB l Z a0 hw [] (ch) h3 n0 Zn6 ) hZ (hw _ (own_mi 50 rfl)) (hw _ (own_mi 45 rfl)) (by decide) (by decide)) (g := (mkF m 18 #[.val (.int ch)] [(.int ch), (.ref b3), (.ref b3)])) rfl (by rw [hml]; rfl) (argsL := [(.int ch)]) (rest := [(.ref b3), (.ref b3)]) (lenOf own_pd_28C295bB rfl) rfl (by show 2 * 0 + _ ≤ _; exact Nat.le_of_eq rfl) (hb hby own_d7_18) (fun _ _ => ⟨rfl, e3, (by decide : 1 + 1 ≤ _), (by decide : 4 + 1 ≤ _)⟩)
  dsimp only [Pt.U, Pt.locs, Pt.cells, Pt.slots] at X6 l6 y6 z6 st6 hQ6
  subst l6 y6 z6
  obtain ⟨tt, kk, rfl, Nq6, Kq6, G0_6, G1_6, G2_6⟩ := hQ6
  have N6 := Fr.app N2 Nq6
  have sz7 : h3.size ≤ T6.heap.size := Kq6.1
  have K7 := K4.trans Kq6 all0
  have lt8 : @LT.lt Nat _ tt T6.heap.size := G2_6.lt
  refine own_go st6 ?_
  show own_Rn p e below _ (T6.setTop (mkF m 21 #[.val (.int ch)] [(.ref tt), (.ref b3), (.ref b3)]))
  refine own_go (fun tq kq => XS.iconst X6.here hx rfl (hb hby own_d7_21) kq) ?_
  show own_Rn p e below _ (T6.setTop (mkF m 22 #[.val (.int ch)] [(.int (0 : Int32)), (.ref tt), (.ref b3), (.ref b3)]))
  have Zn9 : n0 ≤ T6.heap.size := by omega
  have F10 : Exa Z T6.heap b3 "java/lang/String" := (A3.keep Kq6)
  have F11 : Fld Z T6.heap b3 "java/lang/String" "value" "[B" .null := (D3_value.keep Kq6 nin0)
  have F12 : Fld Z T6.heap b3 "java/lang/String" "coder" "B" (.int (0 : Int32)) := (D3_coder.keep Kq6 nin0)
  obtain ⟨rv9, _, ⟨T9, L9, k9, n9⟩, -, X9, ⟨Lc9, hQ9, l9, y9, z9⟩, st9⟩ := X6.specialBack hx (y := (⟨"java/lang/String", "<init>", "([BB)V"⟩ : MethodName)) rfl hown (mvT hZ (hw _ (own_mi 51 rfl))) (mvT hZ (hw _ (own_mi 52 rfl))) (mvT hZ (hw _ (own_mi 53 rfl))) (by decide) (backOf (W := 1) (rmSBB l Z a0 hw [] (b3) (tt) T6.heap n0 Zn9 F10 F11 F12 gn3) hZ (hw _ (own_mi 53 rfl)) (hw _ (own_mi 6 rfl)) (by decide) (by decide)) (g := (mkF m 22 #[.val (.int ch)] [(.int (0 : Int32)), (.ref tt), (.ref b3), (.ref b3)])) rfl (by rw [hml]; rfl) (Steps.refl _) (a := b3) (argsL := [(.ref tt), (.int (0 : Int32))]) (rest := [(.ref b3)]) (lenOf own_pd_285bBB29V rfl) rfl (by show 2 * 0 + _ ≤ _; exact Nat.le_of_eq rfl) (hb hby own_d7_22) (fun _ _ => ⟨rfl, rfl, (by decide : 2 + 0 ≤ _), (by decide : 5 + 0 ≤ _)⟩)
  dsimp only [Pt.U, Pt.locs, Pt.cells, Pt.slots] at X9 l9 y9 z9 st9 hQ9
  subst l9 y9 z9
  obtain ⟨rfl, Nq9, Kq9, G0_9, G1_9⟩ := hQ9
  have N9 := Fr.app N6 Nq9
  have sz13 : T6.heap.size ≤ T9.heap.size := Kq9.1
  have K13 := K7.trans Kq9 (allS (Or.inr (by omega)) all0)
  refine own_go (fun tq kq => st9.trans kq) ?_
  show own_Rn p e below _ (T9.setTop (mkF m 25 #[.val (.int ch)] [(.ref b3)]))
  have F14 : Exa Z T9.heap b3 "java/lang/String" := (F10.keep Kq9)
  have ne15 : tt ≠ b3 := own_nea (by omega)
  have F16 : Arv Z T9.heap tt kk .byte (1 : Int32) [(.int (ch.toInt8.toInt32))] (.int (0 : Int32)) := (G2_6.keep Kq9 (ninS ne15 nin0))
  exact own_ret X9 (v := some (.ref b3)) (fun h => by rw [Bd.returns] at h; cases h) (fun fs hr => X9.areturnOut hx rfl Bd.returns rfl (hb hby own_d7_25) hr) (⟨b3, tt, kk, rfl, N9, K13, (by omega), (by omega), gn3, G1_6, F14, G0_9, G1_9, F16⟩) (by decide) (by decide)
theorem own_ef_rmSI4 (m : MethodId) (x : Addr) (b : Addr) : entryFrame m #[(.ref x), (.ref b), (.int (0 : Int32)), (.int (0 : Int32)), .null] 6 = mkF m 0 #[.val (.ref x), .val (.ref b), .val (.int (0 : Int32)), .val (.int (0 : Int32)), .val .null, .unset] [] := by first | (simp [entryFrame, mkF, argsToLocals, Value.category]; done) | rfl
theorem own_d2_0 : decode jdk_42_method_149_code 0 = .ok (.aload_n 0, 1) := by decide +kernel
theorem own_d2_1 : decode jdk_42_method_149_code 1 = .ok (.invokespecial 1, 3) := by decide +kernel
theorem own_d2_4 : decode jdk_42_method_149_code 4 = .ok (.iload_n 3, 1) := by decide +kernel
theorem own_d2_5 : decode jdk_42_method_149_code 5 = .ok (.ifCond .ne 22, 3) := by decide +kernel
theorem own_d2_8 : decode jdk_42_method_149_code 8 = .ok (.aload_n 0, 1) := by decide +kernel
theorem own_d2_9 : decode jdk_42_method_149_code 9 = .ok (.ldc 7, 2) := by decide +kernel
theorem own_d2_11 : decode jdk_42_method_149_code 11 = .ok (.getfield 9, 3) := by decide +kernel
theorem own_d2_14 : decode jdk_42_method_149_code 14 = .ok (.putfield 9, 3) := by decide +kernel
theorem own_d2_17 : decode jdk_42_method_149_code 17 = .ok (.aload_n 0, 1) := by decide +kernel
theorem own_d2_18 : decode jdk_42_method_149_code 18 = .ok (.ldc 7, 2) := by decide +kernel
theorem own_d2_20 : decode jdk_42_method_149_code 20 = .ok (.getfield 15, 3) := by decide +kernel
theorem own_d2_23 : decode jdk_42_method_149_code 23 = .ok (.putfield 15, 3) := by decide +kernel
theorem own_d2_26 : decode jdk_42_method_149_code 26 = .ok (.return_, 1) := by decide +kernel
def Q_rmSI4 (Z : State) (x : Addr) (b : Addr) (h0 : Heap) (n0 : Nat) (vq : Option Value) (hhq : Heap) (Lq : List Loc) : Prop := ∃ (t : Addr), ∃ (kb : ClassId), vq = none ∧ Fr n0 Lq ∧ Keep h0 hhq [x] ∧ Fld Z hhq x "java/lang/String" "value" "[B" (.ref t) ∧ Fld Z hhq x "java/lang/String" "coder" "B" (.int (0 : Int32)) ∧ Arv Z hhq t kb .byte (0 : Int32) ((([] : List Int32).map (fun c => c.toInt8.toInt32)).map Value.int) (.int 0)
set_option maxRecDepth 65536 in
set_option maxHeartbeats 40000000 in
theorem rmSI4 (l : Launch) (Z : State) (a0 : Array Value) (hw : ∀ d ∈ tables_1, d.before a0 Z = true) (ws : List Jvm.Cond) (x : Addr) (b : Addr) (h0 : Heap) (n0 : Nat) (Z0 : n0 ≤ h0.size) (hEL : EW Z a0 consts_1) (Pm0 : Exa Z h0 x "java/lang/String") (Pm1 : Fld Z h0 x "java/lang/String" "value" "[B" .null) (Pm2 : Fld Z h0 x "java/lang/String" "coder" "B" (.int (0 : Int32))) (Pm3 : n0 ≤ x) :
    MetFree l (⟨"java/lang/String", "<init>", "([CIILjava/lang/Void;)V"⟩ : MethodName) (head1 (Jvm.Cond.code (⟨"java/lang/String", "<init>", "([CIILjava/lang/Void;)V"⟩ : MethodName) jdk_42_method_149_code 6 none :: ws) ({ frames := 1, cells := 4, slots := 8, locals := 12 } : Room)) (fun aq U => aq = #[(.ref x), (.ref b), (.int (0 : Int32)), (.int (0 : Int32)), .null] ∧ Z.Warmed39 U.vm ∧ U.heap = h0 ∧ CHv Z consts_1 U.vm h0 ∧ ∀ ax ∈ ([x] : List Addr), Safe Z consts_1 U.vm h0 ax) (fun _ _ _ _ _ => True) (fun _ U oq U' => ∃ vq Lq, oq = .returned vq ∧ Q_rmSI4 Z x b h0 n0 vq U'.heap Lq ∧ CHr Z consts_1 U.vm U.heap U'.vm U'.heap ∧ ReturnedEndW U oq U' Lq ({ frames := 1, cells := 4, slots := 8, locals := 12 } : Room).cells ({ frames := 1, cells := 4, slots := 8, locals := 12 } : Room).slots) := by
  refine MetFree.of_bodySF (plainFor_of_name own_pn_java_lang_String) hisR ?_
  intro p e s m args below meth c s₁ Bd hml0 hP hK
  obtain ⟨rfl, hZ, hh, hH, hSf⟩ := hP
  have hx := Bd.exec
  have hby := Bd.bytes
  have hml : c.maxLocals = 6 := hml0
  have hown : s.vm.findClass "java/lang/String" = some m.cls := findClass_of_methodNamed Bd.named
  have hnm := (name_of_methodNamed Bd.named Bd.method).1
  have X0 : Stand p l e ({ frames := 1, cells := 4, slots := 8, locals := 12 } : Room) (s.setVm s.vm) m #[(.ref x), (.ref b), (.int (0 : Int32)), (.int (0 : Int32)), .null] below meth c s₁ [] 0 0 := Stand.of_body Bd
  have e0 : s₁.heap = h0 := by rw [← hh, Bd.state]; rfl
  have N0 := Fr.nil n0
  have K0 : Keep h0 h0 [x] := Keep.refl _ _
  refine own_go (S' := s₁.setTop (mkF m 0 #[.val (.ref x), .val (.ref b), .val (.int (0 : Int32)), .val (.int (0 : Int32)), .val .null, .unset] [])) (fun tq kq => castTop (own_ef_rmSI4 m x b) kq) ?_
  have lt1 : @LT.lt Nat _ x h0.size := Pm0.lt
  have hS0 : s.Since s.vm h0.size := (State.WarmedH.refl s).since _
  have CR0 : CHr Z consts_1 s.vm h0 s.vm h0 := CHr.refl hH
  have hwS : ∀ d ∈ Bundle.stringAtoms, d.before a0 Z = true := fun d hd => hw d ((by decide +kernel : ∀ d ∈ Bundle.stringAtoms, d ∈ tables_1) d hd)
  have sf_x : Safe Z consts_1 s.vm h0 x := hSf _ (List.mem_of_getElem? (i := 0) rfl)
  refine own_go (fun tq kq => XS.aloadN X0.here hx rfl (hb hby own_d2_0) rfl rfl kq) ?_
  show own_Rn p e below _ (s₁.setTop (mkF m 1 #[.val (.ref x), .val (.ref b), .val (.int (0 : Int32)), .val (.int (0 : Int32)), .val .null, .unset] [(.ref x)]))
  obtain ⟨T2, X2, e2, st2⟩ := initO X0 hx hZ hown (hw _ (own_mi 15 rfl)) (hw _ (own_mi 16 rfl)) (hw _ (own_mi 17 rfl)) e0 (g := (mkF m 1 #[.val (.ref x), .val (.ref b), .val (.int (0 : Int32)), .val (.int (0 : Int32)), .val .null, .unset] [(.ref x)])) rfl (by rw [hml]; rfl) rfl (hb hby own_d2_1) (by decide) (W := 0) (by show 2 * 0 + _ ≤ _; exact Nat.le_of_eq rfl) (by decide)
  refine own_go st2 ?_
  show own_Rn p e below _ (T2.setTop (mkF m 4 #[.val (.ref x), .val (.ref b), .val (.int (0 : Int32)), .val (.int (0 : Int32)), .val .null, .unset] []))
  refine own_go (fun tq kq => XS.iloadN X2.here hx rfl (hb hby own_d2_4) rfl kq) ?_
  show own_Rn p e below _ (T2.setTop (mkF m 5 #[.val (.ref x), .val (.ref b), .val (.int (0 : Int32)), .val (.int (0 : Int32)), .val .null, .unset] [(.int (0 : Int32))]))
  refine own_go (fun tq kq => XS.ifNo X2.here hx rfl (hb hby own_d2_5) rfl ((if0 _ _).trans (teq ((by decide : (0 : Int32) = (0 : Int32)) : (0 : Int32) = (0 : Int32))).2) kq) ?_
  show own_Rn p e below _ (T2.setTop (mkF m 8 #[.val (.ref x), .val (.ref b), .val (.int (0 : Int32)), .val (.int (0 : Int32)), .val .null, .unset] []))
  refine own_go (fun tq kq => XS.aloadN X2.here hx rfl (hb hby own_d2_8) rfl rfl kq) ?_
  show own_Rn p e below _ (T2.setTop (mkF m 9 #[.val (.ref x), .val (.ref b), .val (.int (0 : Int32)), .val (.int (0 : Int32)), .val .null, .unset] [(.ref x)]))
  obtain ⟨a3, T3, h3, kk3, bb3, kc3, X3, e3, E3, hS3, hk3, hZ3, hown3, Ex3, Co3, Va3, Ab3, la3, lb3, crq3, Li3, sn3, st3⟩ := ldcCH X2 hx hZ hown (hw _ (own_mi 34 rfl)) hwS e2 hS0 (by omega) hEL (List.mem_of_getElem? (i := 1) rfl) CR0.1 (vs := ((([] : List Int32).map (fun c => c.toInt8.toInt32)).map Value.int)) (z := (0 : Int32)) ⟨by decide, by decide⟩ (by decide) (by decide) (g := (mkF m 9 #[.val (.ref x), .val (.ref b), .val (.int (0 : Int32)), .val (.int (0 : Int32)), .val .null, .unset] [(.ref x)])) rfl (hb hby own_d2_9) (n := 0) (by decide) (by decide) (by decide) (by decide)
  refine own_go st3 ?_
  have sz4 : h0.size ≤ h3.size := E3.1
  have K4 := K0.ext E3
  have cr4 : CHr Z consts_1 s.vm h0 T3.vm h3 := crq3
  have CR4 := CR0.trans cr4
  have sf6 : Safe Z consts_1 T3.vm h3 x := (CHr.safe cr4 (show @LT.lt Nat _ _ _ by omega) sf_x)
  obtain ⟨na3_x, nb3_x⟩ := sn3 x sf6
  have lt7 : @LT.lt Nat _ a3 h3.size := Ex3.lt
  have lt8 : @LT.lt Nat _ bb3 h3.size := Ab3.lt
  show own_Rn p e below _ (T3.setTop (mkF m 11 #[.val (.ref x), .val (.ref b), .val (.int (0 : Int32)), .val (.int (0 : Int32)), .val .null, .unset] [(.ref a3), (.ref x)]))
  obtain ⟨T9, X9, e9, st9⟩ := getF X3 hx hZ3 hown3 (host := "") (Or.inl (hw _ (own_mi 32 rfl))) Via.refl e3 Va3 (g := (mkF m 11 #[.val (.ref x), .val (.ref b), .val (.int (0 : Int32)), .val (.int (0 : Int32)), .val .null, .unset] [(.ref a3), (.ref x)])) rfl rfl (hb hby own_d2_11)
  refine own_go st9 ?_
  show own_Rn p e below _ (T9.setTop (mkF m 14 #[.val (.ref x), .val (.ref b), .val (.int (0 : Int32)), .val (.int (0 : Int32)), .val .null, .unset] [(.ref bb3), (.ref x)]))
  have F10 : Fld Z h3 x "java/lang/String" "value" "[B" .null := (Pm1.ext E3)
  have F11 : Exa Z h3 x "java/lang/String" := (Pm0.ext E3)
  obtain ⟨T12, h12, X12, e12, W12, st12⟩ := putF X9 hx hZ3 hown3 (host := "") (Or.inl (hw _ (own_mi 32 rfl))) Via.refl e9 F10 F11 (Or.inr ⟨(hw _ (own_mi 33 rfl)), rfl, hnm⟩) (hw _ (own_mi 5 rfl)) (ty := (.array .byte)) own_fd_5bB rfl rfl (g := (mkF m 14 #[.val (.ref x), .val (.ref b), .val (.int (0 : Int32)), .val (.int (0 : Int32)), .val .null, .unset] [(.ref bb3), (.ref x)])) rfl rfl (hb hby own_d2_14)
  refine own_go st12 ?_
  have N12 := Fr.snoc X12 N0 Pm3
  have Fw12 := F10.same W12
  have sz14 : h3.size ≤ h12.size := Nat.le_of_eq (Wr.size W12).symm
  have K14 := K4.wr W12 (Or.inl (List.mem_of_getElem? (i := 0) rfl))
  have cr14 : CHr Z consts_1 T3.vm h3 T3.vm h12 := CHr.wr W12 sf6 CR4.1
  have CR14 := CR4.trans cr14
  show own_Rn p e below _ (T12.setTop (mkF m 17 #[.val (.ref x), .val (.ref b), .val (.int (0 : Int32)), .val (.int (0 : Int32)), .val .null, .unset] []))
  refine own_go (fun tq kq => XS.aloadN X12.here hx rfl (hb hby own_d2_17) rfl rfl kq) ?_
  show own_Rn p e below _ (T12.setTop (mkF m 18 #[.val (.ref x), .val (.ref b), .val (.int (0 : Int32)), .val (.int (0 : Int32)), .val .null, .unset] [(.ref x)]))
  obtain ⟨a15, T15, h15, kk15, bb15, kc15, X15, e15, E15, hS15, hk15, hZ15, hown15, Ex15, Co15, Va15, Ab15, la15, lb15, crq15, Li15, sn15, st15⟩ := ldcCH X12 hx hZ3 hown3 (hw _ (own_mi 34 rfl)) hwS e12 hS3 (by omega) hEL (List.mem_of_getElem? (i := 1) rfl) CR14.1 (vs := ((([] : List Int32).map (fun c => c.toInt8.toInt32)).map Value.int)) (z := (0 : Int32)) ⟨by decide, by decide⟩ (by decide) (by decide) (g := (mkF m 18 #[.val (.ref x), .val (.ref b), .val (.int (0 : Int32)), .val (.int (0 : Int32)), .val .null, .unset] [(.ref x)])) rfl (hb hby own_d2_18) (n := 0) (by decide) (by decide) (by decide) (by decide)
  refine own_go st15 ?_
  have sz16 : h12.size ≤ h15.size := E15.1
  have K16 := K14.ext E15
  have cr16 : CHr Z consts_1 T3.vm h12 T15.vm h15 := crq15
  have CR16 := CR14.trans cr16
  have sf18 : Safe Z consts_1 T15.vm h15 x := (CHr.safe cr16 (show @LT.lt Nat _ _ _ by omega) (CHr.safe cr14 (show @LT.lt Nat _ _ _ by omega) sf6))
  obtain ⟨na15_x, nb15_x⟩ := sn15 x sf18
  have lt19 : @LT.lt Nat _ a15 h15.size := Ex15.lt
  have lt20 : @LT.lt Nat _ bb15 h15.size := Ab15.lt
  show own_Rn p e below _ (T15.setTop (mkF m 20 #[.val (.ref x), .val (.ref b), .val (.int (0 : Int32)), .val (.int (0 : Int32)), .val .null, .unset] [(.ref a15), (.ref x)]))
  obtain ⟨T21, X21, e21, st21⟩ := getF X15 hx hZ15 hown15 (host := "") (Or.inl (hw _ (own_mi 30 rfl))) Via.refl e15 Co15 (g := (mkF m 20 #[.val (.ref x), .val (.ref b), .val (.int (0 : Int32)), .val (.int (0 : Int32)), .val .null, .unset] [(.ref a15), (.ref x)])) rfl rfl (hb hby own_d2_20)
  refine own_go st21 ?_
  show own_Rn p e below _ (T21.setTop (mkF m 23 #[.val (.ref x), .val (.ref b), .val (.int (0 : Int32)), .val (.int (0 : Int32)), .val .null, .unset] [(.int (0 : Int32)), (.ref x)]))
  have F22 : Fld Z h15 x "java/lang/String" "coder" "B" (.int (0 : Int32)) := (((Pm2.ext E3).other W12 (Or.inr (slot_ne (Or.inr (hw _ (own_mi 31 rfl))) (Or.inr (hw _ (own_mi 33 rfl))) (by decide) (t := .byte) (t' := (.array .byte)) own_fd_B own_fd_5bB))).ext E15)
  have F23 : Exa Z h15 x "java/lang/String" := ((F11.wr W12).ext E15)
  obtain ⟨T24, h24, X24, e24, W24, st24⟩ := putFN X21 hx hZ15 hown15 (hw _ (own_mi 30 rfl)) Via.refl e21 F22 F23 (Or.inr ⟨(hw _ (own_mi 31 rfl)), rfl, hnm⟩) (hw _ (own_mi 5 rfl)) (ty := .byte) (v' := (.int ((0 : Int32)))) own_fd_B rfl (by decide) (g := (mkF m 23 #[.val (.ref x), .val (.ref b), .val (.int (0 : Int32)), .val (.int (0 : Int32)), .val .null, .unset] [(.int (0 : Int32)), (.ref x)])) rfl rfl (hb hby own_d2_23)
  refine own_go st24 ?_
  have N24 := Fr.snoc X24 N12 Pm3
  have Fw24 := F22.same W24
  have sz26 : h15.size ≤ h24.size := Nat.le_of_eq (Wr.size W24).symm
  have K26 := K16.wr W24 (Or.inl (List.mem_of_getElem? (i := 0) rfl))
  have cr26 : CHr Z consts_1 T15.vm h15 T15.vm h24 := CHr.wr W24 sf18 CR16.1
  have CR26 := CR16.trans cr26
  show own_Rn p e below _ (T24.setTop (mkF m 26 #[.val (.ref x), .val (.ref b), .val (.int (0 : Int32)), .val (.int (0 : Int32)), .val .null, .unset] []))
  have F27 : Fld Z h24 x "java/lang/String" "value" "[B" (.ref bb3) := ((Fw12.ext E15).other W24 (Or.inr (slot_ne (Or.inr (hw _ (own_mi 33 rfl))) (Or.inr (hw _ (own_mi 31 rfl))) (by decide) (t := (.array .byte)) (t' := .byte) own_fd_5bB own_fd_B)))
  have F28 : Arv Z h24 bb3 kc3 .byte (0 : Int32) ((([] : List Int32).map (fun c => c.toInt8.toInt32)).map Value.int) (.int 0) := (((Ab3.other W12 (Ne.symm nb3_x)).ext E15).other W24 (Ne.symm nb3_x))
  exact own_retS X24 hS15 (by rw [e24]; omega) (v := none) (fun _ => rfl) (fun fs hr => X24.returnOut hx Bd.returns (hb hby own_d2_26) hr) (by rw [e24]; exact ⟨bb3, kc3, rfl, N24, K26, F27, Fw24, F28⟩) (by rw [hh, e24]; exact CR26.trans (CHv.at X24 hZ15 hEL CR26.1)) (by decide) (by decide)
theorem own_ef_rmSI1 (m : MethodId) (x : Addr) (b : Addr) (kz : ClassId) : entryFrame m #[(.ref x), (.ref b)] 2 = mkF m 0 #[.val (.ref x), .val (.ref b)] [] := by first | (simp [entryFrame, mkF, argsToLocals, Value.category]; done) | rfl
theorem own_d1_0 : decode jdk_42_method_3_code 0 = .ok (.aload_n 0, 1) := by decide +kernel
theorem own_d1_1 : decode jdk_42_method_3_code 1 = .ok (.aload_n 1, 1) := by decide +kernel
theorem own_d1_2 : decode jdk_42_method_3_code 2 = .ok (.iconst 0, 1) := by decide +kernel
theorem own_d1_3 : decode jdk_42_method_3_code 3 = .ok (.aload_n 1, 1) := by decide +kernel
theorem own_d1_4 : decode jdk_42_method_3_code 4 = .ok (.arraylength, 1) := by decide +kernel
theorem own_d1_5 : decode jdk_42_method_3_code 5 = .ok (.aconst_null, 1) := by decide +kernel
theorem own_d1_6 : decode jdk_42_method_3_code 6 = .ok (.invokespecial 27, 3) := by decide +kernel
theorem own_pd_285bCIILjava2flang2fVoid3b29V : parseMethodDescriptor "([CIILjava/lang/Void;)V" = some ⟨[(.array .char), .int, .int, (.object "java/lang/Void")], none⟩ := by decide +kernel
theorem own_d1_9 : decode jdk_42_method_3_code 9 = .ok (.return_, 1) := by decide +kernel
def Q_rmSI1 (Z : State) (x : Addr) (b : Addr) (kz : ClassId) (h0 : Heap) (n0 : Nat) (vq : Option Value) (hhq : Heap) (Lq : List Loc) : Prop := ∃ (t : Addr), ∃ (kb : ClassId), vq = none ∧ Fr n0 Lq ∧ Keep h0 hhq [x] ∧ Fld Z hhq x "java/lang/String" "value" "[B" (.ref t) ∧ Fld Z hhq x "java/lang/String" "coder" "B" (.int (0 : Int32)) ∧ Arv Z hhq t kb .byte (0 : Int32) ((([] : List Int32).map (fun c => c.toInt8.toInt32)).map Value.int) (.int 0)
set_option maxRecDepth 65536 in
set_option maxHeartbeats 40000000 in
theorem rmSI1 (l : Launch) (Z : State) (a0 : Array Value) (hw : ∀ d ∈ tables_1, d.before a0 Z = true) (ws : List Jvm.Cond) (x : Addr) (b : Addr) (kz : ClassId) (h0 : Heap) (n0 : Nat) (Z0 : n0 ≤ h0.size) (hEL : EW Z a0 consts_1) (Pm0 : Exa Z h0 x "java/lang/String") (Pm1 : Fld Z h0 x "java/lang/String" "value" "[B" .null) (Pm2 : Fld Z h0 x "java/lang/String" "coder" "B" (.int (0 : Int32))) (Pm3 : n0 ≤ x) (Pm4 : Arv Z h0 b kz .char (0 : Int32) [] (.int (0 : Int32))) :
    MetFree l (⟨"java/lang/String", "<init>", "([C)V"⟩ : MethodName) (head1 (Jvm.Cond.code (⟨"java/lang/String", "<init>", "([C)V"⟩ : MethodName) jdk_42_method_3_code 2 none :: ws) ({ frames := 2, cells := 4, slots := 8, locals := 29 } : Room)) (fun aq U => aq = #[(.ref x), (.ref b)] ∧ Z.Warmed39 U.vm ∧ U.heap = h0 ∧ CHv Z consts_1 U.vm h0 ∧ ∀ ax ∈ ([x] : List Addr), Safe Z consts_1 U.vm h0 ax) (fun _ _ _ _ _ => True) (fun _ U oq U' => ∃ vq Lq, oq = .returned vq ∧ Q_rmSI1 Z x b kz h0 n0 vq U'.heap Lq ∧ CHr Z consts_1 U.vm U.heap U'.vm U'.heap ∧ ReturnedEndW U oq U' Lq ({ frames := 2, cells := 4, slots := 8, locals := 29 } : Room).cells ({ frames := 2, cells := 4, slots := 8, locals := 29 } : Room).slots) := by
  refine MetFree.of_bodySF (plainFor_of_name own_pn_java_lang_String) hisR ?_
  intro p e s m args below meth c s₁ Bd hml0 hP hK
  obtain ⟨rfl, hZ, hh, hH, hSf⟩ := hP
  have hx := Bd.exec
  have hby := Bd.bytes
  have hml : c.maxLocals = 2 := hml0
  have hown : s.vm.findClass "java/lang/String" = some m.cls := findClass_of_methodNamed Bd.named
  have hnm := (name_of_methodNamed Bd.named Bd.method).1
  have X0 : Stand p l e ({ frames := 2, cells := 4, slots := 8, locals := 29 } : Room) (s.setVm s.vm) m #[(.ref x), (.ref b)] below meth c s₁ [] 0 0 := Stand.of_body Bd
  have e0 : s₁.heap = h0 := by rw [← hh, Bd.state]; rfl
  have N0 := Fr.nil n0
  have K0 : Keep h0 h0 [x] := Keep.refl _ _
  refine own_go (S' := s₁.setTop (mkF m 0 #[.val (.ref x), .val (.ref b)] [])) (fun tq kq => castTop (own_ef_rmSI1 m x b kz) kq) ?_
  have lt1 : @LT.lt Nat _ x h0.size := Pm0.lt
  have lt2 : @LT.lt Nat _ b h0.size := Pm4.lt
  have hS0 : s.Since s.vm h0.size := (State.WarmedH.refl s).since _
  have CR0 : CHr Z consts_1 s.vm h0 s.vm h0 := CHr.refl hH
  have hwS : ∀ d ∈ Bundle.stringAtoms, d.before a0 Z = true := fun d hd => hw d ((by decide +kernel : ∀ d ∈ Bundle.stringAtoms, d ∈ tables_1) d hd)
  have sf_x : Safe Z consts_1 s.vm h0 x := hSf _ (List.mem_of_getElem? (i := 0) rfl)
  refine own_go (fun tq kq => XS.aloadN X0.here hx rfl (hb hby own_d1_0) rfl rfl kq) ?_
  show own_Rn p e below _ (s₁.setTop (mkF m 1 #[.val (.ref x), .val (.ref b)] [(.ref x)]))
  refine own_go (fun tq kq => XS.aloadN X0.here hx rfl (hb hby own_d1_1) rfl rfl kq) ?_
  show own_Rn p e below _ (s₁.setTop (mkF m 2 #[.val (.ref x), .val (.ref b)] [(.ref b), (.ref x)]))
  refine own_go (fun tq kq => XS.iconst X0.here hx rfl (hb hby own_d1_2) kq) ?_
  show own_Rn p e below _ (s₁.setTop (mkF m 3 #[.val (.ref x), .val (.ref b)] [(.int (0 : Int32)), (.ref b), (.ref x)]))
  refine own_go (fun tq kq => XS.aloadN X0.here hx rfl (hb hby own_d1_3) rfl rfl kq) ?_
  show own_Rn p e below _ (s₁.setTop (mkF m 4 #[.val (.ref x), .val (.ref b)] [(.ref b), (.int (0 : Int32)), (.ref b), (.ref x)]))
  obtain ⟨cl3, Ar3, -, Sz3, Nn3, -, -⟩ := id Pm4
  refine own_go (fun tq kq => X0.arraylength hx (cell := cl3) (by rw [e0]; exact Ar3.1) (State.isArrayOf_alike hZ.alike Ar3.2.1) (g := (mkF m 4 #[.val (.ref x), .val (.ref b)] [(.ref b), (.int (0 : Int32)), (.ref b), (.ref x)])) rfl rfl (hb hby own_d1_4) tq kq) ?_
  rw [len_of Sz3 Nn3]
  show own_Rn p e below _ (s₁.setTop (mkF m 5 #[.val (.ref x), .val (.ref b)] [(.int (0 : Int32)), (.int (0 : Int32)), (.ref b), (.ref x)]))
  refine own_go (fun tq kq => XS.aconstNull X0.here hx rfl (hb hby own_d1_5) kq) ?_
  show own_Rn p e below _ (s₁.setTop (mkF m 6 #[.val (.ref x), .val (.ref b)] [.null, (.int (0 : Int32)), (.int (0 : Int32)), (.ref b), (.ref x)]))
  have Zn4 : n0 ≤ h0.size := by omega
  obtain ⟨rv4, _, ⟨T4, L4, k4, n4⟩, -, X4, hS4, hG4, ⟨Lc4, hQ4, l4, y4, z4, CR4q⟩, st4⟩ := X0.specialBackS hx (y := (⟨"java/lang/String", "<init>", "([CIILjava/lang/Void;)V"⟩ : MethodName)) rfl hown (mvT hZ (hw _ (own_mi 11 rfl))) (mvT hZ (hw _ (own_mi 12 rfl))) (mvT hZ (hw _ (own_mi 14 rfl))) (by decide) (own_backSH (W := 0) (rm := ({ frames := 1, cells := 4, slots := 8, locals := 12 } : Room)) (sf := [x]) (h := h0) (rmSI4 l Z a0 hw [] (x) (b) h0 n0 Zn4 hEL Pm0 Pm1 Pm2 Pm3) hZ (hw _ (own_mi 14 rfl)) (hw _ (own_mi 6 rfl)) (by decide) (by decide) hEL CR0.1 (sfS sf_x sf0)) (g := (mkF m 6 #[.val (.ref x), .val (.ref b)] [.null, (.int (0 : Int32)), (.int (0 : Int32)), (.ref b), (.ref x)])) rfl (by rw [hml]; rfl) (Steps.refl _) (a := x) (argsL := [(.ref b), (.int (0 : Int32)), (.int (0 : Int32)), .null]) (rest := []) (lenOf own_pd_285bCIILjava2flang2fVoid3b29V rfl) rfl (by show 2 * 0 + _ ≤ _; exact Nat.le_of_eq rfl) (hb hby own_d1_6) (fun _ _ => ⟨rfl, e0, (by decide : 0 + 4 ≤ _), (by decide : 0 + 8 ≤ _)⟩)
  dsimp only [Pt.U, Pt.locs, Pt.cells, Pt.slots] at X4 l4 y4 z4 st4 hQ4 hS4 hG4 CR4q
  subst l4 y4 z4
  obtain ⟨tt, kk, rfl, Nq4, Kq4, G0_4, G1_4, G2_4⟩ := hQ4
  have N4 := Fr.app N0 Nq4
  obtain ⟨Xr4, hSr4, hZ4, hown4⟩ := rebS hS0 (n1 := s₁.heap.size) (by rw [e0]; omega) X4 hS4 hG4 hZ hown
  have sz6 : h0.size ≤ T4.heap.size := Kq4.1
  have K6 := K0.trans Kq4 (allS (Or.inl (List.mem_of_getElem? (i := 0) rfl)) all0)
  have cr6 : CHr Z consts_1 s.vm h0 T4.vm T4.heap := CR4q
  have CR6 := CR0.trans cr6
  have lt7 : @LT.lt Nat _ tt T4.heap.size := G2_4.lt
  refine own_go (fun tq kq => st4.trans kq) ?_
  show own_Rn p e below _ (T4.setTop (mkF m 9 #[.val (.ref x), .val (.ref b)] []))
  exact own_retS Xr4 hSr4 (by omega) (v := none) (fun _ => rfl) (fun fs hr => Xr4.returnOut hx Bd.returns (hb hby own_d1_9) hr) (⟨tt, kk, rfl, N4, K6, G0_4, G1_4, G2_4⟩) (by rw [hh]; exact CR6.trans (CHv.at Xr4 hZ4 hEL CR6.1)) (by decide) (by decide)
theorem own_ef_rmCoder (m : MethodId) (x : Addr) (G1 : Int32) : entryFrame m #[(.ref x)] 1 = mkF m 0 #[.val (.ref x)] [] := by first | (simp [entryFrame, mkF, argsToLocals, Value.category]; done) | rfl
theorem own_d22_0 : decode jdk_42_method_152_code 0 = .ok (.getstatic 38, 3) := by decide +kernel
theorem own_d22_3 : decode jdk_42_method_152_code 3 = .ok (.ifCond .eq 10, 3) := by decide +kernel
theorem own_d22_6 : decode jdk_42_method_152_code 6 = .ok (.aload_n 0, 1) := by decide +kernel
theorem own_d22_7 : decode jdk_42_method_152_code 7 = .ok (.getfield 15, 3) := by decide +kernel
theorem own_d22_10 : decode jdk_42_method_152_code 10 = .ok (.goto 4, 3) := by decide +kernel
theorem own_d22_14 : decode jdk_42_method_152_code 14 = .ok (.ireturn, 1) := by decide +kernel
def Q_rmCoder (Z : State) (x : Addr) (G1 : Int32) (h0 : Heap) (n0 : Nat) (vq : Option Value) (hhq : Heap) (Lq : List Loc) : Prop := vq = some (.int (0 : Int32)) ∧ Fr n0 Lq ∧ hhq = h0
set_option maxRecDepth 65536 in
set_option maxHeartbeats 40000000 in
theorem rmCoder (l : Launch) (Z : State) (a0 : Array Value) (hw : ∀ d ∈ tables_1, d.before a0 Z = true) (ws : List Jvm.Cond) (x : Addr) (G1 : Int32) (h0 : Heap) (n0 : Nat) (Z0 : n0 ≤ h0.size) (Pm0 : Fld Z h0 x "java/lang/String" "coder" "B" (.int (0 : Int32))) (O2 : Sta Z Z.heap "java/lang/String" "COMPACT_STRINGS" "Z" (.int G1)) (P5 : (¬ (G1 = (0 : Int32)))) (X00 : Old Z n0 h0) :
    MetFree l (⟨"java/lang/String", "coder", "()B"⟩ : MethodName) (head1 (Jvm.Cond.code (⟨"java/lang/String", "coder", "()B"⟩ : MethodName) jdk_42_method_152_code 1 (some .byte) :: ws) ({ frames := 0, cells := 0, slots := 0, locals := 0 } : Room)) (fun aq U => aq = #[(.ref x)] ∧ Z.Warmed39 U.vm ∧ U.heap = h0) (fun _ _ _ _ _ => True) (fun _ U oq U' => ∃ vq Lq, oq = .returned vq ∧ Q_rmCoder Z x G1 h0 n0 vq U'.heap Lq ∧ FrameEnd U oq U' Lq ({ frames := 0, cells := 0, slots := 0, locals := 0 } : Room).cells ({ frames := 0, cells := 0, slots := 0, locals := 0 } : Room).slots) := by
  refine MetFree.of_bodySF (plainFor_of_name own_pn_java_lang_String) hisR ?_
  intro p e s m args below meth c s₁ Bd hml0 hP hK
  obtain ⟨rfl, hZ, hh⟩ := hP
  have hx := Bd.exec
  have hby := Bd.bytes
  have hml : c.maxLocals = 1 := hml0
  have hown : s.vm.findClass "java/lang/String" = some m.cls := findClass_of_methodNamed Bd.named
  have hnm := (name_of_methodNamed Bd.named Bd.method).1
  have X0 : Stand p l e ({ frames := 0, cells := 0, slots := 0, locals := 0 } : Room) s m #[(.ref x)] below meth c s₁ [] 0 0 := Stand.of_body Bd
  have e0 : s₁.heap = h0 := by rw [← hh, Bd.state]; rfl
  have N0 := Fr.nil n0
  have K0 : Keep h0 h0 [] := Keep.refl _ _
  refine own_go (S' := s₁.setTop (mkF m 0 #[.val (.ref x)] [])) (fun tq kq => castTop (own_ef_rmCoder m x G1) kq) ?_
  have lt1 : @LT.lt Nat _ x h0.size := Pm0.lt
  obtain ⟨T2, X2, e2, st2⟩ := getS2 X0 hx hZ hown (host := "") (Or.inl (hw _ (own_mi 18 rfl))) Via.refl e0 (O2.ext X00.2) (g := (mkF m 0 #[.val (.ref x)] [])) rfl (hb hby own_d22_0)
  refine own_go st2 ?_
  show own_Rn p e below _ (T2.setTop (mkF m 3 #[.val (.ref x)] [(.int G1)]))
  refine own_go (fun tq kq => XS.ifNo X2.here hx rfl (hb hby own_d22_3) rfl ((if0 _ _).trans (feq (P5 : ¬ (G1 = (0 : Int32)))).1) kq) ?_
  show own_Rn p e below _ (T2.setTop (mkF m 6 #[.val (.ref x)] []))
  refine own_go (fun tq kq => XS.aloadN X2.here hx rfl (hb hby own_d22_6) rfl rfl kq) ?_
  show own_Rn p e below _ (T2.setTop (mkF m 7 #[.val (.ref x)] [(.ref x)]))
  obtain ⟨T3, X3, e3, st3⟩ := getF X2 hx hZ hown (host := "") (Or.inl (hw _ (own_mi 30 rfl))) Via.refl e2 Pm0 (g := (mkF m 7 #[.val (.ref x)] [(.ref x)])) rfl rfl (hb hby own_d22_7)
  refine own_go st3 ?_
  show own_Rn p e below _ (T3.setTop (mkF m 10 #[.val (.ref x)] [(.int (0 : Int32))]))
  refine own_go (fun tq kq => XS.goto X3.here hx rfl (pc0 := 10) (pc' := 14) rfl (hb hby own_d22_10) (by decide) (by decide) kq) ?_
  show own_Rn p e below _ (T3.setTop (mkF m 14 #[.val (.ref x)] [(.int (0 : Int32))]))
  exact own_ret X3 (v := some (.int (nar .byte (0 : Int32)))) (fun h => by rw [Bd.returns] at h; cases h) (fun fs hr => retN X3 hx (t := .byte) Bd.returns (by simp) (hb hby own_d22_14) hr) (by rw [e3]; exact ⟨rfl, N0, rfl⟩) (by decide) (by decide)
theorem own_ef_rmLen (m : MethodId) (x : Addr) (t : Addr) (kt : ClassId) (ds : List Int32) (G1 : Int32) : entryFrame m #[(.ref x)] 1 = mkF m 0 #[.val (.ref x)] [] := by first | (simp [entryFrame, mkF, argsToLocals, Value.category]; done) | rfl
theorem own_d21_0 : decode jdk_42_method_54_code 0 = .ok (.aload_n 0, 1) := by decide +kernel
theorem own_d21_1 : decode jdk_42_method_54_code 1 = .ok (.getfield 9, 3) := by decide +kernel
theorem own_d21_4 : decode jdk_42_method_54_code 4 = .ok (.arraylength, 1) := by decide +kernel
theorem own_d21_5 : decode jdk_42_method_54_code 5 = .ok (.aload_n 0, 1) := by decide +kernel
theorem own_d21_6 : decode jdk_42_method_54_code 6 = .ok (.invokevirtual 335, 3) := by decide +kernel
theorem own_pd_2829B : parseMethodDescriptor "()B" = some ⟨[], some .byte⟩ := by decide +kernel
theorem own_d21_9 : decode jdk_42_method_54_code 9 = .ok (.ishr, 1) := by decide +kernel
theorem own_d21_10 : decode jdk_42_method_54_code 10 = .ok (.ireturn, 1) := by decide +kernel
def Q_rmLen (Z : State) (x : Addr) (t : Addr) (kt : ClassId) (ds : List Int32) (G1 : Int32) (h0 : Heap) (n0 : Nat) (vq : Option Value) (hhq : Heap) (Lq : List Loc) : Prop := vq = some (.int (Int32.ofNat ds.length)) ∧ Fr n0 Lq ∧ hhq = h0
set_option maxRecDepth 65536 in
set_option maxHeartbeats 40000000 in
theorem rmLen (l : Launch) (Z : State) (a0 : Array Value) (hw : ∀ d ∈ tables_1, d.before a0 Z = true) (ws : List Jvm.Cond) (x : Addr) (t : Addr) (kt : ClassId) (ds : List Int32) (G1 : Int32) (h0 : Heap) (n0 : Nat) (Z0 : n0 ≤ h0.size) (Pm0 : Exa Z h0 x "java/lang/String") (Pm1 : Fld Z h0 x "java/lang/String" "value" "[B" (.ref t)) (Pm2 : Fld Z h0 x "java/lang/String" "coder" "B" (.int (0 : Int32))) (Pm3 : Arv Z h0 t kt .byte (Int32.ofNat ds.length) (own_bs ds) (.int 0)) (O2 : Sta Z Z.heap "java/lang/String" "COMPACT_STRINGS" "Z" (.int G1)) (P5 : (¬ (G1 = (0 : Int32)))) (X00 : Old Z n0 h0) :
    MetFree l (⟨"java/lang/String", "length", "()I"⟩ : MethodName) (head1 (Jvm.Cond.code (⟨"java/lang/String", "length", "()I"⟩ : MethodName) jdk_42_method_54_code 1 (some .int) :: ws) ({ frames := 1, cells := 0, slots := 0, locals := 13 } : Room)) (fun aq U => aq = #[(.ref x)] ∧ Z.Warmed39 U.vm ∧ U.heap = h0) (fun _ _ _ _ _ => True) (fun _ U oq U' => ∃ vq Lq, oq = .returned vq ∧ Q_rmLen Z x t kt ds G1 h0 n0 vq U'.heap Lq ∧ FrameEnd U oq U' Lq ({ frames := 1, cells := 0, slots := 0, locals := 13 } : Room).cells ({ frames := 1, cells := 0, slots := 0, locals := 13 } : Room).slots) := by
  refine MetFree.of_bodySF (plainFor_of_name own_pn_java_lang_String) hisR ?_
  intro p e s m args below meth c s₁ Bd hml0 hP hK
  obtain ⟨rfl, hZ, hh⟩ := hP
  have hx := Bd.exec
  have hby := Bd.bytes
  have hml : c.maxLocals = 1 := hml0
  have hown : s.vm.findClass "java/lang/String" = some m.cls := findClass_of_methodNamed Bd.named
  have hnm := (name_of_methodNamed Bd.named Bd.method).1
  have X0 : Stand p l e ({ frames := 1, cells := 0, slots := 0, locals := 13 } : Room) s m #[(.ref x)] below meth c s₁ [] 0 0 := Stand.of_body Bd
  have e0 : s₁.heap = h0 := by rw [← hh, Bd.state]; rfl
  have N0 := Fr.nil n0
  have K0 : Keep h0 h0 [] := Keep.refl _ _
  refine own_go (S' := s₁.setTop (mkF m 0 #[.val (.ref x)] [])) (fun tq kq => castTop (own_ef_rmLen m x t kt ds G1) kq) ?_
  have lt1 : @LT.lt Nat _ x h0.size := Pm0.lt
  have lt2 : @LT.lt Nat _ t h0.size := Pm3.lt
  refine own_go (fun tq kq => XS.aloadN X0.here hx rfl (hb hby own_d21_0) rfl rfl kq) ?_
  show own_Rn p e below _ (s₁.setTop (mkF m 1 #[.val (.ref x)] [(.ref x)]))
  obtain ⟨T3, X3, e3, st3⟩ := getF X0 hx hZ hown (host := "") (Or.inl (hw _ (own_mi 32 rfl))) Via.refl e0 Pm1 (g := (mkF m 1 #[.val (.ref x)] [(.ref x)])) rfl rfl (hb hby own_d21_1)
  refine own_go st3 ?_
  show own_Rn p e below _ (T3.setTop (mkF m 4 #[.val (.ref x)] [(.ref t)]))
  obtain ⟨cl4, Ar4, -, Sz4, Nn4, -, -⟩ := id Pm3
  refine own_go (fun tq kq => X3.arraylength hx (cell := cl4) (by rw [e3]; exact Ar4.1) (State.isArrayOf_alike hZ.alike Ar4.2.1) (g := (mkF m 4 #[.val (.ref x)] [(.ref t)])) rfl rfl (hb hby own_d21_4) tq kq) ?_
  rw [len_of Sz4 Nn4]
  show own_Rn p e below _ (T3.setTop (mkF m 5 #[.val (.ref x)] [(.int (Int32.ofNat ds.length))]))
  refine own_go (fun tq kq => XS.aloadN X3.here hx rfl (hb hby own_d21_5) rfl rfl kq) ?_
  show own_Rn p e below _ (T3.setTop (mkF m 6 #[.val (.ref x)] [(.ref x), (.int (Int32.ofNat ds.length))]))
  have Zn5 : n0 ≤ h0.size := by omega
  obtain ⟨cq5, kq5, qa5, qb5, qc5⟩ := isOf hZ e3 Pm0
  obtain ⟨rv5, _, ⟨T5, L5, k5, n5⟩, -, X5, ⟨Lc5, hQ5, l5, y5, z5⟩, st5⟩ := X3.virtualBack hx (y := (⟨"java/lang/String", "coder", "()B"⟩ : MethodName)) (z := (⟨"java/lang/String", "coder", "()B"⟩ : MethodName)) hown (mvT hZ (hw _ (own_mi 134 rfl))) (mvT hZ (hw _ (own_mi 135 rfl))) (notFace_of_selects (args := #[]) (mvT hZ (hw _ (own_mi 137 rfl)))) (mvT hZ (hw _ (own_mi 137 rfl))) (mvT hZ (hw _ (own_mi 136 rfl))) (by decide) (backOf (W := 1) (rmCoder l Z a0 hw [] (x) (G1) h0 n0 Zn5 Pm2 (O2) (P5) X00) hZ (hw _ (own_mi 138 rfl)) (hw _ (own_mi 6 rfl)) (by decide) (by decide)) qa5 qc5 (g := (mkF m 6 #[.val (.ref x)] [(.ref x), (.int (Int32.ofNat ds.length))])) rfl (by rw [hml]; rfl) (Steps.refl _) (argsL := []) (rest := [(.int (Int32.ofNat ds.length))]) (lenOf own_pd_2829B rfl) rfl (by show 2 * 0 + _ ≤ _; exact Nat.le_of_eq rfl) (hb hby own_d21_6) (fun _ _ => ⟨rfl, e3, (by decide : 0 + 0 ≤ _), (by decide : 0 + 0 ≤ _)⟩)
  dsimp only [Pt.U, Pt.locs, Pt.cells, Pt.slots] at X5 l5 y5 z5 st5 hQ5
  subst l5 y5 z5
  obtain ⟨rfl, Nq5, eh5⟩ := hQ5
  have N5 := Fr.app N0 Nq5
  refine own_go (fun tq kq => st5.trans kq) ?_
  show own_Rn p e below _ (T5.setTop (mkF m 9 #[.val (.ref x)] [(.int (0 : Int32)), (.int (Int32.ofNat ds.length))]))
  refine own_go (fun tq kq => XS.ishr X5.here hx rfl (hb hby own_d21_9) rfl kq) ?_
  show own_Rn p e below _ (T5.setTop (mkF m 10 #[.val (.ref x)] [(.int ((Int32.ofNat ds.length) >>> ((0 : Int32) &&& 31)))]))
  exact own_ret X5 (v := some (.int ((Int32.ofNat ds.length) >>> ((0 : Int32) &&& 31)))) (fun h => by rw [Bd.returns] at h; cases h) (fun fs hr => retI X5 hx Bd.returns (hb hby own_d21_10) hr) (by rw [eh5]; exact ⟨congrArg (fun z => some (Value.int z)) (own_shr0 _), N5, rfl⟩) (by decide) (by decide)
theorem own_ef_rmAI (m : MethodId) (sb : Addr) (G1 : Int32) : entryFrame m #[(.ref sb), (.int (16 : Int32))] 2 = mkF m 0 #[.val (.ref sb), .val (.int (16 : Int32))] [] := by first | (simp [entryFrame, mkF, argsToLocals, Value.category]; done) | rfl
theorem own_pn_java_lang_AbstractStringBuilder : plainName "java/lang/AbstractStringBuilder" = true := by first | (simp [plainName, overriddenIn]; done) | decide +kernel
theorem own_d17_0 : decode jdk_68_method_2_code 0 = .ok (.aload_n 0, 1) := by decide +kernel
theorem own_d17_1 : decode jdk_68_method_2_code 1 = .ok (.invokespecial 3, 3) := by decide +kernel
theorem own_d17_4 : decode jdk_68_method_2_code 4 = .ok (.getstatic 18, 3) := by decide +kernel
theorem own_d17_7 : decode jdk_68_method_2_code 7 = .ok (.ifCond .eq 18, 3) := by decide +kernel
theorem own_d17_10 : decode jdk_68_method_2_code 10 = .ok (.aload_n 0, 1) := by decide +kernel
theorem own_d17_11 : decode jdk_68_method_2_code 11 = .ok (.iload_n 1, 1) := by decide +kernel
theorem own_d17_12 : decode jdk_68_method_2_code 12 = .ok (.newarray .byte, 2) := by decide +kernel
theorem own_d17_14 : decode jdk_68_method_2_code 14 = .ok (.putfield 15, 3) := by decide +kernel
theorem own_d17_17 : decode jdk_68_method_2_code 17 = .ok (.aload_n 0, 1) := by decide +kernel
theorem own_d17_18 : decode jdk_68_method_2_code 18 = .ok (.iconst 0, 1) := by decide +kernel
theorem own_d17_19 : decode jdk_68_method_2_code 19 = .ok (.putfield 22, 3) := by decide +kernel
theorem own_d17_22 : decode jdk_68_method_2_code 22 = .ok (.goto 16, 3) := by decide +kernel
theorem own_d17_38 : decode jdk_68_method_2_code 38 = .ok (.return_, 1) := by decide +kernel
theorem own_fd_I : parseFieldDescriptor "I" = some .int := by decide +kernel
def Q_rmAI (Z : State) (sb : Addr) (G1 : Int32) (h0 : Heap) (n0 : Nat) (vq : Option Value) (hhq : Heap) (Lq : List Loc) : Prop := ∃ (bv : Addr), ∃ (kb : ClassId), vq = none ∧ Fr n0 Lq ∧ Keep h0 hhq [sb] ∧ h0.size ≤ bv ∧ n0 ≤ bv ∧ Fld Z hhq sb "java/lang/AbstractStringBuilder" "value" "[B" (.ref bv) ∧ Fld Z hhq sb "java/lang/AbstractStringBuilder" "coder" "B" (.int (0 : Int32)) ∧ Arv Z hhq bv kb .byte (16 : Int32) (own_bs ([] : List Int32)) (.int 0) ∧ Fld Z hhq sb "java/lang/AbstractStringBuilder" "count" "I" (.int (Int32.ofNat ([] : List Int32).length))
set_option maxRecDepth 65536 in
set_option maxHeartbeats 40000000 in
theorem rmAI (l : Launch) (Z : State) (a0 : Array Value) (hw : ∀ d ∈ tables_1, d.before a0 Z = true) (ws : List Jvm.Cond) (sb : Addr) (G1 : Int32) (h0 : Heap) (n0 : Nat) (Z0 : n0 ≤ h0.size) (Pm0 : Exa Z h0 sb "java/lang/StringBuilder") (Pm1 : Fld Z h0 sb "java/lang/AbstractStringBuilder" "value" "[B" .null) (Pm2 : Fld Z h0 sb "java/lang/AbstractStringBuilder" "coder" "B" (.int (0 : Int32))) (Pm3 : Fld Z h0 sb "java/lang/AbstractStringBuilder" "count" "I" (.int (0 : Int32))) (Pm4 : n0 ≤ sb) (O2 : Sta Z Z.heap "java/lang/String" "COMPACT_STRINGS" "Z" (.int G1)) (P5 : (¬ (G1 = (0 : Int32)))) (X00 : Old Z n0 h0) :
    MetFree l (⟨"java/lang/AbstractStringBuilder", "<init>", "(I)V"⟩ : MethodName) (head1 (Jvm.Cond.code (⟨"java/lang/AbstractStringBuilder", "<init>", "(I)V"⟩ : MethodName) jdk_68_method_2_code 2 none :: ws) ({ frames := 1, cells := 1, slots := 16, locals := 12 } : Room)) (fun aq U => aq = #[(.ref sb), (.int (16 : Int32))] ∧ Z.Warmed39 U.vm ∧ U.heap = h0) (fun _ _ _ _ _ => True) (fun _ U oq U' => ∃ vq Lq, oq = .returned vq ∧ Q_rmAI Z sb G1 h0 n0 vq U'.heap Lq ∧ FrameEnd U oq U' Lq ({ frames := 1, cells := 1, slots := 16, locals := 12 } : Room).cells ({ frames := 1, cells := 1, slots := 16, locals := 12 } : Room).slots) := by
  refine MetFree.of_bodySF (plainFor_of_name own_pn_java_lang_AbstractStringBuilder) hisR ?_
  intro p e s m args below meth c s₁ Bd hml0 hP hK
  obtain ⟨rfl, hZ, hh⟩ := hP
  have hx := Bd.exec
  have hby := Bd.bytes
  have hml : c.maxLocals = 2 := hml0
  have hown : s.vm.findClass "java/lang/AbstractStringBuilder" = some m.cls := findClass_of_methodNamed Bd.named
  have hnm := (name_of_methodNamed Bd.named Bd.method).1
  have X0 : Stand p l e ({ frames := 1, cells := 1, slots := 16, locals := 12 } : Room) s m #[(.ref sb), (.int (16 : Int32))] below meth c s₁ [] 0 0 := Stand.of_body Bd
  have e0 : s₁.heap = h0 := by rw [← hh, Bd.state]; rfl
  have N0 := Fr.nil n0
  have K0 : Keep h0 h0 [sb] := Keep.refl _ _
  refine own_go (S' := s₁.setTop (mkF m 0 #[.val (.ref sb), .val (.int (16 : Int32))] [])) (fun tq kq => castTop (own_ef_rmAI m sb G1) kq) ?_
  have lt1 : @LT.lt Nat _ sb h0.size := Pm0.lt
  refine own_go (fun tq kq => XS.aloadN X0.here hx rfl (hb hby own_d17_0) rfl rfl kq) ?_
  show own_Rn p e below _ (s₁.setTop (mkF m 1 #[.val (.ref sb), .val (.int (16 : Int32))] [(.ref sb)]))
  obtain ⟨T2, X2, e2, st2⟩ := initO X0 hx hZ hown (hw _ (own_mi 108 rfl)) (hw _ (own_mi 16 rfl)) (hw _ (own_mi 17 rfl)) e0 (g := (mkF m 1 #[.val (.ref sb), .val (.int (16 : Int32))] [(.ref sb)])) rfl (by rw [hml]; rfl) rfl (hb hby own_d17_1) (by decide) (W := 0) (by show 2 * 0 + _ ≤ _; exact Nat.le_of_eq rfl) (by decide)
  refine own_go st2 ?_
  show own_Rn p e below _ (T2.setTop (mkF m 4 #[.val (.ref sb), .val (.int (16 : Int32))] []))
  obtain ⟨T3, X3, e3, st3⟩ := getS2 X2 hx hZ hown (host := "") (Or.inl (hw _ (own_mi 109 rfl))) Via.refl e2 (O2.ext X00.2) (g := (mkF m 4 #[.val (.ref sb), .val (.int (16 : Int32))] [])) rfl (hb hby own_d17_4)
  refine own_go st3 ?_
  show own_Rn p e below _ (T3.setTop (mkF m 7 #[.val (.ref sb), .val (.int (16 : Int32))] [(.int G1)]))
  refine own_go (fun tq kq => XS.ifNo X3.here hx rfl (hb hby own_d17_7) rfl ((if0 _ _).trans (feq (P5 : ¬ (G1 = (0 : Int32)))).1) kq) ?_
  show own_Rn p e below _ (T3.setTop (mkF m 10 #[.val (.ref sb), .val (.int (16 : Int32))] []))
  refine own_go (fun tq kq => XS.aloadN X3.here hx rfl (hb hby own_d17_10) rfl rfl kq) ?_
  show own_Rn p e below _ (T3.setTop (mkF m 11 #[.val (.ref sb), .val (.int (16 : Int32))] [(.ref sb)]))
  refine own_go (fun tq kq => XS.iloadN X3.here hx rfl (hb hby own_d17_11) rfl kq) ?_
  show own_Rn p e below _ (T3.setTop (mkF m 12 #[.val (.ref sb), .val (.int (16 : Int32))] [(.int (16 : Int32)), (.ref sb)]))
  obtain ⟨T5, h5, k5, X5, e5, E5, A5, st5⟩ := newP X3 hx hZ (hw _ (own_mi 23 rfl)) e3 (g := (mkF m 12 #[.val (.ref sb), .val (.int (16 : Int32))] [(.int (16 : Int32)), (.ref sb)])) rfl (hb hby own_d17_12) rfl (by decide) (cap := 16) (by decide) (by decide) (by decide) (by decide)
  obtain ⟨b5, g5⟩ : ∃ z, z = h0.size := ⟨_, rfl⟩
  rw [← g5] at A5 st5
  refine own_go st5 ?_
  have sz6 : h0.size ≤ h5.size := E5.1
  have K6 := K0.ext E5
  have gn5 : n0 ≤ b5 := by omega
  have V5 : Arv Z h5 b5 k5 .byte (16 : Int32) [] (.int (0 : Int32)) := Arv.new A5 (by decide)
  have lt7 : @LT.lt Nat _ b5 h5.size := V5.lt
  show own_Rn p e below _ (T5.setTop (mkF m 14 #[.val (.ref sb), .val (.int (16 : Int32))] [(.ref b5), (.ref sb)]))
  have F8 : Fld Z h5 sb "java/lang/AbstractStringBuilder" "value" "[B" .null := (Pm1.ext E5)
  have F9 : Exa Z h5 sb "java/lang/StringBuilder" := (Pm0.ext E5)
  obtain ⟨T10, h10, X10, e10, W10, st10⟩ := putF X5 hx hZ hown (host := "") (Or.inl (hw _ (own_mi 110 rfl))) Via.refl e5 F8 F9 (Or.inl (hw _ (own_mi 111 rfl))) (hw _ (own_mi 97 rfl)) (ty := (.array .byte)) own_fd_5bB rfl rfl (g := (mkF m 14 #[.val (.ref sb), .val (.int (16 : Int32))] [(.ref b5), (.ref sb)])) rfl rfl (hb hby own_d17_14)
  refine own_go st10 ?_
  have N10 := Fr.snoc X10 N0 Pm4
  have Fw10 := F8.same W10
  have sz11 : h5.size ≤ h10.size := Nat.le_of_eq (Wr.size W10).symm
  have K11 := K6.wr W10 (Or.inl (List.mem_of_getElem? (i := 0) rfl))
  show own_Rn p e below _ (T10.setTop (mkF m 17 #[.val (.ref sb), .val (.int (16 : Int32))] []))
  refine own_go (fun tq kq => XS.aloadN X10.here hx rfl (hb hby own_d17_17) rfl rfl kq) ?_
  show own_Rn p e below _ (T10.setTop (mkF m 18 #[.val (.ref sb), .val (.int (16 : Int32))] [(.ref sb)]))
  refine own_go (fun tq kq => XS.iconst X10.here hx rfl (hb hby own_d17_18) kq) ?_
  show own_Rn p e below _ (T10.setTop (mkF m 19 #[.val (.ref sb), .val (.int (16 : Int32))] [(.int (0 : Int32)), (.ref sb)]))
  have F12 : Fld Z h10 sb "java/lang/AbstractStringBuilder" "coder" "B" (.int (0 : Int32)) := ((Pm2.ext E5).other W10 (Or.inr (slot_ne (Or.inl (hw _ (own_mi 113 rfl))) (Or.inl (hw _ (own_mi 111 rfl))) (by decide) (t := .byte) (t' := (.array .byte)) own_fd_B own_fd_5bB)))
  have F13 : Exa Z h10 sb "java/lang/StringBuilder" := (F9.wr W10)
  obtain ⟨T14, h14, X14, e14, W14, st14⟩ := putFN X10 hx hZ hown (hw _ (own_mi 112 rfl)) Via.refl e10 F12 F13 (Or.inl (hw _ (own_mi 113 rfl))) (hw _ (own_mi 97 rfl)) (ty := .byte) (v' := (.int ((0 : Int32)))) own_fd_B rfl (by decide) (g := (mkF m 19 #[.val (.ref sb), .val (.int (16 : Int32))] [(.int (0 : Int32)), (.ref sb)])) rfl rfl (hb hby own_d17_19)
  refine own_go st14 ?_
  have N14 := Fr.snoc X14 N10 Pm4
  have Fw14 := F12.same W14
  have sz15 : h10.size ≤ h14.size := Nat.le_of_eq (Wr.size W14).symm
  have K15 := K11.wr W14 (Or.inl (List.mem_of_getElem? (i := 0) rfl))
  show own_Rn p e below _ (T14.setTop (mkF m 22 #[.val (.ref sb), .val (.int (16 : Int32))] []))
  refine own_go (fun tq kq => XS.goto X14.here hx rfl (pc0 := 22) (pc' := 38) rfl (hb hby own_d17_22) (by decide) (by decide) kq) ?_
  show own_Rn p e below _ (T14.setTop (mkF m 38 #[.val (.ref sb), .val (.int (16 : Int32))] []))
  have F16 : Fld Z h14 sb "java/lang/AbstractStringBuilder" "value" "[B" (.ref b5) := (Fw10.other W14 (Or.inr (slot_ne (Or.inl (hw _ (own_mi 111 rfl))) (Or.inl (hw _ (own_mi 113 rfl))) (by decide) (t := (.array .byte)) (t' := .byte) own_fd_5bB own_fd_B)))
  have ne17 : b5 ≠ sb := own_nea (by omega)
  have F18 : Arv Z h14 b5 k5 .byte (16 : Int32) [] (.int (0 : Int32)) := ((V5.other W10 ne17).other W14 ne17)
  have F19 : Fld Z h14 sb "java/lang/AbstractStringBuilder" "count" "I" (.int (0 : Int32)) := (((Pm3.ext E5).other W10 (Or.inr (slot_ne (Or.inl (hw _ (own_mi 140 rfl))) (Or.inl (hw _ (own_mi 111 rfl))) (by decide) (t := .int) (t' := (.array .byte)) own_fd_I own_fd_5bB))).other W14 (Or.inr (slot_ne (Or.inl (hw _ (own_mi 140 rfl))) (Or.inl (hw _ (own_mi 113 rfl))) (by decide) (t := .int) (t' := .byte) own_fd_I own_fd_B)))
  exact own_ret X14 (v := none) (fun _ => rfl) (fun fs hr => X14.returnOut hx Bd.returns (hb hby own_d17_38) hr) (by rw [e14]; exact ⟨b5, k5, rfl, N14, K15, (by omega), gn5, F16, Fw14, F18, F19⟩) (by decide) (by decide)
theorem own_ef_rmSI (m : MethodId) (sb : Addr) (G1 : Int32) : entryFrame m #[(.ref sb)] 1 = mkF m 0 #[.val (.ref sb)] [] := by first | (simp [entryFrame, mkF, argsToLocals, Value.category]; done) | rfl
theorem own_pn_java_lang_StringBuilder : plainName "java/lang/StringBuilder" = true := by first | (simp [plainName, overriddenIn]; done) | decide +kernel
theorem own_d16_0 : decode jdk_67_method_1_code 0 = .ok (.aload_n 0, 1) := by decide +kernel
theorem own_d16_1 : decode jdk_67_method_1_code 1 = .ok (.bipush 16, 2) := by decide +kernel
theorem own_d16_3 : decode jdk_67_method_1_code 3 = .ok (.invokespecial 1, 3) := by decide +kernel
theorem own_pd_28I29V : parseMethodDescriptor "(I)V" = some ⟨[.int], none⟩ := by decide +kernel
theorem own_d16_6 : decode jdk_67_method_1_code 6 = .ok (.return_, 1) := by decide +kernel
def Q_rmSI (Z : State) (sb : Addr) (G1 : Int32) (h0 : Heap) (n0 : Nat) (vq : Option Value) (hhq : Heap) (Lq : List Loc) : Prop := ∃ (bv : Addr), ∃ (kb : ClassId), vq = none ∧ Fr n0 Lq ∧ Keep h0 hhq [sb] ∧ h0.size ≤ bv ∧ n0 ≤ bv ∧ Fld Z hhq sb "java/lang/AbstractStringBuilder" "value" "[B" (.ref bv) ∧ Fld Z hhq sb "java/lang/AbstractStringBuilder" "coder" "B" (.int (0 : Int32)) ∧ Arv Z hhq bv kb .byte (16 : Int32) (own_bs ([] : List Int32)) (.int 0) ∧ Fld Z hhq sb "java/lang/AbstractStringBuilder" "count" "I" (.int (Int32.ofNat ([] : List Int32).length))
set_option maxRecDepth 65536 in
set_option maxHeartbeats 40000000 in
theorem rmSI (l : Launch) (Z : State) (a0 : Array Value) (hw : ∀ d ∈ tables_1, d.before a0 Z = true) (ws : List Jvm.Cond) (sb : Addr) (G1 : Int32) (h0 : Heap) (n0 : Nat) (Z0 : n0 ≤ h0.size) (Pm0 : Exa Z h0 sb "java/lang/StringBuilder") (Pm1 : Fld Z h0 sb "java/lang/AbstractStringBuilder" "value" "[B" .null) (Pm2 : Fld Z h0 sb "java/lang/AbstractStringBuilder" "coder" "B" (.int (0 : Int32))) (Pm3 : Fld Z h0 sb "java/lang/AbstractStringBuilder" "count" "I" (.int (0 : Int32))) (Pm4 : n0 ≤ sb) (O2 : Sta Z Z.heap "java/lang/String" "COMPACT_STRINGS" "Z" (.int G1)) (P5 : (¬ (G1 = (0 : Int32)))) (X00 : Old Z n0 h0) :
    MetFree l (⟨"java/lang/StringBuilder", "<init>", "()V"⟩ : MethodName) (head1 (Jvm.Cond.code (⟨"java/lang/StringBuilder", "<init>", "()V"⟩ : MethodName) jdk_67_method_1_code 1 none :: ws) ({ frames := 2, cells := 1, slots := 16, locals := 25 } : Room)) (fun aq U => aq = #[(.ref sb)] ∧ Z.Warmed39 U.vm ∧ U.heap = h0) (fun _ _ _ _ _ => True) (fun _ U oq U' => ∃ vq Lq, oq = .returned vq ∧ Q_rmSI Z sb G1 h0 n0 vq U'.heap Lq ∧ FrameEnd U oq U' Lq ({ frames := 2, cells := 1, slots := 16, locals := 25 } : Room).cells ({ frames := 2, cells := 1, slots := 16, locals := 25 } : Room).slots) := by
  refine MetFree.of_bodySF (plainFor_of_name own_pn_java_lang_StringBuilder) hisR ?_
  intro p e s m args below meth c s₁ Bd hml0 hP hK
  obtain ⟨rfl, hZ, hh⟩ := hP
  have hx := Bd.exec
  have hby := Bd.bytes
  have hml : c.maxLocals = 1 := hml0
  have hown : s.vm.findClass "java/lang/StringBuilder" = some m.cls := findClass_of_methodNamed Bd.named
  have hnm := (name_of_methodNamed Bd.named Bd.method).1
  have X0 : Stand p l e ({ frames := 2, cells := 1, slots := 16, locals := 25 } : Room) s m #[(.ref sb)] below meth c s₁ [] 0 0 := Stand.of_body Bd
  have e0 : s₁.heap = h0 := by rw [← hh, Bd.state]; rfl
  have N0 := Fr.nil n0
  have K0 : Keep h0 h0 [sb] := Keep.refl _ _
  refine own_go (S' := s₁.setTop (mkF m 0 #[.val (.ref sb)] [])) (fun tq kq => castTop (own_ef_rmSI m sb G1) kq) ?_
  have lt1 : @LT.lt Nat _ sb h0.size := Pm0.lt
  refine own_go (fun tq kq => XS.aloadN X0.here hx rfl (hb hby own_d16_0) rfl rfl kq) ?_
  show own_Rn p e below _ (s₁.setTop (mkF m 1 #[.val (.ref sb)] [(.ref sb)]))
  refine own_go (fun tq kq => XS.bipush X0.here hx rfl (hb hby own_d16_1) kq) ?_
  show own_Rn p e below _ (s₁.setTop (mkF m 3 #[.val (.ref sb)] [(.int (16 : Int32)), (.ref sb)]))
  have Zn2 : n0 ≤ h0.size := by omega
  obtain ⟨rv2, _, ⟨T2, L2, k2, n2⟩, -, X2, ⟨Lc2, hQ2, l2, y2, z2⟩, st2⟩ := X0.specialBack hx (y := (⟨"java/lang/AbstractStringBuilder", "<init>", "(I)V"⟩ : MethodName)) rfl hown (mvT hZ (hw _ (own_mi 102 rfl))) (mvT hZ (hw _ (own_mi 103 rfl))) (mvT hZ (hw _ (own_mi 107 rfl))) (by decide) (backOf (W := 0) (rmAI l Z a0 hw [] (sb) (G1) h0 n0 Zn2 Pm0 Pm1 Pm2 Pm3 Pm4 (O2) (P5) X00) hZ (hw _ (own_mi 107 rfl)) (hw _ (own_mi 106 rfl)) (by decide) (by decide)) (g := (mkF m 3 #[.val (.ref sb)] [(.int (16 : Int32)), (.ref sb)])) rfl (by rw [hml]; rfl) (Steps.refl _) (a := sb) (argsL := [(.int (16 : Int32))]) (rest := []) (lenOf own_pd_28I29V rfl) rfl (by show 2 * 0 + _ ≤ _; exact Nat.le_of_eq rfl) (hb hby own_d16_3) (fun _ _ => ⟨rfl, e0, (by decide : 0 + 1 ≤ _), (by decide : 0 + 16 ≤ _)⟩)
  dsimp only [Pt.U, Pt.locs, Pt.cells, Pt.slots] at X2 l2 y2 z2 st2 hQ2
  subst l2 y2 z2
  obtain ⟨bw, kw, rfl, Nq2, Kq2, G0_2, G1_2, G2_2, G3_2, G4_2, G5_2⟩ := hQ2
  have N2 := Fr.app N0 Nq2
  have sz3 : h0.size ≤ T2.heap.size := Kq2.1
  have K3 := K0.trans Kq2 (allS (Or.inl (List.mem_of_getElem? (i := 0) rfl)) all0)
  have lt4 : @LT.lt Nat _ bw T2.heap.size := G4_2.lt
  refine own_go (fun tq kq => st2.trans kq) ?_
  show own_Rn p e below _ (T2.setTop (mkF m 6 #[.val (.ref sb)] []))
  exact own_ret X2 (v := none) (fun _ => rfl) (fun fs hr => X2.returnOut hx Bd.returns (hb hby own_d16_6) hr) (⟨bw, kw, rfl, N2, K3, (by omega), G1_2, G2_2, G3_2, G4_2, G5_2⟩) (by decide) (by decide)
theorem own_ef_rmInf (m : MethodId) (sb : Addr) (st : Addr) (G1 : Int32) : entryFrame m #[(.ref sb), (.ref st)] 2 = mkF m 0 #[.val (.ref sb), .val (.ref st)] [] := by first | (simp [entryFrame, mkF, argsToLocals, Value.category]; done) | rfl
theorem own_d25_0 : decode jdk_68_method_71_code 0 = .ok (.getstatic 18, 3) := by decide +kernel
theorem own_d25_3 : decode jdk_68_method_71_code 3 = .ok (.ifCond .eq 18, 3) := by decide +kernel
theorem own_d25_6 : decode jdk_68_method_71_code 6 = .ok (.aload_n 0, 1) := by decide +kernel
theorem own_d25_7 : decode jdk_68_method_71_code 7 = .ok (.getfield 22, 3) := by decide +kernel
theorem own_d25_10 : decode jdk_68_method_71_code 10 = .ok (.aload_n 1, 1) := by decide +kernel
theorem own_d25_11 : decode jdk_68_method_71_code 11 = .ok (.invokevirtual 40, 3) := by decide +kernel
theorem own_d25_14 : decode jdk_68_method_71_code 14 = .ok (.if_icmp .eq 7, 3) := by decide +kernel
theorem own_d25_21 : decode jdk_68_method_71_code 21 = .ok (.return_, 1) := by decide +kernel
def Q_rmInf (Z : State) (sb : Addr) (st : Addr) (G1 : Int32) (h0 : Heap) (n0 : Nat) (vq : Option Value) (hhq : Heap) (Lq : List Loc) : Prop := vq = none ∧ Fr n0 Lq ∧ hhq = h0
set_option maxRecDepth 65536 in
set_option maxHeartbeats 40000000 in
theorem rmInf (l : Launch) (Z : State) (a0 : Array Value) (hw : ∀ d ∈ tables_1, d.before a0 Z = true) (ws : List Jvm.Cond) (sb : Addr) (st : Addr) (G1 : Int32) (h0 : Heap) (n0 : Nat) (Z0 : n0 ≤ h0.size) (Pm0 : Fld Z h0 sb "java/lang/AbstractStringBuilder" "coder" "B" (.int (0 : Int32))) (Pm1 : Exa Z h0 st "java/lang/String") (Pm2 : Fld Z h0 st "java/lang/String" "coder" "B" (.int (0 : Int32))) (O2 : Sta Z Z.heap "java/lang/String" "COMPACT_STRINGS" "Z" (.int G1)) (P5 : (¬ (G1 = (0 : Int32)))) (X00 : Old Z n0 h0) :
    MetFree l (⟨"java/lang/AbstractStringBuilder", "inflateIfNeededFor", "(Ljava/lang/String;)V"⟩ : MethodName) (head1 (Jvm.Cond.code (⟨"java/lang/AbstractStringBuilder", "inflateIfNeededFor", "(Ljava/lang/String;)V"⟩ : MethodName) jdk_68_method_71_code 2 none :: ws) ({ frames := 1, cells := 0, slots := 0, locals := 13 } : Room)) (fun aq U => aq = #[(.ref sb), (.ref st)] ∧ Z.Warmed39 U.vm ∧ U.heap = h0) (fun _ _ _ _ _ => True) (fun _ U oq U' => ∃ vq Lq, oq = .returned vq ∧ Q_rmInf Z sb st G1 h0 n0 vq U'.heap Lq ∧ FrameEnd U oq U' Lq ({ frames := 1, cells := 0, slots := 0, locals := 13 } : Room).cells ({ frames := 1, cells := 0, slots := 0, locals := 13 } : Room).slots) := by
  refine MetFree.of_bodySF (plainFor_of_name own_pn_java_lang_AbstractStringBuilder) hisR ?_
  intro p e s m args below meth c s₁ Bd hml0 hP hK
  obtain ⟨rfl, hZ, hh⟩ := hP
  have hx := Bd.exec
  have hby := Bd.bytes
  have hml : c.maxLocals = 2 := hml0
  have hown : s.vm.findClass "java/lang/AbstractStringBuilder" = some m.cls := findClass_of_methodNamed Bd.named
  have hnm := (name_of_methodNamed Bd.named Bd.method).1
  have X0 : Stand p l e ({ frames := 1, cells := 0, slots := 0, locals := 13 } : Room) s m #[(.ref sb), (.ref st)] below meth c s₁ [] 0 0 := Stand.of_body Bd
  have e0 : s₁.heap = h0 := by rw [← hh, Bd.state]; rfl
  have N0 := Fr.nil n0
  have K0 : Keep h0 h0 [] := Keep.refl _ _
  refine own_go (S' := s₁.setTop (mkF m 0 #[.val (.ref sb), .val (.ref st)] [])) (fun tq kq => castTop (own_ef_rmInf m sb st G1) kq) ?_
  have lt1 : @LT.lt Nat _ sb h0.size := Pm0.lt
  have lt2 : @LT.lt Nat _ st h0.size := Pm1.lt
  obtain ⟨T3, X3, e3, st3⟩ := getS2 X0 hx hZ hown (host := "") (Or.inl (hw _ (own_mi 109 rfl))) Via.refl e0 (O2.ext X00.2) (g := (mkF m 0 #[.val (.ref sb), .val (.ref st)] [])) rfl (hb hby own_d25_0)
  refine own_go st3 ?_
  show own_Rn p e below _ (T3.setTop (mkF m 3 #[.val (.ref sb), .val (.ref st)] [(.int G1)]))
  refine own_go (fun tq kq => XS.ifNo X3.here hx rfl (hb hby own_d25_3) rfl ((if0 _ _).trans (feq (P5 : ¬ (G1 = (0 : Int32)))).1) kq) ?_
  show own_Rn p e below _ (T3.setTop (mkF m 6 #[.val (.ref sb), .val (.ref st)] []))
  refine own_go (fun tq kq => XS.aloadN X3.here hx rfl (hb hby own_d25_6) rfl rfl kq) ?_
  show own_Rn p e below _ (T3.setTop (mkF m 7 #[.val (.ref sb), .val (.ref st)] [(.ref sb)]))
  obtain ⟨T4, X4, e4, st4⟩ := getF X3 hx hZ hown (host := "") (Or.inl (hw _ (own_mi 112 rfl))) Via.refl e3 Pm0 (g := (mkF m 7 #[.val (.ref sb), .val (.ref st)] [(.ref sb)])) rfl rfl (hb hby own_d25_7)
  refine own_go st4 ?_
  show own_Rn p e below _ (T4.setTop (mkF m 10 #[.val (.ref sb), .val (.ref st)] [(.int (0 : Int32))]))
  refine own_go (fun tq kq => XS.aloadN X4.here hx rfl (hb hby own_d25_10) rfl rfl kq) ?_
  show own_Rn p e below _ (T4.setTop (mkF m 11 #[.val (.ref sb), .val (.ref st)] [(.ref st), (.int (0 : Int32))]))
  have Zn5 : n0 ≤ h0.size := by omega
  obtain ⟨cq5, kq5, qa5, qb5, qc5⟩ := isOf hZ e4 Pm1
  obtain ⟨rv5, _, ⟨T5, L5, k5, n5⟩, -, X5, ⟨Lc5, hQ5, l5, y5, z5⟩, st5⟩ := X4.virtualBack hx (y := (⟨"java/lang/String", "coder", "()B"⟩ : MethodName)) (z := (⟨"java/lang/String", "coder", "()B"⟩ : MethodName)) hown (mvT hZ (hw _ (own_mi 156 rfl))) (mvT hZ (hw _ (own_mi 135 rfl))) (notFace_of_selects (args := #[]) (mvT hZ (hw _ (own_mi 137 rfl)))) (mvT hZ (hw _ (own_mi 137 rfl))) (mvT hZ (hw _ (own_mi 136 rfl))) (by decide) (backOf (W := 1) (rmCoder l Z a0 hw [] (st) (G1) h0 n0 Zn5 Pm2 (O2) (P5) X00) hZ (hw _ (own_mi 138 rfl)) (hw _ (own_mi 6 rfl)) (by decide) (by decide)) qa5 qc5 (g := (mkF m 11 #[.val (.ref sb), .val (.ref st)] [(.ref st), (.int (0 : Int32))])) rfl (by rw [hml]; rfl) (Steps.refl _) (argsL := []) (rest := [(.int (0 : Int32))]) (lenOf own_pd_2829B rfl) rfl (by show 2 * 0 + _ ≤ _; exact Nat.le_of_eq rfl) (hb hby own_d25_11) (fun _ _ => ⟨rfl, e4, (by decide : 0 + 0 ≤ _), (by decide : 0 + 0 ≤ _)⟩)
  dsimp only [Pt.U, Pt.locs, Pt.cells, Pt.slots] at X5 l5 y5 z5 st5 hQ5
  subst l5 y5 z5
  obtain ⟨rfl, Nq5, eh5⟩ := hQ5
  have N5 := Fr.app N0 Nq5
  refine own_go (fun tq kq => st5.trans kq) ?_
  show own_Rn p e below _ (T5.setTop (mkF m 14 #[.val (.ref sb), .val (.ref st)] [(.int (0 : Int32)), (.int (0 : Int32))]))
  refine own_go (fun tq kq => XS.icmpYes X5.here hx rfl (pc0 := 14) (pc' := 21) rfl (hb hby own_d25_14) rfl (teq ((by decide : (0 : Int32) = (0 : Int32)) : (0 : Int32) = (0 : Int32))).1 (by decide) (by decide) kq) ?_
  show own_Rn p e below _ (T5.setTop (mkF m 21 #[.val (.ref sb), .val (.ref st)] []))
  exact own_ret X5 (v := none) (fun _ => rfl) (fun fs hr => X5.returnOut hx Bd.returns (hb hby own_d25_21) hr) (by rw [eh5]; exact ⟨rfl, N5, rfl⟩) (by decide) (by decide)
theorem own_ef_rmEns (m : MethodId) (sb : Addr) (bv : Addr) (kb : ClassId) (cs : List Int32) (nn : Int32) : entryFrame m #[(.ref sb), (.int nn)] 3 = mkF m 0 #[.val (.ref sb), .val (.int nn), .unset] [] := by first | (simp [entryFrame, mkF, argsToLocals, Value.category]; done) | rfl
theorem own_d23_0 : decode jdk_68_method_9_code 0 = .ok (.aload_n 0, 1) := by decide +kernel
theorem own_d23_1 : decode jdk_68_method_9_code 1 = .ok (.getfield 15, 3) := by decide +kernel
theorem own_d23_4 : decode jdk_68_method_9_code 4 = .ok (.arraylength, 1) := by decide +kernel
theorem own_d23_5 : decode jdk_68_method_9_code 5 = .ok (.aload_n 0, 1) := by decide +kernel
theorem own_d23_6 : decode jdk_68_method_9_code 6 = .ok (.getfield 22, 3) := by decide +kernel
theorem own_d23_9 : decode jdk_68_method_9_code 9 = .ok (.ishr, 1) := by decide +kernel
theorem own_d23_10 : decode jdk_68_method_9_code 10 = .ok (.istore_n 2, 1) := by decide +kernel
theorem own_d23_11 : decode jdk_68_method_9_code 11 = .ok (.iload_n 1, 1) := by decide +kernel
theorem own_d23_12 : decode jdk_68_method_9_code 12 = .ok (.iload_n 2, 1) := by decide +kernel
theorem own_d23_13 : decode jdk_68_method_9_code 13 = .ok (.isub, 1) := by decide +kernel
theorem own_d23_14 : decode jdk_68_method_9_code 14 = .ok (.ifCond .le 24, 3) := by decide +kernel
theorem own_d23_38 : decode jdk_68_method_9_code 38 = .ok (.return_, 1) := by decide +kernel
def Q_rmEns (Z : State) (sb : Addr) (bv : Addr) (kb : ClassId) (cs : List Int32) (nn : Int32) (h0 : Heap) (n0 : Nat) (vq : Option Value) (hhq : Heap) (Lq : List Loc) : Prop := vq = none ∧ Fr n0 Lq ∧ hhq = h0
set_option maxRecDepth 65536 in
set_option maxHeartbeats 40000000 in
theorem rmEns (l : Launch) (Z : State) (a0 : Array Value) (hw : ∀ d ∈ tables_1, d.before a0 Z = true) (ws : List Jvm.Cond) (sb : Addr) (bv : Addr) (kb : ClassId) (cs : List Int32) (nn : Int32) (h0 : Heap) (n0 : Nat) (Z0 : n0 ≤ h0.size) (Pm0 : Fld Z h0 sb "java/lang/AbstractStringBuilder" "value" "[B" (.ref bv)) (Pm1 : Fld Z h0 sb "java/lang/AbstractStringBuilder" "coder" "B" (.int (0 : Int32))) (Pm2 : Arv Z h0 bv kb .byte (16 : Int32) (own_bs cs) (.int 0)) (hn : (¬ (0 : Int32) < nn - 16)) :
    MetFree l (⟨"java/lang/AbstractStringBuilder", "ensureCapacityInternal", "(I)V"⟩ : MethodName) (head1 (Jvm.Cond.code (⟨"java/lang/AbstractStringBuilder", "ensureCapacityInternal", "(I)V"⟩ : MethodName) jdk_68_method_9_code 3 none :: ws) ({ frames := 0, cells := 0, slots := 0, locals := 0 } : Room)) (fun aq U => aq = #[(.ref sb), (.int nn)] ∧ Z.Warmed39 U.vm ∧ U.heap = h0) (fun _ _ _ _ _ => True) (fun _ U oq U' => ∃ vq Lq, oq = .returned vq ∧ Q_rmEns Z sb bv kb cs nn h0 n0 vq U'.heap Lq ∧ FrameEnd U oq U' Lq ({ frames := 0, cells := 0, slots := 0, locals := 0 } : Room).cells ({ frames := 0, cells := 0, slots := 0, locals := 0 } : Room).slots) := by
  refine MetFree.of_bodySF (plainFor_of_name own_pn_java_lang_AbstractStringBuilder) hisR ?_
  intro p e s m args below meth c s₁ Bd hml0 hP hK
  obtain ⟨rfl, hZ, hh⟩ := hP
  have hx := Bd.exec
  have hby := Bd.bytes
  have hml : c.maxLocals = 3 := hml0
  have hown : s.vm.findClass "java/lang/AbstractStringBuilder" = some m.cls := findClass_of_methodNamed Bd.named
  have hnm := (name_of_methodNamed Bd.named Bd.method).1
  have X0 : Stand p l e ({ frames := 0, cells := 0, slots := 0, locals := 0 } : Room) s m #[(.ref sb), (.int nn)] below meth c s₁ [] 0 0 := Stand.of_body Bd
  have e0 : s₁.heap = h0 := by rw [← hh, Bd.state]; rfl
  have N0 := Fr.nil n0
  have K0 : Keep h0 h0 [] := Keep.refl _ _
  refine own_go (S' := s₁.setTop (mkF m 0 #[.val (.ref sb), .val (.int nn), .unset] [])) (fun tq kq => castTop (own_ef_rmEns m sb bv kb cs nn) kq) ?_
  have lt1 : @LT.lt Nat _ sb h0.size := Pm0.lt
  have lt2 : @LT.lt Nat _ bv h0.size := Pm2.lt
  refine own_go (fun tq kq => XS.aloadN X0.here hx rfl (hb hby own_d23_0) rfl rfl kq) ?_
  show own_Rn p e below _ (s₁.setTop (mkF m 1 #[.val (.ref sb), .val (.int nn), .unset] [(.ref sb)]))
  obtain ⟨T3, X3, e3, st3⟩ := getF X0 hx hZ hown (host := "") (Or.inl (hw _ (own_mi 110 rfl))) Via.refl e0 Pm0 (g := (mkF m 1 #[.val (.ref sb), .val (.int nn), .unset] [(.ref sb)])) rfl rfl (hb hby own_d23_1)
  refine own_go st3 ?_
  show own_Rn p e below _ (T3.setTop (mkF m 4 #[.val (.ref sb), .val (.int nn), .unset] [(.ref bv)]))
  obtain ⟨cl4, Ar4, -, Sz4, Nn4, -, -⟩ := id Pm2
  refine own_go (fun tq kq => X3.arraylength hx (cell := cl4) (by rw [e3]; exact Ar4.1) (State.isArrayOf_alike hZ.alike Ar4.2.1) (g := (mkF m 4 #[.val (.ref sb), .val (.int nn), .unset] [(.ref bv)])) rfl rfl (hb hby own_d23_4) tq kq) ?_
  rw [len_of Sz4 Nn4]
  show own_Rn p e below _ (T3.setTop (mkF m 5 #[.val (.ref sb), .val (.int nn), .unset] [(.int (16 : Int32))]))
  refine own_go (fun tq kq => XS.aloadN X3.here hx rfl (hb hby own_d23_5) rfl rfl kq) ?_
  show own_Rn p e below _ (T3.setTop (mkF m 6 #[.val (.ref sb), .val (.int nn), .unset] [(.ref sb), (.int (16 : Int32))]))
  obtain ⟨T5, X5, e5, st5⟩ := getF X3 hx hZ hown (host := "") (Or.inl (hw _ (own_mi 112 rfl))) Via.refl e3 Pm1 (g := (mkF m 6 #[.val (.ref sb), .val (.int nn), .unset] [(.ref sb), (.int (16 : Int32))])) rfl rfl (hb hby own_d23_6)
  refine own_go st5 ?_
  show own_Rn p e below _ (T5.setTop (mkF m 9 #[.val (.ref sb), .val (.int nn), .unset] [(.int (0 : Int32)), (.int (16 : Int32))]))
  refine own_go (fun tq kq => XS.ishr X5.here hx rfl (hb hby own_d23_9) rfl kq) ?_
  show own_Rn p e below _ (T5.setTop (mkF m 10 #[.val (.ref sb), .val (.int nn), .unset] [(.int ((16 : Int32) >>> ((0 : Int32) &&& 31)))]))
  rw [own_shr0]
  show own_Rn p e below _ (T5.setTop (mkF m 10 #[.val (.ref sb), .val (.int nn), .unset] [(.int (16 : Int32))]))
  refine own_go (fun tq kq => XS.istoreN X5.here hx rfl (hb hby own_d23_10) rfl (l' := #[.val (.ref sb), .val (.int nn), .val (.int (16 : Int32))]) rfl kq) ?_
  show own_Rn p e below _ (T5.setTop (mkF m 11 #[.val (.ref sb), .val (.int nn), .val (.int (16 : Int32))] []))
  refine own_go (fun tq kq => XS.iloadN X5.here hx rfl (hb hby own_d23_11) rfl kq) ?_
  show own_Rn p e below _ (T5.setTop (mkF m 12 #[.val (.ref sb), .val (.int nn), .val (.int (16 : Int32))] [(.int nn)]))
  refine own_go (fun tq kq => XS.iloadN X5.here hx rfl (hb hby own_d23_12) rfl kq) ?_
  show own_Rn p e below _ (T5.setTop (mkF m 13 #[.val (.ref sb), .val (.int nn), .val (.int (16 : Int32))] [(.int (16 : Int32)), (.int nn)]))
  refine own_go (fun tq kq => XS.isub X5.here hx rfl (hb hby own_d23_13) rfl kq) ?_
  show own_Rn p e below _ (T5.setTop (mkF m 14 #[.val (.ref sb), .val (.int nn), .val (.int (16 : Int32))] [(.int (nn - (16 : Int32)))]))
  refine own_go (fun tq kq => XS.ifYes X5.here hx rfl (pc0 := 14) (pc' := 38) rfl (hb hby own_d23_14) rfl ((if0 _ _).trans (flt (hn : ¬ ((0 : Int32) < (nn - (16 : Int32))))).2.2.2) (by decide) (by decide) kq) ?_
  show own_Rn p e below _ (T5.setTop (mkF m 38 #[.val (.ref sb), .val (.int nn), .val (.int (16 : Int32))] []))
  exact own_ret X5 (v := none) (fun _ => rfl) (fun fs hr => X5.returnOut hx Bd.returns (hb hby own_d23_38) hr) (by rw [e5]; exact ⟨rfl, N0, rfl⟩) (by decide) (by decide)
theorem own_ef_rmGB (m : MethodId) (st : Addr) (t : Addr) (kt : ClassId) (ds : List Int32) (bv : Addr) (kb : ClassId) (cs : List Int32) (es : List Int32) (G1 : Int32) : entryFrame m #[(.ref st), (.ref bv), (.int (Int32.ofNat cs.length)), (.int (0 : Int32))] 4 = mkF m 0 #[.val (.ref st), .val (.ref bv), .val (.int (Int32.ofNat cs.length)), .val (.int (0 : Int32))] [] := by first | (simp [entryFrame, mkF, argsToLocals, Value.category]; done) | rfl
theorem own_d26_0 : decode jdk_42_method_147_code 0 = .ok (.aload_n 0, 1) := by decide +kernel
theorem own_d26_1 : decode jdk_42_method_147_code 1 = .ok (.invokevirtual 335, 3) := by decide +kernel
theorem own_d26_4 : decode jdk_42_method_147_code 4 = .ok (.iload_n 3, 1) := by decide +kernel
theorem own_d26_5 : decode jdk_42_method_147_code 5 = .ok (.if_icmp .ne 23, 3) := by decide +kernel
theorem own_d26_8 : decode jdk_42_method_147_code 8 = .ok (.aload_n 0, 1) := by decide +kernel
theorem own_d26_9 : decode jdk_42_method_147_code 9 = .ok (.getfield 9, 3) := by decide +kernel
theorem own_d26_12 : decode jdk_42_method_147_code 12 = .ok (.iconst 0, 1) := by decide +kernel
theorem own_d26_13 : decode jdk_42_method_147_code 13 = .ok (.aload_n 1, 1) := by decide +kernel
theorem own_d26_14 : decode jdk_42_method_147_code 14 = .ok (.iload_n 2, 1) := by decide +kernel
theorem own_d26_15 : decode jdk_42_method_147_code 15 = .ok (.iload_n 3, 1) := by decide +kernel
theorem own_d26_16 : decode jdk_42_method_147_code 16 = .ok (.ishl, 1) := by decide +kernel
theorem own_d26_17 : decode jdk_42_method_147_code 17 = .ok (.aload_n 0, 1) := by decide +kernel
theorem own_d26_18 : decode jdk_42_method_147_code 18 = .ok (.getfield 9, 3) := by decide +kernel
theorem own_d26_21 : decode jdk_42_method_147_code 21 = .ok (.arraylength, 1) := by decide +kernel
theorem own_d26_22 : decode jdk_42_method_147_code 22 = .ok (.invokestatic 212, 3) := by decide +kernel
theorem own_d26_25 : decode jdk_42_method_147_code 25 = .ok (.goto 18, 3) := by decide +kernel
theorem own_d26_43 : decode jdk_42_method_147_code 43 = .ok (.return_, 1) := by decide +kernel
def Q_rmGB (Z : State) (st : Addr) (t : Addr) (kt : ClassId) (ds : List Int32) (bv : Addr) (kb : ClassId) (cs : List Int32) (es : List Int32) (G1 : Int32) (h0 : Heap) (n0 : Nat) (vq : Option Value) (hhq : Heap) (Lq : List Loc) : Prop := vq = none ∧ Fr n0 Lq ∧ Keep h0 hhq [bv] ∧ Arv Z hhq bv kb .byte (16 : Int32) (own_bs es) (.int 0)
set_option maxRecDepth 65536 in
set_option maxHeartbeats 40000000 in
theorem rmGB (l : Launch) (Z : State) (a0 : Array Value) (hw : ∀ d ∈ tables_1, d.before a0 Z = true) (ws : List Jvm.Cond) (st : Addr) (t : Addr) (kt : ClassId) (ds : List Int32) (bv : Addr) (kb : ClassId) (cs : List Int32) (es : List Int32) (G1 : Int32) (h0 : Heap) (n0 : Nat) (Z0 : n0 ≤ h0.size) (Pm0 : Exa Z h0 st "java/lang/String") (Pm1 : Fld Z h0 st "java/lang/String" "value" "[B" (.ref t)) (Pm2 : Fld Z h0 st "java/lang/String" "coder" "B" (.int (0 : Int32))) (Pm3 : Arv Z h0 t kt .byte (Int32.ofNat ds.length) (own_bs ds) (.int 0)) (Pm4 : Arv Z h0 bv kb .byte (16 : Int32) (own_bs cs) (.int 0)) (hes : (es = cs ++ ds)) (h15 : (es.length ≤ 15)) (ntb : (t ≠ bv)) (gbv : n0 ≤ bv) (O2 : Sta Z Z.heap "java/lang/String" "COMPACT_STRINGS" "Z" (.int G1)) (P5 : (¬ (G1 = (0 : Int32)))) (X00 : Old Z n0 h0) :
    MetFree l (⟨"java/lang/String", "getBytes", "([BIB)V"⟩ : MethodName) (head1 (Jvm.Cond.code (⟨"java/lang/String", "getBytes", "([BIB)V"⟩ : MethodName) jdk_42_method_147_code 4 none :: ws) ({ frames := 1, cells := 0, slots := 0, locals := 27 } : Room)) (fun aq U => aq = #[(.ref st), (.ref bv), (.int (Int32.ofNat cs.length)), (.int (0 : Int32))] ∧ Z.Warmed39 U.vm ∧ U.heap = h0) (fun _ _ _ _ _ => True) (fun _ U oq U' => ∃ vq Lq, oq = .returned vq ∧ Q_rmGB Z st t kt ds bv kb cs es G1 h0 n0 vq U'.heap Lq ∧ FrameEnd U oq U' Lq ({ frames := 1, cells := 0, slots := 0, locals := 27 } : Room).cells ({ frames := 1, cells := 0, slots := 0, locals := 27 } : Room).slots) := by
  refine MetFree.of_bodySF (plainFor_of_name own_pn_java_lang_String) hisR ?_
  intro p e s m args below meth c s₁ Bd hml0 hP hK
  obtain ⟨rfl, hZ, hh⟩ := hP
  have hx := Bd.exec
  have hby := Bd.bytes
  have hml : c.maxLocals = 4 := hml0
  have hown : s.vm.findClass "java/lang/String" = some m.cls := findClass_of_methodNamed Bd.named
  have hnm := (name_of_methodNamed Bd.named Bd.method).1
  have X0 : Stand p l e ({ frames := 1, cells := 0, slots := 0, locals := 27 } : Room) s m #[(.ref st), (.ref bv), (.int (Int32.ofNat cs.length)), (.int (0 : Int32))] below meth c s₁ [] 0 0 := Stand.of_body Bd
  have e0 : s₁.heap = h0 := by rw [← hh, Bd.state]; rfl
  have N0 := Fr.nil n0
  have K0 : Keep h0 h0 [bv] := Keep.refl _ _
  refine own_go (S' := s₁.setTop (mkF m 0 #[.val (.ref st), .val (.ref bv), .val (.int (Int32.ofNat cs.length)), .val (.int (0 : Int32))] [])) (fun tq kq => castTop (own_ef_rmGB m st t kt ds bv kb cs es G1) kq) ?_
  have lt1 : @LT.lt Nat _ st h0.size := Pm0.lt
  have lt2 : @LT.lt Nat _ t h0.size := Pm3.lt
  have lt3 : @LT.lt Nat _ bv h0.size := Pm4.lt
  have hl : cs.length + ds.length ≤ 15 := by rw [hes, List.length_append] at h15; exact h15
  refine own_go (fun tq kq => XS.aloadN X0.here hx rfl (hb hby own_d26_0) rfl rfl kq) ?_
  show own_Rn p e below _ (s₁.setTop (mkF m 1 #[.val (.ref st), .val (.ref bv), .val (.int (Int32.ofNat cs.length)), .val (.int (0 : Int32))] [(.ref st)]))
  have Zn4 : n0 ≤ h0.size := by omega
  obtain ⟨cq4, kq4, qa4, qb4, qc4⟩ := isOf hZ e0 Pm0
  obtain ⟨rv4, _, ⟨T4, L4, k4, n4⟩, -, X4, ⟨Lc4, hQ4, l4, y4, z4⟩, st4⟩ := X0.virtualBack hx (y := (⟨"java/lang/String", "coder", "()B"⟩ : MethodName)) (z := (⟨"java/lang/String", "coder", "()B"⟩ : MethodName)) hown (mvT hZ (hw _ (own_mi 134 rfl))) (mvT hZ (hw _ (own_mi 135 rfl))) (notFace_of_selects (args := #[]) (mvT hZ (hw _ (own_mi 137 rfl)))) (mvT hZ (hw _ (own_mi 137 rfl))) (mvT hZ (hw _ (own_mi 136 rfl))) (by decide) (backOf (W := 0) (rmCoder l Z a0 hw [] (st) (G1) h0 n0 Zn4 Pm2 (O2) (P5) X00) hZ (hw _ (own_mi 138 rfl)) (hw _ (own_mi 6 rfl)) (by decide) (by decide)) qa4 qc4 (g := (mkF m 1 #[.val (.ref st), .val (.ref bv), .val (.int (Int32.ofNat cs.length)), .val (.int (0 : Int32))] [(.ref st)])) rfl (by rw [hml]; rfl) (Steps.refl _) (argsL := []) (rest := []) (lenOf own_pd_2829B rfl) rfl (by show 2 * 0 + _ ≤ _; exact Nat.le_of_eq rfl) (hb hby own_d26_1) (fun _ _ => ⟨rfl, e0, (by decide : 0 + 0 ≤ _), (by decide : 0 + 0 ≤ _)⟩)
  dsimp only [Pt.U, Pt.locs, Pt.cells, Pt.slots] at X4 l4 y4 z4 st4 hQ4
  subst l4 y4 z4
  obtain ⟨rfl, Nq4, eh4⟩ := hQ4
  have N4 := Fr.app N0 Nq4
  refine own_go (fun tq kq => st4.trans kq) ?_
  show own_Rn p e below _ (T4.setTop (mkF m 4 #[.val (.ref st), .val (.ref bv), .val (.int (Int32.ofNat cs.length)), .val (.int (0 : Int32))] [(.int (0 : Int32))]))
  refine own_go (fun tq kq => XS.iloadN X4.here hx rfl (hb hby own_d26_4) rfl kq) ?_
  show own_Rn p e below _ (T4.setTop (mkF m 5 #[.val (.ref st), .val (.ref bv), .val (.int (Int32.ofNat cs.length)), .val (.int (0 : Int32))] [(.int (0 : Int32)), (.int (0 : Int32))]))
  refine own_go (fun tq kq => XS.icmpNo X4.here hx rfl (hb hby own_d26_5) rfl (teq ((by decide : (0 : Int32) = (0 : Int32)) : (0 : Int32) = (0 : Int32))).2 kq) ?_
  show own_Rn p e below _ (T4.setTop (mkF m 8 #[.val (.ref st), .val (.ref bv), .val (.int (Int32.ofNat cs.length)), .val (.int (0 : Int32))] []))
  refine own_go (fun tq kq => XS.aloadN X4.here hx rfl (hb hby own_d26_8) rfl rfl kq) ?_
  show own_Rn p e below _ (T4.setTop (mkF m 9 #[.val (.ref st), .val (.ref bv), .val (.int (Int32.ofNat cs.length)), .val (.int (0 : Int32))] [(.ref st)]))
  obtain ⟨T5, X5, e5, st5⟩ := getF X4 hx hZ hown (host := "") (Or.inl (hw _ (own_mi 32 rfl))) Via.refl eh4 Pm1 (g := (mkF m 9 #[.val (.ref st), .val (.ref bv), .val (.int (Int32.ofNat cs.length)), .val (.int (0 : Int32))] [(.ref st)])) rfl rfl (hb hby own_d26_9)
  refine own_go st5 ?_
  show own_Rn p e below _ (T5.setTop (mkF m 12 #[.val (.ref st), .val (.ref bv), .val (.int (Int32.ofNat cs.length)), .val (.int (0 : Int32))] [(.ref t)]))
  refine own_go (fun tq kq => XS.iconst X5.here hx rfl (hb hby own_d26_12) kq) ?_
  show own_Rn p e below _ (T5.setTop (mkF m 13 #[.val (.ref st), .val (.ref bv), .val (.int (Int32.ofNat cs.length)), .val (.int (0 : Int32))] [(.int (0 : Int32)), (.ref t)]))
  refine own_go (fun tq kq => XS.aloadN X5.here hx rfl (hb hby own_d26_13) rfl rfl kq) ?_
  show own_Rn p e below _ (T5.setTop (mkF m 14 #[.val (.ref st), .val (.ref bv), .val (.int (Int32.ofNat cs.length)), .val (.int (0 : Int32))] [(.ref bv), (.int (0 : Int32)), (.ref t)]))
  refine own_go (fun tq kq => XS.iloadN X5.here hx rfl (hb hby own_d26_14) rfl kq) ?_
  show own_Rn p e below _ (T5.setTop (mkF m 15 #[.val (.ref st), .val (.ref bv), .val (.int (Int32.ofNat cs.length)), .val (.int (0 : Int32))] [(.int (Int32.ofNat cs.length)), (.ref bv), (.int (0 : Int32)), (.ref t)]))
  refine own_go (fun tq kq => XS.iloadN X5.here hx rfl (hb hby own_d26_15) rfl kq) ?_
  show own_Rn p e below _ (T5.setTop (mkF m 16 #[.val (.ref st), .val (.ref bv), .val (.int (Int32.ofNat cs.length)), .val (.int (0 : Int32))] [(.int (0 : Int32)), (.int (Int32.ofNat cs.length)), (.ref bv), (.int (0 : Int32)), (.ref t)]))
  refine own_go (fun tq kq => XS.ishl X5.here hx rfl (hb hby own_d26_16) rfl kq) ?_
  show own_Rn p e below _ (T5.setTop (mkF m 17 #[.val (.ref st), .val (.ref bv), .val (.int (Int32.ofNat cs.length)), .val (.int (0 : Int32))] [(.int ((Int32.ofNat cs.length) <<< ((0 : Int32) &&& 31))), (.ref bv), (.int (0 : Int32)), (.ref t)]))
  rw [own_shl0]
  show own_Rn p e below _ (T5.setTop (mkF m 17 #[.val (.ref st), .val (.ref bv), .val (.int (Int32.ofNat cs.length)), .val (.int (0 : Int32))] [(.int (Int32.ofNat cs.length)), (.ref bv), (.int (0 : Int32)), (.ref t)]))
  refine own_go (fun tq kq => XS.aloadN X5.here hx rfl (hb hby own_d26_17) rfl rfl kq) ?_
  show own_Rn p e below _ (T5.setTop (mkF m 18 #[.val (.ref st), .val (.ref bv), .val (.int (Int32.ofNat cs.length)), .val (.int (0 : Int32))] [(.ref st), (.int (Int32.ofNat cs.length)), (.ref bv), (.int (0 : Int32)), (.ref t)]))
  obtain ⟨T6, X6, e6, st6⟩ := getF X5 hx hZ hown (host := "") (Or.inl (hw _ (own_mi 32 rfl))) Via.refl e5 Pm1 (g := (mkF m 18 #[.val (.ref st), .val (.ref bv), .val (.int (Int32.ofNat cs.length)), .val (.int (0 : Int32))] [(.ref st), (.int (Int32.ofNat cs.length)), (.ref bv), (.int (0 : Int32)), (.ref t)])) rfl rfl (hb hby own_d26_18)
  refine own_go st6 ?_
  show own_Rn p e below _ (T6.setTop (mkF m 21 #[.val (.ref st), .val (.ref bv), .val (.int (Int32.ofNat cs.length)), .val (.int (0 : Int32))] [(.ref t), (.int (Int32.ofNat cs.length)), (.ref bv), (.int (0 : Int32)), (.ref t)]))
  obtain ⟨cl7, Ar7, -, Sz7, Nn7, -, -⟩ := id Pm3
  refine own_go (fun tq kq => X6.arraylength hx (cell := cl7) (by rw [e6]; exact Ar7.1) (State.isArrayOf_alike hZ.alike Ar7.2.1) (g := (mkF m 21 #[.val (.ref st), .val (.ref bv), .val (.int (Int32.ofNat cs.length)), .val (.int (0 : Int32))] [(.ref t), (.int (Int32.ofNat cs.length)), (.ref bv), (.int (0 : Int32)), (.ref t)])) rfl rfl (hb hby own_d26_21) tq kq) ?_
  rw [len_of Sz7 Nn7]
  show own_Rn p e below _ (T6.setTop (mkF m 22 #[.val (.ref st), .val (.ref bv), .val (.int (Int32.ofNat cs.length)), .val (.int (0 : Int32))] [(.int (Int32.ofNat ds.length)), (.int (Int32.ofNat cs.length)), (.ref bv), (.int (0 : Int32)), (.ref t)]))
  have Vp : Arv Z h0 bv kb .byte (16 : Int32) (own_bs cs ++ List.replicate (16 - cs.length) (.int 0)) (.int 0) := Pm4.pad (pad_rep (own_bs cs) (.int 0) (16 - cs.length))
  obtain ⟨T8, h8, L8, X8, e8, N8, Kc8, Ac8, st8⟩ := cpA X6 hx hZ hown (hw _ (own_mi 162 rfl)) (hw _ (own_mi 165 rfl)) (hw _ (own_mi 163 rfl)) (hw _ (own_mi 164 rfl)) e6 Pm3 Vp (sp := (0 : Int32)) (dp := (Int32.ofNat cs.length)) (nn := (Int32.ofNat ds.length)) (us := (own_bs ds)) (Or.inl ⟨rfl, rfl⟩) (by decide) (own_nneg (by omega)) (own_nneg (by omega)) (by rw [own_clampN (by omega)]; exact Nat.le_of_eq (Nat.zero_add _)) (by rw [own_clampN (by omega), own_clampN (by omega)]; show _ ≤ 16; omega) (own_us ds (by omega)) (by rw [own_clampN (by omega), own_clampN (by omega), List.length_append, own_bs_len, List.length_replicate]; omega) N4 gbv (g := (mkF m 22 #[.val (.ref st), .val (.ref bv), .val (.int (Int32.ofNat cs.length)), .val (.int (0 : Int32))] [(.int (Int32.ofNat ds.length)), (.int (Int32.ofNat cs.length)), (.ref bv), (.int (0 : Int32)), (.ref t)])) rfl (by rw [hml]; rfl) rfl (hb hby own_d26_22) (by decide) (W := 0) (by show 2 * 0 + _ ≤ _; exact Nat.le_of_eq rfl) (by decide)
  refine own_go st8 ?_
  have sz9 : h0.size ≤ h8.size := Kc8.1
  have K9 := K0.trans Kc8 (allS (Or.inl (List.mem_of_getElem? (i := 0) rfl)) all0)
  have V8 : Arv Z h8 bv kb .byte (16 : Int32) (own_bs es) (.int 0) := own_cat hes ⟨by omega, by omega⟩ (by omega) rfl rfl Ac8
  show own_Rn p e below _ (T8.setTop (mkF m 25 #[.val (.ref st), .val (.ref bv), .val (.int (Int32.ofNat cs.length)), .val (.int (0 : Int32))] []))
  refine own_go (fun tq kq => XS.goto X8.here hx rfl (pc0 := 25) (pc' := 43) rfl (hb hby own_d26_25) (by decide) (by decide) kq) ?_
  show own_Rn p e below _ (T8.setTop (mkF m 43 #[.val (.ref st), .val (.ref bv), .val (.int (Int32.ofNat cs.length)), .val (.int (0 : Int32))] []))
  exact own_ret X8 (v := none) (fun _ => rfl) (fun fs hr => X8.returnOut hx Bd.returns (hb hby own_d26_43) hr) (by rw [e8]; exact ⟨rfl, N8, K9, V8⟩) (by decide) (by decide)
theorem own_ef_rmPSA (m : MethodId) (sb : Addr) (st : Addr) (t : Addr) (kt : ClassId) (ds : List Int32) (bv : Addr) (kb : ClassId) (cs : List Int32) (es : List Int32) (G1 : Int32) : entryFrame m #[(.ref sb), (.int (Int32.ofNat cs.length)), (.ref st)] 3 = mkF m 0 #[.val (.ref sb), .val (.int (Int32.ofNat cs.length)), .val (.ref st)] [] := by first | (simp [entryFrame, mkF, argsToLocals, Value.category]; done) | rfl
theorem own_d24_0 : decode jdk_68_method_73_code 0 = .ok (.aload_n 0, 1) := by decide +kernel
theorem own_d24_1 : decode jdk_68_method_73_code 1 = .ok (.aload_n 2, 1) := by decide +kernel
theorem own_d24_2 : decode jdk_68_method_73_code 2 = .ok (.invokevirtual 397, 3) := by decide +kernel
theorem own_pd_28Ljava2flang2fString3b29V : parseMethodDescriptor "(Ljava/lang/String;)V" = some ⟨[(.object "java/lang/String")], none⟩ := by decide +kernel
theorem own_d24_5 : decode jdk_68_method_73_code 5 = .ok (.aload_n 2, 1) := by decide +kernel
theorem own_d24_6 : decode jdk_68_method_73_code 6 = .ok (.aload_n 0, 1) := by decide +kernel
theorem own_d24_7 : decode jdk_68_method_73_code 7 = .ok (.getfield 15, 3) := by decide +kernel
theorem own_d24_10 : decode jdk_68_method_73_code 10 = .ok (.iload_n 1, 1) := by decide +kernel
theorem own_d24_11 : decode jdk_68_method_73_code 11 = .ok (.aload_n 0, 1) := by decide +kernel
theorem own_d24_12 : decode jdk_68_method_73_code 12 = .ok (.getfield 22, 3) := by decide +kernel
theorem own_d24_15 : decode jdk_68_method_73_code 15 = .ok (.invokevirtual 399, 3) := by decide +kernel
theorem own_pd_285bBIB29V : parseMethodDescriptor "([BIB)V" = some ⟨[(.array .byte), .int, .byte], none⟩ := by decide +kernel
theorem own_d24_18 : decode jdk_68_method_73_code 18 = .ok (.return_, 1) := by decide +kernel
def Q_rmPSA (Z : State) (sb : Addr) (st : Addr) (t : Addr) (kt : ClassId) (ds : List Int32) (bv : Addr) (kb : ClassId) (cs : List Int32) (es : List Int32) (G1 : Int32) (h0 : Heap) (n0 : Nat) (vq : Option Value) (hhq : Heap) (Lq : List Loc) : Prop := vq = none ∧ Fr n0 Lq ∧ Keep h0 hhq [bv] ∧ Arv Z hhq bv kb .byte (16 : Int32) (own_bs es) (.int 0)
set_option maxRecDepth 65536 in
set_option maxHeartbeats 40000000 in
theorem rmPSA (l : Launch) (Z : State) (a0 : Array Value) (hw : ∀ d ∈ tables_1, d.before a0 Z = true) (ws : List Jvm.Cond) (sb : Addr) (st : Addr) (t : Addr) (kt : ClassId) (ds : List Int32) (bv : Addr) (kb : ClassId) (cs : List Int32) (es : List Int32) (G1 : Int32) (h0 : Heap) (n0 : Nat) (Z0 : n0 ≤ h0.size) (Pm0 : Exa Z h0 st "java/lang/String") (Pm1 : Fld Z h0 st "java/lang/String" "value" "[B" (.ref t)) (Pm2 : Fld Z h0 st "java/lang/String" "coder" "B" (.int (0 : Int32))) (Pm3 : Arv Z h0 t kt .byte (Int32.ofNat ds.length) (own_bs ds) (.int 0)) (Pm4 : Exa Z h0 sb "java/lang/StringBuilder") (Pm5 : Fld Z h0 sb "java/lang/AbstractStringBuilder" "value" "[B" (.ref bv)) (Pm6 : Fld Z h0 sb "java/lang/AbstractStringBuilder" "coder" "B" (.int (0 : Int32))) (Pm7 : Arv Z h0 bv kb .byte (16 : Int32) (own_bs cs) (.int 0)) (hes : (es = cs ++ ds)) (h15 : (es.length ≤ 15)) (ntb : (t ≠ bv)) (gbv : n0 ≤ bv) (O2 : Sta Z Z.heap "java/lang/String" "COMPACT_STRINGS" "Z" (.int G1)) (P5 : (¬ (G1 = (0 : Int32)))) (X00 : Old Z n0 h0) :
    MetFree l (⟨"java/lang/AbstractStringBuilder", "putStringAt", "(ILjava/lang/String;)V"⟩ : MethodName) (head1 (Jvm.Cond.code (⟨"java/lang/AbstractStringBuilder", "putStringAt", "(ILjava/lang/String;)V"⟩ : MethodName) jdk_68_method_73_code 3 none :: ws) ({ frames := 2, cells := 0, slots := 0, locals := 42 } : Room)) (fun aq U => aq = #[(.ref sb), (.int (Int32.ofNat cs.length)), (.ref st)] ∧ Z.Warmed39 U.vm ∧ U.heap = h0) (fun _ _ _ _ _ => True) (fun _ U oq U' => ∃ vq Lq, oq = .returned vq ∧ Q_rmPSA Z sb st t kt ds bv kb cs es G1 h0 n0 vq U'.heap Lq ∧ FrameEnd U oq U' Lq ({ frames := 2, cells := 0, slots := 0, locals := 42 } : Room).cells ({ frames := 2, cells := 0, slots := 0, locals := 42 } : Room).slots) := by
  refine MetFree.of_bodySF (plainFor_of_name own_pn_java_lang_AbstractStringBuilder) hisR ?_
  intro p e s m args below meth c s₁ Bd hml0 hP hK
  obtain ⟨rfl, hZ, hh⟩ := hP
  have hx := Bd.exec
  have hby := Bd.bytes
  have hml : c.maxLocals = 3 := hml0
  have hown : s.vm.findClass "java/lang/AbstractStringBuilder" = some m.cls := findClass_of_methodNamed Bd.named
  have hnm := (name_of_methodNamed Bd.named Bd.method).1
  have X0 : Stand p l e ({ frames := 2, cells := 0, slots := 0, locals := 42 } : Room) s m #[(.ref sb), (.int (Int32.ofNat cs.length)), (.ref st)] below meth c s₁ [] 0 0 := Stand.of_body Bd
  have e0 : s₁.heap = h0 := by rw [← hh, Bd.state]; rfl
  have N0 := Fr.nil n0
  have K0 : Keep h0 h0 [bv] := Keep.refl _ _
  refine own_go (S' := s₁.setTop (mkF m 0 #[.val (.ref sb), .val (.int (Int32.ofNat cs.length)), .val (.ref st)] [])) (fun tq kq => castTop (own_ef_rmPSA m sb st t kt ds bv kb cs es G1) kq) ?_
  have lt1 : @LT.lt Nat _ st h0.size := Pm0.lt
  have lt2 : @LT.lt Nat _ t h0.size := Pm3.lt
  have lt3 : @LT.lt Nat _ sb h0.size := Pm4.lt
  have lt4 : @LT.lt Nat _ bv h0.size := Pm7.lt
  refine own_go (fun tq kq => XS.aloadN X0.here hx rfl (hb hby own_d24_0) rfl rfl kq) ?_
  show own_Rn p e below _ (s₁.setTop (mkF m 1 #[.val (.ref sb), .val (.int (Int32.ofNat cs.length)), .val (.ref st)] [(.ref sb)]))
  refine own_go (fun tq kq => XS.aloadN X0.here hx rfl (hb hby own_d24_1) rfl rfl kq) ?_
  show own_Rn p e below _ (s₁.setTop (mkF m 2 #[.val (.ref sb), .val (.int (Int32.ofNat cs.length)), .val (.ref st)] [(.ref st), (.ref sb)]))
  have Zn5 : n0 ≤ h0.size := by omega
  obtain ⟨cq5, qq5, qr5⟩ := Pm4.cell
  obtain ⟨rv5, _, ⟨T5, L5, k5, n5⟩, -, X5, ⟨Lc5, hQ5, l5, y5, z5⟩, st5⟩ := X0.privateBack hx (y := (⟨"java/lang/AbstractStringBuilder", "inflateIfNeededFor", "(Ljava/lang/String;)V"⟩ : MethodName)) hown (mvT hZ (hw _ (own_mi 151 rfl))) (mvT hZ (hw _ (own_mi 152 rfl))) (mvT hZ (own_selP (hw _ (own_mi 154 rfl)) (hw _ (own_mi 153 rfl)) (hw _ (own_mi 152 rfl)) (by decide))) (Cond.privateMethod_at (mvP hZ (hw _ (own_mi 153 rfl)) (args := #[]))) (mvT hZ (hw _ (own_mi 155 rfl))) (by decide) (backOf (W := 0) (rmInf l Z a0 hw [] (sb) (st) (G1) h0 n0 Zn5 Pm6 Pm0 Pm2 (O2) (P5) X00) hZ (hw _ (own_mi 155 rfl)) (hw _ (own_mi 106 rfl)) (by decide) (by decide)) (g := (mkF m 2 #[.val (.ref sb), .val (.int (Int32.ofNat cs.length)), .val (.ref st)] [(.ref st), (.ref sb)])) rfl (by rw [hml]; rfl) (Steps.refl _) (a := sb) (by rw [e0]; exact qq5) qr5 (argsL := [(.ref st)]) (rest := []) (lenOf own_pd_28Ljava2flang2fString3b29V rfl) rfl (by show 2 * 0 + _ ≤ _; exact Nat.le_of_eq rfl) (hb hby own_d24_2) (fun _ _ => ⟨rfl, e0, (by decide : 0 + 0 ≤ _), (by decide : 0 + 0 ≤ _)⟩)
  dsimp only [Pt.U, Pt.locs, Pt.cells, Pt.slots] at X5 l5 y5 z5 st5 hQ5
  subst l5 y5 z5
  obtain ⟨rfl, Nq5, eh5⟩ := hQ5
  have N5 := Fr.app N0 Nq5
  refine own_go (fun tq kq => st5.trans kq) ?_
  show own_Rn p e below _ (T5.setTop (mkF m 5 #[.val (.ref sb), .val (.int (Int32.ofNat cs.length)), .val (.ref st)] []))
  refine own_go (fun tq kq => XS.aloadN X5.here hx rfl (hb hby own_d24_5) rfl rfl kq) ?_
  show own_Rn p e below _ (T5.setTop (mkF m 6 #[.val (.ref sb), .val (.int (Int32.ofNat cs.length)), .val (.ref st)] [(.ref st)]))
  refine own_go (fun tq kq => XS.aloadN X5.here hx rfl (hb hby own_d24_6) rfl rfl kq) ?_
  show own_Rn p e below _ (T5.setTop (mkF m 7 #[.val (.ref sb), .val (.int (Int32.ofNat cs.length)), .val (.ref st)] [(.ref sb), (.ref st)]))
  obtain ⟨T6, X6, e6, st6⟩ := getF X5 hx hZ hown (host := "") (Or.inl (hw _ (own_mi 110 rfl))) Via.refl eh5 Pm5 (g := (mkF m 7 #[.val (.ref sb), .val (.int (Int32.ofNat cs.length)), .val (.ref st)] [(.ref sb), (.ref st)])) rfl rfl (hb hby own_d24_7)
  refine own_go st6 ?_
  show own_Rn p e below _ (T6.setTop (mkF m 10 #[.val (.ref sb), .val (.int (Int32.ofNat cs.length)), .val (.ref st)] [(.ref bv), (.ref st)]))
  refine own_go (fun tq kq => XS.iloadN X6.here hx rfl (hb hby own_d24_10) rfl kq) ?_
  show own_Rn p e below _ (T6.setTop (mkF m 11 #[.val (.ref sb), .val (.int (Int32.ofNat cs.length)), .val (.ref st)] [(.int (Int32.ofNat cs.length)), (.ref bv), (.ref st)]))
  refine own_go (fun tq kq => XS.aloadN X6.here hx rfl (hb hby own_d24_11) rfl rfl kq) ?_
  show own_Rn p e below _ (T6.setTop (mkF m 12 #[.val (.ref sb), .val (.int (Int32.ofNat cs.length)), .val (.ref st)] [(.ref sb), (.int (Int32.ofNat cs.length)), (.ref bv), (.ref st)]))
  obtain ⟨T7, X7, e7, st7⟩ := getF X6 hx hZ hown (host := "") (Or.inl (hw _ (own_mi 112 rfl))) Via.refl e6 Pm6 (g := (mkF m 12 #[.val (.ref sb), .val (.int (Int32.ofNat cs.length)), .val (.ref st)] [(.ref sb), (.int (Int32.ofNat cs.length)), (.ref bv), (.ref st)])) rfl rfl (hb hby own_d24_12)
  refine own_go st7 ?_
  show own_Rn p e below _ (T7.setTop (mkF m 15 #[.val (.ref sb), .val (.int (Int32.ofNat cs.length)), .val (.ref st)] [(.int (0 : Int32)), (.int (Int32.ofNat cs.length)), (.ref bv), (.ref st)]))
  have Zn8 : n0 ≤ h0.size := by omega
  obtain ⟨cq8, kq8, qa8, qb8, qc8⟩ := isOf hZ e7 Pm0
  obtain ⟨rv8, _, ⟨T8, L8, k8, n8⟩, -, X8, ⟨Lc8, hQ8, l8, y8, z8⟩, st8⟩ := X7.virtualBack hx (y := (⟨"java/lang/String", "getBytes", "([BIB)V"⟩ : MethodName)) (z := (⟨"java/lang/String", "getBytes", "([BIB)V"⟩ : MethodName)) hown (mvT hZ (hw _ (own_mi 157 rfl))) (mvT hZ (hw _ (own_mi 158 rfl))) (notFace_of_selects (args := #[]) (mvT hZ (hw _ (own_mi 160 rfl)))) (mvT hZ (hw _ (own_mi 160 rfl))) (mvT hZ (hw _ (own_mi 159 rfl))) (by decide) (backOf (W := 0) (rmGB l Z a0 hw [] (st) (t) (kt) (ds) (bv) (kb) (cs) (es) (G1) h0 n0 Zn8 Pm0 Pm1 Pm2 Pm3 Pm7 (hes) (h15) (ntb) gbv (O2) (P5) X00) hZ (hw _ (own_mi 161 rfl)) (hw _ (own_mi 6 rfl)) (by decide) (by decide)) qa8 qc8 (g := (mkF m 15 #[.val (.ref sb), .val (.int (Int32.ofNat cs.length)), .val (.ref st)] [(.int (0 : Int32)), (.int (Int32.ofNat cs.length)), (.ref bv), (.ref st)])) rfl (by rw [hml]; rfl) (Steps.refl _) (argsL := [(.ref bv), (.int (Int32.ofNat cs.length)), (.int (0 : Int32))]) (rest := []) (lenOf own_pd_285bBIB29V rfl) rfl (by show 2 * 0 + _ ≤ _; exact Nat.le_of_eq rfl) (hb hby own_d24_15) (fun _ _ => ⟨rfl, e7, (by decide : 0 + 0 ≤ _), (by decide : 0 + 0 ≤ _)⟩)
  dsimp only [Pt.U, Pt.locs, Pt.cells, Pt.slots] at X8 l8 y8 z8 st8 hQ8
  subst l8 y8 z8
  obtain ⟨rfl, Nq8, Kq8, G0_8⟩ := hQ8
  have N8 := Fr.app N5 Nq8
  have sz9 : h0.size ≤ T8.heap.size := Kq8.1
  have K9 := K0.trans Kq8 (allS (Or.inl (List.mem_of_getElem? (i := 0) rfl)) all0)
  refine own_go (fun tq kq => st8.trans kq) ?_
  show own_Rn p e below _ (T8.setTop (mkF m 18 #[.val (.ref sb), .val (.int (Int32.ofNat cs.length)), .val (.ref st)] []))
  exact own_ret X8 (v := none) (fun _ => rfl) (fun fs hr => X8.returnOut hx Bd.returns (hb hby own_d24_18) hr) (⟨rfl, N8, K9, G0_8⟩) (by decide) (by decide)
theorem own_ef_rmAA (m : MethodId) (sb : Addr) (st : Addr) (t : Addr) (kt : ClassId) (ds : List Int32) (bv : Addr) (kb : ClassId) (cs : List Int32) (es : List Int32) (G1 : Int32) : entryFrame m #[(.ref sb), (.ref st)] 3 = mkF m 0 #[.val (.ref sb), .val (.ref st), .unset] [] := by first | (simp [entryFrame, mkF, argsToLocals, Value.category]; done) | rfl
theorem own_d20_0 : decode jdk_68_method_22_code 0 = .ok (.aload_n 1, 1) := by decide +kernel
theorem own_d20_1 : decode jdk_68_method_22_code 1 = .ok (.ifnonnull 8, 3) := by decide +kernel
theorem own_d20_9 : decode jdk_68_method_22_code 9 = .ok (.aload_n 1, 1) := by decide +kernel
theorem own_d20_10 : decode jdk_68_method_22_code 10 = .ok (.invokevirtual 32, 3) := by decide +kernel
theorem own_pd_2829I : parseMethodDescriptor "()I" = some ⟨[], some .int⟩ := by decide +kernel
theorem own_d20_13 : decode jdk_68_method_22_code 13 = .ok (.istore_n 2, 1) := by decide +kernel
theorem own_d20_14 : decode jdk_68_method_22_code 14 = .ok (.aload_n 0, 1) := by decide +kernel
theorem own_d20_15 : decode jdk_68_method_22_code 15 = .ok (.aload_n 0, 1) := by decide +kernel
theorem own_d20_16 : decode jdk_68_method_22_code 16 = .ok (.getfield 79, 3) := by decide +kernel
theorem own_d20_19 : decode jdk_68_method_22_code 19 = .ok (.iload_n 2, 1) := by decide +kernel
theorem own_d20_20 : decode jdk_68_method_22_code 20 = .ok (.iadd, 1) := by decide +kernel
theorem own_d20_21 : decode jdk_68_method_22_code 21 = .ok (.invokevirtual 100, 3) := by decide +kernel
theorem own_d20_24 : decode jdk_68_method_22_code 24 = .ok (.aload_n 0, 1) := by decide +kernel
theorem own_d20_25 : decode jdk_68_method_22_code 25 = .ok (.aload_n 0, 1) := by decide +kernel
theorem own_d20_26 : decode jdk_68_method_22_code 26 = .ok (.getfield 79, 3) := by decide +kernel
theorem own_d20_29 : decode jdk_68_method_22_code 29 = .ok (.aload_n 1, 1) := by decide +kernel
theorem own_d20_30 : decode jdk_68_method_22_code 30 = .ok (.invokevirtual 208, 3) := by decide +kernel
theorem own_pd_28ILjava2flang2fString3b29V : parseMethodDescriptor "(ILjava/lang/String;)V" = some ⟨[.int, (.object "java/lang/String")], none⟩ := by decide +kernel
theorem own_d20_33 : decode jdk_68_method_22_code 33 = .ok (.aload_n 0, 1) := by decide +kernel
theorem own_d20_34 : decode jdk_68_method_22_code 34 = .ok (.dup, 1) := by decide +kernel
theorem own_d20_35 : decode jdk_68_method_22_code 35 = .ok (.getfield 79, 3) := by decide +kernel
theorem own_d20_38 : decode jdk_68_method_22_code 38 = .ok (.iload_n 2, 1) := by decide +kernel
theorem own_d20_39 : decode jdk_68_method_22_code 39 = .ok (.iadd, 1) := by decide +kernel
theorem own_d20_40 : decode jdk_68_method_22_code 40 = .ok (.putfield 79, 3) := by decide +kernel
theorem own_d20_43 : decode jdk_68_method_22_code 43 = .ok (.aload_n 0, 1) := by decide +kernel
theorem own_d20_44 : decode jdk_68_method_22_code 44 = .ok (.areturn, 1) := by decide +kernel
def Q_rmAA (Z : State) (sb : Addr) (st : Addr) (t : Addr) (kt : ClassId) (ds : List Int32) (bv : Addr) (kb : ClassId) (cs : List Int32) (es : List Int32) (G1 : Int32) (h0 : Heap) (n0 : Nat) (vq : Option Value) (hhq : Heap) (Lq : List Loc) : Prop := vq = some (.ref sb) ∧ Fr n0 Lq ∧ Keep h0 hhq [sb, bv] ∧ Fld Z hhq sb "java/lang/AbstractStringBuilder" "value" "[B" (.ref bv) ∧ Fld Z hhq sb "java/lang/AbstractStringBuilder" "coder" "B" (.int (0 : Int32)) ∧ Fld Z hhq sb "java/lang/AbstractStringBuilder" "count" "I" (.int (Int32.ofNat es.length)) ∧ Arv Z hhq bv kb .byte (16 : Int32) (own_bs es) (.int 0)
set_option maxRecDepth 65536 in
set_option maxHeartbeats 40000000 in
theorem rmAA (l : Launch) (Z : State) (a0 : Array Value) (hw : ∀ d ∈ tables_1, d.before a0 Z = true) (ws : List Jvm.Cond) (sb : Addr) (st : Addr) (t : Addr) (kt : ClassId) (ds : List Int32) (bv : Addr) (kb : ClassId) (cs : List Int32) (es : List Int32) (G1 : Int32) (h0 : Heap) (n0 : Nat) (Z0 : n0 ≤ h0.size) (Pm0 : Exa Z h0 st "java/lang/String") (Pm1 : Fld Z h0 st "java/lang/String" "value" "[B" (.ref t)) (Pm2 : Fld Z h0 st "java/lang/String" "coder" "B" (.int (0 : Int32))) (Pm3 : Arv Z h0 t kt .byte (Int32.ofNat ds.length) (own_bs ds) (.int 0)) (Pm4 : Exa Z h0 sb "java/lang/StringBuilder") (Pm5 : Fld Z h0 sb "java/lang/AbstractStringBuilder" "value" "[B" (.ref bv)) (Pm6 : Fld Z h0 sb "java/lang/AbstractStringBuilder" "coder" "B" (.int (0 : Int32))) (Pm7 : Arv Z h0 bv kb .byte (16 : Int32) (own_bs cs) (.int 0)) (Pm8 : Fld Z h0 sb "java/lang/AbstractStringBuilder" "count" "I" (.int (Int32.ofNat cs.length))) (hes : (es = cs ++ ds)) (h15 : (es.length ≤ 15)) (ntb : (t ≠ bv)) (gbv : n0 ≤ bv) (gsb : n0 ≤ sb) (O2 : Sta Z Z.heap "java/lang/String" "COMPACT_STRINGS" "Z" (.int G1)) (P5 : (¬ (G1 = (0 : Int32)))) (X00 : Old Z n0 h0) :
    MetFree l (⟨"java/lang/AbstractStringBuilder", "append", "(Ljava/lang/String;)Ljava/lang/AbstractStringBuilder;"⟩ : MethodName) (head1 (Jvm.Cond.code (⟨"java/lang/AbstractStringBuilder", "append", "(Ljava/lang/String;)Ljava/lang/AbstractStringBuilder;"⟩ : MethodName) jdk_68_method_22_code 3 (some (.object "java/lang/AbstractStringBuilder")) :: ws) ({ frames := 3, cells := 0, slots := 0, locals := 56 } : Room)) (fun aq U => aq = #[(.ref sb), (.ref st)] ∧ Z.Warmed39 U.vm ∧ U.heap = h0) (fun _ _ _ _ _ => True) (fun _ U oq U' => ∃ vq Lq, oq = .returned vq ∧ Q_rmAA Z sb st t kt ds bv kb cs es G1 h0 n0 vq U'.heap Lq ∧ FrameEnd U oq U' Lq ({ frames := 3, cells := 0, slots := 0, locals := 56 } : Room).cells ({ frames := 3, cells := 0, slots := 0, locals := 56 } : Room).slots) := by
  refine MetFree.of_bodySF (plainFor_of_name own_pn_java_lang_AbstractStringBuilder) hisR ?_
  intro p e s m args below meth c s₁ Bd hml0 hP hK
  obtain ⟨rfl, hZ, hh⟩ := hP
  have hx := Bd.exec
  have hby := Bd.bytes
  have hml : c.maxLocals = 3 := hml0
  have hown : s.vm.findClass "java/lang/AbstractStringBuilder" = some m.cls := findClass_of_methodNamed Bd.named
  have hnm := (name_of_methodNamed Bd.named Bd.method).1
  have X0 : Stand p l e ({ frames := 3, cells := 0, slots := 0, locals := 56 } : Room) s m #[(.ref sb), (.ref st)] below meth c s₁ [] 0 0 := Stand.of_body Bd
  have e0 : s₁.heap = h0 := by rw [← hh, Bd.state]; rfl
  have N0 := Fr.nil n0
  have K0 : Keep h0 h0 [sb, bv] := Keep.refl _ _
  refine own_go (S' := s₁.setTop (mkF m 0 #[.val (.ref sb), .val (.ref st), .unset] [])) (fun tq kq => castTop (own_ef_rmAA m sb st t kt ds bv kb cs es G1) kq) ?_
  have lt1 : @LT.lt Nat _ st h0.size := Pm0.lt
  have lt2 : @LT.lt Nat _ t h0.size := Pm3.lt
  have lt3 : @LT.lt Nat _ sb h0.size := Pm4.lt
  have lt4 : @LT.lt Nat _ bv h0.size := Pm7.lt
  refine own_go (fun tq kq => XS.aloadN X0.here hx rfl (hb hby own_d20_0) rfl rfl kq) ?_
  show own_Rn p e below _ (s₁.setTop (mkF m 1 #[.val (.ref sb), .val (.ref st), .unset] [(.ref st)]))
  refine own_go (fun tq kq => XS.ifnonnullYes X0.here hx rfl (pc0 := 1) (pc' := 9) rfl (hb hby own_d20_1) rfl (by decide) (by decide) kq) ?_
  show own_Rn p e below _ (s₁.setTop (mkF m 9 #[.val (.ref sb), .val (.ref st), .unset] []))
  refine own_go (fun tq kq => XS.aloadN X0.here hx rfl (hb hby own_d20_9) rfl rfl kq) ?_
  show own_Rn p e below _ (s₁.setTop (mkF m 10 #[.val (.ref sb), .val (.ref st), .unset] [(.ref st)]))
  have Zn5 : n0 ≤ h0.size := by omega
  obtain ⟨cq5, kq5, qa5, qb5, qc5⟩ := isOf hZ e0 Pm0
  obtain ⟨rv5, _, ⟨T5, L5, k5, n5⟩, -, X5, ⟨Lc5, hQ5, l5, y5, z5⟩, st5⟩ := X0.virtualBack hx (y := (⟨"java/lang/String", "length", "()I"⟩ : MethodName)) (z := (⟨"java/lang/String", "length", "()I"⟩ : MethodName)) hown (mvT hZ (hw _ (own_mi 129 rfl))) (mvT hZ (hw _ (own_mi 130 rfl))) (notFace_of_selects (args := #[]) (mvT hZ (hw _ (own_mi 132 rfl)))) (mvT hZ (hw _ (own_mi 132 rfl))) (mvT hZ (hw _ (own_mi 131 rfl))) (by decide) (backOf (W := 0) (rmLen l Z a0 hw [] (st) (t) (kt) (ds) (G1) h0 n0 Zn5 Pm0 Pm1 Pm2 Pm3 (O2) (P5) X00) hZ (hw _ (own_mi 133 rfl)) (hw _ (own_mi 6 rfl)) (by decide) (by decide)) qa5 qc5 (g := (mkF m 10 #[.val (.ref sb), .val (.ref st), .unset] [(.ref st)])) rfl (by rw [hml]; rfl) (Steps.refl _) (argsL := []) (rest := []) (lenOf own_pd_2829I rfl) rfl (by show 2 * 0 + _ ≤ _; exact Nat.le_of_eq rfl) (hb hby own_d20_10) (fun _ _ => ⟨rfl, e0, (by decide : 0 + 0 ≤ _), (by decide : 0 + 0 ≤ _)⟩)
  dsimp only [Pt.U, Pt.locs, Pt.cells, Pt.slots] at X5 l5 y5 z5 st5 hQ5
  subst l5 y5 z5
  obtain ⟨rfl, Nq5, eh5⟩ := hQ5
  have N5 := Fr.app N0 Nq5
  refine own_go (fun tq kq => st5.trans kq) ?_
  show own_Rn p e below _ (T5.setTop (mkF m 13 #[.val (.ref sb), .val (.ref st), .unset] [(.int (Int32.ofNat ds.length))]))
  refine own_go (fun tq kq => XS.istoreN X5.here hx rfl (hb hby own_d20_13) rfl (l' := #[.val (.ref sb), .val (.ref st), .val (.int (Int32.ofNat ds.length))]) rfl kq) ?_
  show own_Rn p e below _ (T5.setTop (mkF m 14 #[.val (.ref sb), .val (.ref st), .val (.int (Int32.ofNat ds.length))] []))
  refine own_go (fun tq kq => XS.aloadN X5.here hx rfl (hb hby own_d20_14) rfl rfl kq) ?_
  show own_Rn p e below _ (T5.setTop (mkF m 15 #[.val (.ref sb), .val (.ref st), .val (.int (Int32.ofNat ds.length))] [(.ref sb)]))
  refine own_go (fun tq kq => XS.aloadN X5.here hx rfl (hb hby own_d20_15) rfl rfl kq) ?_
  show own_Rn p e below _ (T5.setTop (mkF m 16 #[.val (.ref sb), .val (.ref st), .val (.int (Int32.ofNat ds.length))] [(.ref sb), (.ref sb)]))
  obtain ⟨T6, X6, e6, st6⟩ := getF X5 hx hZ hown (host := "") (Or.inl (hw _ (own_mi 139 rfl))) Via.refl eh5 Pm8 (g := (mkF m 16 #[.val (.ref sb), .val (.ref st), .val (.int (Int32.ofNat ds.length))] [(.ref sb), (.ref sb)])) rfl rfl (hb hby own_d20_16)
  refine own_go st6 ?_
  show own_Rn p e below _ (T6.setTop (mkF m 19 #[.val (.ref sb), .val (.ref st), .val (.int (Int32.ofNat ds.length))] [(.int (Int32.ofNat cs.length)), (.ref sb)]))
  refine own_go (fun tq kq => XS.iloadN X6.here hx rfl (hb hby own_d20_19) rfl kq) ?_
  show own_Rn p e below _ (T6.setTop (mkF m 20 #[.val (.ref sb), .val (.ref st), .val (.int (Int32.ofNat ds.length))] [(.int (Int32.ofNat ds.length)), (.int (Int32.ofNat cs.length)), (.ref sb)]))
  refine own_go (fun tq kq => XS.iadd X6.here hx rfl (hb hby own_d20_20) rfl kq) ?_
  show own_Rn p e below _ (T6.setTop (mkF m 21 #[.val (.ref sb), .val (.ref st), .val (.int (Int32.ofNat ds.length))] [(.int ((Int32.ofNat cs.length) + (Int32.ofNat ds.length))), (.ref sb)]))
  have hl : cs.length + ds.length ≤ 15 := by rw [hes, List.length_append] at h15; exact h15
  have hsum : Int32.ofNat cs.length + Int32.ofNat ds.length = Int32.ofNat es.length := by rw [hes, List.length_append]; exact (own_ofNat_add _ _).symm
  rw [hsum]
  show own_Rn p e below _ (T6.setTop (mkF m 21 #[.val (.ref sb), .val (.ref st), .val (.int (Int32.ofNat ds.length))] [(.int (Int32.ofNat es.length)), (.ref sb)]))
  have Zn7 : n0 ≤ h0.size := by omega
  obtain ⟨cq7, qq7, qr7⟩ := Pm4.cell
  obtain ⟨rv7, _, ⟨T7, L7, k7, n7⟩, -, X7, ⟨Lc7, hQ7, l7, y7, z7⟩, st7⟩ := X6.privateBack hx (y := (⟨"java/lang/AbstractStringBuilder", "ensureCapacityInternal", "(I)V"⟩ : MethodName)) hown (mvT hZ (hw _ (own_mi 141 rfl))) (mvT hZ (hw _ (own_mi 142 rfl))) (mvT hZ (own_selP (hw _ (own_mi 144 rfl)) (hw _ (own_mi 143 rfl)) (hw _ (own_mi 142 rfl)) (by decide))) (Cond.privateMethod_at (mvP hZ (hw _ (own_mi 143 rfl)) (args := #[]))) (mvT hZ (hw _ (own_mi 145 rfl))) (by decide) (backOf (W := 0) (rmEns l Z a0 hw [] (sb) (bv) (kb) (cs) ((Int32.ofNat es.length)) h0 n0 Zn7 Pm5 Pm6 Pm7 (own_le15 h15)) hZ (hw _ (own_mi 145 rfl)) (hw _ (own_mi 106 rfl)) (by decide) (by decide)) (g := (mkF m 21 #[.val (.ref sb), .val (.ref st), .val (.int (Int32.ofNat ds.length))] [(.int (Int32.ofNat es.length)), (.ref sb)])) rfl (by rw [hml]; rfl) (Steps.refl _) (a := sb) (by rw [e6]; exact qq7) qr7 (argsL := [(.int (Int32.ofNat es.length))]) (rest := []) (lenOf own_pd_28I29V rfl) rfl (by show 2 * 0 + _ ≤ _; exact Nat.le_of_eq rfl) (hb hby own_d20_21) (fun _ _ => ⟨rfl, e6, (by decide : 0 + 0 ≤ _), (by decide : 0 + 0 ≤ _)⟩)
  dsimp only [Pt.U, Pt.locs, Pt.cells, Pt.slots] at X7 l7 y7 z7 st7 hQ7
  subst l7 y7 z7
  obtain ⟨rfl, Nq7, eh7⟩ := hQ7
  have N7 := Fr.app N5 Nq7
  refine own_go (fun tq kq => st7.trans kq) ?_
  show own_Rn p e below _ (T7.setTop (mkF m 24 #[.val (.ref sb), .val (.ref st), .val (.int (Int32.ofNat ds.length))] []))
  refine own_go (fun tq kq => XS.aloadN X7.here hx rfl (hb hby own_d20_24) rfl rfl kq) ?_
  show own_Rn p e below _ (T7.setTop (mkF m 25 #[.val (.ref sb), .val (.ref st), .val (.int (Int32.ofNat ds.length))] [(.ref sb)]))
  refine own_go (fun tq kq => XS.aloadN X7.here hx rfl (hb hby own_d20_25) rfl rfl kq) ?_
  show own_Rn p e below _ (T7.setTop (mkF m 26 #[.val (.ref sb), .val (.ref st), .val (.int (Int32.ofNat ds.length))] [(.ref sb), (.ref sb)]))
  obtain ⟨T8, X8, e8, st8⟩ := getF X7 hx hZ hown (host := "") (Or.inl (hw _ (own_mi 139 rfl))) Via.refl eh7 Pm8 (g := (mkF m 26 #[.val (.ref sb), .val (.ref st), .val (.int (Int32.ofNat ds.length))] [(.ref sb), (.ref sb)])) rfl rfl (hb hby own_d20_26)
  refine own_go st8 ?_
  show own_Rn p e below _ (T8.setTop (mkF m 29 #[.val (.ref sb), .val (.ref st), .val (.int (Int32.ofNat ds.length))] [(.int (Int32.ofNat cs.length)), (.ref sb)]))
  refine own_go (fun tq kq => XS.aloadN X8.here hx rfl (hb hby own_d20_29) rfl rfl kq) ?_
  show own_Rn p e below _ (T8.setTop (mkF m 30 #[.val (.ref sb), .val (.ref st), .val (.int (Int32.ofNat ds.length))] [(.ref st), (.int (Int32.ofNat cs.length)), (.ref sb)]))
  have Zn9 : n0 ≤ h0.size := by omega
  obtain ⟨cq9, qq9, qr9⟩ := Pm4.cell
  obtain ⟨rv9, _, ⟨T9, L9, k9, n9⟩, -, X9, ⟨Lc9, hQ9, l9, y9, z9⟩, st9⟩ := X8.privateBack hx (y := (⟨"java/lang/AbstractStringBuilder", "putStringAt", "(ILjava/lang/String;)V"⟩ : MethodName)) hown (mvT hZ (hw _ (own_mi 146 rfl))) (mvT hZ (hw _ (own_mi 147 rfl))) (mvT hZ (own_selP (hw _ (own_mi 149 rfl)) (hw _ (own_mi 148 rfl)) (hw _ (own_mi 147 rfl)) (by decide))) (Cond.privateMethod_at (mvP hZ (hw _ (own_mi 148 rfl)) (args := #[]))) (mvT hZ (hw _ (own_mi 150 rfl))) (by decide) (backOf (W := 0) (rmPSA l Z a0 hw [] (sb) (st) (t) (kt) (ds) (bv) (kb) (cs) (es) (G1) h0 n0 Zn9 Pm0 Pm1 Pm2 Pm3 Pm4 Pm5 Pm6 Pm7 (hes) (h15) (ntb) gbv (O2) (P5) X00) hZ (hw _ (own_mi 150 rfl)) (hw _ (own_mi 106 rfl)) (by decide) (by decide)) (g := (mkF m 30 #[.val (.ref sb), .val (.ref st), .val (.int (Int32.ofNat ds.length))] [(.ref st), (.int (Int32.ofNat cs.length)), (.ref sb)])) rfl (by rw [hml]; rfl) (Steps.refl _) (a := sb) (by rw [e8]; exact qq9) qr9 (argsL := [(.int (Int32.ofNat cs.length)), (.ref st)]) (rest := []) (lenOf own_pd_28ILjava2flang2fString3b29V rfl) rfl (by show 2 * 0 + _ ≤ _; exact Nat.le_of_eq rfl) (hb hby own_d20_30) (fun _ _ => ⟨rfl, e8, (by decide : 0 + 0 ≤ _), (by decide : 0 + 0 ≤ _)⟩)
  dsimp only [Pt.U, Pt.locs, Pt.cells, Pt.slots] at X9 l9 y9 z9 st9 hQ9
  subst l9 y9 z9
  obtain ⟨rfl, Nq9, Kq9, G0_9⟩ := hQ9
  have N9 := Fr.app N7 Nq9
  have sz10 : h0.size ≤ T9.heap.size := Kq9.1
  have K10 := K0.trans Kq9 (allS (Or.inl (List.mem_of_getElem? (i := 1) rfl)) all0)
  refine own_go (fun tq kq => st9.trans kq) ?_
  show own_Rn p e below _ (T9.setTop (mkF m 33 #[.val (.ref sb), .val (.ref st), .val (.int (Int32.ofNat ds.length))] []))
  refine own_go (fun tq kq => XS.aloadN X9.here hx rfl (hb hby own_d20_33) rfl rfl kq) ?_
  show own_Rn p e below _ (T9.setTop (mkF m 34 #[.val (.ref sb), .val (.ref st), .val (.int (Int32.ofNat ds.length))] [(.ref sb)]))
  refine own_go (fun tq kq => XS.dup X9.here hx rfl (hb hby own_d20_34) rfl rfl kq) ?_
  show own_Rn p e below _ (T9.setTop (mkF m 35 #[.val (.ref sb), .val (.ref st), .val (.int (Int32.ofNat ds.length))] [(.ref sb), (.ref sb)]))
  have ne11 : sb ≠ bv := Exa.neArv (Pm4.keep Kq9) G0_9 (hw _ (own_mi 97 rfl))
  have F12 : Fld Z T9.heap sb "java/lang/AbstractStringBuilder" "count" "I" (.int (Int32.ofNat cs.length)) := (Pm8.keep Kq9 (ninS ne11 nin0))
  obtain ⟨T13, X13, e13, st13⟩ := getF X9 hx hZ hown (host := "") (Or.inl (hw _ (own_mi 139 rfl))) Via.refl rfl F12 (g := (mkF m 35 #[.val (.ref sb), .val (.ref st), .val (.int (Int32.ofNat ds.length))] [(.ref sb), (.ref sb)])) rfl rfl (hb hby own_d20_35)
  refine own_go st13 ?_
  show own_Rn p e below _ (T13.setTop (mkF m 38 #[.val (.ref sb), .val (.ref st), .val (.int (Int32.ofNat ds.length))] [(.int (Int32.ofNat cs.length)), (.ref sb)]))
  refine own_go (fun tq kq => XS.iloadN X13.here hx rfl (hb hby own_d20_38) rfl kq) ?_
  show own_Rn p e below _ (T13.setTop (mkF m 39 #[.val (.ref sb), .val (.ref st), .val (.int (Int32.ofNat ds.length))] [(.int (Int32.ofNat ds.length)), (.int (Int32.ofNat cs.length)), (.ref sb)]))
  refine own_go (fun tq kq => XS.iadd X13.here hx rfl (hb hby own_d20_39) rfl kq) ?_
  show own_Rn p e below _ (T13.setTop (mkF m 40 #[.val (.ref sb), .val (.ref st), .val (.int (Int32.ofNat ds.length))] [(.int ((Int32.ofNat cs.length) + (Int32.ofNat ds.length))), (.ref sb)]))
  rw [hsum]
  show own_Rn p e below _ (T13.setTop (mkF m 40 #[.val (.ref sb), .val (.ref st), .val (.int (Int32.ofNat ds.length))] [(.int (Int32.ofNat es.length)), (.ref sb)]))
  have F14 : Exa Z T9.heap sb "java/lang/StringBuilder" := (Pm4.keep Kq9)
  obtain ⟨T15, h15, X15, e15, W15, st15⟩ := putF X13 hx hZ hown (host := "") (Or.inl (hw _ (own_mi 139 rfl))) Via.refl e13 F12 F14 (Or.inl (hw _ (own_mi 140 rfl))) (hw _ (own_mi 97 rfl)) (ty := .int) own_fd_I rfl rfl (g := (mkF m 40 #[.val (.ref sb), .val (.ref st), .val (.int (Int32.ofNat ds.length))] [(.int (Int32.ofNat es.length)), (.ref sb)])) rfl rfl (hb hby own_d20_40)
  refine own_go st15 ?_
  have N15 := Fr.snoc X15 N9 gsb
  have Fw15 := F12.same W15
  have sz16 : T9.heap.size ≤ h15.size := Nat.le_of_eq (Wr.size W15).symm
  have K16 := K10.wr W15 (Or.inl (List.mem_of_getElem? (i := 0) rfl))
  show own_Rn p e below _ (T15.setTop (mkF m 43 #[.val (.ref sb), .val (.ref st), .val (.int (Int32.ofNat ds.length))] []))
  refine own_go (fun tq kq => XS.aloadN X15.here hx rfl (hb hby own_d20_43) rfl rfl kq) ?_
  show own_Rn p e below _ (T15.setTop (mkF m 44 #[.val (.ref sb), .val (.ref st), .val (.int (Int32.ofNat ds.length))] [(.ref sb)]))
  have F17 : Fld Z h15 sb "java/lang/AbstractStringBuilder" "value" "[B" (.ref bv) := ((Pm5.keep Kq9 (ninS ne11 nin0)).other W15 (Or.inr (slot_ne (Or.inl (hw _ (own_mi 111 rfl))) (Or.inl (hw _ (own_mi 140 rfl))) (by decide) (t := (.array .byte)) (t' := .int) own_fd_5bB own_fd_I)))
  have F18 : Fld Z h15 sb "java/lang/AbstractStringBuilder" "coder" "B" (.int (0 : Int32)) := ((Pm6.keep Kq9 (ninS ne11 nin0)).other W15 (Or.inr (slot_ne (Or.inl (hw _ (own_mi 113 rfl))) (Or.inl (hw _ (own_mi 140 rfl))) (by decide) (t := .byte) (t' := .int) own_fd_B own_fd_I)))
  have F19 : Arv Z h15 bv kb .byte (16 : Int32) (own_bs es) (.int 0) := (G0_9.other W15 (Ne.symm ne11))
  exact own_ret X15 (v := some (.ref sb)) (fun h => by rw [Bd.returns] at h; cases h) (fun fs hr => X15.areturnOut hx rfl Bd.returns rfl (hb hby own_d20_44) hr) (by rw [e15]; exact ⟨rfl, N15, K16, F17, F18, Fw15, F19⟩) (by decide) (by decide)
theorem own_ef_rmSA (m : MethodId) (sb : Addr) (st : Addr) (t : Addr) (kt : ClassId) (ds : List Int32) (bv : Addr) (kb : ClassId) (cs : List Int32) (es : List Int32) (G1 : Int32) : entryFrame m #[(.ref sb), (.ref st)] 2 = mkF m 0 #[.val (.ref sb), .val (.ref st)] [] := by first | (simp [entryFrame, mkF, argsToLocals, Value.category]; done) | rfl
theorem own_d19_0 : decode jdk_67_method_7_code 0 = .ok (.aload_n 0, 1) := by decide +kernel
theorem own_d19_1 : decode jdk_67_method_7_code 1 = .ok (.aload_n 1, 1) := by decide +kernel
theorem own_d19_2 : decode jdk_67_method_7_code 2 = .ok (.invokespecial 29, 3) := by decide +kernel
theorem own_pd_28Ljava2flang2fString3b29Ljava2flang2fAbstractStringBuilder3b : parseMethodDescriptor "(Ljava/lang/String;)Ljava/lang/AbstractStringBuilder;" = some ⟨[(.object "java/lang/String")], some (.object "java/lang/AbstractStringBuilder")⟩ := by decide +kernel
theorem own_d19_5 : decode jdk_67_method_7_code 5 = .ok (.pop, 1) := by decide +kernel
theorem own_d19_6 : decode jdk_67_method_7_code 6 = .ok (.aload_n 0, 1) := by decide +kernel
theorem own_d19_7 : decode jdk_67_method_7_code 7 = .ok (.areturn, 1) := by decide +kernel
def Q_rmSA (Z : State) (sb : Addr) (st : Addr) (t : Addr) (kt : ClassId) (ds : List Int32) (bv : Addr) (kb : ClassId) (cs : List Int32) (es : List Int32) (G1 : Int32) (h0 : Heap) (n0 : Nat) (vq : Option Value) (hhq : Heap) (Lq : List Loc) : Prop := vq = some (.ref sb) ∧ Fr n0 Lq ∧ Keep h0 hhq [sb, bv] ∧ Fld Z hhq sb "java/lang/AbstractStringBuilder" "value" "[B" (.ref bv) ∧ Fld Z hhq sb "java/lang/AbstractStringBuilder" "coder" "B" (.int (0 : Int32)) ∧ Fld Z hhq sb "java/lang/AbstractStringBuilder" "count" "I" (.int (Int32.ofNat es.length)) ∧ Arv Z hhq bv kb .byte (16 : Int32) (own_bs es) (.int 0)
set_option maxRecDepth 65536 in
set_option maxHeartbeats 40000000 in
theorem rmSA (l : Launch) (Z : State) (a0 : Array Value) (hw : ∀ d ∈ tables_1, d.before a0 Z = true) (ws : List Jvm.Cond) (sb : Addr) (st : Addr) (t : Addr) (kt : ClassId) (ds : List Int32) (bv : Addr) (kb : ClassId) (cs : List Int32) (es : List Int32) (G1 : Int32) (h0 : Heap) (n0 : Nat) (Z0 : n0 ≤ h0.size) (Pm0 : Exa Z h0 st "java/lang/String") (Pm1 : Fld Z h0 st "java/lang/String" "value" "[B" (.ref t)) (Pm2 : Fld Z h0 st "java/lang/String" "coder" "B" (.int (0 : Int32))) (Pm3 : Arv Z h0 t kt .byte (Int32.ofNat ds.length) (own_bs ds) (.int 0)) (Pm4 : Exa Z h0 sb "java/lang/StringBuilder") (Pm5 : Fld Z h0 sb "java/lang/AbstractStringBuilder" "value" "[B" (.ref bv)) (Pm6 : Fld Z h0 sb "java/lang/AbstractStringBuilder" "coder" "B" (.int (0 : Int32))) (Pm7 : Arv Z h0 bv kb .byte (16 : Int32) (own_bs cs) (.int 0)) (Pm8 : Fld Z h0 sb "java/lang/AbstractStringBuilder" "count" "I" (.int (Int32.ofNat cs.length))) (hes : (es = cs ++ ds)) (h15 : (es.length ≤ 15)) (ntb : (t ≠ bv)) (gbv : n0 ≤ bv) (gsb : n0 ≤ sb) (O2 : Sta Z Z.heap "java/lang/String" "COMPACT_STRINGS" "Z" (.int G1)) (P5 : (¬ (G1 = (0 : Int32)))) (X00 : Old Z n0 h0) :
    MetFree l (⟨"java/lang/StringBuilder", "append", "(Ljava/lang/String;)Ljava/lang/StringBuilder;"⟩ : MethodName) (head1 (Jvm.Cond.code (⟨"java/lang/StringBuilder", "append", "(Ljava/lang/String;)Ljava/lang/StringBuilder;"⟩ : MethodName) jdk_67_method_7_code 2 (some (.object "java/lang/StringBuilder")) :: ws) ({ frames := 4, cells := 0, slots := 0, locals := 70 } : Room)) (fun aq U => aq = #[(.ref sb), (.ref st)] ∧ Z.Warmed39 U.vm ∧ U.heap = h0) (fun _ _ _ _ _ => True) (fun _ U oq U' => ∃ vq Lq, oq = .returned vq ∧ Q_rmSA Z sb st t kt ds bv kb cs es G1 h0 n0 vq U'.heap Lq ∧ FrameEnd U oq U' Lq ({ frames := 4, cells := 0, slots := 0, locals := 70 } : Room).cells ({ frames := 4, cells := 0, slots := 0, locals := 70 } : Room).slots) := by
  refine MetFree.of_bodySF (plainFor_of_name own_pn_java_lang_StringBuilder) hisR ?_
  intro p e s m args below meth c s₁ Bd hml0 hP hK
  obtain ⟨rfl, hZ, hh⟩ := hP
  have hx := Bd.exec
  have hby := Bd.bytes
  have hml : c.maxLocals = 2 := hml0
  have hown : s.vm.findClass "java/lang/StringBuilder" = some m.cls := findClass_of_methodNamed Bd.named
  have hnm := (name_of_methodNamed Bd.named Bd.method).1
  have X0 : Stand p l e ({ frames := 4, cells := 0, slots := 0, locals := 70 } : Room) s m #[(.ref sb), (.ref st)] below meth c s₁ [] 0 0 := Stand.of_body Bd
  have e0 : s₁.heap = h0 := by rw [← hh, Bd.state]; rfl
  have N0 := Fr.nil n0
  have K0 : Keep h0 h0 [sb, bv] := Keep.refl _ _
  refine own_go (S' := s₁.setTop (mkF m 0 #[.val (.ref sb), .val (.ref st)] [])) (fun tq kq => castTop (own_ef_rmSA m sb st t kt ds bv kb cs es G1) kq) ?_
  have lt1 : @LT.lt Nat _ st h0.size := Pm0.lt
  have lt2 : @LT.lt Nat _ t h0.size := Pm3.lt
  have lt3 : @LT.lt Nat _ sb h0.size := Pm4.lt
  have lt4 : @LT.lt Nat _ bv h0.size := Pm7.lt
  refine own_go (fun tq kq => XS.aloadN X0.here hx rfl (hb hby own_d19_0) rfl rfl kq) ?_
  show own_Rn p e below _ (s₁.setTop (mkF m 1 #[.val (.ref sb), .val (.ref st)] [(.ref sb)]))
  refine own_go (fun tq kq => XS.aloadN X0.here hx rfl (hb hby own_d19_1) rfl rfl kq) ?_
  show own_Rn p e below _ (s₁.setTop (mkF m 2 #[.val (.ref sb), .val (.ref st)] [(.ref st), (.ref sb)]))
  have Zn5 : n0 ≤ h0.size := by omega
  obtain ⟨rv5, _, ⟨T5, L5, k5, n5⟩, -, X5, ⟨Lc5, hQ5, l5, y5, z5⟩, st5⟩ := superBack X0 hx hZ (y := (⟨"java/lang/AbstractStringBuilder", "append", "(Ljava/lang/String;)Ljava/lang/AbstractStringBuilder;"⟩ : MethodName)) hown (hw _ (own_mi 124 rfl)) (own_sameM (hw _ (own_mi 125 rfl)) (hw _ (own_mi 144 rfl)) rfl (by decide)) (hw _ (own_mi 125 rfl)) (hw _ (own_mi 126 rfl)) (by decide) (backOf (W := 0) (rmAA l Z a0 hw [] (sb) (st) (t) (kt) (ds) (bv) (kb) (cs) (es) (G1) h0 n0 Zn5 Pm0 Pm1 Pm2 Pm3 Pm4 Pm5 Pm6 Pm7 Pm8 (hes) (h15) (ntb) gbv gsb (O2) (P5) X00) hZ (hw _ (own_mi 128 rfl)) (hw _ (own_mi 106 rfl)) (by decide) (by decide)) e0 (Ins.self Pm4) (g := (mkF m 2 #[.val (.ref sb), .val (.ref st)] [(.ref st), (.ref sb)])) rfl (by rw [hml]; rfl) (hw _ (own_mi 128 rfl)) (argsL := [(.ref st)]) (rest := []) (lenOf own_pd_28Ljava2flang2fString3b29Ljava2flang2fAbstractStringBuilder3b rfl) rfl (by show 2 * 0 + _ ≤ _; exact Nat.le_of_eq rfl) (hb hby own_d19_2) (fun _ _ => ⟨rfl, e0, (by decide : 0 + 0 ≤ _), (by decide : 0 + 0 ≤ _)⟩)
  dsimp only [Pt.U, Pt.locs, Pt.cells, Pt.slots] at X5 l5 y5 z5 st5 hQ5
  subst l5 y5 z5
  obtain ⟨rfl, Nq5, Kq5, G0_5, G1_5, G2_5, G3_5⟩ := hQ5
  have N5 := Fr.app N0 Nq5
  have sz6 : h0.size ≤ T5.heap.size := Kq5.1
  have K6 := K0.trans Kq5 (allS (Or.inl (List.mem_of_getElem? (i := 0) rfl)) (allS (Or.inl (List.mem_of_getElem? (i := 1) rfl)) all0))
  refine own_go (fun tq kq => st5.trans kq) ?_
  show own_Rn p e below _ (T5.setTop (mkF m 5 #[.val (.ref sb), .val (.ref st)] [(.ref sb)]))
  refine own_go (fun tq kq => XS.pop X5.here hx rfl (hb hby own_d19_5) rfl rfl kq) ?_
  show own_Rn p e below _ (T5.setTop (mkF m 6 #[.val (.ref sb), .val (.ref st)] []))
  refine own_go (fun tq kq => XS.aloadN X5.here hx rfl (hb hby own_d19_6) rfl rfl kq) ?_
  show own_Rn p e below _ (T5.setTop (mkF m 7 #[.val (.ref sb), .val (.ref st)] [(.ref sb)]))
  exact own_ret X5 (v := some (.ref sb)) (fun h => by rw [Bd.returns] at h; cases h) (fun fs hr => X5.areturnOut hx rfl Bd.returns rfl (hb hby own_d19_7) hr) (⟨rfl, N5, K6, G0_5, G1_5, G2_5, G3_5⟩) (by decide) (by decide)
theorem own_ef_rmGV (m : MethodId) (sb : Addr) (bv : Addr) : entryFrame m #[(.ref sb)] 1 = mkF m 0 #[.val (.ref sb)] [] := by first | (simp [entryFrame, mkF, argsToLocals, Value.category]; done) | rfl
theorem own_d31_0 : decode jdk_68_method_64_code 0 = .ok (.aload_n 0, 1) := by decide +kernel
theorem own_d31_1 : decode jdk_68_method_64_code 1 = .ok (.getfield 15, 3) := by decide +kernel
theorem own_d31_4 : decode jdk_68_method_64_code 4 = .ok (.areturn, 1) := by decide +kernel
def Q_rmGV (Z : State) (sb : Addr) (bv : Addr) (h0 : Heap) (n0 : Nat) (vq : Option Value) (hhq : Heap) (Lq : List Loc) : Prop := vq = some (.ref bv) ∧ Fr n0 Lq ∧ hhq = h0
set_option maxRecDepth 65536 in
set_option maxHeartbeats 40000000 in
theorem rmGV (l : Launch) (Z : State) (a0 : Array Value) (hw : ∀ d ∈ tables_1, d.before a0 Z = true) (ws : List Jvm.Cond) (sb : Addr) (bv : Addr) (h0 : Heap) (n0 : Nat) (Z0 : n0 ≤ h0.size) (Pm0 : Fld Z h0 sb "java/lang/AbstractStringBuilder" "value" "[B" (.ref bv)) :
    MetFree l (⟨"java/lang/AbstractStringBuilder", "getValue", "()[B"⟩ : MethodName) (head1 (Jvm.Cond.code (⟨"java/lang/AbstractStringBuilder", "getValue", "()[B"⟩ : MethodName) jdk_68_method_64_code 1 (some (.array .byte)) :: ws) ({ frames := 0, cells := 0, slots := 0, locals := 0 } : Room)) (fun aq U => aq = #[(.ref sb)] ∧ Z.Warmed39 U.vm ∧ U.heap = h0) (fun _ _ _ _ _ => True) (fun _ U oq U' => ∃ vq Lq, oq = .returned vq ∧ Q_rmGV Z sb bv h0 n0 vq U'.heap Lq ∧ FrameEnd U oq U' Lq ({ frames := 0, cells := 0, slots := 0, locals := 0 } : Room).cells ({ frames := 0, cells := 0, slots := 0, locals := 0 } : Room).slots) := by
  refine MetFree.of_bodySF (plainFor_of_name own_pn_java_lang_AbstractStringBuilder) hisR ?_
  intro p e s m args below meth c s₁ Bd hml0 hP hK
  obtain ⟨rfl, hZ, hh⟩ := hP
  have hx := Bd.exec
  have hby := Bd.bytes
  have hml : c.maxLocals = 1 := hml0
  have hown : s.vm.findClass "java/lang/AbstractStringBuilder" = some m.cls := findClass_of_methodNamed Bd.named
  have hnm := (name_of_methodNamed Bd.named Bd.method).1
  have X0 : Stand p l e ({ frames := 0, cells := 0, slots := 0, locals := 0 } : Room) s m #[(.ref sb)] below meth c s₁ [] 0 0 := Stand.of_body Bd
  have e0 : s₁.heap = h0 := by rw [← hh, Bd.state]; rfl
  have N0 := Fr.nil n0
  have K0 : Keep h0 h0 [] := Keep.refl _ _
  refine own_go (S' := s₁.setTop (mkF m 0 #[.val (.ref sb)] [])) (fun tq kq => castTop (own_ef_rmGV m sb bv) kq) ?_
  have lt1 : @LT.lt Nat _ sb h0.size := Pm0.lt
  refine own_go (fun tq kq => XS.aloadN X0.here hx rfl (hb hby own_d31_0) rfl rfl kq) ?_
  show own_Rn p e below _ (s₁.setTop (mkF m 1 #[.val (.ref sb)] [(.ref sb)]))
  obtain ⟨T2, X2, e2, st2⟩ := getF X0 hx hZ hown (host := "") (Or.inl (hw _ (own_mi 110 rfl))) Via.refl e0 Pm0 (g := (mkF m 1 #[.val (.ref sb)] [(.ref sb)])) rfl rfl (hb hby own_d31_1)
  refine own_go st2 ?_
  show own_Rn p e below _ (T2.setTop (mkF m 4 #[.val (.ref sb)] [(.ref bv)]))
  exact own_ret X2 (v := some (.ref bv)) (fun h => by rw [Bd.returns] at h; cases h) (fun fs hr => X2.areturnOut hx rfl Bd.returns rfl (hb hby own_d31_4) hr) (by rw [e2]; exact ⟨rfl, N0, rfl⟩) (by decide) (by decide)
theorem own_ef_rmAL (m : MethodId) (sb : Addr) (nn : Int32) : entryFrame m #[(.ref sb)] 1 = mkF m 0 #[.val (.ref sb)] [] := by first | (simp [entryFrame, mkF, argsToLocals, Value.category]; done) | rfl
theorem own_d33_0 : decode jdk_68_method_6_code 0 = .ok (.aload_n 0, 1) := by decide +kernel
theorem own_d33_1 : decode jdk_68_method_6_code 1 = .ok (.getfield 79, 3) := by decide +kernel
theorem own_d33_4 : decode jdk_68_method_6_code 4 = .ok (.ireturn, 1) := by decide +kernel
def Q_rmAL (Z : State) (sb : Addr) (nn : Int32) (h0 : Heap) (n0 : Nat) (vq : Option Value) (hhq : Heap) (Lq : List Loc) : Prop := vq = some (.int nn) ∧ Fr n0 Lq ∧ hhq = h0
set_option maxRecDepth 65536 in
set_option maxHeartbeats 40000000 in
theorem rmAL (l : Launch) (Z : State) (a0 : Array Value) (hw : ∀ d ∈ tables_1, d.before a0 Z = true) (ws : List Jvm.Cond) (sb : Addr) (nn : Int32) (h0 : Heap) (n0 : Nat) (Z0 : n0 ≤ h0.size) (Pm0 : Fld Z h0 sb "java/lang/AbstractStringBuilder" "count" "I" (.int nn)) :
    MetFree l (⟨"java/lang/AbstractStringBuilder", "length", "()I"⟩ : MethodName) (head1 (Jvm.Cond.code (⟨"java/lang/AbstractStringBuilder", "length", "()I"⟩ : MethodName) jdk_68_method_6_code 1 (some .int) :: ws) ({ frames := 0, cells := 0, slots := 0, locals := 0 } : Room)) (fun aq U => aq = #[(.ref sb)] ∧ Z.Warmed39 U.vm ∧ U.heap = h0) (fun _ _ _ _ _ => True) (fun _ U oq U' => ∃ vq Lq, oq = .returned vq ∧ Q_rmAL Z sb nn h0 n0 vq U'.heap Lq ∧ FrameEnd U oq U' Lq ({ frames := 0, cells := 0, slots := 0, locals := 0 } : Room).cells ({ frames := 0, cells := 0, slots := 0, locals := 0 } : Room).slots) := by
  refine MetFree.of_bodySF (plainFor_of_name own_pn_java_lang_AbstractStringBuilder) hisR ?_
  intro p e s m args below meth c s₁ Bd hml0 hP hK
  obtain ⟨rfl, hZ, hh⟩ := hP
  have hx := Bd.exec
  have hby := Bd.bytes
  have hml : c.maxLocals = 1 := hml0
  have hown : s.vm.findClass "java/lang/AbstractStringBuilder" = some m.cls := findClass_of_methodNamed Bd.named
  have hnm := (name_of_methodNamed Bd.named Bd.method).1
  have X0 : Stand p l e ({ frames := 0, cells := 0, slots := 0, locals := 0 } : Room) s m #[(.ref sb)] below meth c s₁ [] 0 0 := Stand.of_body Bd
  have e0 : s₁.heap = h0 := by rw [← hh, Bd.state]; rfl
  have N0 := Fr.nil n0
  have K0 : Keep h0 h0 [] := Keep.refl _ _
  refine own_go (S' := s₁.setTop (mkF m 0 #[.val (.ref sb)] [])) (fun tq kq => castTop (own_ef_rmAL m sb nn) kq) ?_
  have lt1 : @LT.lt Nat _ sb h0.size := Pm0.lt
  refine own_go (fun tq kq => XS.aloadN X0.here hx rfl (hb hby own_d33_0) rfl rfl kq) ?_
  show own_Rn p e below _ (s₁.setTop (mkF m 1 #[.val (.ref sb)] [(.ref sb)]))
  obtain ⟨T2, X2, e2, st2⟩ := getF X0 hx hZ hown (host := "") (Or.inl (hw _ (own_mi 139 rfl))) Via.refl e0 Pm0 (g := (mkF m 1 #[.val (.ref sb)] [(.ref sb)])) rfl rfl (hb hby own_d33_1)
  refine own_go st2 ?_
  show own_Rn p e below _ (T2.setTop (mkF m 4 #[.val (.ref sb)] [(.int nn)]))
  exact own_ret X2 (v := some (.int nn)) (fun h => by rw [Bd.returns] at h; cases h) (fun fs hr => retI X2 hx Bd.returns (hb hby own_d33_4) hr) (by rw [e2]; exact ⟨rfl, N0, rfl⟩) (by decide) (by decide)
theorem own_ef_rmSL (m : MethodId) (sb : Addr) (nn : Int32) : entryFrame m #[(.ref sb)] 1 = mkF m 0 #[.val (.ref sb)] [] := by first | (simp [entryFrame, mkF, argsToLocals, Value.category]; done) | rfl
theorem own_d32_0 : decode jdk_67_method_93_code 0 = .ok (.aload_n 0, 1) := by decide +kernel
theorem own_d32_1 : decode jdk_67_method_93_code 1 = .ok (.invokespecial 343, 3) := by decide +kernel
theorem own_d32_4 : decode jdk_67_method_93_code 4 = .ok (.ireturn, 1) := by decide +kernel
def Q_rmSL (Z : State) (sb : Addr) (nn : Int32) (h0 : Heap) (n0 : Nat) (vq : Option Value) (hhq : Heap) (Lq : List Loc) : Prop := vq = some (.int nn) ∧ Fr n0 Lq ∧ hhq = h0
set_option maxRecDepth 65536 in
set_option maxHeartbeats 40000000 in
theorem rmSL (l : Launch) (Z : State) (a0 : Array Value) (hw : ∀ d ∈ tables_1, d.before a0 Z = true) (ws : List Jvm.Cond) (sb : Addr) (nn : Int32) (h0 : Heap) (n0 : Nat) (Z0 : n0 ≤ h0.size) (Pm0 : Exa Z h0 sb "java/lang/StringBuilder") (Pm1 : Fld Z h0 sb "java/lang/AbstractStringBuilder" "count" "I" (.int nn)) :
    MetFree l (⟨"java/lang/StringBuilder", "length", "()I"⟩ : MethodName) (head1 (Jvm.Cond.code (⟨"java/lang/StringBuilder", "length", "()I"⟩ : MethodName) jdk_67_method_93_code 1 (some .int) :: ws) ({ frames := 1, cells := 0, slots := 0, locals := 12 } : Room)) (fun aq U => aq = #[(.ref sb)] ∧ Z.Warmed39 U.vm ∧ U.heap = h0) (fun _ _ _ _ _ => True) (fun _ U oq U' => ∃ vq Lq, oq = .returned vq ∧ Q_rmSL Z sb nn h0 n0 vq U'.heap Lq ∧ FrameEnd U oq U' Lq ({ frames := 1, cells := 0, slots := 0, locals := 12 } : Room).cells ({ frames := 1, cells := 0, slots := 0, locals := 12 } : Room).slots) := by
  refine MetFree.of_bodySF (plainFor_of_name own_pn_java_lang_StringBuilder) hisR ?_
  intro p e s m args below meth c s₁ Bd hml0 hP hK
  obtain ⟨rfl, hZ, hh⟩ := hP
  have hx := Bd.exec
  have hby := Bd.bytes
  have hml : c.maxLocals = 1 := hml0
  have hown : s.vm.findClass "java/lang/StringBuilder" = some m.cls := findClass_of_methodNamed Bd.named
  have hnm := (name_of_methodNamed Bd.named Bd.method).1
  have X0 : Stand p l e ({ frames := 1, cells := 0, slots := 0, locals := 12 } : Room) s m #[(.ref sb)] below meth c s₁ [] 0 0 := Stand.of_body Bd
  have e0 : s₁.heap = h0 := by rw [← hh, Bd.state]; rfl
  have N0 := Fr.nil n0
  have K0 : Keep h0 h0 [] := Keep.refl _ _
  refine own_go (S' := s₁.setTop (mkF m 0 #[.val (.ref sb)] [])) (fun tq kq => castTop (own_ef_rmSL m sb nn) kq) ?_
  have lt1 : @LT.lt Nat _ sb h0.size := Pm0.lt
  refine own_go (fun tq kq => XS.aloadN X0.here hx rfl (hb hby own_d32_0) rfl rfl kq) ?_
  show own_Rn p e below _ (s₁.setTop (mkF m 1 #[.val (.ref sb)] [(.ref sb)]))
  have Zn2 : n0 ≤ h0.size := by omega
  obtain ⟨rv2, _, ⟨T2, L2, k2, n2⟩, -, X2, ⟨Lc2, hQ2, l2, y2, z2⟩, st2⟩ := superBack X0 hx hZ (y := (⟨"java/lang/AbstractStringBuilder", "length", "()I"⟩ : MethodName)) hown (hw _ (own_mi 195 rfl)) (own_sameM (hw _ (own_mi 191 rfl)) (hw _ (own_mi 144 rfl)) rfl (by decide)) (hw _ (own_mi 191 rfl)) (hw _ (own_mi 126 rfl)) (by decide) (backOf (W := 0) (rmAL l Z a0 hw [] (sb) (nn) h0 n0 Zn2 Pm1) hZ (hw _ (own_mi 196 rfl)) (hw _ (own_mi 106 rfl)) (by decide) (by decide)) e0 (Ins.self Pm0) (g := (mkF m 1 #[.val (.ref sb)] [(.ref sb)])) rfl (by rw [hml]; rfl) (hw _ (own_mi 196 rfl)) (argsL := []) (rest := []) (lenOf own_pd_2829I rfl) rfl (by show 2 * 0 + _ ≤ _; exact Nat.le_of_eq rfl) (hb hby own_d32_1) (fun _ _ => ⟨rfl, e0, (by decide : 0 + 0 ≤ _), (by decide : 0 + 0 ≤ _)⟩)
  dsimp only [Pt.U, Pt.locs, Pt.cells, Pt.slots] at X2 l2 y2 z2 st2 hQ2
  subst l2 y2 z2
  obtain ⟨rfl, Nq2, eh2⟩ := hQ2
  have N2 := Fr.app N0 Nq2
  refine own_go (fun tq kq => st2.trans kq) ?_
  show own_Rn p e below _ (T2.setTop (mkF m 4 #[.val (.ref sb)] [(.int nn)]))
  exact own_ret X2 (v := some (.int nn)) (fun h => by rw [Bd.returns] at h; cases h) (fun fs hr => retI X2 hx Bd.returns (hb hby own_d32_4) hr) (by rw [eh2]; exact ⟨rfl, N2, rfl⟩) (by decide) (by decide)
theorem own_ef_rmIL (m : MethodId) (sb : Addr) (G1 : Int32) : entryFrame m #[(.ref sb)] 1 = mkF m 0 #[.val (.ref sb)] [] := by first | (simp [entryFrame, mkF, argsToLocals, Value.category]; done) | rfl
theorem own_d34_0 : decode jdk_68_method_68_code 0 = .ok (.getstatic 18, 3) := by decide +kernel
theorem own_d34_3 : decode jdk_68_method_68_code 3 = .ok (.ifCond .eq 14, 3) := by decide +kernel
theorem own_d34_6 : decode jdk_68_method_68_code 6 = .ok (.aload_n 0, 1) := by decide +kernel
theorem own_d34_7 : decode jdk_68_method_68_code 7 = .ok (.getfield 22, 3) := by decide +kernel
theorem own_d34_10 : decode jdk_68_method_68_code 10 = .ok (.ifCond .ne 7, 3) := by decide +kernel
theorem own_d34_13 : decode jdk_68_method_68_code 13 = .ok (.iconst 1, 1) := by decide +kernel
theorem own_d34_14 : decode jdk_68_method_68_code 14 = .ok (.goto 4, 3) := by decide +kernel
theorem own_d34_18 : decode jdk_68_method_68_code 18 = .ok (.ireturn, 1) := by decide +kernel
def Q_rmIL (Z : State) (sb : Addr) (G1 : Int32) (h0 : Heap) (n0 : Nat) (vq : Option Value) (hhq : Heap) (Lq : List Loc) : Prop := vq = some (.int (1 : Int32)) ∧ Fr n0 Lq ∧ hhq = h0
set_option maxRecDepth 65536 in
set_option maxHeartbeats 40000000 in
theorem rmIL (l : Launch) (Z : State) (a0 : Array Value) (hw : ∀ d ∈ tables_1, d.before a0 Z = true) (ws : List Jvm.Cond) (sb : Addr) (G1 : Int32) (h0 : Heap) (n0 : Nat) (Z0 : n0 ≤ h0.size) (Pm0 : Fld Z h0 sb "java/lang/AbstractStringBuilder" "coder" "B" (.int (0 : Int32))) (O2 : Sta Z Z.heap "java/lang/String" "COMPACT_STRINGS" "Z" (.int G1)) (P5 : (¬ (G1 = (0 : Int32)))) (X00 : Old Z n0 h0) :
    MetFree l (⟨"java/lang/AbstractStringBuilder", "isLatin1", "()Z"⟩ : MethodName) (head1 (Jvm.Cond.code (⟨"java/lang/AbstractStringBuilder", "isLatin1", "()Z"⟩ : MethodName) jdk_68_method_68_code 1 (some .boolean) :: ws) ({ frames := 0, cells := 0, slots := 0, locals := 0 } : Room)) (fun aq U => aq = #[(.ref sb)] ∧ Z.Warmed39 U.vm ∧ U.heap = h0) (fun _ _ _ _ _ => True) (fun _ U oq U' => ∃ vq Lq, oq = .returned vq ∧ Q_rmIL Z sb G1 h0 n0 vq U'.heap Lq ∧ FrameEnd U oq U' Lq ({ frames := 0, cells := 0, slots := 0, locals := 0 } : Room).cells ({ frames := 0, cells := 0, slots := 0, locals := 0 } : Room).slots) := by
  refine MetFree.of_bodySF (plainFor_of_name own_pn_java_lang_AbstractStringBuilder) hisR ?_
  intro p e s m args below meth c s₁ Bd hml0 hP hK
  obtain ⟨rfl, hZ, hh⟩ := hP
  have hx := Bd.exec
  have hby := Bd.bytes
  have hml : c.maxLocals = 1 := hml0
  have hown : s.vm.findClass "java/lang/AbstractStringBuilder" = some m.cls := findClass_of_methodNamed Bd.named
  have hnm := (name_of_methodNamed Bd.named Bd.method).1
  have X0 : Stand p l e ({ frames := 0, cells := 0, slots := 0, locals := 0 } : Room) s m #[(.ref sb)] below meth c s₁ [] 0 0 := Stand.of_body Bd
  have e0 : s₁.heap = h0 := by rw [← hh, Bd.state]; rfl
  have N0 := Fr.nil n0
  have K0 : Keep h0 h0 [] := Keep.refl _ _
  refine own_go (S' := s₁.setTop (mkF m 0 #[.val (.ref sb)] [])) (fun tq kq => castTop (own_ef_rmIL m sb G1) kq) ?_
  have lt1 : @LT.lt Nat _ sb h0.size := Pm0.lt
  obtain ⟨T2, X2, e2, st2⟩ := getS2 X0 hx hZ hown (host := "") (Or.inl (hw _ (own_mi 109 rfl))) Via.refl e0 (O2.ext X00.2) (g := (mkF m 0 #[.val (.ref sb)] [])) rfl (hb hby own_d34_0)
  refine own_go st2 ?_
  show own_Rn p e below _ (T2.setTop (mkF m 3 #[.val (.ref sb)] [(.int G1)]))
  refine own_go (fun tq kq => XS.ifNo X2.here hx rfl (hb hby own_d34_3) rfl ((if0 _ _).trans (feq (P5 : ¬ (G1 = (0 : Int32)))).1) kq) ?_
  show own_Rn p e below _ (T2.setTop (mkF m 6 #[.val (.ref sb)] []))
  refine own_go (fun tq kq => XS.aloadN X2.here hx rfl (hb hby own_d34_6) rfl rfl kq) ?_
  show own_Rn p e below _ (T2.setTop (mkF m 7 #[.val (.ref sb)] [(.ref sb)]))
  obtain ⟨T3, X3, e3, st3⟩ := getF X2 hx hZ hown (host := "") (Or.inl (hw _ (own_mi 112 rfl))) Via.refl e2 Pm0 (g := (mkF m 7 #[.val (.ref sb)] [(.ref sb)])) rfl rfl (hb hby own_d34_7)
  refine own_go st3 ?_
  show own_Rn p e below _ (T3.setTop (mkF m 10 #[.val (.ref sb)] [(.int (0 : Int32))]))
  refine own_go (fun tq kq => XS.ifNo X3.here hx rfl (hb hby own_d34_10) rfl ((if0 _ _).trans (teq ((by decide : (0 : Int32) = (0 : Int32)) : (0 : Int32) = (0 : Int32))).2) kq) ?_
  show own_Rn p e below _ (T3.setTop (mkF m 13 #[.val (.ref sb)] []))
  refine own_go (fun tq kq => XS.iconst X3.here hx rfl (hb hby own_d34_13) kq) ?_
  show own_Rn p e below _ (T3.setTop (mkF m 14 #[.val (.ref sb)] [(.int (1 : Int32))]))
  refine own_go (fun tq kq => XS.goto X3.here hx rfl (pc0 := 14) (pc' := 18) rfl (hb hby own_d34_14) (by decide) (by decide) kq) ?_
  show own_Rn p e below _ (T3.setTop (mkF m 18 #[.val (.ref sb)] [(.int (1 : Int32))]))
  exact own_ret X3 (v := some (.int (nar .boolean (1 : Int32)))) (fun h => by rw [Bd.returns] at h; cases h) (fun fs hr => retN X3 hx (t := .boolean) Bd.returns (by simp) (hb hby own_d34_18) hr) (by rw [e3]; exact ⟨rfl, N0, rfl⟩) (by decide) (by decide)
theorem own_ef_rmCL (m : MethodId) (nn : Int32) : entryFrame m #[(.int (0 : Int32)), (.int nn)] 2 = mkF m 0 #[.val (.int (0 : Int32)), .val (.int nn)] [] := by first | (simp [entryFrame, mkF, argsToLocals, Value.category]; done) | rfl
theorem own_pn_java_util_Arrays : plainName "java/util/Arrays" = true := by first | (simp [plainName, overriddenIn]; done) | decide +kernel
theorem own_d37_0 : decode jdk_65_method_131_code 0 = .ok (.iload_n 1, 1) := by decide +kernel
theorem own_d37_1 : decode jdk_65_method_131_code 1 = .ok (.iload_n 0, 1) := by decide +kernel
theorem own_d37_2 : decode jdk_65_method_131_code 2 = .ok (.if_icmp .ge 35, 3) := by decide +kernel
theorem own_d37_37 : decode jdk_65_method_131_code 37 = .ok (.return_, 1) := by decide +kernel
def Q_rmCL (Z : State) (nn : Int32) (h0 : Heap) (n0 : Nat) (vq : Option Value) (hhq : Heap) (Lq : List Loc) : Prop := vq = none ∧ Fr n0 Lq ∧ hhq = h0
set_option maxRecDepth 65536 in
set_option maxHeartbeats 40000000 in
theorem rmCL (l : Launch) (Z : State) (a0 : Array Value) (hw : ∀ d ∈ tables_1, d.before a0 Z = true) (ws : List Jvm.Cond) (nn : Int32) (h0 : Heap) (n0 : Nat) (Z0 : n0 ≤ h0.size) (hn : (¬ nn < (0 : Int32))) :
    MetFree l (⟨"java/util/Arrays", "checkLength", "(II)V"⟩ : MethodName) (head1 (Jvm.Cond.code (⟨"java/util/Arrays", "checkLength", "(II)V"⟩ : MethodName) jdk_65_method_131_code 2 none :: ws) ({ frames := 0, cells := 0, slots := 0, locals := 0 } : Room)) (fun aq U => aq = #[(.int (0 : Int32)), (.int nn)] ∧ Z.Warmed39 U.vm ∧ U.heap = h0) (fun _ _ _ _ _ => True) (fun _ U oq U' => ∃ vq Lq, oq = .returned vq ∧ Q_rmCL Z nn h0 n0 vq U'.heap Lq ∧ FrameEnd U oq U' Lq ({ frames := 0, cells := 0, slots := 0, locals := 0 } : Room).cells ({ frames := 0, cells := 0, slots := 0, locals := 0 } : Room).slots) := by
  refine MetFree.of_bodySF (plainFor_of_name own_pn_java_util_Arrays) hisR ?_
  intro p e s m args below meth c s₁ Bd hml0 hP hK
  obtain ⟨rfl, hZ, hh⟩ := hP
  have hx := Bd.exec
  have hby := Bd.bytes
  have hml : c.maxLocals = 2 := hml0
  have hown : s.vm.findClass "java/util/Arrays" = some m.cls := findClass_of_methodNamed Bd.named
  have hnm := (name_of_methodNamed Bd.named Bd.method).1
  have X0 : Stand p l e ({ frames := 0, cells := 0, slots := 0, locals := 0 } : Room) s m #[(.int (0 : Int32)), (.int nn)] below meth c s₁ [] 0 0 := Stand.of_body Bd
  have e0 : s₁.heap = h0 := by rw [← hh, Bd.state]; rfl
  have N0 := Fr.nil n0
  have K0 : Keep h0 h0 [] := Keep.refl _ _
  refine own_go (S' := s₁.setTop (mkF m 0 #[.val (.int (0 : Int32)), .val (.int nn)] [])) (fun tq kq => castTop (own_ef_rmCL m nn) kq) ?_
  refine own_go (fun tq kq => XS.iloadN X0.here hx rfl (hb hby own_d37_0) rfl kq) ?_
  show own_Rn p e below _ (s₁.setTop (mkF m 1 #[.val (.int (0 : Int32)), .val (.int nn)] [(.int nn)]))
  refine own_go (fun tq kq => XS.iloadN X0.here hx rfl (hb hby own_d37_1) rfl kq) ?_
  show own_Rn p e below _ (s₁.setTop (mkF m 2 #[.val (.int (0 : Int32)), .val (.int nn)] [(.int (0 : Int32)), (.int nn)]))
  refine own_go (fun tq kq => XS.icmpYes X0.here hx rfl (pc0 := 2) (pc' := 37) rfl (hb hby own_d37_2) rfl (flt (hn : ¬ (nn < (0 : Int32)))).2.1 (by decide) (by decide) kq) ?_
  show own_Rn p e below _ (s₁.setTop (mkF m 37 #[.val (.int (0 : Int32)), .val (.int nn)] []))
  exact own_ret X0 (v := none) (fun _ => rfl) (fun fs hr => X0.returnOut hx Bd.returns (hb hby own_d37_37) hr) (by rw [e0]; exact ⟨rfl, N0, rfl⟩) (by decide) (by decide)
theorem own_ef_rmMin (m : MethodId) (xa : Int32) (xb : Int32) : entryFrame m #[(.int xa), (.int xb)] 2 = mkF m 0 #[.val (.int xa), .val (.int xb)] [] := by first | (simp [entryFrame, mkF, argsToLocals, Value.category]; done) | rfl
theorem own_d38_0 : decode jdk_29_method_69_code 0 = .ok (.iload_n 0, 1) := by decide +kernel
theorem own_d38_1 : decode jdk_29_method_69_code 1 = .ok (.iload_n 1, 1) := by decide +kernel
theorem own_d38_2 : decode jdk_29_method_69_code 2 = .ok (.if_icmp .gt 7, 3) := by decide +kernel
theorem own_d38_9 : decode jdk_29_method_69_code 9 = .ok (.iload_n 1, 1) := by decide +kernel
theorem own_d38_10 : decode jdk_29_method_69_code 10 = .ok (.ireturn, 1) := by decide +kernel
def Q_rmMin (Z : State) (xa : Int32) (xb : Int32) (h0 : Heap) (n0 : Nat) (vq : Option Value) (hhq : Heap) (Lq : List Loc) : Prop := vq = some (.int xb) ∧ Fr n0 Lq ∧ hhq = h0
set_option maxRecDepth 65536 in
set_option maxHeartbeats 40000000 in
theorem rmMin (l : Launch) (Z : State) (a0 : Array Value) (hw : ∀ d ∈ tables_1, d.before a0 Z = true) (ws : List Jvm.Cond) (xa : Int32) (xb : Int32) (h0 : Heap) (n0 : Nat) (Z0 : n0 ≤ h0.size) (hn : (xb < xa)) :
    MetFree l (⟨"java/lang/Math", "min", "(II)I"⟩ : MethodName) (head1 (Jvm.Cond.code (⟨"java/lang/Math", "min", "(II)I"⟩ : MethodName) jdk_29_method_69_code 2 (some .int) :: ws) ({ frames := 0, cells := 0, slots := 0, locals := 0 } : Room)) (fun aq U => aq = #[(.int xa), (.int xb)] ∧ Z.Warmed39 U.vm ∧ U.heap = h0) (fun _ _ _ _ _ => True) (fun _ U oq U' => ∃ vq Lq, oq = .returned vq ∧ Q_rmMin Z xa xb h0 n0 vq U'.heap Lq ∧ FrameEnd U oq U' Lq ({ frames := 0, cells := 0, slots := 0, locals := 0 } : Room).cells ({ frames := 0, cells := 0, slots := 0, locals := 0 } : Room).slots) := by
  refine MetFree.of_bodySF (Jvm.Free.JP.mathPlain rfl (by decide +kernel)) hisR ?_
  intro p e s m args below meth c s₁ Bd hml0 hP hK
  obtain ⟨rfl, hZ, hh⟩ := hP
  have hx := Bd.exec
  have hby := Bd.bytes
  have hml : c.maxLocals = 2 := hml0
  have hown : s.vm.findClass "java/lang/Math" = some m.cls := findClass_of_methodNamed Bd.named
  have hnm := (name_of_methodNamed Bd.named Bd.method).1
  have X0 : Stand p l e ({ frames := 0, cells := 0, slots := 0, locals := 0 } : Room) s m #[(.int xa), (.int xb)] below meth c s₁ [] 0 0 := Stand.of_body Bd
  have e0 : s₁.heap = h0 := by rw [← hh, Bd.state]; rfl
  have N0 := Fr.nil n0
  have K0 : Keep h0 h0 [] := Keep.refl _ _
  refine own_go (S' := s₁.setTop (mkF m 0 #[.val (.int xa), .val (.int xb)] [])) (fun tq kq => castTop (own_ef_rmMin m xa xb) kq) ?_
  refine own_go (fun tq kq => XS.iloadN X0.here hx rfl (hb hby own_d38_0) rfl kq) ?_
  show own_Rn p e below _ (s₁.setTop (mkF m 1 #[.val (.int xa), .val (.int xb)] [(.int xa)]))
  refine own_go (fun tq kq => XS.iloadN X0.here hx rfl (hb hby own_d38_1) rfl kq) ?_
  show own_Rn p e below _ (s₁.setTop (mkF m 2 #[.val (.int xa), .val (.int xb)] [(.int xb), (.int xa)]))
  refine own_go (fun tq kq => XS.icmpYes X0.here hx rfl (pc0 := 2) (pc' := 9) rfl (hb hby own_d38_2) rfl (tlt (hn : xb < xa)).2.2.1 (by decide) (by decide) kq) ?_
  show own_Rn p e below _ (s₁.setTop (mkF m 9 #[.val (.int xa), .val (.int xb)] []))
  refine own_go (fun tq kq => XS.iloadN X0.here hx rfl (hb hby own_d38_9) rfl kq) ?_
  show own_Rn p e below _ (s₁.setTop (mkF m 10 #[.val (.int xa), .val (.int xb)] [(.int xb)]))
  exact own_ret X0 (v := some (.int xb)) (fun h => by rw [Bd.returns] at h; cases h) (fun fs hr => retI X0 hx Bd.returns (hb hby own_d38_10) hr) (by rw [e0]; exact ⟨rfl, N0, rfl⟩) (by decide) (by decide)
theorem own_ef_rmCRB (m : MethodId) (bv : Addr) (kb : ClassId) (es : List Int32) : entryFrame m #[(.ref bv), (.int (0 : Int32)), (.int (Int32.ofNat es.length))] 5 = mkF m 0 #[.val (.ref bv), .val (.int (0 : Int32)), .val (.int (Int32.ofNat es.length)), .unset, .unset] [] := by first | (simp [entryFrame, mkF, argsToLocals, Value.category]; done) | rfl
theorem own_d36_0 : decode jdk_65_method_133_code 0 = .ok (.iload_n 1, 1) := by decide +kernel
theorem own_d36_1 : decode jdk_65_method_133_code 1 = .ok (.iload_n 2, 1) := by decide +kernel
theorem own_d36_2 : decode jdk_65_method_133_code 2 = .ok (.invokestatic 343, 3) := by decide +kernel
theorem own_pd_28II29V : parseMethodDescriptor "(II)V" = some ⟨[.int, .int], none⟩ := by decide +kernel
theorem own_d36_5 : decode jdk_65_method_133_code 5 = .ok (.iload_n 2, 1) := by decide +kernel
theorem own_d36_6 : decode jdk_65_method_133_code 6 = .ok (.iload_n 1, 1) := by decide +kernel
theorem own_d36_7 : decode jdk_65_method_133_code 7 = .ok (.isub, 1) := by decide +kernel
theorem own_d36_8 : decode jdk_65_method_133_code 8 = .ok (.istore_n 3, 1) := by decide +kernel
theorem own_d36_9 : decode jdk_65_method_133_code 9 = .ok (.iload_n 3, 1) := by decide +kernel
theorem own_d36_10 : decode jdk_65_method_133_code 10 = .ok (.newarray .byte, 2) := by decide +kernel
theorem own_d36_12 : decode jdk_65_method_133_code 12 = .ok (.astore 4, 2) := by decide +kernel
theorem own_d36_14 : decode jdk_65_method_133_code 14 = .ok (.aload_n 0, 1) := by decide +kernel
theorem own_d36_15 : decode jdk_65_method_133_code 15 = .ok (.iload_n 1, 1) := by decide +kernel
theorem own_d36_16 : decode jdk_65_method_133_code 16 = .ok (.aload 4, 2) := by decide +kernel
theorem own_d36_18 : decode jdk_65_method_133_code 18 = .ok (.iconst 0, 1) := by decide +kernel
theorem own_d36_19 : decode jdk_65_method_133_code 19 = .ok (.aload_n 0, 1) := by decide +kernel
theorem own_d36_20 : decode jdk_65_method_133_code 20 = .ok (.arraylength, 1) := by decide +kernel
theorem own_d36_21 : decode jdk_65_method_133_code 21 = .ok (.iload_n 1, 1) := by decide +kernel
theorem own_d36_22 : decode jdk_65_method_133_code 22 = .ok (.isub, 1) := by decide +kernel
theorem own_d36_23 : decode jdk_65_method_133_code 23 = .ok (.iload_n 3, 1) := by decide +kernel
theorem own_d36_24 : decode jdk_65_method_133_code 24 = .ok (.invokestatic 304, 3) := by decide +kernel
theorem own_pd_28II29I : parseMethodDescriptor "(II)I" = some ⟨[.int, .int], some .int⟩ := by decide +kernel
theorem own_d36_27 : decode jdk_65_method_133_code 27 = .ok (.invokestatic 150, 3) := by decide +kernel
theorem own_d36_30 : decode jdk_65_method_133_code 30 = .ok (.aload 4, 2) := by decide +kernel
theorem own_d36_32 : decode jdk_65_method_133_code 32 = .ok (.areturn, 1) := by decide +kernel
def Q_rmCRB (Z : State) (bv : Addr) (kb : ClassId) (es : List Int32) (h0 : Heap) (n0 : Nat) (vq : Option Value) (hhq : Heap) (Lq : List Loc) : Prop := ∃ (t : Addr), ∃ (kt : ClassId), vq = some (.ref t) ∧ Fr n0 Lq ∧ Keep h0 hhq [] ∧ h0.size ≤ t ∧ n0 ≤ t ∧ Arv Z hhq t kt .byte (Int32.ofNat es.length) (own_bs es) (.int 0)
set_option maxRecDepth 65536 in
set_option maxHeartbeats 40000000 in
theorem rmCRB (l : Launch) (Z : State) (a0 : Array Value) (hw : ∀ d ∈ tables_1, d.before a0 Z = true) (ws : List Jvm.Cond) (bv : Addr) (kb : ClassId) (es : List Int32) (h0 : Heap) (n0 : Nat) (Z0 : n0 ≤ h0.size) (Pm0 : Arv Z h0 bv kb .byte (16 : Int32) (own_bs es) (.int 0)) (h15 : (es.length ≤ 15)) :
    MetFree l (⟨"java/util/Arrays", "copyOfRangeByte", "([BII)[B"⟩ : MethodName) (head1 (Jvm.Cond.code (⟨"java/util/Arrays", "copyOfRangeByte", "([BII)[B"⟩ : MethodName) jdk_65_method_133_code 5 (some (.array .byte)) :: ws) ({ frames := 1, cells := 1, slots := 15, locals := 27 } : Room)) (fun aq U => aq = #[(.ref bv), (.int (0 : Int32)), (.int (Int32.ofNat es.length))] ∧ Z.Warmed39 U.vm ∧ U.heap = h0) (fun _ _ _ _ _ => True) (fun _ U oq U' => ∃ vq Lq, oq = .returned vq ∧ Q_rmCRB Z bv kb es h0 n0 vq U'.heap Lq ∧ FrameEnd U oq U' Lq ({ frames := 1, cells := 1, slots := 15, locals := 27 } : Room).cells ({ frames := 1, cells := 1, slots := 15, locals := 27 } : Room).slots) := by
  refine MetFree.of_bodySF (plainFor_of_name own_pn_java_util_Arrays) hisR ?_
  intro p e s m args below meth c s₁ Bd hml0 hP hK
  obtain ⟨rfl, hZ, hh⟩ := hP
  have hx := Bd.exec
  have hby := Bd.bytes
  have hml : c.maxLocals = 5 := hml0
  have hown : s.vm.findClass "java/util/Arrays" = some m.cls := findClass_of_methodNamed Bd.named
  have hnm := (name_of_methodNamed Bd.named Bd.method).1
  have X0 : Stand p l e ({ frames := 1, cells := 1, slots := 15, locals := 27 } : Room) s m #[(.ref bv), (.int (0 : Int32)), (.int (Int32.ofNat es.length))] below meth c s₁ [] 0 0 := Stand.of_body Bd
  have e0 : s₁.heap = h0 := by rw [← hh, Bd.state]; rfl
  have N0 := Fr.nil n0
  have K0 : Keep h0 h0 [] := Keep.refl _ _
  refine own_go (S' := s₁.setTop (mkF m 0 #[.val (.ref bv), .val (.int (0 : Int32)), .val (.int (Int32.ofNat es.length)), .unset, .unset] [])) (fun tq kq => castTop (own_ef_rmCRB m bv kb es) kq) ?_
  have lt1 : @LT.lt Nat _ bv h0.size := Pm0.lt
  refine own_go (fun tq kq => XS.iloadN X0.here hx rfl (hb hby own_d36_0) rfl kq) ?_
  show own_Rn p e below _ (s₁.setTop (mkF m 1 #[.val (.ref bv), .val (.int (0 : Int32)), .val (.int (Int32.ofNat es.length)), .unset, .unset] [(.int (0 : Int32))]))
  refine own_go (fun tq kq => XS.iloadN X0.here hx rfl (hb hby own_d36_1) rfl kq) ?_
  show own_Rn p e below _ (s₁.setTop (mkF m 2 #[.val (.ref bv), .val (.int (0 : Int32)), .val (.int (Int32.ofNat es.length)), .unset, .unset] [(.int (Int32.ofNat es.length)), (.int (0 : Int32))]))
  have Zn2 : n0 ≤ h0.size := by omega
  obtain ⟨rv2, _, ⟨T2, L2, k2, n2⟩, -, X2, ⟨Lc2, hQ2, l2, y2, z2⟩, st2⟩ := Jvm.LawKit.callS X0 hx (y := (⟨"java/util/Arrays", "checkLength", "(II)V"⟩ : MethodName)) hown (mvT hZ (hw _ (own_mi 209 rfl))) (mvT hZ (hw _ (own_mi 210 rfl))) (mvT hZ (hw _ (own_mi 204 rfl))) (mvT hZ (hw _ (own_mi 211 rfl))) (by decide) (backOf (W := 0) (rmCL l Z a0 hw [] ((Int32.ofNat es.length)) h0 n0 Zn2 (own_nneg (by omega))) hZ (hw _ (own_mi 211 rfl)) (hw _ (own_mi 204 rfl)) (by decide) (by decide)) (g := (mkF m 2 #[.val (.ref bv), .val (.int (0 : Int32)), .val (.int (Int32.ofNat es.length)), .unset, .unset] [(.int (Int32.ofNat es.length)), (.int (0 : Int32))])) rfl (by rw [hml]; rfl) (argsL := [(.int (0 : Int32)), (.int (Int32.ofNat es.length))]) (rest := []) (lenOf own_pd_28II29V rfl) rfl (by show 2 * 0 + _ ≤ _; exact Nat.le_of_eq rfl) (hb hby own_d36_2) (fun _ _ => ⟨rfl, e0, (by decide : 0 + 0 ≤ _), (by decide : 0 + 0 ≤ _)⟩)
  dsimp only [Pt.U, Pt.locs, Pt.cells, Pt.slots] at X2 l2 y2 z2 st2 hQ2
  subst l2 y2 z2
  obtain ⟨rfl, Nq2, eh2⟩ := hQ2
  have N2 := Fr.app N0 Nq2
  refine own_go st2 ?_
  show own_Rn p e below _ (T2.setTop (mkF m 5 #[.val (.ref bv), .val (.int (0 : Int32)), .val (.int (Int32.ofNat es.length)), .unset, .unset] []))
  refine own_go (fun tq kq => XS.iloadN X2.here hx rfl (hb hby own_d36_5) rfl kq) ?_
  show own_Rn p e below _ (T2.setTop (mkF m 6 #[.val (.ref bv), .val (.int (0 : Int32)), .val (.int (Int32.ofNat es.length)), .unset, .unset] [(.int (Int32.ofNat es.length))]))
  refine own_go (fun tq kq => XS.iloadN X2.here hx rfl (hb hby own_d36_6) rfl kq) ?_
  show own_Rn p e below _ (T2.setTop (mkF m 7 #[.val (.ref bv), .val (.int (0 : Int32)), .val (.int (Int32.ofNat es.length)), .unset, .unset] [(.int (0 : Int32)), (.int (Int32.ofNat es.length))]))
  refine own_go (fun tq kq => XS.isub X2.here hx rfl (hb hby own_d36_7) rfl kq) ?_
  show own_Rn p e below _ (T2.setTop (mkF m 8 #[.val (.ref bv), .val (.int (0 : Int32)), .val (.int (Int32.ofNat es.length)), .unset, .unset] [(.int ((Int32.ofNat es.length) - (0 : Int32)))]))
  rw [Int32.sub_zero]
  show own_Rn p e below _ (T2.setTop (mkF m 8 #[.val (.ref bv), .val (.int (0 : Int32)), .val (.int (Int32.ofNat es.length)), .unset, .unset] [(.int (Int32.ofNat es.length))]))
  refine own_go (fun tq kq => XS.istoreN X2.here hx rfl (hb hby own_d36_8) rfl (l' := #[.val (.ref bv), .val (.int (0 : Int32)), .val (.int (Int32.ofNat es.length)), .val (.int (Int32.ofNat es.length)), .unset]) rfl kq) ?_
  show own_Rn p e below _ (T2.setTop (mkF m 9 #[.val (.ref bv), .val (.int (0 : Int32)), .val (.int (Int32.ofNat es.length)), .val (.int (Int32.ofNat es.length)), .unset] []))
  refine own_go (fun tq kq => XS.iloadN X2.here hx rfl (hb hby own_d36_9) rfl kq) ?_
  show own_Rn p e below _ (T2.setTop (mkF m 10 #[.val (.ref bv), .val (.int (0 : Int32)), .val (.int (Int32.ofNat es.length)), .val (.int (Int32.ofNat es.length)), .unset] [(.int (Int32.ofNat es.length))]))
  obtain ⟨T3, h3, k3, X3, e3, E3, A3, st3⟩ := newP X2 hx hZ (hw _ (own_mi 23 rfl)) eh2 (g := (mkF m 10 #[.val (.ref bv), .val (.int (0 : Int32)), .val (.int (Int32.ofNat es.length)), .val (.int (Int32.ofNat es.length)), .unset] [(.int (Int32.ofNat es.length))])) rfl (hb hby own_d36_10) rfl (own_nneg (by omega)) (cap := 15) (by rw [own_clampN (by omega)]; exact h15) (by decide) (by decide) (by decide)
  obtain ⟨b3, g3⟩ : ∃ z, z = h0.size := ⟨_, rfl⟩
  rw [← g3] at A3 st3
  refine own_go st3 ?_
  have sz4 : h0.size ≤ h3.size := E3.1
  have K4 := K0.ext E3
  have gn3 : n0 ≤ b3 := by omega
  have V3 : Arv Z h3 b3 k3 .byte (Int32.ofNat es.length) [] (.int (0 : Int32)) := Arv.new A3 (own_nneg (by omega))
  have lt5 : @LT.lt Nat _ b3 h3.size := V3.lt
  show own_Rn p e below _ (T3.setTop (mkF m 12 #[.val (.ref bv), .val (.int (0 : Int32)), .val (.int (Int32.ofNat es.length)), .val (.int (Int32.ofNat es.length)), .unset] [(.ref b3)]))
  refine own_go (fun tq kq => XS.astore X3.here hx rfl (hb hby own_d36_12) rfl rfl (l' := #[.val (.ref bv), .val (.int (0 : Int32)), .val (.int (Int32.ofNat es.length)), .val (.int (Int32.ofNat es.length)), .val (.ref b3)]) rfl kq) ?_
  show own_Rn p e below _ (T3.setTop (mkF m 14 #[.val (.ref bv), .val (.int (0 : Int32)), .val (.int (Int32.ofNat es.length)), .val (.int (Int32.ofNat es.length)), .val (.ref b3)] []))
  refine own_go (fun tq kq => XS.aloadN X3.here hx rfl (hb hby own_d36_14) rfl rfl kq) ?_
  show own_Rn p e below _ (T3.setTop (mkF m 15 #[.val (.ref bv), .val (.int (0 : Int32)), .val (.int (Int32.ofNat es.length)), .val (.int (Int32.ofNat es.length)), .val (.ref b3)] [(.ref bv)]))
  refine own_go (fun tq kq => XS.iloadN X3.here hx rfl (hb hby own_d36_15) rfl kq) ?_
  show own_Rn p e below _ (T3.setTop (mkF m 16 #[.val (.ref bv), .val (.int (0 : Int32)), .val (.int (Int32.ofNat es.length)), .val (.int (Int32.ofNat es.length)), .val (.ref b3)] [(.int (0 : Int32)), (.ref bv)]))
  refine own_go (fun tq kq => XS.aload X3.here hx rfl (hb hby own_d36_16) rfl rfl kq) ?_
  show own_Rn p e below _ (T3.setTop (mkF m 18 #[.val (.ref bv), .val (.int (0 : Int32)), .val (.int (Int32.ofNat es.length)), .val (.int (Int32.ofNat es.length)), .val (.ref b3)] [(.ref b3), (.int (0 : Int32)), (.ref bv)]))
  refine own_go (fun tq kq => XS.iconst X3.here hx rfl (hb hby own_d36_18) kq) ?_
  show own_Rn p e below _ (T3.setTop (mkF m 19 #[.val (.ref bv), .val (.int (0 : Int32)), .val (.int (Int32.ofNat es.length)), .val (.int (Int32.ofNat es.length)), .val (.ref b3)] [(.int (0 : Int32)), (.ref b3), (.int (0 : Int32)), (.ref bv)]))
  refine own_go (fun tq kq => XS.aloadN X3.here hx rfl (hb hby own_d36_19) rfl rfl kq) ?_
  show own_Rn p e below _ (T3.setTop (mkF m 20 #[.val (.ref bv), .val (.int (0 : Int32)), .val (.int (Int32.ofNat es.length)), .val (.int (Int32.ofNat es.length)), .val (.ref b3)] [(.ref bv), (.int (0 : Int32)), (.ref b3), (.int (0 : Int32)), (.ref bv)]))
  have F6 : Arv Z h3 bv kb .byte (16 : Int32) (own_bs es) (.int 0) := (Pm0.ext E3)
  obtain ⟨cl7, Ar7, -, Sz7, Nn7, -, -⟩ := id F6
  refine own_go (fun tq kq => X3.arraylength hx (cell := cl7) (by rw [e3]; exact Ar7.1) (State.isArrayOf_alike hZ.alike Ar7.2.1) (g := (mkF m 20 #[.val (.ref bv), .val (.int (0 : Int32)), .val (.int (Int32.ofNat es.length)), .val (.int (Int32.ofNat es.length)), .val (.ref b3)] [(.ref bv), (.int (0 : Int32)), (.ref b3), (.int (0 : Int32)), (.ref bv)])) rfl rfl (hb hby own_d36_20) tq kq) ?_
  rw [len_of Sz7 Nn7]
  show own_Rn p e below _ (T3.setTop (mkF m 21 #[.val (.ref bv), .val (.int (0 : Int32)), .val (.int (Int32.ofNat es.length)), .val (.int (Int32.ofNat es.length)), .val (.ref b3)] [(.int (16 : Int32)), (.int (0 : Int32)), (.ref b3), (.int (0 : Int32)), (.ref bv)]))
  refine own_go (fun tq kq => XS.iloadN X3.here hx rfl (hb hby own_d36_21) rfl kq) ?_
  show own_Rn p e below _ (T3.setTop (mkF m 22 #[.val (.ref bv), .val (.int (0 : Int32)), .val (.int (Int32.ofNat es.length)), .val (.int (Int32.ofNat es.length)), .val (.ref b3)] [(.int (0 : Int32)), (.int (16 : Int32)), (.int (0 : Int32)), (.ref b3), (.int (0 : Int32)), (.ref bv)]))
  refine own_go (fun tq kq => XS.isub X3.here hx rfl (hb hby own_d36_22) rfl kq) ?_
  show own_Rn p e below _ (T3.setTop (mkF m 23 #[.val (.ref bv), .val (.int (0 : Int32)), .val (.int (Int32.ofNat es.length)), .val (.int (Int32.ofNat es.length)), .val (.ref b3)] [(.int ((16 : Int32) - (0 : Int32))), (.int (0 : Int32)), (.ref b3), (.int (0 : Int32)), (.ref bv)]))
  rw [Int32.sub_zero]
  show own_Rn p e below _ (T3.setTop (mkF m 23 #[.val (.ref bv), .val (.int (0 : Int32)), .val (.int (Int32.ofNat es.length)), .val (.int (Int32.ofNat es.length)), .val (.ref b3)] [(.int (16 : Int32)), (.int (0 : Int32)), (.ref b3), (.int (0 : Int32)), (.ref bv)]))
  refine own_go (fun tq kq => XS.iloadN X3.here hx rfl (hb hby own_d36_23) rfl kq) ?_
  show own_Rn p e below _ (T3.setTop (mkF m 24 #[.val (.ref bv), .val (.int (0 : Int32)), .val (.int (Int32.ofNat es.length)), .val (.int (Int32.ofNat es.length)), .val (.ref b3)] [(.int (Int32.ofNat es.length)), (.int (16 : Int32)), (.int (0 : Int32)), (.ref b3), (.int (0 : Int32)), (.ref bv)]))
  have Zn8 : n0 ≤ h3.size := by omega
  obtain ⟨rv8, _, ⟨T8, L8, k8, n8⟩, -, X8, ⟨Lc8, hQ8, l8, y8, z8⟩, st8⟩ := Jvm.LawKit.callS X3 hx (y := (⟨"java/lang/Math", "min", "(II)I"⟩ : MethodName)) hown (mvT hZ (hw _ (own_mi 212 rfl))) (mvT hZ (hw _ (own_mi 213 rfl))) (mvT hZ (hw _ (own_mi 214 rfl))) (mvT hZ (hw _ (own_mi 215 rfl))) (by decide) (backOf (W := 4) (rmMin l Z a0 hw [] ((16 : Int32)) ((Int32.ofNat es.length)) h3 n0 Zn8 (own_lt16 h15)) hZ (hw _ (own_mi 215 rfl)) (hw _ (own_mi 214 rfl)) (by decide) (by decide)) (g := (mkF m 24 #[.val (.ref bv), .val (.int (0 : Int32)), .val (.int (Int32.ofNat es.length)), .val (.int (Int32.ofNat es.length)), .val (.ref b3)] [(.int (Int32.ofNat es.length)), (.int (16 : Int32)), (.int (0 : Int32)), (.ref b3), (.int (0 : Int32)), (.ref bv)])) rfl (by rw [hml]; rfl) (argsL := [(.int (16 : Int32)), (.int (Int32.ofNat es.length))]) (rest := [(.int (0 : Int32)), (.ref b3), (.int (0 : Int32)), (.ref bv)]) (lenOf own_pd_28II29I rfl) rfl (by show 2 * 0 + _ ≤ _; exact Nat.le_of_eq rfl) (hb hby own_d36_24) (fun _ _ => ⟨rfl, e3, (by decide : 1 + 0 ≤ _), (by decide : 15 + 0 ≤ _)⟩)
  dsimp only [Pt.U, Pt.locs, Pt.cells, Pt.slots] at X8 l8 y8 z8 st8 hQ8
  subst l8 y8 z8
  obtain ⟨rfl, Nq8, eh8⟩ := hQ8
  have N8 := Fr.app N2 Nq8
  refine own_go st8 ?_
  show own_Rn p e below _ (T8.setTop (mkF m 27 #[.val (.ref bv), .val (.int (0 : Int32)), .val (.int (Int32.ofNat es.length)), .val (.int (Int32.ofNat es.length)), .val (.ref b3)] [(.int (Int32.ofNat es.length)), (.int (0 : Int32)), (.ref b3), (.int (0 : Int32)), (.ref bv)]))
  have Vp : Arv Z h3 b3 k3 .byte (Int32.ofNat es.length) (own_bs ([] : List Int32) ++ List.replicate es.length (.int 0)) (.int 0) := V3.pad (pad_rep [] (.int 0) es.length)
  obtain ⟨T9, h9, L9, X9, e9, N9, Kc9, Ac9, st9⟩ := cpA X8 hx hZ hown (hw _ (own_mi 216 rfl)) (hw _ (own_mi 165 rfl)) (hw _ (own_mi 163 rfl)) (hw _ (own_mi 164 rfl)) eh8 F6 Vp (sp := (0 : Int32)) (dp := (0 : Int32)) (nn := (Int32.ofNat es.length)) (us := (own_bs es)) (Or.inl ⟨rfl, rfl⟩) (by decide) (by decide) (own_nneg (by omega)) (by rw [own_clampN (by omega)]; show 0 + _ ≤ 16; omega) (by rw [own_clampN (by omega)]; exact Nat.le_of_eq (Nat.zero_add _)) (own_us es (by omega)) (by rw [own_clampN (by omega)]; show 0 + _ ≤ ([] ++ List.replicate es.length (Value.int 0)).length; simp) N8 gn3 (g := (mkF m 27 #[.val (.ref bv), .val (.int (0 : Int32)), .val (.int (Int32.ofNat es.length)), .val (.int (Int32.ofNat es.length)), .val (.ref b3)] [(.int (Int32.ofNat es.length)), (.int (0 : Int32)), (.ref b3), (.int (0 : Int32)), (.ref bv)])) rfl (by rw [hml]; rfl) rfl (hb hby own_d36_27) (by decide) (W := 0) (by show 2 * 0 + _ ≤ _; exact Nat.le_of_eq rfl) (by decide)
  refine own_go st9 ?_
  have sz10 : h3.size ≤ h9.size := Kc9.1
  have K10 := K4.trans Kc9 (allS (Or.inr (by omega)) all0)
  have V9 : Arv Z h9 b3 k3 .byte (Int32.ofNat es.length) (own_bs es) (.int (0 : Int32)) := own_cat (cs := []) (List.nil_append _).symm ⟨by show 0 < _; omega, by omega⟩ (Nat.le_refl _) rfl rfl Ac9
  show own_Rn p e below _ (T9.setTop (mkF m 30 #[.val (.ref bv), .val (.int (0 : Int32)), .val (.int (Int32.ofNat es.length)), .val (.int (Int32.ofNat es.length)), .val (.ref b3)] []))
  refine own_go (fun tq kq => XS.aload X9.here hx rfl (hb hby own_d36_30) rfl rfl kq) ?_
  show own_Rn p e below _ (T9.setTop (mkF m 32 #[.val (.ref bv), .val (.int (0 : Int32)), .val (.int (Int32.ofNat es.length)), .val (.int (Int32.ofNat es.length)), .val (.ref b3)] [(.ref b3)]))
  exact own_ret X9 (v := some (.ref b3)) (fun h => by rw [Bd.returns] at h; cases h) (fun fs hr => X9.areturnOut hx rfl Bd.returns rfl (hb hby own_d36_32) hr) (by rw [e9]; exact ⟨b3, k3, rfl, N9, K10, (by omega), gn3, V9⟩) (by decide) (by decide)
theorem own_ef_rmCR (m : MethodId) (bv : Addr) (kb : ClassId) (es : List Int32) : entryFrame m #[(.ref bv), (.int (0 : Int32)), (.int (Int32.ofNat es.length))] 3 = mkF m 0 #[.val (.ref bv), .val (.int (0 : Int32)), .val (.int (Int32.ofNat es.length))] [] := by first | (simp [entryFrame, mkF, argsToLocals, Value.category]; done) | rfl
theorem own_d35_0 : decode jdk_65_method_132_code 0 = .ok (.iload_n 1, 1) := by decide +kernel
theorem own_d35_1 : decode jdk_65_method_132_code 1 = .ok (.ifCond .ne 9, 3) := by decide +kernel
theorem own_d35_4 : decode jdk_65_method_132_code 4 = .ok (.iload_n 2, 1) := by decide +kernel
theorem own_d35_5 : decode jdk_65_method_132_code 5 = .ok (.aload_n 0, 1) := by decide +kernel
theorem own_d35_6 : decode jdk_65_method_132_code 6 = .ok (.arraylength, 1) := by decide +kernel
theorem own_d35_7 : decode jdk_65_method_132_code 7 = .ok (.if_icmp .eq 10, 3) := by decide +kernel
theorem own_d35_10 : decode jdk_65_method_132_code 10 = .ok (.aload_n 0, 1) := by decide +kernel
theorem own_d35_11 : decode jdk_65_method_132_code 11 = .ok (.iload_n 1, 1) := by decide +kernel
theorem own_d35_12 : decode jdk_65_method_132_code 12 = .ok (.iload_n 2, 1) := by decide +kernel
theorem own_d35_13 : decode jdk_65_method_132_code 13 = .ok (.invokestatic 339, 3) := by decide +kernel
theorem own_pd_285bBII295bB : parseMethodDescriptor "([BII)[B" = some ⟨[(.array .byte), .int, .int], some (.array .byte)⟩ := by decide +kernel
theorem own_d35_16 : decode jdk_65_method_132_code 16 = .ok (.areturn, 1) := by decide +kernel
def Q_rmCR (Z : State) (bv : Addr) (kb : ClassId) (es : List Int32) (h0 : Heap) (n0 : Nat) (vq : Option Value) (hhq : Heap) (Lq : List Loc) : Prop := ∃ (t : Addr), ∃ (kt : ClassId), vq = some (.ref t) ∧ Fr n0 Lq ∧ Keep h0 hhq [] ∧ h0.size ≤ t ∧ n0 ≤ t ∧ Arv Z hhq t kt .byte (Int32.ofNat es.length) (own_bs es) (.int 0)
set_option maxRecDepth 65536 in
set_option maxHeartbeats 40000000 in
theorem rmCR (l : Launch) (Z : State) (a0 : Array Value) (hw : ∀ d ∈ tables_1, d.before a0 Z = true) (ws : List Jvm.Cond) (bv : Addr) (kb : ClassId) (es : List Int32) (h0 : Heap) (n0 : Nat) (Z0 : n0 ≤ h0.size) (Pm0 : Arv Z h0 bv kb .byte (16 : Int32) (own_bs es) (.int 0)) (h15 : (es.length ≤ 15)) :
    MetFree l (⟨"java/util/Arrays", "copyOfRange", "([BII)[B"⟩ : MethodName) (head1 (Jvm.Cond.code (⟨"java/util/Arrays", "copyOfRange", "([BII)[B"⟩ : MethodName) jdk_65_method_132_code 3 (some (.array .byte)) :: ws) ({ frames := 2, cells := 1, slots := 15, locals := 43 } : Room)) (fun aq U => aq = #[(.ref bv), (.int (0 : Int32)), (.int (Int32.ofNat es.length))] ∧ Z.Warmed39 U.vm ∧ U.heap = h0) (fun _ _ _ _ _ => True) (fun _ U oq U' => ∃ vq Lq, oq = .returned vq ∧ Q_rmCR Z bv kb es h0 n0 vq U'.heap Lq ∧ FrameEnd U oq U' Lq ({ frames := 2, cells := 1, slots := 15, locals := 43 } : Room).cells ({ frames := 2, cells := 1, slots := 15, locals := 43 } : Room).slots) := by
  refine MetFree.of_bodySF (plainFor_of_name own_pn_java_util_Arrays) hisR ?_
  intro p e s m args below meth c s₁ Bd hml0 hP hK
  obtain ⟨rfl, hZ, hh⟩ := hP
  have hx := Bd.exec
  have hby := Bd.bytes
  have hml : c.maxLocals = 3 := hml0
  have hown : s.vm.findClass "java/util/Arrays" = some m.cls := findClass_of_methodNamed Bd.named
  have hnm := (name_of_methodNamed Bd.named Bd.method).1
  have X0 : Stand p l e ({ frames := 2, cells := 1, slots := 15, locals := 43 } : Room) s m #[(.ref bv), (.int (0 : Int32)), (.int (Int32.ofNat es.length))] below meth c s₁ [] 0 0 := Stand.of_body Bd
  have e0 : s₁.heap = h0 := by rw [← hh, Bd.state]; rfl
  have N0 := Fr.nil n0
  have K0 : Keep h0 h0 [] := Keep.refl _ _
  refine own_go (S' := s₁.setTop (mkF m 0 #[.val (.ref bv), .val (.int (0 : Int32)), .val (.int (Int32.ofNat es.length))] [])) (fun tq kq => castTop (own_ef_rmCR m bv kb es) kq) ?_
  have lt1 : @LT.lt Nat _ bv h0.size := Pm0.lt
  refine own_go (fun tq kq => XS.iloadN X0.here hx rfl (hb hby own_d35_0) rfl kq) ?_
  show own_Rn p e below _ (s₁.setTop (mkF m 1 #[.val (.ref bv), .val (.int (0 : Int32)), .val (.int (Int32.ofNat es.length))] [(.int (0 : Int32))]))
  refine own_go (fun tq kq => XS.ifNo X0.here hx rfl (hb hby own_d35_1) rfl ((if0 _ _).trans (teq ((by decide : (0 : Int32) = (0 : Int32)) : (0 : Int32) = (0 : Int32))).2) kq) ?_
  show own_Rn p e below _ (s₁.setTop (mkF m 4 #[.val (.ref bv), .val (.int (0 : Int32)), .val (.int (Int32.ofNat es.length))] []))
  refine own_go (fun tq kq => XS.iloadN X0.here hx rfl (hb hby own_d35_4) rfl kq) ?_
  show own_Rn p e below _ (s₁.setTop (mkF m 5 #[.val (.ref bv), .val (.int (0 : Int32)), .val (.int (Int32.ofNat es.length))] [(.int (Int32.ofNat es.length))]))
  refine own_go (fun tq kq => XS.aloadN X0.here hx rfl (hb hby own_d35_5) rfl rfl kq) ?_
  show own_Rn p e below _ (s₁.setTop (mkF m 6 #[.val (.ref bv), .val (.int (0 : Int32)), .val (.int (Int32.ofNat es.length))] [(.ref bv), (.int (Int32.ofNat es.length))]))
  obtain ⟨cl2, Ar2, -, Sz2, Nn2, -, -⟩ := id Pm0
  refine own_go (fun tq kq => X0.arraylength hx (cell := cl2) (by rw [e0]; exact Ar2.1) (State.isArrayOf_alike hZ.alike Ar2.2.1) (g := (mkF m 6 #[.val (.ref bv), .val (.int (0 : Int32)), .val (.int (Int32.ofNat es.length))] [(.ref bv), (.int (Int32.ofNat es.length))])) rfl rfl (hb hby own_d35_6) tq kq) ?_
  rw [len_of Sz2 Nn2]
  show own_Rn p e below _ (s₁.setTop (mkF m 7 #[.val (.ref bv), .val (.int (0 : Int32)), .val (.int (Int32.ofNat es.length))] [(.int (16 : Int32)), (.int (Int32.ofNat es.length))]))
  refine own_go (fun tq kq => XS.icmpNo X0.here hx rfl (hb hby own_d35_7) rfl (feq (own_ne16 h15 : ¬ ((Int32.ofNat es.length) = (16 : Int32)))).1 kq) ?_
  show own_Rn p e below _ (s₁.setTop (mkF m 10 #[.val (.ref bv), .val (.int (0 : Int32)), .val (.int (Int32.ofNat es.length))] []))
  refine own_go (fun tq kq => XS.aloadN X0.here hx rfl (hb hby own_d35_10) rfl rfl kq) ?_
  show own_Rn p e below _ (s₁.setTop (mkF m 11 #[.val (.ref bv), .val (.int (0 : Int32)), .val (.int (Int32.ofNat es.length))] [(.ref bv)]))
  refine own_go (fun tq kq => XS.iloadN X0.here hx rfl (hb hby own_d35_11) rfl kq) ?_
  show own_Rn p e below _ (s₁.setTop (mkF m 12 #[.val (.ref bv), .val (.int (0 : Int32)), .val (.int (Int32.ofNat es.length))] [(.int (0 : Int32)), (.ref bv)]))
  refine own_go (fun tq kq => XS.iloadN X0.here hx rfl (hb hby own_d35_12) rfl kq) ?_
  show own_Rn p e below _ (s₁.setTop (mkF m 13 #[.val (.ref bv), .val (.int (0 : Int32)), .val (.int (Int32.ofNat es.length))] [(.int (Int32.ofNat es.length)), (.int (0 : Int32)), (.ref bv)]))
  have Zn3 : n0 ≤ h0.size := by omega
  obtain ⟨rv3, _, ⟨T3, L3, k3, n3⟩, -, X3, ⟨Lc3, hQ3, l3, y3, z3⟩, st3⟩ := Jvm.LawKit.callS X0 hx (y := (⟨"java/util/Arrays", "copyOfRangeByte", "([BII)[B"⟩ : MethodName)) hown (mvT hZ (hw _ (own_mi 206 rfl))) (mvT hZ (hw _ (own_mi 207 rfl))) (mvT hZ (hw _ (own_mi 204 rfl))) (mvT hZ (hw _ (own_mi 208 rfl))) (by decide) (backOf (W := 0) (rmCRB l Z a0 hw [] (bv) (kb) (es) h0 n0 Zn3 Pm0 (h15)) hZ (hw _ (own_mi 208 rfl)) (hw _ (own_mi 204 rfl)) (by decide) (by decide)) (g := (mkF m 13 #[.val (.ref bv), .val (.int (0 : Int32)), .val (.int (Int32.ofNat es.length))] [(.int (Int32.ofNat es.length)), (.int (0 : Int32)), (.ref bv)])) rfl (by rw [hml]; rfl) (argsL := [(.ref bv), (.int (0 : Int32)), (.int (Int32.ofNat es.length))]) (rest := []) (lenOf own_pd_285bBII295bB rfl) rfl (by show 2 * 0 + _ ≤ _; exact Nat.le_of_eq rfl) (hb hby own_d35_13) (fun _ _ => ⟨rfl, e0, (by decide : 0 + 1 ≤ _), (by decide : 0 + 15 ≤ _)⟩)
  dsimp only [Pt.U, Pt.locs, Pt.cells, Pt.slots] at X3 l3 y3 z3 st3 hQ3
  subst l3 y3 z3
  obtain ⟨tt, ktt, rfl, Nq3, Kq3, G0_3, G1_3, G2_3⟩ := hQ3
  have N3 := Fr.app N0 Nq3
  have sz4 : h0.size ≤ T3.heap.size := Kq3.1
  have K4 := K0.trans Kq3 all0
  have lt5 : @LT.lt Nat _ tt T3.heap.size := G2_3.lt
  refine own_go st3 ?_
  show own_Rn p e below _ (T3.setTop (mkF m 16 #[.val (.ref bv), .val (.int (0 : Int32)), .val (.int (Int32.ofNat es.length))] [(.ref tt)]))
  exact own_ret X3 (v := some (.ref tt)) (fun h => by rw [Bd.returns] at h; cases h) (fun fs hr => X3.areturnOut hx rfl Bd.returns rfl (hb hby own_d35_16) hr) (⟨tt, ktt, rfl, N3, K4, (by omega), G1_3, G2_3⟩) (by decide) (by decide)
theorem own_ef_rmI2 (m : MethodId) (x : Addr) (sb : Addr) (bv : Addr) (kb : ClassId) (es : List Int32) (G1 : Int32) : entryFrame m #[(.ref x), (.ref sb), .null] 5 = mkF m 0 #[.val (.ref x), .val (.ref sb), .val .null, .unset, .unset] [] := by first | (simp [entryFrame, mkF, argsToLocals, Value.category]; done) | rfl
theorem own_d30_0 : decode jdk_42_method_150_code 0 = .ok (.aload_n 0, 1) := by decide +kernel
theorem own_d30_1 : decode jdk_42_method_150_code 1 = .ok (.invokespecial 1, 3) := by decide +kernel
theorem own_d30_4 : decode jdk_42_method_150_code 4 = .ok (.aload_n 1, 1) := by decide +kernel
theorem own_d30_5 : decode jdk_42_method_150_code 5 = .ok (.invokevirtual 552, 3) := by decide +kernel
theorem own_pd_28295bB : parseMethodDescriptor "()[B" = some ⟨[], some (.array .byte)⟩ := by decide +kernel
theorem own_d30_8 : decode jdk_42_method_150_code 8 = .ok (.astore_n 3, 1) := by decide +kernel
theorem own_d30_9 : decode jdk_42_method_150_code 9 = .ok (.aload_n 1, 1) := by decide +kernel
theorem own_d30_10 : decode jdk_42_method_150_code 10 = .ok (.invokevirtual 549, 3) := by decide +kernel
theorem own_d30_13 : decode jdk_42_method_150_code 13 = .ok (.istore 4, 2) := by decide +kernel
theorem own_d30_15 : decode jdk_42_method_150_code 15 = .ok (.aload_n 1, 1) := by decide +kernel
theorem own_d30_16 : decode jdk_42_method_150_code 16 = .ok (.invokevirtual 1047, 3) := by decide +kernel
theorem own_pd_2829Z : parseMethodDescriptor "()Z" = some ⟨[], some .boolean⟩ := by decide +kernel
theorem own_d30_19 : decode jdk_42_method_150_code 19 = .ok (.ifCond .eq 22, 3) := by decide +kernel
theorem own_d30_22 : decode jdk_42_method_150_code 22 = .ok (.aload_n 0, 1) := by decide +kernel
theorem own_d30_23 : decode jdk_42_method_150_code 23 = .ok (.iconst 0, 1) := by decide +kernel
theorem own_d30_24 : decode jdk_42_method_150_code 24 = .ok (.putfield 15, 3) := by decide +kernel
theorem own_d30_27 : decode jdk_42_method_150_code 27 = .ok (.aload_n 0, 1) := by decide +kernel
theorem own_d30_28 : decode jdk_42_method_150_code 28 = .ok (.aload_n 3, 1) := by decide +kernel
theorem own_d30_29 : decode jdk_42_method_150_code 29 = .ok (.iconst 0, 1) := by decide +kernel
theorem own_d30_30 : decode jdk_42_method_150_code 30 = .ok (.iload 4, 2) := by decide +kernel
theorem own_d30_32 : decode jdk_42_method_150_code 32 = .ok (.invokestatic 54, 3) := by decide +kernel
theorem own_d30_35 : decode jdk_42_method_150_code 35 = .ok (.putfield 9, 3) := by decide +kernel
theorem own_d30_38 : decode jdk_42_method_150_code 38 = .ok (.goto 59, 3) := by decide +kernel
theorem own_d30_97 : decode jdk_42_method_150_code 97 = .ok (.return_, 1) := by decide +kernel
def Q_rmI2 (Z : State) (x : Addr) (sb : Addr) (bv : Addr) (kb : ClassId) (es : List Int32) (G1 : Int32) (h0 : Heap) (n0 : Nat) (vq : Option Value) (hhq : Heap) (Lq : List Loc) : Prop := ∃ (t : Addr), ∃ (kt : ClassId), vq = none ∧ Fr n0 Lq ∧ Keep h0 hhq [x] ∧ h0.size ≤ t ∧ n0 ≤ t ∧ Fld Z hhq x "java/lang/String" "value" "[B" (.ref t) ∧ Fld Z hhq x "java/lang/String" "coder" "B" (.int (0 : Int32)) ∧ Arv Z hhq t kt .byte (Int32.ofNat es.length) (own_bs es) (.int 0)
set_option maxRecDepth 65536 in
set_option maxHeartbeats 40000000 in
theorem rmI2 (l : Launch) (Z : State) (a0 : Array Value) (hw : ∀ d ∈ tables_1, d.before a0 Z = true) (ws : List Jvm.Cond) (x : Addr) (sb : Addr) (bv : Addr) (kb : ClassId) (es : List Int32) (G1 : Int32) (h0 : Heap) (n0 : Nat) (Z0 : n0 ≤ h0.size) (Pm0 : Exa Z h0 x "java/lang/String") (Pm1 : Fld Z h0 x "java/lang/String" "value" "[B" .null) (Pm2 : Fld Z h0 x "java/lang/String" "coder" "B" (.int (0 : Int32))) (Pm3 : n0 ≤ x) (Pm4 : Exa Z h0 sb "java/lang/StringBuilder") (Pm5 : Fld Z h0 sb "java/lang/AbstractStringBuilder" "value" "[B" (.ref bv)) (Pm6 : Fld Z h0 sb "java/lang/AbstractStringBuilder" "coder" "B" (.int (0 : Int32))) (Pm7 : Arv Z h0 bv kb .byte (16 : Int32) (own_bs es) (.int 0)) (Pm8 : Fld Z h0 sb "java/lang/AbstractStringBuilder" "count" "I" (.int (Int32.ofNat es.length))) (h15 : (es.length ≤ 15)) (O2 : Sta Z Z.heap "java/lang/String" "COMPACT_STRINGS" "Z" (.int G1)) (P5 : (¬ (G1 = (0 : Int32)))) (X00 : Old Z n0 h0) :
    MetFree l (⟨"java/lang/String", "<init>", "(Ljava/lang/AbstractStringBuilder;Ljava/lang/Void;)V"⟩ : MethodName) (head1 (Jvm.Cond.code (⟨"java/lang/String", "<init>", "(Ljava/lang/AbstractStringBuilder;Ljava/lang/Void;)V"⟩ : MethodName) jdk_42_method_150_code 5 none :: ws) ({ frames := 3, cells := 1, slots := 15, locals := 58 } : Room)) (fun aq U => aq = #[(.ref x), (.ref sb), .null] ∧ Z.Warmed39 U.vm ∧ U.heap = h0) (fun _ _ _ _ _ => True) (fun _ U oq U' => ∃ vq Lq, oq = .returned vq ∧ Q_rmI2 Z x sb bv kb es G1 h0 n0 vq U'.heap Lq ∧ FrameEnd U oq U' Lq ({ frames := 3, cells := 1, slots := 15, locals := 58 } : Room).cells ({ frames := 3, cells := 1, slots := 15, locals := 58 } : Room).slots) := by
  refine MetFree.of_bodySF (plainFor_of_name own_pn_java_lang_String) hisR ?_
  intro p e s m args below meth c s₁ Bd hml0 hP hK
  obtain ⟨rfl, hZ, hh⟩ := hP
  have hx := Bd.exec
  have hby := Bd.bytes
  have hml : c.maxLocals = 5 := hml0
  have hown : s.vm.findClass "java/lang/String" = some m.cls := findClass_of_methodNamed Bd.named
  have hnm := (name_of_methodNamed Bd.named Bd.method).1
  have X0 : Stand p l e ({ frames := 3, cells := 1, slots := 15, locals := 58 } : Room) s m #[(.ref x), (.ref sb), .null] below meth c s₁ [] 0 0 := Stand.of_body Bd
  have e0 : s₁.heap = h0 := by rw [← hh, Bd.state]; rfl
  have N0 := Fr.nil n0
  have K0 : Keep h0 h0 [x] := Keep.refl _ _
  refine own_go (S' := s₁.setTop (mkF m 0 #[.val (.ref x), .val (.ref sb), .val .null, .unset, .unset] [])) (fun tq kq => castTop (own_ef_rmI2 m x sb bv kb es G1) kq) ?_
  have lt1 : @LT.lt Nat _ x h0.size := Pm0.lt
  have lt2 : @LT.lt Nat _ sb h0.size := Pm4.lt
  have lt3 : @LT.lt Nat _ bv h0.size := Pm7.lt
  refine own_go (fun tq kq => XS.aloadN X0.here hx rfl (hb hby own_d30_0) rfl rfl kq) ?_
  show own_Rn p e below _ (s₁.setTop (mkF m 1 #[.val (.ref x), .val (.ref sb), .val .null, .unset, .unset] [(.ref x)]))
  obtain ⟨T4, X4, e4, st4⟩ := initO X0 hx hZ hown (hw _ (own_mi 15 rfl)) (hw _ (own_mi 16 rfl)) (hw _ (own_mi 17 rfl)) e0 (g := (mkF m 1 #[.val (.ref x), .val (.ref sb), .val .null, .unset, .unset] [(.ref x)])) rfl (by rw [hml]; rfl) rfl (hb hby own_d30_1) (by decide) (W := 0) (by show 2 * 0 + _ ≤ _; exact Nat.le_of_eq rfl) (by decide)
  refine own_go st4 ?_
  show own_Rn p e below _ (T4.setTop (mkF m 4 #[.val (.ref x), .val (.ref sb), .val .null, .unset, .unset] []))
  refine own_go (fun tq kq => XS.aloadN X4.here hx rfl (hb hby own_d30_4) rfl rfl kq) ?_
  show own_Rn p e below _ (T4.setTop (mkF m 5 #[.val (.ref x), .val (.ref sb), .val .null, .unset, .unset] [(.ref sb)]))
  have Zn5 : n0 ≤ h0.size := by omega
  obtain ⟨cq5, kq5, qa5, qb5, qc5⟩ := isOf hZ e4 Pm4
  obtain ⟨rv5, _, ⟨T5, L5, k5, n5⟩, -, X5, ⟨Lc5, hQ5, l5, y5, z5⟩, st5⟩ := X4.virtualBack hx (y := (⟨"java/lang/AbstractStringBuilder", "getValue", "()[B"⟩ : MethodName)) (z := (⟨"java/lang/AbstractStringBuilder", "getValue", "()[B"⟩ : MethodName)) hown (mvT hZ (hw _ (own_mi 184 rfl))) (mvT hZ (hw _ (own_mi 185 rfl))) (notFace_of_selects (args := #[]) (mvT hZ (hw _ (own_mi 187 rfl)))) (mvT hZ (hw _ (own_mi 187 rfl))) (mvT hZ (hw _ (own_mi 186 rfl))) (by decide) (backOf (W := 0) (rmGV l Z a0 hw [] (sb) (bv) h0 n0 Zn5 Pm5) hZ (hw _ (own_mi 188 rfl)) (hw _ (own_mi 106 rfl)) (by decide) (by decide)) qa5 qc5 (g := (mkF m 5 #[.val (.ref x), .val (.ref sb), .val .null, .unset, .unset] [(.ref sb)])) rfl (by rw [hml]; rfl) (Steps.refl _) (argsL := []) (rest := []) (lenOf own_pd_28295bB rfl) rfl (by show 2 * 0 + _ ≤ _; exact Nat.le_of_eq rfl) (hb hby own_d30_5) (fun _ _ => ⟨rfl, e4, (by decide : 0 + 0 ≤ _), (by decide : 0 + 0 ≤ _)⟩)
  dsimp only [Pt.U, Pt.locs, Pt.cells, Pt.slots] at X5 l5 y5 z5 st5 hQ5
  subst l5 y5 z5
  obtain ⟨rfl, Nq5, eh5⟩ := hQ5
  have N5 := Fr.app N0 Nq5
  refine own_go (fun tq kq => st5.trans kq) ?_
  show own_Rn p e below _ (T5.setTop (mkF m 8 #[.val (.ref x), .val (.ref sb), .val .null, .unset, .unset] [(.ref bv)]))
  refine own_go (fun tq kq => XS.astoreN X5.here hx rfl (hb hby own_d30_8) rfl rfl (l' := #[.val (.ref x), .val (.ref sb), .val .null, .val (.ref bv), .unset]) rfl kq) ?_
  show own_Rn p e below _ (T5.setTop (mkF m 9 #[.val (.ref x), .val (.ref sb), .val .null, .val (.ref bv), .unset] []))
  refine own_go (fun tq kq => XS.aloadN X5.here hx rfl (hb hby own_d30_9) rfl rfl kq) ?_
  show own_Rn p e below _ (T5.setTop (mkF m 10 #[.val (.ref x), .val (.ref sb), .val .null, .val (.ref bv), .unset] [(.ref sb)]))
  have Zn6 : n0 ≤ h0.size := by omega
  obtain ⟨cq6, kq6, qa6, qb6, qc6⟩ := isOf hZ eh5 Pm4
  obtain ⟨rv6, _, ⟨T6, L6, k6, n6⟩, -, X6, ⟨Lc6, hQ6, l6, y6, z6⟩, st6⟩ := X5.virtualBack hx (y := (⟨"java/lang/AbstractStringBuilder", "length", "()I"⟩ : MethodName)) (z := (⟨"java/lang/StringBuilder", "length", "()I"⟩ : MethodName)) hown (mvT hZ (hw _ (own_mi 189 rfl))) (mvT hZ (hw _ (own_mi 190 rfl))) (own_nf (a0 := #[]) (mvT hZ (hw _ (own_mi 187 rfl))) rfl) (mvT hZ (hw _ (own_mi 192 rfl))) (mvT hZ (hw _ (own_mi 193 rfl))) (by decide) (backOf (W := 0) (rmSL l Z a0 hw [] (sb) ((Int32.ofNat es.length)) h0 n0 Zn6 Pm4 Pm8) hZ (hw _ (own_mi 194 rfl)) (hw _ (own_mi 98 rfl)) (by decide) (by decide)) qa6 qc6 (g := (mkF m 10 #[.val (.ref x), .val (.ref sb), .val .null, .val (.ref bv), .unset] [(.ref sb)])) rfl (by rw [hml]; rfl) (Steps.refl _) (argsL := []) (rest := []) (lenOf own_pd_2829I rfl) rfl (by show 2 * 0 + _ ≤ _; exact Nat.le_of_eq rfl) (hb hby own_d30_10) (fun _ _ => ⟨rfl, eh5, (by decide : 0 + 0 ≤ _), (by decide : 0 + 0 ≤ _)⟩)
  dsimp only [Pt.U, Pt.locs, Pt.cells, Pt.slots] at X6 l6 y6 z6 st6 hQ6
  subst l6 y6 z6
  obtain ⟨rfl, Nq6, eh6⟩ := hQ6
  have N6 := Fr.app N5 Nq6
  refine own_go (fun tq kq => st6.trans kq) ?_
  show own_Rn p e below _ (T6.setTop (mkF m 13 #[.val (.ref x), .val (.ref sb), .val .null, .val (.ref bv), .unset] [(.int (Int32.ofNat es.length))]))
  refine own_go (fun tq kq => XS.istore X6.here hx rfl (hb hby own_d30_13) rfl (l' := #[.val (.ref x), .val (.ref sb), .val .null, .val (.ref bv), .val (.int (Int32.ofNat es.length))]) rfl kq) ?_
  show own_Rn p e below _ (T6.setTop (mkF m 15 #[.val (.ref x), .val (.ref sb), .val .null, .val (.ref bv), .val (.int (Int32.ofNat es.length))] []))
  refine own_go (fun tq kq => XS.aloadN X6.here hx rfl (hb hby own_d30_15) rfl rfl kq) ?_
  show own_Rn p e below _ (T6.setTop (mkF m 16 #[.val (.ref x), .val (.ref sb), .val .null, .val (.ref bv), .val (.int (Int32.ofNat es.length))] [(.ref sb)]))
  have Zn7 : n0 ≤ h0.size := by omega
  obtain ⟨cq7, kq7, qa7, qb7, qc7⟩ := isOf hZ eh6 Pm4
  obtain ⟨rv7, _, ⟨T7, L7, k7, n7⟩, -, X7, ⟨Lc7, hQ7, l7, y7, z7⟩, st7⟩ := X6.virtualBack hx (y := (⟨"java/lang/AbstractStringBuilder", "isLatin1", "()Z"⟩ : MethodName)) (z := (⟨"java/lang/AbstractStringBuilder", "isLatin1", "()Z"⟩ : MethodName)) hown (mvT hZ (hw _ (own_mi 197 rfl))) (mvT hZ (hw _ (own_mi 198 rfl))) (notFace_of_selects (args := #[]) (mvT hZ (hw _ (own_mi 200 rfl)))) (mvT hZ (hw _ (own_mi 200 rfl))) (mvT hZ (hw _ (own_mi 199 rfl))) (by decide) (backOf (W := 0) (rmIL l Z a0 hw [] (sb) (G1) h0 n0 Zn7 Pm6 (O2) (P5) X00) hZ (hw _ (own_mi 201 rfl)) (hw _ (own_mi 106 rfl)) (by decide) (by decide)) qa7 qc7 (g := (mkF m 16 #[.val (.ref x), .val (.ref sb), .val .null, .val (.ref bv), .val (.int (Int32.ofNat es.length))] [(.ref sb)])) rfl (by rw [hml]; rfl) (Steps.refl _) (argsL := []) (rest := []) (lenOf own_pd_2829Z rfl) rfl (by show 2 * 0 + _ ≤ _; exact Nat.le_of_eq rfl) (hb hby own_d30_16) (fun _ _ => ⟨rfl, eh6, (by decide : 0 + 0 ≤ _), (by decide : 0 + 0 ≤ _)⟩)
  dsimp only [Pt.U, Pt.locs, Pt.cells, Pt.slots] at X7 l7 y7 z7 st7 hQ7
  subst l7 y7 z7
  obtain ⟨rfl, Nq7, eh7⟩ := hQ7
  have N7 := Fr.app N6 Nq7
  refine own_go (fun tq kq => st7.trans kq) ?_
  show own_Rn p e below _ (T7.setTop (mkF m 19 #[.val (.ref x), .val (.ref sb), .val .null, .val (.ref bv), .val (.int (Int32.ofNat es.length))] [(.int (1 : Int32))]))
  refine own_go (fun tq kq => XS.ifNo X7.here hx rfl (hb hby own_d30_19) rfl ((if0 _ _).trans (feq ((by decide : ¬ ((1 : Int32) = (0 : Int32))) : ¬ ((1 : Int32) = (0 : Int32)))).1) kq) ?_
  show own_Rn p e below _ (T7.setTop (mkF m 22 #[.val (.ref x), .val (.ref sb), .val .null, .val (.ref bv), .val (.int (Int32.ofNat es.length))] []))
  refine own_go (fun tq kq => XS.aloadN X7.here hx rfl (hb hby own_d30_22) rfl rfl kq) ?_
  show own_Rn p e below _ (T7.setTop (mkF m 23 #[.val (.ref x), .val (.ref sb), .val .null, .val (.ref bv), .val (.int (Int32.ofNat es.length))] [(.ref x)]))
  refine own_go (fun tq kq => XS.iconst X7.here hx rfl (hb hby own_d30_23) kq) ?_
  show own_Rn p e below _ (T7.setTop (mkF m 24 #[.val (.ref x), .val (.ref sb), .val .null, .val (.ref bv), .val (.int (Int32.ofNat es.length))] [(.int (0 : Int32)), (.ref x)]))
  obtain ⟨T8, h8, X8, e8, W8, st8⟩ := putFN X7 hx hZ hown (hw _ (own_mi 30 rfl)) Via.refl eh7 Pm2 Pm0 (Or.inr ⟨(hw _ (own_mi 31 rfl)), rfl, hnm⟩) (hw _ (own_mi 5 rfl)) (ty := .byte) (v' := (.int ((0 : Int32)))) own_fd_B rfl (by decide) (g := (mkF m 24 #[.val (.ref x), .val (.ref sb), .val .null, .val (.ref bv), .val (.int (Int32.ofNat es.length))] [(.int (0 : Int32)), (.ref x)])) rfl rfl (hb hby own_d30_24)
  refine own_go st8 ?_
  have N8 := Fr.snoc X8 N7 Pm3
  have Fw8 := Pm2.same W8
  have sz9 : h0.size ≤ h8.size := Nat.le_of_eq (Wr.size W8).symm
  have K9 := K0.wr W8 (Or.inl (List.mem_of_getElem? (i := 0) rfl))
  show own_Rn p e below _ (T8.setTop (mkF m 27 #[.val (.ref x), .val (.ref sb), .val .null, .val (.ref bv), .val (.int (Int32.ofNat es.length))] []))
  refine own_go (fun tq kq => XS.aloadN X8.here hx rfl (hb hby own_d30_27) rfl rfl kq) ?_
  show own_Rn p e below _ (T8.setTop (mkF m 28 #[.val (.ref x), .val (.ref sb), .val .null, .val (.ref bv), .val (.int (Int32.ofNat es.length))] [(.ref x)]))
  refine own_go (fun tq kq => XS.aloadN X8.here hx rfl (hb hby own_d30_28) rfl rfl kq) ?_
  show own_Rn p e below _ (T8.setTop (mkF m 29 #[.val (.ref x), .val (.ref sb), .val .null, .val (.ref bv), .val (.int (Int32.ofNat es.length))] [(.ref bv), (.ref x)]))
  refine own_go (fun tq kq => XS.iconst X8.here hx rfl (hb hby own_d30_29) kq) ?_
  show own_Rn p e below _ (T8.setTop (mkF m 30 #[.val (.ref x), .val (.ref sb), .val .null, .val (.ref bv), .val (.int (Int32.ofNat es.length))] [(.int (0 : Int32)), (.ref bv), (.ref x)]))
  refine own_go (fun tq kq => XS.iload X8.here hx rfl (hb hby own_d30_30) rfl kq) ?_
  show own_Rn p e below _ (T8.setTop (mkF m 32 #[.val (.ref x), .val (.ref sb), .val .null, .val (.ref bv), .val (.int (Int32.ofNat es.length))] [(.int (Int32.ofNat es.length)), (.int (0 : Int32)), (.ref bv), (.ref x)]))
  have Zn10 : n0 ≤ h8.size := by omega
  have ne11 : bv ≠ x := Ne.symm (Exa.neArv Pm0 Pm7 (hw _ (own_mi 5 rfl)))
  have F12 : Arv Z h8 bv kb .byte (16 : Int32) (own_bs es) (.int 0) := (Pm7.other W8 ne11)
  obtain ⟨rv10, _, ⟨T10, L10, k10, n10⟩, -, X10, ⟨Lc10, hQ10, l10, y10, z10⟩, st10⟩ := Jvm.LawKit.callS X8 hx (y := (⟨"java/util/Arrays", "copyOfRange", "([BII)[B"⟩ : MethodName)) hown (mvT hZ (hw _ (own_mi 202 rfl))) (mvT hZ (hw _ (own_mi 203 rfl))) (mvT hZ (hw _ (own_mi 204 rfl))) (mvT hZ (hw _ (own_mi 205 rfl))) (by decide) (backOf (W := 1) (rmCR l Z a0 hw [] (bv) (kb) (es) h8 n0 Zn10 F12 (h15)) hZ (hw _ (own_mi 205 rfl)) (hw _ (own_mi 204 rfl)) (by decide) (by decide)) (g := (mkF m 32 #[.val (.ref x), .val (.ref sb), .val .null, .val (.ref bv), .val (.int (Int32.ofNat es.length))] [(.int (Int32.ofNat es.length)), (.int (0 : Int32)), (.ref bv), (.ref x)])) rfl (by rw [hml]; rfl) (argsL := [(.ref bv), (.int (0 : Int32)), (.int (Int32.ofNat es.length))]) (rest := [(.ref x)]) (lenOf own_pd_285bBII295bB rfl) rfl (by show 2 * 0 + _ ≤ _; exact Nat.le_of_eq rfl) (hb hby own_d30_32) (fun _ _ => ⟨rfl, e8, (by decide : 0 + 1 ≤ _), (by decide : 0 + 15 ≤ _)⟩)
  dsimp only [Pt.U, Pt.locs, Pt.cells, Pt.slots] at X10 l10 y10 z10 st10 hQ10
  subst l10 y10 z10
  obtain ⟨tt, ktt, rfl, Nq10, Kq10, G0_10, G1_10, G2_10⟩ := hQ10
  have N10 := Fr.app N8 Nq10
  have sz13 : h8.size ≤ T10.heap.size := Kq10.1
  have K13 := K9.trans Kq10 all0
  have lt14 : @LT.lt Nat _ tt T10.heap.size := G2_10.lt
  refine own_go st10 ?_
  show own_Rn p e below _ (T10.setTop (mkF m 35 #[.val (.ref x), .val (.ref sb), .val .null, .val (.ref bv), .val (.int (Int32.ofNat es.length))] [(.ref tt), (.ref x)]))
  have F15 : Fld Z T10.heap x "java/lang/String" "value" "[B" .null := ((Pm1.other W8 (Or.inr (slot_ne (Or.inr (hw _ (own_mi 33 rfl))) (Or.inr (hw _ (own_mi 31 rfl))) (by decide) (t := (.array .byte)) (t' := .byte) own_fd_5bB own_fd_B))).keep Kq10 nin0)
  have F16 : Exa Z T10.heap x "java/lang/String" := ((Pm0.wr W8).keep Kq10)
  obtain ⟨T17, h17, X17, e17, W17, st17⟩ := putF X10 hx hZ hown (host := "") (Or.inl (hw _ (own_mi 32 rfl))) Via.refl rfl F15 F16 (Or.inr ⟨(hw _ (own_mi 33 rfl)), rfl, hnm⟩) (hw _ (own_mi 5 rfl)) (ty := (.array .byte)) own_fd_5bB rfl rfl (g := (mkF m 35 #[.val (.ref x), .val (.ref sb), .val .null, .val (.ref bv), .val (.int (Int32.ofNat es.length))] [(.ref tt), (.ref x)])) rfl rfl (hb hby own_d30_35)
  refine own_go st17 ?_
  have N17 := Fr.snoc X17 N10 Pm3
  have Fw17 := F15.same W17
  have sz18 : T10.heap.size ≤ h17.size := Nat.le_of_eq (Wr.size W17).symm
  have K18 := K13.wr W17 (Or.inl (List.mem_of_getElem? (i := 0) rfl))
  show own_Rn p e below _ (T17.setTop (mkF m 38 #[.val (.ref x), .val (.ref sb), .val .null, .val (.ref bv), .val (.int (Int32.ofNat es.length))] []))
  refine own_go (fun tq kq => XS.goto X17.here hx rfl (pc0 := 38) (pc' := 97) rfl (hb hby own_d30_38) (by decide) (by decide) kq) ?_
  show own_Rn p e below _ (T17.setTop (mkF m 97 #[.val (.ref x), .val (.ref sb), .val .null, .val (.ref bv), .val (.int (Int32.ofNat es.length))] []))
  have F19 : Fld Z h17 x "java/lang/String" "coder" "B" (.int (0 : Int32)) := ((Fw8.keep Kq10 nin0).other W17 (Or.inr (slot_ne (Or.inr (hw _ (own_mi 31 rfl))) (Or.inr (hw _ (own_mi 33 rfl))) (by decide) (t := .byte) (t' := (.array .byte)) own_fd_B own_fd_5bB)))
  have ne20 : tt ≠ x := own_nea (by omega)
  have F21 : Arv Z h17 tt ktt .byte (Int32.ofNat es.length) (own_bs es) (.int 0) := (G2_10.other W17 ne20)
  exact own_ret X17 (v := none) (fun _ => rfl) (fun fs hr => X17.returnOut hx Bd.returns (hb hby own_d30_97) hr) (by rw [e17]; exact ⟨tt, ktt, rfl, N17, K18, (by omega), G1_10, Fw17, F19, F21⟩) (by decide) (by decide)
theorem own_ef_rmI1 (m : MethodId) (x : Addr) (sb : Addr) (bv : Addr) (kb : ClassId) (es : List Int32) (G1 : Int32) : entryFrame m #[(.ref x), (.ref sb)] 2 = mkF m 0 #[.val (.ref x), .val (.ref sb)] [] := by first | (simp [entryFrame, mkF, argsToLocals, Value.category]; done) | rfl
theorem own_d29_0 : decode jdk_42_method_53_code 0 = .ok (.aload_n 0, 1) := by decide +kernel
theorem own_d29_1 : decode jdk_42_method_53_code 1 = .ok (.aload_n 1, 1) := by decide +kernel
theorem own_d29_2 : decode jdk_42_method_53_code 2 = .ok (.aconst_null, 1) := by decide +kernel
theorem own_d29_3 : decode jdk_42_method_53_code 3 = .ok (.invokespecial 489, 3) := by decide +kernel
theorem own_pd_28Ljava2flang2fAbstractStringBuilder3bLjava2flang2fVoid3b29V : parseMethodDescriptor "(Ljava/lang/AbstractStringBuilder;Ljava/lang/Void;)V" = some ⟨[(.object "java/lang/AbstractStringBuilder"), (.object "java/lang/Void")], none⟩ := by decide +kernel
theorem own_d29_6 : decode jdk_42_method_53_code 6 = .ok (.return_, 1) := by decide +kernel
def Q_rmI1 (Z : State) (x : Addr) (sb : Addr) (bv : Addr) (kb : ClassId) (es : List Int32) (G1 : Int32) (h0 : Heap) (n0 : Nat) (vq : Option Value) (hhq : Heap) (Lq : List Loc) : Prop := ∃ (t : Addr), ∃ (kt : ClassId), vq = none ∧ Fr n0 Lq ∧ Keep h0 hhq [x] ∧ h0.size ≤ t ∧ n0 ≤ t ∧ Fld Z hhq x "java/lang/String" "value" "[B" (.ref t) ∧ Fld Z hhq x "java/lang/String" "coder" "B" (.int (0 : Int32)) ∧ Arv Z hhq t kt .byte (Int32.ofNat es.length) (own_bs es) (.int 0)
set_option maxRecDepth 65536 in
set_option maxHeartbeats 40000000 in
theorem rmI1 (l : Launch) (Z : State) (a0 : Array Value) (hw : ∀ d ∈ tables_1, d.before a0 Z = true) (ws : List Jvm.Cond) (x : Addr) (sb : Addr) (bv : Addr) (kb : ClassId) (es : List Int32) (G1 : Int32) (h0 : Heap) (n0 : Nat) (Z0 : n0 ≤ h0.size) (Pm0 : Exa Z h0 x "java/lang/String") (Pm1 : Fld Z h0 x "java/lang/String" "value" "[B" .null) (Pm2 : Fld Z h0 x "java/lang/String" "coder" "B" (.int (0 : Int32))) (Pm3 : n0 ≤ x) (Pm4 : Exa Z h0 sb "java/lang/StringBuilder") (Pm5 : Fld Z h0 sb "java/lang/AbstractStringBuilder" "value" "[B" (.ref bv)) (Pm6 : Fld Z h0 sb "java/lang/AbstractStringBuilder" "coder" "B" (.int (0 : Int32))) (Pm7 : Arv Z h0 bv kb .byte (16 : Int32) (own_bs es) (.int 0)) (Pm8 : Fld Z h0 sb "java/lang/AbstractStringBuilder" "count" "I" (.int (Int32.ofNat es.length))) (h15 : (es.length ≤ 15)) (O2 : Sta Z Z.heap "java/lang/String" "COMPACT_STRINGS" "Z" (.int G1)) (P5 : (¬ (G1 = (0 : Int32)))) (X00 : Old Z n0 h0) :
    MetFree l (⟨"java/lang/String", "<init>", "(Ljava/lang/StringBuilder;)V"⟩ : MethodName) (head1 (Jvm.Cond.code (⟨"java/lang/String", "<init>", "(Ljava/lang/StringBuilder;)V"⟩ : MethodName) jdk_42_method_53_code 2 none :: ws) ({ frames := 4, cells := 1, slots := 15, locals := 74 } : Room)) (fun aq U => aq = #[(.ref x), (.ref sb)] ∧ Z.Warmed39 U.vm ∧ U.heap = h0) (fun _ _ _ _ _ => True) (fun _ U oq U' => ∃ vq Lq, oq = .returned vq ∧ Q_rmI1 Z x sb bv kb es G1 h0 n0 vq U'.heap Lq ∧ FrameEnd U oq U' Lq ({ frames := 4, cells := 1, slots := 15, locals := 74 } : Room).cells ({ frames := 4, cells := 1, slots := 15, locals := 74 } : Room).slots) := by
  refine MetFree.of_bodySF (plainFor_of_name own_pn_java_lang_String) hisR ?_
  intro p e s m args below meth c s₁ Bd hml0 hP hK
  obtain ⟨rfl, hZ, hh⟩ := hP
  have hx := Bd.exec
  have hby := Bd.bytes
  have hml : c.maxLocals = 2 := hml0
  have hown : s.vm.findClass "java/lang/String" = some m.cls := findClass_of_methodNamed Bd.named
  have hnm := (name_of_methodNamed Bd.named Bd.method).1
  have X0 : Stand p l e ({ frames := 4, cells := 1, slots := 15, locals := 74 } : Room) s m #[(.ref x), (.ref sb)] below meth c s₁ [] 0 0 := Stand.of_body Bd
  have e0 : s₁.heap = h0 := by rw [← hh, Bd.state]; rfl
  have N0 := Fr.nil n0
  have K0 : Keep h0 h0 [x] := Keep.refl _ _
  refine own_go (S' := s₁.setTop (mkF m 0 #[.val (.ref x), .val (.ref sb)] [])) (fun tq kq => castTop (own_ef_rmI1 m x sb bv kb es G1) kq) ?_
  have lt1 : @LT.lt Nat _ x h0.size := Pm0.lt
  have lt2 : @LT.lt Nat _ sb h0.size := Pm4.lt
  have lt3 : @LT.lt Nat _ bv h0.size := Pm7.lt
  refine own_go (fun tq kq => XS.aloadN X0.here hx rfl (hb hby own_d29_0) rfl rfl kq) ?_
  show own_Rn p e below _ (s₁.setTop (mkF m 1 #[.val (.ref x), .val (.ref sb)] [(.ref x)]))
  refine own_go (fun tq kq => XS.aloadN X0.here hx rfl (hb hby own_d29_1) rfl rfl kq) ?_
  show own_Rn p e below _ (s₁.setTop (mkF m 2 #[.val (.ref x), .val (.ref sb)] [(.ref sb), (.ref x)]))
  refine own_go (fun tq kq => XS.aconstNull X0.here hx rfl (hb hby own_d29_2) kq) ?_
  show own_Rn p e below _ (s₁.setTop (mkF m 3 #[.val (.ref x), .val (.ref sb)] [.null, (.ref sb), (.ref x)]))
  have Zn4 : n0 ≤ h0.size := by omega
  obtain ⟨rv4, _, ⟨T4, L4, k4, n4⟩, -, X4, ⟨Lc4, hQ4, l4, y4, z4⟩, st4⟩ := X0.specialBack hx (y := (⟨"java/lang/String", "<init>", "(Ljava/lang/AbstractStringBuilder;Ljava/lang/Void;)V"⟩ : MethodName)) rfl hown (mvT hZ (hw _ (own_mi 181 rfl))) (mvT hZ (hw _ (own_mi 182 rfl))) (mvT hZ (hw _ (own_mi 183 rfl))) (by decide) (backOf (W := 0) (rmI2 l Z a0 hw [] (x) (sb) (bv) (kb) (es) (G1) h0 n0 Zn4 Pm0 Pm1 Pm2 Pm3 Pm4 Pm5 Pm6 Pm7 Pm8 (h15) (O2) (P5) X00) hZ (hw _ (own_mi 183 rfl)) (hw _ (own_mi 6 rfl)) (by decide) (by decide)) (g := (mkF m 3 #[.val (.ref x), .val (.ref sb)] [.null, (.ref sb), (.ref x)])) rfl (by rw [hml]; rfl) (Steps.refl _) (a := x) (argsL := [(.ref sb), .null]) (rest := []) (lenOf own_pd_28Ljava2flang2fAbstractStringBuilder3bLjava2flang2fVoid3b29V rfl) rfl (by show 2 * 0 + _ ≤ _; exact Nat.le_of_eq rfl) (hb hby own_d29_3) (fun _ _ => ⟨rfl, e0, (by decide : 0 + 1 ≤ _), (by decide : 0 + 15 ≤ _)⟩)
  dsimp only [Pt.U, Pt.locs, Pt.cells, Pt.slots] at X4 l4 y4 z4 st4 hQ4
  subst l4 y4 z4
  obtain ⟨tt, ktt, rfl, Nq4, Kq4, G0_4, G1_4, G2_4, G3_4, G4_4⟩ := hQ4
  have N4 := Fr.app N0 Nq4
  have sz5 : h0.size ≤ T4.heap.size := Kq4.1
  have K5 := K0.trans Kq4 (allS (Or.inl (List.mem_of_getElem? (i := 0) rfl)) all0)
  have lt6 : @LT.lt Nat _ tt T4.heap.size := G4_4.lt
  refine own_go (fun tq kq => st4.trans kq) ?_
  show own_Rn p e below _ (T4.setTop (mkF m 6 #[.val (.ref x), .val (.ref sb)] []))
  exact own_ret X4 (v := none) (fun _ => rfl) (fun fs hr => X4.returnOut hx Bd.returns (hb hby own_d29_6) hr) (⟨tt, ktt, rfl, N4, K5, (by omega), G1_4, G2_4, G3_4, G4_4⟩) (by decide) (by decide)
theorem own_ef_rmTS (m : MethodId) (sb : Addr) (bv : Addr) (kb : ClassId) (es : List Int32) (G1 : Int32) : entryFrame m #[(.ref sb)] 1 = mkF m 0 #[.val (.ref sb)] [] := by first | (simp [entryFrame, mkF, argsToLocals, Value.category]; done) | rfl
theorem own_d28_0 : decode jdk_67_method_42_code 0 = .ok (.new 18, 3) := by decide +kernel
theorem own_d28_3 : decode jdk_67_method_42_code 3 = .ok (.dup, 1) := by decide +kernel
theorem own_d28_4 : decode jdk_67_method_42_code 4 = .ok (.aload_n 0, 1) := by decide +kernel
theorem own_d28_5 : decode jdk_67_method_42_code 5 = .ok (.invokespecial 137, 3) := by decide +kernel
theorem own_pd_28Ljava2flang2fStringBuilder3b29V : parseMethodDescriptor "(Ljava/lang/StringBuilder;)V" = some ⟨[(.object "java/lang/StringBuilder")], none⟩ := by decide +kernel
theorem own_d28_8 : decode jdk_67_method_42_code 8 = .ok (.areturn, 1) := by decide +kernel
def Q_rmTS (Z : State) (sb : Addr) (bv : Addr) (kb : ClassId) (es : List Int32) (G1 : Int32) (h0 : Heap) (n0 : Nat) (vq : Option Value) (hhq : Heap) (Lq : List Loc) : Prop := ∃ (x : Addr), ∃ (t : Addr), ∃ (kt : ClassId), vq = some (.ref x) ∧ Fr n0 Lq ∧ Keep h0 hhq [] ∧ h0.size ≤ x ∧ n0 ≤ x ∧ h0.size ≤ t ∧ n0 ≤ t ∧ Fld Z hhq x "java/lang/String" "value" "[B" (.ref t) ∧ Fld Z hhq x "java/lang/String" "coder" "B" (.int (0 : Int32)) ∧ Arv Z hhq t kt .byte (Int32.ofNat es.length) (own_bs es) (.int 0) ∧ Exa Z hhq x "java/lang/String"
set_option maxRecDepth 65536 in
set_option maxHeartbeats 40000000 in
theorem rmTS (l : Launch) (Z : State) (a0 : Array Value) (hw : ∀ d ∈ tables_1, d.before a0 Z = true) (ws : List Jvm.Cond) (sb : Addr) (bv : Addr) (kb : ClassId) (es : List Int32) (G1 : Int32) (h0 : Heap) (n0 : Nat) (Z0 : n0 ≤ h0.size) (Pm0 : Exa Z h0 sb "java/lang/StringBuilder") (Pm1 : Fld Z h0 sb "java/lang/AbstractStringBuilder" "value" "[B" (.ref bv)) (Pm2 : Fld Z h0 sb "java/lang/AbstractStringBuilder" "coder" "B" (.int (0 : Int32))) (Pm3 : Arv Z h0 bv kb .byte (16 : Int32) (own_bs es) (.int 0)) (Pm4 : Fld Z h0 sb "java/lang/AbstractStringBuilder" "count" "I" (.int (Int32.ofNat es.length))) (h15 : (es.length ≤ 15)) (O2 : Sta Z Z.heap "java/lang/String" "COMPACT_STRINGS" "Z" (.int G1)) (P5 : (¬ (G1 = (0 : Int32)))) (X00 : Old Z n0 h0) :
    MetFree l (⟨"java/lang/StringBuilder", "toString", "()Ljava/lang/String;"⟩ : MethodName) (head1 (Jvm.Cond.code (⟨"java/lang/StringBuilder", "toString", "()Ljava/lang/String;"⟩ : MethodName) jdk_67_method_42_code 1 (some (.object "java/lang/String")) :: ws) ({ frames := 5, cells := 2, slots := 19, locals := 88 } : Room)) (fun aq U => aq = #[(.ref sb)] ∧ Z.Warmed39 U.vm ∧ U.heap = h0) (fun _ _ _ _ _ => True) (fun _ U oq U' => ∃ vq Lq, oq = .returned vq ∧ Q_rmTS Z sb bv kb es G1 h0 n0 vq U'.heap Lq ∧ FrameEnd U oq U' Lq ({ frames := 5, cells := 2, slots := 19, locals := 88 } : Room).cells ({ frames := 5, cells := 2, slots := 19, locals := 88 } : Room).slots) := by
  refine MetFree.of_bodySF (plainFor_of_name own_pn_java_lang_StringBuilder) hisR ?_
  intro p e s m args below meth c s₁ Bd hml0 hP hK
  obtain ⟨rfl, hZ, hh⟩ := hP
  have hx := Bd.exec
  have hby := Bd.bytes
  have hml : c.maxLocals = 1 := hml0
  have hown : s.vm.findClass "java/lang/StringBuilder" = some m.cls := findClass_of_methodNamed Bd.named
  have hnm := (name_of_methodNamed Bd.named Bd.method).1
  have X0 : Stand p l e ({ frames := 5, cells := 2, slots := 19, locals := 88 } : Room) s m #[(.ref sb)] below meth c s₁ [] 0 0 := Stand.of_body Bd
  have e0 : s₁.heap = h0 := by rw [← hh, Bd.state]; rfl
  have N0 := Fr.nil n0
  have K0 : Keep h0 h0 [] := Keep.refl _ _
  refine own_go (S' := s₁.setTop (mkF m 0 #[.val (.ref sb)] [])) (fun tq kq => castTop (own_ef_rmTS m sb bv kb es G1) kq) ?_
  have lt1 : @LT.lt Nat _ sb h0.size := Pm0.lt
  have lt2 : @LT.lt Nat _ bv h0.size := Pm3.lt
  obtain ⟨T3, h3, X3, e3, E3, A3, D3, -, st3⟩ := newO X0 hx hZ hown (hw _ (own_mi 177 rfl)) (hw _ (own_mi 5 rfl)) (hw _ (own_mi 6 rfl)) e0 (g := (mkF m 0 #[.val (.ref sb)] [])) rfl (hb hby own_d28_0) (by decide) (by decide)
  obtain ⟨b3, g3⟩ : ∃ z, z = h0.size := ⟨_, rfl⟩
  rw [← g3] at A3 D3 st3
  refine own_go st3 ?_
  have sz4 : h0.size ≤ h3.size := E3.1
  have K4 := K0.ext E3
  have lt5 : @LT.lt Nat _ b3 h3.size := A3.lt
  have gn3 : n0 ≤ b3 := by omega
  have D3_coder : Fld Z h3 b3 "java/lang/String" "coder" "B" (.int (0 : Int32)) := D3 (Or.inr (hw _ (own_mi 31 rfl))) (ty := .byte) own_fd_B
  have D3_value : Fld Z h3 b3 "java/lang/String" "value" "[B" .null := D3 (Or.inr (hw _ (own_mi 33 rfl))) (ty := (.array .byte)) own_fd_5bB
  show own_Rn p e below _ (T3.setTop (mkF m 3 #[.val (.ref sb)] [(.ref b3)]))
  refine own_go (fun tq kq => XS.dup X3.here hx rfl (hb hby own_d28_3) rfl rfl kq) ?_
  show own_Rn p e below _ (T3.setTop (mkF m 4 #[.val (.ref sb)] [(.ref b3), (.ref b3)]))
  refine own_go (fun tq kq => XS.aloadN X3.here hx rfl (hb hby own_d28_4) rfl rfl kq) ?_
  show own_Rn p e below _ (T3.setTop (mkF m 5 #[.val (.ref sb)] [(.ref sb), (.ref b3), (.ref b3)]))
  have Zn6 : n0 ≤ h3.size := by omega
  have F7 : Exa Z h3 sb "java/lang/StringBuilder" := (Pm0.ext E3)
  have F8 : Fld Z h3 sb "java/lang/AbstractStringBuilder" "value" "[B" (.ref bv) := (Pm1.ext E3)
  have F9 : Fld Z h3 sb "java/lang/AbstractStringBuilder" "coder" "B" (.int (0 : Int32)) := (Pm2.ext E3)
  have F10 : Arv Z h3 bv kb .byte (16 : Int32) (own_bs es) (.int 0) := (Pm3.ext E3)
  have F11 : Fld Z h3 sb "java/lang/AbstractStringBuilder" "count" "I" (.int (Int32.ofNat es.length)) := (Pm4.ext E3)
  have F12 : Old Z n0 h3 := (X00.ext E3)
  obtain ⟨rv6, _, ⟨T6, L6, k6, n6⟩, -, X6, ⟨Lc6, hQ6, l6, y6, z6⟩, st6⟩ := X3.specialBack hx (y := (⟨"java/lang/String", "<init>", "(Ljava/lang/StringBuilder;)V"⟩ : MethodName)) rfl hown (mvT hZ (hw _ (own_mi 178 rfl))) (mvT hZ (hw _ (own_mi 179 rfl))) (mvT hZ (hw _ (own_mi 180 rfl))) (by decide) (backOf (W := 1) (rmI1 l Z a0 hw [] (b3) (sb) (bv) (kb) (es) (G1) h3 n0 Zn6 A3 D3_value D3_coder gn3 F7 F8 F9 F10 F11 (h15) (O2) (P5) F12) hZ (hw _ (own_mi 180 rfl)) (hw _ (own_mi 6 rfl)) (by decide) (by decide)) (g := (mkF m 5 #[.val (.ref sb)] [(.ref sb), (.ref b3), (.ref b3)])) rfl (by rw [hml]; rfl) (Steps.refl _) (a := b3) (argsL := [(.ref sb)]) (rest := [(.ref b3)]) (lenOf own_pd_28Ljava2flang2fStringBuilder3b29V rfl) rfl (by show 2 * 0 + _ ≤ _; exact Nat.le_of_eq rfl) (hb hby own_d28_5) (fun _ _ => ⟨rfl, e3, (by decide : 1 + 1 ≤ _), (by decide : 4 + 15 ≤ _)⟩)
  dsimp only [Pt.U, Pt.locs, Pt.cells, Pt.slots] at X6 l6 y6 z6 st6 hQ6
  subst l6 y6 z6
  obtain ⟨tt, ktt, rfl, Nq6, Kq6, G0_6, G1_6, G2_6, G3_6, G4_6⟩ := hQ6
  have N6 := Fr.app N0 Nq6
  have sz13 : h3.size ≤ T6.heap.size := Kq6.1
  have K13 := K4.trans Kq6 (allS (Or.inr (by omega)) all0)
  have lt14 : @LT.lt Nat _ tt T6.heap.size := G4_6.lt
  refine own_go (fun tq kq => st6.trans kq) ?_
  show own_Rn p e below _ (T6.setTop (mkF m 8 #[.val (.ref sb)] [(.ref b3)]))
  have F15 : Exa Z T6.heap b3 "java/lang/String" := (A3.keep Kq6)
  exact own_ret X6 (v := some (.ref b3)) (fun h => by rw [Bd.returns] at h; cases h) (fun fs hr => X6.areturnOut hx rfl Bd.returns rfl (hb hby own_d28_8) hr) (⟨b3, tt, ktt, rfl, N6, K13, (by omega), gn3, (by omega), G1_6, G2_6, G3_6, G4_6, F15⟩) (by decide) (by decide)
theorem own_ef_rmStr (m : MethodId) (K : Nat) (a : Int32) (b : Int32) (G1 : Int32) : entryFrame m #[(.int (Int32.ofNat K)), (.int a), (.int b)] 3 = mkF m 0 #[.val (.int (Int32.ofNat K)), .val (.int a), .val (.int b)] [] := by first | (simp [entryFrame, mkF, argsToLocals, Value.category]; done) | rfl
theorem own_pn_com_example_cellwise_cellwise_CellNamePinLaw : plainName "com/example/cellwise/cellwise/CellNamePinLaw" = true := by first | (simp [plainName, overriddenIn]; done) | decide +kernel
theorem own_d0_0 : decode method_3_code 0 = .ok (.iload_n 0, 1) := by decide +kernel
theorem own_d0_1 : decode method_3_code 1 = .ok (.ifCond .ne 14, 3) := by decide +kernel
theorem own_d0_4 : decode method_3_code 4 = .ok (.new 16, 3) := by decide +kernel
theorem own_d0_7 : decode method_3_code 7 = .ok (.dup, 1) := by decide +kernel
theorem own_d0_8 : decode method_3_code 8 = .ok (.iconst 0, 1) := by decide +kernel
theorem own_d0_9 : decode method_3_code 9 = .ok (.newarray .char, 2) := by decide +kernel
theorem own_d0_11 : decode method_3_code 11 = .ok (.invokespecial 46, 3) := by decide +kernel
theorem own_pd_285bC29V : parseMethodDescriptor "([C)V" = some ⟨[(.array .char)], none⟩ := by decide +kernel
theorem own_d0_14 : decode method_3_code 14 = .ok (.areturn, 1) := by decide +kernel
theorem own_d0_15 : decode method_3_code 15 = .ok (.iload_n 0, 1) := by decide +kernel
theorem own_d0_16 : decode method_3_code 16 = .ok (.iconst 1, 1) := by decide +kernel
theorem own_d0_17 : decode method_3_code 17 = .ok (.if_icmp .ne 8, 3) := by decide +kernel
theorem own_d0_20 : decode method_3_code 20 = .ok (.iload_n 1, 1) := by decide +kernel
theorem own_d0_21 : decode method_3_code 21 = .ok (.invokestatic 15, 3) := by decide +kernel
theorem own_pd_28C29Ljava2flang2fString3b : parseMethodDescriptor "(C)Ljava/lang/String;" = some ⟨[.char], some (.object "java/lang/String")⟩ := by decide +kernel
theorem own_d0_24 : decode method_3_code 24 = .ok (.areturn, 1) := by decide +kernel
theorem own_d0_25 : decode method_3_code 25 = .ok (.new 16, 3) := by decide +kernel
theorem own_d0_28 : decode method_3_code 28 = .ok (.dup, 1) := by decide +kernel
theorem own_d0_29 : decode method_3_code 29 = .ok (.iconst 2, 1) := by decide +kernel
theorem own_d0_30 : decode method_3_code 30 = .ok (.newarray .char, 2) := by decide +kernel
theorem own_d0_32 : decode method_3_code 32 = .ok (.dup, 1) := by decide +kernel
theorem own_d0_33 : decode method_3_code 33 = .ok (.iconst 0, 1) := by decide +kernel
theorem own_d0_34 : decode method_3_code 34 = .ok (.iload_n 1, 1) := by decide +kernel
theorem own_d0_35 : decode method_3_code 35 = .ok (.castore, 1) := by decide +kernel
theorem own_d0_36 : decode method_3_code 36 = .ok (.dup, 1) := by decide +kernel
theorem own_d0_37 : decode method_3_code 37 = .ok (.iconst 1, 1) := by decide +kernel
theorem own_d0_38 : decode method_3_code 38 = .ok (.iload_n 2, 1) := by decide +kernel
theorem own_d0_39 : decode method_3_code 39 = .ok (.castore, 1) := by decide +kernel
theorem own_d0_40 : decode method_3_code 40 = .ok (.invokespecial 46, 3) := by decide +kernel
theorem own_d0_43 : decode method_3_code 43 = .ok (.areturn, 1) := by decide +kernel
def Q_rmStr (Z : State) (K : Nat) (a : Int32) (b : Int32) (G1 : Int32) (h0 : Heap) (n0 : Nat) (vq : Option Value) (hhq : Heap) (Lq : List Loc) : Prop := ∃ (x : Addr), ∃ (t : Addr), ∃ (kt : ClassId), vq = some (.ref x) ∧ Fr n0 Lq ∧ Keep h0 hhq [] ∧ Exa Z hhq x "java/lang/String" ∧ Fld Z hhq x "java/lang/String" "value" "[B" (.ref t) ∧ Fld Z hhq x "java/lang/String" "coder" "B" (.int (0 : Int32)) ∧ Arv Z hhq t kt .byte (Int32.ofNat (own_str K a b).length) (own_bs (own_str K a b)) (.int 0)
set_option maxRecDepth 65536 in
set_option maxHeartbeats 40000000 in
theorem rmStr (l : Launch) (Z : State) (a0 : Array Value) (hw : ∀ d ∈ tables_1, d.before a0 Z = true) (ws : List Jvm.Cond) (K : Nat) (a : Int32) (b : Int32) (G1 : Int32) (h0 : Heap) (n0 : Nat) (Z0 : n0 ≤ h0.size) (hEL : EW Z a0 consts_1) (hK : (K < 3)) (ra : (¬ a < 0 ∧ ¬ (255 : Int32) < a)) (rb : (¬ b < 0 ∧ ¬ (255 : Int32) < b)) (O2 : Sta Z Z.heap "java/lang/String" "COMPACT_STRINGS" "Z" (.int G1)) (P5 : (¬ (G1 = (0 : Int32)))) (X00 : Old Z n0 h0) :
    MetFree l (⟨"com/example/cellwise/cellwise/CellNamePinLaw", "str", "(ICC)Ljava/lang/String;"⟩ : MethodName) (head1 (Jvm.Cond.code (⟨"com/example/cellwise/cellwise/CellNamePinLaw", "str", "(ICC)Ljava/lang/String;"⟩ : MethodName) method_3_code 3 (some (.object "java/lang/String")) :: ws) ({ frames := 4, cells := 6, slots := 12, locals := 66 } : Room)) (fun aq U => aq = #[(.int (Int32.ofNat K)), (.int a), (.int b)] ∧ Z.Warmed39 U.vm ∧ U.heap = h0 ∧ CHv Z consts_1 U.vm h0 ∧ ∀ ax ∈ ([] : List Addr), Safe Z consts_1 U.vm h0 ax) (fun _ _ _ _ _ => True) (fun _ U oq U' => ∃ vq Lq, oq = .returned vq ∧ Q_rmStr Z K a b G1 h0 n0 vq U'.heap Lq ∧ CHr Z consts_1 U.vm U.heap U'.vm U'.heap ∧ ReturnedEndW U oq U' Lq ({ frames := 4, cells := 6, slots := 12, locals := 66 } : Room).cells ({ frames := 4, cells := 6, slots := 12, locals := 66 } : Room).slots) := by
  refine MetFree.of_bodySF (plainFor_of_name own_pn_com_example_cellwise_cellwise_CellNamePinLaw) hisR ?_
  intro p e s m args below meth c s₁ Bd hml0 hP hK
  obtain ⟨rfl, hZ, hh, hH, hSf⟩ := hP
  have hx := Bd.exec
  have hby := Bd.bytes
  have hml : c.maxLocals = 3 := hml0
  have hown : s.vm.findClass "com/example/cellwise/cellwise/CellNamePinLaw" = some m.cls := findClass_of_methodNamed Bd.named
  have hnm := (name_of_methodNamed Bd.named Bd.method).1
  have X0 : Stand p l e ({ frames := 4, cells := 6, slots := 12, locals := 66 } : Room) (s.setVm s.vm) m #[(.int (Int32.ofNat K)), (.int a), (.int b)] below meth c s₁ [] 0 0 := Stand.of_body Bd
  have e0 : s₁.heap = h0 := by rw [← hh, Bd.state]; rfl
  have N0 := Fr.nil n0
  have K0 : Keep h0 h0 [] := Keep.refl _ _
  refine own_go (S' := s₁.setTop (mkF m 0 #[.val (.int (Int32.ofNat K)), .val (.int a), .val (.int b)] [])) (fun tq kq => castTop (own_ef_rmStr m K a b G1) kq) ?_
  have hS0 : s.Since s.vm h0.size := (State.WarmedH.refl s).since _
  have CR0 : CHr Z consts_1 s.vm h0 s.vm h0 := CHr.refl hH
  have hwS : ∀ d ∈ Bundle.stringAtoms, d.before a0 Z = true := fun d hd => hw d ((by decide +kernel : ∀ d ∈ Bundle.stringAtoms, d ∈ tables_1) d hd)
  have hws : ∀ d ∈ StrChars.Road.words, d.before a0 Z = true := fun d hd => hw d ((by decide +kernel : ∀ d ∈ StrChars.Road.words, d ∈ tables_1) d hd)
  have na := own_narC a ra
  have nb := own_narC b rb
  obtain rfl | rfl | rfl : K = 0 ∨ K = 1 ∨ K = 2 := by omega
  · skip
    show own_Rn p e below _ (s₁.setTop (mkF m 0 #[.val (.int (Int32.ofNat 0)), .val (.int a), .val (.int b)] []))
    refine own_go (fun tq kq => XS.iloadN X0.here hx rfl (hb hby own_d0_0) rfl kq) ?_
    show own_Rn p e below _ (s₁.setTop (mkF m 1 #[.val (.int (Int32.ofNat 0)), .val (.int a), .val (.int b)] [(.int (Int32.ofNat 0))]))
    refine own_go (fun tq kq => XS.ifNo X0.here hx rfl (hb hby own_d0_1) rfl ((if0 _ _).trans (teq ((by decide : Int32.ofNat 0 = (0 : Int32)) : (Int32.ofNat 0) = (0 : Int32))).2) kq) ?_
    show own_Rn p e below _ (s₁.setTop (mkF m 4 #[.val (.int (Int32.ofNat 0)), .val (.int a), .val (.int b)] []))
    obtain ⟨T1, h1, X1, e1, E1, A1, D1, -, st1⟩ := newO X0 hx hZ hown (hw _ (own_mi 4 rfl)) (hw _ (own_mi 5 rfl)) (hw _ (own_mi 6 rfl)) e0 (g := (mkF m 4 #[.val (.int (Int32.ofNat 0)), .val (.int a), .val (.int b)] [])) rfl (hb hby own_d0_4) (by decide) (by decide)
    obtain ⟨b1, g1⟩ : ∃ z, z = h0.size := ⟨_, rfl⟩
    rw [← g1] at A1 D1 st1
    refine own_go st1 ?_
    have sz2 : h0.size ≤ h1.size := E1.1
    have K2 := K0.ext E1
    have cr2 : CHr Z consts_1 s.vm h0 s.vm h1 := CHr.ext E1 CR0.1
    have CR2 := CR0.trans cr2
    have sf3 : Safe Z consts_1 s.vm h1 b1 := Safe.ext E1 CR0.1 (Safe.new (by omega))
    have lt4 : @LT.lt Nat _ b1 h1.size := A1.lt
    have gn1 : n0 ≤ b1 := by omega
    have D1_coder : Fld Z h1 b1 "java/lang/String" "coder" "B" (.int (0 : Int32)) := D1 (Or.inr (hw _ (own_mi 31 rfl))) (ty := .byte) own_fd_B
    have D1_value : Fld Z h1 b1 "java/lang/String" "value" "[B" .null := D1 (Or.inr (hw _ (own_mi 33 rfl))) (ty := (.array .byte)) own_fd_5bB
    show own_Rn p e below _ (T1.setTop (mkF m 7 #[.val (.int (Int32.ofNat 0)), .val (.int a), .val (.int b)] [(.ref b1)]))
    refine own_go (fun tq kq => XS.dup X1.here hx rfl (hb hby own_d0_7) rfl rfl kq) ?_
    show own_Rn p e below _ (T1.setTop (mkF m 8 #[.val (.int (Int32.ofNat 0)), .val (.int a), .val (.int b)] [(.ref b1), (.ref b1)]))
    refine own_go (fun tq kq => XS.iconst X1.here hx rfl (hb hby own_d0_8) kq) ?_
    show own_Rn p e below _ (T1.setTop (mkF m 9 #[.val (.int (Int32.ofNat 0)), .val (.int a), .val (.int b)] [(.int (0 : Int32)), (.ref b1), (.ref b1)]))
    obtain ⟨T6, h6, k6, X6, e6, E6, A6, st6⟩ := newP X1 hx hZ (hw _ (own_mi 7 rfl)) e1 (g := (mkF m 9 #[.val (.int (Int32.ofNat 0)), .val (.int a), .val (.int b)] [(.int (0 : Int32)), (.ref b1), (.ref b1)])) rfl (hb hby own_d0_9) rfl (by decide) (cap := 0) (by decide) (by decide) (by decide) (by decide)
    obtain ⟨b6, g6⟩ : ∃ z, z = h1.size := ⟨_, rfl⟩
    rw [← g6] at A6 st6
    refine own_go st6 ?_
    have sz7 : h1.size ≤ h6.size := E6.1
    have K7 := K2.ext E6
    have cr7 : CHr Z consts_1 s.vm h1 s.vm h6 := CHr.ext E6 CR2.1
    have CR7 := CR2.trans cr7
    have gn6 : n0 ≤ b6 := by omega
    have V6 : Arv Z h6 b6 k6 .char (0 : Int32) [] (.int (0 : Int32)) := (Arv.new A6 (by decide)).pad (pad_rep [] _ 0)
    have lt8 : @LT.lt Nat _ b6 h6.size := V6.lt
    show own_Rn p e below _ (T6.setTop (mkF m 11 #[.val (.int (Int32.ofNat 0)), .val (.int a), .val (.int b)] [(.ref b6), (.ref b1), (.ref b1)]))
    have Zn9 : n0 ≤ h6.size := by omega
    have F10 : Exa Z h6 b1 "java/lang/String" := (A1.ext E6)
    have F11 : Fld Z h6 b1 "java/lang/String" "value" "[B" .null := (D1_value.ext E6)
    have F12 : Fld Z h6 b1 "java/lang/String" "coder" "B" (.int (0 : Int32)) := (D1_coder.ext E6)
    have sf14 : Safe Z consts_1 s.vm h6 b1 := (CHr.safe cr7 (show @LT.lt Nat _ _ _ by omega) sf3)
    obtain ⟨rv9, _, ⟨T9, L9, k9, n9⟩, -, X9, hS9, hG9, ⟨Lc9, hQ9, l9, y9, z9, CR9q⟩, st9⟩ := X6.specialBackS hx (y := (⟨"java/lang/String", "<init>", "([C)V"⟩ : MethodName)) rfl hown (mvT hZ (hw _ (own_mi 8 rfl))) (mvT hZ (hw _ (own_mi 9 rfl))) (mvT hZ (hw _ (own_mi 10 rfl))) (by decide) (own_backSH (W := 1) (rm := ({ frames := 2, cells := 4, slots := 8, locals := 29 } : Room)) (sf := [b1]) (h := h6) (rmSI1 l Z a0 hw [] (b1) (b6) (k6) h6 n0 Zn9 hEL F10 F11 F12 gn1 V6) hZ (hw _ (own_mi 10 rfl)) (hw _ (own_mi 6 rfl)) (by decide) (by decide) hEL CR7.1 (sfS sf14 sf0)) (g := (mkF m 11 #[.val (.int (Int32.ofNat 0)), .val (.int a), .val (.int b)] [(.ref b6), (.ref b1), (.ref b1)])) rfl (by rw [hml]; rfl) (Steps.refl _) (a := b1) (argsL := [(.ref b6)]) (rest := [(.ref b1)]) (lenOf own_pd_285bC29V rfl) rfl (by show 2 * 0 + _ ≤ _; exact Nat.le_of_eq rfl) (hb hby own_d0_11) (fun _ _ => ⟨rfl, e6, (by decide : 2 + 4 ≤ _), (by decide : 4 + 8 ≤ _)⟩)
    dsimp only [Pt.U, Pt.locs, Pt.cells, Pt.slots] at X9 l9 y9 z9 st9 hQ9 hS9 hG9 CR9q
    subst l9 y9 z9
    obtain ⟨tt, kk, rfl, Nq9, Kq9, G0_9, G1_9, G2_9⟩ := hQ9
    have N9 := Fr.app N0 Nq9
    obtain ⟨Xr9, hSr9, hZ9, hown9⟩ := rebS hS0 (n1 := T6.heap.size) (by rw [e6]; omega) X9 hS9 hG9 hZ hown
    have sz15 : h6.size ≤ T9.heap.size := Kq9.1
    have K15 := K7.trans Kq9 (allS (Or.inr (by omega)) all0)
    have cr15 : CHr Z consts_1 s.vm h6 T9.vm T9.heap := CR9q
    have CR15 := CR7.trans cr15
    have lt16 : @LT.lt Nat _ tt T9.heap.size := G2_9.lt
    refine own_go (fun tq kq => st9.trans kq) ?_
    show own_Rn p e below _ (T9.setTop (mkF m 14 #[.val (.int (Int32.ofNat 0)), .val (.int a), .val (.int b)] [(.ref b1)]))
    have F17 : Exa Z T9.heap b1 "java/lang/String" := (F10.keep Kq9)
    exact own_retS Xr9 hSr9 (by omega) (v := some (.ref b1)) (fun h => by rw [Bd.returns] at h; cases h) (fun fs hr => Xr9.areturnOut hx rfl Bd.returns rfl (hb hby own_d0_14) hr) (⟨b1, tt, kk, rfl, N9, K15, F17, G0_9, G1_9, G2_9⟩) (by rw [hh]; exact CR15.trans (CHv.at Xr9 hZ9 hEL CR15.1)) (by decide) (by decide)
  · skip
    show own_Rn p e below _ (s₁.setTop (mkF m 0 #[.val (.int (Int32.ofNat 1)), .val (.int a), .val (.int b)] []))
    refine own_go (fun tq kq => XS.iloadN X0.here hx rfl (hb hby own_d0_0) rfl kq) ?_
    show own_Rn p e below _ (s₁.setTop (mkF m 1 #[.val (.int (Int32.ofNat 1)), .val (.int a), .val (.int b)] [(.int (Int32.ofNat 1))]))
    refine own_go (fun tq kq => XS.ifYes X0.here hx rfl (pc0 := 1) (pc' := 15) rfl (hb hby own_d0_1) rfl ((if0 _ _).trans (feq ((by decide : ¬ (Int32.ofNat 1 = (0 : Int32))) : ¬ ((Int32.ofNat 1) = (0 : Int32)))).2) (by decide) (by decide) kq) ?_
    show own_Rn p e below _ (s₁.setTop (mkF m 15 #[.val (.int (Int32.ofNat 1)), .val (.int a), .val (.int b)] []))
    refine own_go (fun tq kq => XS.iloadN X0.here hx rfl (hb hby own_d0_15) rfl kq) ?_
    show own_Rn p e below _ (s₁.setTop (mkF m 16 #[.val (.int (Int32.ofNat 1)), .val (.int a), .val (.int b)] [(.int (Int32.ofNat 1))]))
    refine own_go (fun tq kq => XS.iconst X0.here hx rfl (hb hby own_d0_16) kq) ?_
    show own_Rn p e below _ (s₁.setTop (mkF m 17 #[.val (.int (Int32.ofNat 1)), .val (.int a), .val (.int b)] [(.int (1 : Int32)), (.int (Int32.ofNat 1))]))
    refine own_go (fun tq kq => XS.icmpNo X0.here hx rfl (hb hby own_d0_17) rfl (teq ((by decide : Int32.ofNat 1 = (1 : Int32)) : (Int32.ofNat 1) = (1 : Int32))).2 kq) ?_
    show own_Rn p e below _ (s₁.setTop (mkF m 20 #[.val (.int (Int32.ofNat 1)), .val (.int a), .val (.int b)] []))
    refine own_go (fun tq kq => XS.iloadN X0.here hx rfl (hb hby own_d0_20) rfl kq) ?_
    show own_Rn p e below _ (s₁.setTop (mkF m 21 #[.val (.int (Int32.ofNat 1)), .val (.int a), .val (.int b)] [(.int a)]))
    have Zn18 : n0 ≤ h0.size := by omega
    obtain ⟨rv18, _, ⟨T18, L18, k18, n18⟩, -, X18, ⟨Lc18, hQ18, l18, y18, z18⟩, st18⟩ := Jvm.LawKit.callS X0 hx (y := (⟨"java/lang/String", "valueOf", "(C)Ljava/lang/String;"⟩ : MethodName)) hown (mvT hZ (hw _ (own_mi 40 rfl))) (mvT hZ (hw _ (own_mi 41 rfl))) (mvT hZ (hw _ (own_mi 6 rfl))) (mvT hZ (hw _ (own_mi 42 rfl))) (by decide) (backOf (W := 0) (rmVal l Z a0 hw [] (a) (G1) h0 n0 Zn18 (ra) (O2) (P5) X00) hZ (hw _ (own_mi 42 rfl)) (hw _ (own_mi 6 rfl)) (by decide) (by decide)) (g := (mkF m 21 #[.val (.int (Int32.ofNat 1)), .val (.int a), .val (.int b)] [(.int a)])) rfl (by rw [hml]; rfl) (argsL := [(.int a)]) (rest := []) (lenOf own_pd_28C29Ljava2flang2fString3b rfl) rfl (by show 2 * 0 + _ ≤ _; exact Nat.le_of_eq rfl) (hb hby own_d0_21) (fun _ _ => ⟨rfl, e0, (by decide : 0 + 2 ≤ _), (by decide : 0 + 5 ≤ _)⟩)
    dsimp only [Pt.U, Pt.locs, Pt.cells, Pt.slots] at X18 l18 y18 z18 st18 hQ18
    subst l18 y18 z18
    obtain ⟨xv, tv, kv, rfl, Nq18, Kq18, G0_18, G1_18, G2_18, G3_18, G4_18, G5_18, G6_18, G7_18⟩ := hQ18
    have N18 := Fr.app N0 Nq18
    have sz19 : h0.size ≤ T18.heap.size := Kq18.1
    have K19 := K0.trans Kq18 all0
    have cr19 : CHr Z consts_1 s.vm h0 s.vm T18.heap := CHr.keep Kq18 sf0 CR0.1
    have CR19 := CR0.trans cr19
    have sf20 : Safe Z consts_1 s.vm T18.heap xv := Safe.keep Kq18 sf0 CR0.1 (Safe.new (by omega))
    have sf21 : Safe Z consts_1 s.vm T18.heap tv := Safe.keep Kq18 sf0 CR0.1 (Safe.new (by omega))
    have lt22 : @LT.lt Nat _ xv T18.heap.size := G4_18.lt
    have lt23 : @LT.lt Nat _ tv T18.heap.size := G7_18.lt
    refine own_go st18 ?_
    show own_Rn p e below _ (T18.setTop (mkF m 24 #[.val (.int (Int32.ofNat 1)), .val (.int a), .val (.int b)] [(.ref xv)]))
    exact own_retS X18 hS0 (by omega) (v := some (.ref xv)) (fun h => by rw [Bd.returns] at h; cases h) (fun fs hr => X18.areturnOut hx rfl Bd.returns rfl (hb hby own_d0_24) hr) (⟨xv, tv, kv, rfl, N18, K19, G4_18, G5_18, G6_18, G7_18⟩) (by rw [hh]; exact CR19.trans (CHv.at X18 hZ hEL CR19.1)) (by decide) (by decide)
  · skip
    show own_Rn p e below _ (s₁.setTop (mkF m 0 #[.val (.int (Int32.ofNat 2)), .val (.int a), .val (.int b)] []))
    refine own_go (fun tq kq => XS.iloadN X0.here hx rfl (hb hby own_d0_0) rfl kq) ?_
    show own_Rn p e below _ (s₁.setTop (mkF m 1 #[.val (.int (Int32.ofNat 2)), .val (.int a), .val (.int b)] [(.int (Int32.ofNat 2))]))
    refine own_go (fun tq kq => XS.ifYes X0.here hx rfl (pc0 := 1) (pc' := 15) rfl (hb hby own_d0_1) rfl ((if0 _ _).trans (feq ((by decide : ¬ (Int32.ofNat 2 = (0 : Int32))) : ¬ ((Int32.ofNat 2) = (0 : Int32)))).2) (by decide) (by decide) kq) ?_
    show own_Rn p e below _ (s₁.setTop (mkF m 15 #[.val (.int (Int32.ofNat 2)), .val (.int a), .val (.int b)] []))
    refine own_go (fun tq kq => XS.iloadN X0.here hx rfl (hb hby own_d0_15) rfl kq) ?_
    show own_Rn p e below _ (s₁.setTop (mkF m 16 #[.val (.int (Int32.ofNat 2)), .val (.int a), .val (.int b)] [(.int (Int32.ofNat 2))]))
    refine own_go (fun tq kq => XS.iconst X0.here hx rfl (hb hby own_d0_16) kq) ?_
    show own_Rn p e below _ (s₁.setTop (mkF m 17 #[.val (.int (Int32.ofNat 2)), .val (.int a), .val (.int b)] [(.int (1 : Int32)), (.int (Int32.ofNat 2))]))
    refine own_go (fun tq kq => XS.icmpYes X0.here hx rfl (pc0 := 17) (pc' := 25) rfl (hb hby own_d0_17) rfl (feq ((by decide : ¬ (Int32.ofNat 2 = (1 : Int32))) : ¬ ((Int32.ofNat 2) = (1 : Int32)))).2 (by decide) (by decide) kq) ?_
    show own_Rn p e below _ (s₁.setTop (mkF m 25 #[.val (.int (Int32.ofNat 2)), .val (.int a), .val (.int b)] []))
    obtain ⟨T24, h24, X24, e24, E24, A24, D24, -, st24⟩ := newO X0 hx hZ hown (hw _ (own_mi 4 rfl)) (hw _ (own_mi 5 rfl)) (hw _ (own_mi 6 rfl)) e0 (g := (mkF m 25 #[.val (.int (Int32.ofNat 2)), .val (.int a), .val (.int b)] [])) rfl (hb hby own_d0_25) (by decide) (by decide)
    obtain ⟨b24, g24⟩ : ∃ z, z = h0.size := ⟨_, rfl⟩
    rw [← g24] at A24 D24 st24
    refine own_go st24 ?_
    have sz25 : h0.size ≤ h24.size := E24.1
    have K25 := K0.ext E24
    have cr25 : CHr Z consts_1 s.vm h0 s.vm h24 := CHr.ext E24 CR0.1
    have CR25 := CR0.trans cr25
    have sf26 : Safe Z consts_1 s.vm h24 b24 := Safe.ext E24 CR0.1 (Safe.new (by omega))
    have lt27 : @LT.lt Nat _ b24 h24.size := A24.lt
    have gn24 : n0 ≤ b24 := by omega
    have D24_coder : Fld Z h24 b24 "java/lang/String" "coder" "B" (.int (0 : Int32)) := D24 (Or.inr (hw _ (own_mi 31 rfl))) (ty := .byte) own_fd_B
    have D24_value : Fld Z h24 b24 "java/lang/String" "value" "[B" .null := D24 (Or.inr (hw _ (own_mi 33 rfl))) (ty := (.array .byte)) own_fd_5bB
    show own_Rn p e below _ (T24.setTop (mkF m 28 #[.val (.int (Int32.ofNat 2)), .val (.int a), .val (.int b)] [(.ref b24)]))
    refine own_go (fun tq kq => XS.dup X24.here hx rfl (hb hby own_d0_28) rfl rfl kq) ?_
    show own_Rn p e below _ (T24.setTop (mkF m 29 #[.val (.int (Int32.ofNat 2)), .val (.int a), .val (.int b)] [(.ref b24), (.ref b24)]))
    refine own_go (fun tq kq => XS.iconst X24.here hx rfl (hb hby own_d0_29) kq) ?_
    show own_Rn p e below _ (T24.setTop (mkF m 30 #[.val (.int (Int32.ofNat 2)), .val (.int a), .val (.int b)] [(.int (2 : Int32)), (.ref b24), (.ref b24)]))
    obtain ⟨T29, h29, k29, X29, e29, E29, A29, st29⟩ := newP X24 hx hZ (hw _ (own_mi 7 rfl)) e24 (g := (mkF m 30 #[.val (.int (Int32.ofNat 2)), .val (.int a), .val (.int b)] [(.int (2 : Int32)), (.ref b24), (.ref b24)])) rfl (hb hby own_d0_30) rfl (by decide) (cap := 2) (by decide) (by decide) (by decide) (by decide)
    obtain ⟨b29, g29⟩ : ∃ z, z = h24.size := ⟨_, rfl⟩
    rw [← g29] at A29 st29
    refine own_go st29 ?_
    have sz30 : h24.size ≤ h29.size := E29.1
    have K30 := K25.ext E29
    have cr30 : CHr Z consts_1 s.vm h24 s.vm h29 := CHr.ext E29 CR25.1
    have CR30 := CR25.trans cr30
    have gn29 : n0 ≤ b29 := by omega
    have V29 : Arv Z h29 b29 k29 .char (2 : Int32) [(.int (0 : Int32)), (.int (0 : Int32))] (.int (0 : Int32)) := (Arv.new A29 (by decide)).pad (pad_rep [] _ 2)
    have lt31 : @LT.lt Nat _ b29 h29.size := V29.lt
    show own_Rn p e below _ (T29.setTop (mkF m 32 #[.val (.int (Int32.ofNat 2)), .val (.int a), .val (.int b)] [(.ref b29), (.ref b24), (.ref b24)]))
    refine own_go (fun tq kq => XS.dup X29.here hx rfl (hb hby own_d0_32) rfl rfl kq) ?_
    show own_Rn p e below _ (T29.setTop (mkF m 33 #[.val (.int (Int32.ofNat 2)), .val (.int a), .val (.int b)] [(.ref b29), (.ref b29), (.ref b24), (.ref b24)]))
    refine own_go (fun tq kq => XS.iconst X29.here hx rfl (hb hby own_d0_33) kq) ?_
    show own_Rn p e below _ (T29.setTop (mkF m 34 #[.val (.int (Int32.ofNat 2)), .val (.int a), .val (.int b)] [(.int (0 : Int32)), (.ref b29), (.ref b29), (.ref b24), (.ref b24)]))
    refine own_go (fun tq kq => XS.iloadN X29.here hx rfl (hb hby own_d0_34) rfl kq) ?_
    show own_Rn p e below _ (T29.setTop (mkF m 35 #[.val (.int (Int32.ofNat 2)), .val (.int a), .val (.int b)] [(.int a), (.int (0 : Int32)), (.ref b29), (.ref b29), (.ref b24), (.ref b24)]))
    obtain ⟨cl32, Ar32, q32, Sz32, Nn32, Hs32, G32⟩ := id V29
    obtain ⟨T32, h32, X32, e32, W32, st32⟩ := stC X29 hx hZ e29 Ar32 (j := (0 : Int32)) (inb_of Sz32 ⟨by decide, by decide⟩) (g := (mkF m 35 #[.val (.int (Int32.ofNat 2)), .val (.int a), .val (.int b)] [(.int a), (.int (0 : Int32)), (.ref b29), (.ref b29), (.ref b24), (.ref b24)])) rfl rfl (hb hby own_d0_35)
    rw [na] at W32
    refine own_go st32 ?_
    have V32 : Arv Z h32 b29 k29 .char (2 : Int32) [(.int a), (.int (0 : Int32))] (.int (0 : Int32)) := Arv.set Ar32 q32 Sz32 Nn32 Hs32 G32 (by rw [← na]; exact fits_nar_char _) W32 0 rfl (Nat.le_of_ble_eq_true rfl)
    have N32 := Fr.snoc X32 N0 gn29
    have sf33 : Safe Z consts_1 s.vm h29 b29 := Safe.arv hZ.alike V29 (by decide)
    have sz34 : h29.size ≤ h32.size := Nat.le_of_eq (Wr.size W32).symm
    have K34 := K30.wr W32 (Or.inr (by omega))
    have cr34 : CHr Z consts_1 s.vm h29 s.vm h32 := CHr.wr W32 sf33 CR30.1
    have CR34 := CR30.trans cr34
    show own_Rn p e below _ (T32.setTop (mkF m 36 #[.val (.int (Int32.ofNat 2)), .val (.int a), .val (.int b)] [(.ref b29), (.ref b24), (.ref b24)]))
    refine own_go (fun tq kq => XS.dup X32.here hx rfl (hb hby own_d0_36) rfl rfl kq) ?_
    show own_Rn p e below _ (T32.setTop (mkF m 37 #[.val (.int (Int32.ofNat 2)), .val (.int a), .val (.int b)] [(.ref b29), (.ref b29), (.ref b24), (.ref b24)]))
    refine own_go (fun tq kq => XS.iconst X32.here hx rfl (hb hby own_d0_37) kq) ?_
    show own_Rn p e below _ (T32.setTop (mkF m 38 #[.val (.int (Int32.ofNat 2)), .val (.int a), .val (.int b)] [(.int (1 : Int32)), (.ref b29), (.ref b29), (.ref b24), (.ref b24)]))
    refine own_go (fun tq kq => XS.iloadN X32.here hx rfl (hb hby own_d0_38) rfl kq) ?_
    show own_Rn p e below _ (T32.setTop (mkF m 39 #[.val (.int (Int32.ofNat 2)), .val (.int a), .val (.int b)] [(.int b), (.int (1 : Int32)), (.ref b29), (.ref b29), (.ref b24), (.ref b24)]))
    obtain ⟨cl35, Ar35, q35, Sz35, Nn35, Hs35, G35⟩ := id V32
    obtain ⟨T35, h35, X35, e35, W35, st35⟩ := stC X32 hx hZ e32 Ar35 (j := (1 : Int32)) (inb_of Sz35 ⟨by decide, by decide⟩) (g := (mkF m 39 #[.val (.int (Int32.ofNat 2)), .val (.int a), .val (.int b)] [(.int b), (.int (1 : Int32)), (.ref b29), (.ref b29), (.ref b24), (.ref b24)])) rfl rfl (hb hby own_d0_39)
    rw [nb] at W35
    refine own_go st35 ?_
    have V35 : Arv Z h35 b29 k29 .char (2 : Int32) [(.int a), (.int b)] (.int (0 : Int32)) := Arv.set Ar35 q35 Sz35 Nn35 Hs35 G35 (by rw [← nb]; exact fits_nar_char _) W35 1 rfl (Nat.le_of_ble_eq_true rfl)
    have N35 := Fr.snoc X35 N32 gn29
    have sf36 : Safe Z consts_1 s.vm h32 b29 := Safe.arv hZ.alike V32 (by decide)
    have sz37 : h32.size ≤ h35.size := Nat.le_of_eq (Wr.size W35).symm
    have K37 := K34.wr W35 (Or.inr (by omega))
    have cr37 : CHr Z consts_1 s.vm h32 s.vm h35 := CHr.wr W35 sf36 CR34.1
    have CR37 := CR34.trans cr37
    show own_Rn p e below _ (T35.setTop (mkF m 40 #[.val (.int (Int32.ofNat 2)), .val (.int a), .val (.int b)] [(.ref b29), (.ref b24), (.ref b24)]))
    have hp38 : ∀ c ∈ ([a, b] : List Int32), ¬ c < 0 ∧ ¬ (255 : Int32) < c := by
      intro c hc
      simp only [List.mem_cons, List.not_mem_nil, or_false] at hc
      rcases hc with rfl | rfl
      · exact ra
      · exact rb
    have F39 : Exa Z h35 b24 "java/lang/String" := (((A24.ext E29).wr W32).wr W35)
    have ne40 : b24 ≠ b29 := own_nea (by omega)
    have F41 : Fld Z h35 b24 "java/lang/String" "value" "[B" .null := (((D24_value.ext E29).other W32 (Or.inl ne40)).other W35 (Or.inl ne40))
    have F42 : Fld Z h35 b24 "java/lang/String" "coder" "B" (.int (0 : Int32)) := (((D24_coder.ext E29).other W32 (Or.inl ne40)).other W35 (Or.inl ne40))
    have F43 : Old Z n0 h35 := ((((X00.ext E24).ext E29).wr W32 gn29).wr W35 gn29)
    have Zs38 : n0 ≤ h35.size := by omega
    obtain ⟨rv44, _, ⟨T44, L44, k44, n44⟩, -, X44, ⟨Lc44, hQ44, l44, y44, z44⟩, st44⟩ := X35.specialBack hx (y := (⟨"java/lang/String", "<init>", "([C)V"⟩ : MethodName)) rfl hown (mvT hZ (hw _ (own_mi 8 rfl))) (mvT hZ (hw _ (own_mi 9 rfl))) (mvT hZ (hw _ (own_mi 10 rfl))) (by decide) (StrChars.Road.backV (W := 1) hZ hws (kI := 4) (hw _ (own_mi 5 rfl)) (cs := [a, b]) (bs := ([a, b] : List Int32).map (fun c => c.toInt8.toInt32)) (n := 2) gn24 Zs38 F39 F41 F42 V35 (O2.ext F43.2) P5 rfl rfl (by decide) (by decide) hp38 rfl (by decide) (by decide)) (g := (mkF m 40 #[.val (.int (Int32.ofNat 2)), .val (.int a), .val (.int b)] [(.ref b29), (.ref b24), (.ref b24)])) rfl (by rw [hml]; rfl) (Steps.refl _) (a := b24) (argsL := [(.ref b29)]) (rest := [(.ref b24)]) (lenOf own_pd_285bC29V rfl) rfl (by show 2 * 0 + _ ≤ _; exact Nat.le_of_eq rfl) (hb hby own_d0_40) (fun _ _ => ⟨rfl, e35, (by decide : 2 + 1 ≤ _), (by decide : 6 + 2 ≤ _)⟩)
    dsimp only [Pt.U, Pt.locs, Pt.cells, Pt.slots] at X44 l44 y44 z44 st44 hQ44
    subst l44 y44 z44
    obtain ⟨rfl, Nq44, Kq44, Ex44, Co44, t38, kb38, gt44, hs44, nt44, Va44, Ab44⟩ := hQ44
    have N44 := Fr.app N35 Nq44
    have sf46 : Safe Z consts_1 s.vm h35 b24 := (CHr.safe cr37 (show @LT.lt Nat _ _ _ by omega) (CHr.safe cr34 (show @LT.lt Nat _ _ _ by omega) (CHr.safe cr30 (show @LT.lt Nat _ _ _ by omega) sf26)))
    have sz47 : h35.size ≤ T44.heap.size := Kq44.1
    have K47 := K37.trans Kq44 (allS (Or.inr (by omega)) all0)
    have cr47 : CHr Z consts_1 s.vm h35 s.vm T44.heap := CHr.keep Kq44 (sfS sf46 sf0) CR37.1
    have CR47 := CR37.trans cr47
    have sf48 : Safe Z consts_1 s.vm T44.heap t38 := Safe.keep Kq44 (sfS sf46 sf0) CR37.1 (Safe.new (by omega))
    have lt49 : @LT.lt Nat _ t38 T44.heap.size := Ab44.lt
    refine own_go (fun tq kq => st44.trans kq) ?_
    show own_Rn p e below _ (T44.setTop (mkF m 43 #[.val (.int (Int32.ofNat 2)), .val (.int a), .val (.int b)] [(.ref b24)]))
    have hpL38 := hp38
    exact own_retS X44 hS0 (by omega) (v := some (.ref b24)) (fun h => by rw [Bd.returns] at h; cases h) (fun fs hr => X44.areturnOut hx rfl Bd.returns rfl (hb hby own_d0_43) hr) (⟨b24, t38, kb38, rfl, N44, K47, Ex44, Va44, Co44, Ab44⟩) (by rw [hh]; exact CR47.trans (CHv.at X44 hZ hEL CR47.1)) (by decide) (by decide)
theorem own_ef_rmRec (m : MethodId) (o : Addr) : entryFrame m #[(.ref o)] 1 = mkF m 0 #[.val (.ref o)] [] := by first | (simp [entryFrame, mkF, argsToLocals, Value.category]; done) | rfl
theorem own_pn_java_lang_Record : plainName "java/lang/Record" = true := by first | (simp [plainName, overriddenIn]; done) | decide +kernel
theorem own_d12_0 : decode jdk_30_method_1_code 0 = .ok (.aload_n 0, 1) := by decide +kernel
theorem own_d12_1 : decode jdk_30_method_1_code 1 = .ok (.invokespecial 1, 3) := by decide +kernel
theorem own_d12_4 : decode jdk_30_method_1_code 4 = .ok (.return_, 1) := by decide +kernel
def Q_rmRec (Z : State) (o : Addr) (h0 : Heap) (n0 : Nat) (vq : Option Value) (hhq : Heap) (Lq : List Loc) : Prop := vq = none ∧ Fr n0 Lq ∧ hhq = h0
set_option maxRecDepth 65536 in
set_option maxHeartbeats 40000000 in
theorem rmRec (l : Launch) (Z : State) (a0 : Array Value) (hw : ∀ d ∈ tables_1, d.before a0 Z = true) (ws : List Jvm.Cond) (o : Addr) (h0 : Heap) (n0 : Nat) (Z0 : n0 ≤ h0.size)  :
    MetFree l (⟨"java/lang/Record", "<init>", "()V"⟩ : MethodName) (head1 (Jvm.Cond.code (⟨"java/lang/Record", "<init>", "()V"⟩ : MethodName) jdk_30_method_1_code 1 none :: ws) ({ frames := 1, cells := 0, slots := 0, locals := 12 } : Room)) (fun aq U => aq = #[(.ref o)] ∧ Z.Warmed39 U.vm ∧ U.heap = h0) (fun _ _ _ _ _ => True) (fun _ U oq U' => ∃ vq Lq, oq = .returned vq ∧ Q_rmRec Z o h0 n0 vq U'.heap Lq ∧ FrameEnd U oq U' Lq ({ frames := 1, cells := 0, slots := 0, locals := 12 } : Room).cells ({ frames := 1, cells := 0, slots := 0, locals := 12 } : Room).slots) := by
  refine MetFree.of_bodySF (plainFor_of_name own_pn_java_lang_Record) hisR ?_
  intro p e s m args below meth c s₁ Bd hml0 hP hK
  obtain ⟨rfl, hZ, hh⟩ := hP
  have hx := Bd.exec
  have hby := Bd.bytes
  have hml : c.maxLocals = 1 := hml0
  have hown : s.vm.findClass "java/lang/Record" = some m.cls := findClass_of_methodNamed Bd.named
  have hnm := (name_of_methodNamed Bd.named Bd.method).1
  have X0 : Stand p l e ({ frames := 1, cells := 0, slots := 0, locals := 12 } : Room) s m #[(.ref o)] below meth c s₁ [] 0 0 := Stand.of_body Bd
  have e0 : s₁.heap = h0 := by rw [← hh, Bd.state]; rfl
  have N0 := Fr.nil n0
  have K0 : Keep h0 h0 [] := Keep.refl _ _
  refine own_go (S' := s₁.setTop (mkF m 0 #[.val (.ref o)] [])) (fun tq kq => castTop (own_ef_rmRec m o) kq) ?_
  refine own_go (fun tq kq => XS.aloadN X0.here hx rfl (hb hby own_d12_0) rfl rfl kq) ?_
  show own_Rn p e below _ (s₁.setTop (mkF m 1 #[.val (.ref o)] [(.ref o)]))
  obtain ⟨T1, X1, e1, st1⟩ := initO X0 hx hZ hown (hw _ (own_mi 62 rfl)) (hw _ (own_mi 16 rfl)) (hw _ (own_mi 17 rfl)) e0 (g := (mkF m 1 #[.val (.ref o)] [(.ref o)])) rfl (by rw [hml]; rfl) rfl (hb hby own_d12_1) (by decide) (W := 0) (by show 2 * 0 + _ ≤ _; exact Nat.le_of_eq rfl) (by decide)
  refine own_go st1 ?_
  show own_Rn p e below _ (T1.setTop (mkF m 4 #[.val (.ref o)] []))
  exact own_ret X1 (v := none) (fun _ => rfl) (fun fs hr => X1.returnOut hx Bd.returns (hb hby own_d12_4) hr) (by rw [e1]; exact ⟨rfl, N0, rfl⟩) (by decide) (by decide)
theorem own_ef_rmCoI (m : MethodId) (o : Addr) (n : Int64) (x : Addr) (y : Addr) : entryFrame m #[(.ref o), (.long n), (.ref x), (.ref y)] 5 = mkF m 0 #[.val (.ref o), .val (.long n), .second, .val (.ref x), .val (.ref y)] [] := by first | (simp [entryFrame, mkF, argsToLocals, Value.category]; done) | rfl
theorem own_pn_com_example_cellwise_cellwise_Matrix_Competency : plainName "com/example/cellwise/cellwise/Matrix$Competency" = true := by first | (simp [plainName, overriddenIn]; done) | decide +kernel
theorem own_d11_0 : decode prog_16_method_1_code 0 = .ok (.aload_n 0, 1) := by decide +kernel
theorem own_d11_1 : decode prog_16_method_1_code 1 = .ok (.invokespecial 1, 3) := by decide +kernel
theorem own_pd_2829V : parseMethodDescriptor "()V" = some ⟨[], none⟩ := by decide +kernel
theorem own_d11_4 : decode prog_16_method_1_code 4 = .ok (.aload_n 0, 1) := by decide +kernel
theorem own_d11_5 : decode prog_16_method_1_code 5 = .ok (.lload_n 1, 1) := by decide +kernel
theorem own_d11_6 : decode prog_16_method_1_code 6 = .ok (.putfield 7, 3) := by decide +kernel
theorem own_fd_J : parseFieldDescriptor "J" = some .long := by decide +kernel
theorem own_d11_9 : decode prog_16_method_1_code 9 = .ok (.aload_n 0, 1) := by decide +kernel
theorem own_d11_10 : decode prog_16_method_1_code 10 = .ok (.aload_n 3, 1) := by decide +kernel
theorem own_d11_11 : decode prog_16_method_1_code 11 = .ok (.putfield 13, 3) := by decide +kernel
theorem own_fd_Ljava2flang2fString3b : parseFieldDescriptor "Ljava/lang/String;" = some (.object "java/lang/String") := by decide +kernel
theorem own_d11_14 : decode prog_16_method_1_code 14 = .ok (.aload_n 0, 1) := by decide +kernel
theorem own_d11_15 : decode prog_16_method_1_code 15 = .ok (.aload 4, 2) := by decide +kernel
theorem own_d11_17 : decode prog_16_method_1_code 17 = .ok (.putfield 17, 3) := by decide +kernel
theorem own_d11_20 : decode prog_16_method_1_code 20 = .ok (.return_, 1) := by decide +kernel
def Q_rmCoI (Z : State) (o : Addr) (n : Int64) (x : Addr) (y : Addr) (h0 : Heap) (n0 : Nat) (vq : Option Value) (hhq : Heap) (Lq : List Loc) : Prop := vq = none ∧ Fr n0 Lq ∧ Keep h0 hhq [o] ∧ Fld Z hhq o "com/example/cellwise/cellwise/Matrix$Competency" "id" "J" (.long n) ∧ Fld Z hhq o "com/example/cellwise/cellwise/Matrix$Competency" "heading" "Ljava/lang/String;" (.ref x) ∧ Fld Z hhq o "com/example/cellwise/cellwise/Matrix$Competency" "description" "Ljava/lang/String;" (.ref y)
set_option maxRecDepth 65536 in
set_option maxHeartbeats 40000000 in
theorem rmCoI (l : Launch) (Z : State) (a0 : Array Value) (hw : ∀ d ∈ tables_1, d.before a0 Z = true) (ws : List Jvm.Cond) (o : Addr) (n : Int64) (x : Addr) (y : Addr) (h0 : Heap) (n0 : Nat) (Z0 : n0 ≤ h0.size) (Pm0 : Exa Z h0 o "com/example/cellwise/cellwise/Matrix$Competency") (Pm1 : n0 ≤ o) (Pm2 : Fld Z h0 o "com/example/cellwise/cellwise/Matrix$Competency" "id" "J" (.long (0 : Int64))) (Pm3 : Fld Z h0 o "com/example/cellwise/cellwise/Matrix$Competency" "heading" "Ljava/lang/String;" .null) (Pm4 : Fld Z h0 o "com/example/cellwise/cellwise/Matrix$Competency" "description" "Ljava/lang/String;" .null) :
    MetFree l (⟨"com/example/cellwise/cellwise/Matrix$Competency", "<init>", "(JLjava/lang/String;Ljava/lang/String;)V"⟩ : MethodName) (head1 (Jvm.Cond.code (⟨"com/example/cellwise/cellwise/Matrix$Competency", "<init>", "(JLjava/lang/String;Ljava/lang/String;)V"⟩ : MethodName) prog_16_method_1_code 5 none :: ws) ({ frames := 2, cells := 0, slots := 0, locals := 24 } : Room)) (fun aq U => aq = #[(.ref o), (.long n), (.ref x), (.ref y)] ∧ Z.Warmed39 U.vm ∧ U.heap = h0) (fun _ _ _ _ _ => True) (fun _ U oq U' => ∃ vq Lq, oq = .returned vq ∧ Q_rmCoI Z o n x y h0 n0 vq U'.heap Lq ∧ FrameEnd U oq U' Lq ({ frames := 2, cells := 0, slots := 0, locals := 24 } : Room).cells ({ frames := 2, cells := 0, slots := 0, locals := 24 } : Room).slots) := by
  refine MetFree.of_bodySF (plainFor_of_name own_pn_com_example_cellwise_cellwise_Matrix_Competency) hisR ?_
  intro p e s m args below meth c s₁ Bd hml0 hP hK
  obtain ⟨rfl, hZ, hh⟩ := hP
  have hx := Bd.exec
  have hby := Bd.bytes
  have hml : c.maxLocals = 5 := hml0
  have hown : s.vm.findClass "com/example/cellwise/cellwise/Matrix$Competency" = some m.cls := findClass_of_methodNamed Bd.named
  have hnm := (name_of_methodNamed Bd.named Bd.method).1
  have X0 : Stand p l e ({ frames := 2, cells := 0, slots := 0, locals := 24 } : Room) s m #[(.ref o), (.long n), (.ref x), (.ref y)] below meth c s₁ [] 0 0 := Stand.of_body Bd
  have e0 : s₁.heap = h0 := by rw [← hh, Bd.state]; rfl
  have N0 := Fr.nil n0
  have K0 : Keep h0 h0 [o] := Keep.refl _ _
  refine own_go (S' := s₁.setTop (mkF m 0 #[.val (.ref o), .val (.long n), .second, .val (.ref x), .val (.ref y)] [])) (fun tq kq => castTop (own_ef_rmCoI m o n x y) kq) ?_
  have lt1 : @LT.lt Nat _ o h0.size := Pm0.lt
  refine own_go (fun tq kq => XS.aloadN X0.here hx rfl (hb hby own_d11_0) rfl rfl kq) ?_
  show own_Rn p e below _ (s₁.setTop (mkF m 1 #[.val (.ref o), .val (.long n), .second, .val (.ref x), .val (.ref y)] [(.ref o)]))
  have Zn2 : n0 ≤ h0.size := by omega
  obtain ⟨rv2, _, ⟨T2, L2, k2, n2⟩, -, X2, ⟨Lc2, hQ2, l2, y2, z2⟩, st2⟩ := X0.specialBack hx (y := (⟨"java/lang/Record", "<init>", "()V"⟩ : MethodName)) rfl hown (mvT hZ (hw _ (own_mi 57 rfl))) (mvT hZ (hw _ (own_mi 58 rfl))) (mvT hZ (hw _ (own_mi 61 rfl))) (by decide) (backOf (W := 0) (rmRec l Z a0 hw [] (o) h0 n0 Zn2 ) hZ (hw _ (own_mi 61 rfl)) (hw _ (own_mi 60 rfl)) (by decide) (by decide)) (g := (mkF m 1 #[.val (.ref o), .val (.long n), .second, .val (.ref x), .val (.ref y)] [(.ref o)])) rfl (by rw [hml]; rfl) (Steps.refl _) (a := o) (argsL := []) (rest := []) (lenOf own_pd_2829V rfl) rfl (by show 2 * 0 + _ ≤ _; exact Nat.le_of_eq rfl) (hb hby own_d11_1) (fun _ _ => ⟨rfl, e0, (by decide : 0 + 0 ≤ _), (by decide : 0 + 0 ≤ _)⟩)
  dsimp only [Pt.U, Pt.locs, Pt.cells, Pt.slots] at X2 l2 y2 z2 st2 hQ2
  subst l2 y2 z2
  obtain ⟨rfl, Nq2, eh2⟩ := hQ2
  have N2 := Fr.app N0 Nq2
  refine own_go (fun tq kq => st2.trans kq) ?_
  show own_Rn p e below _ (T2.setTop (mkF m 4 #[.val (.ref o), .val (.long n), .second, .val (.ref x), .val (.ref y)] []))
  refine own_go (fun tq kq => XS.aloadN X2.here hx rfl (hb hby own_d11_4) rfl rfl kq) ?_
  show own_Rn p e below _ (T2.setTop (mkF m 5 #[.val (.ref o), .val (.long n), .second, .val (.ref x), .val (.ref y)] [(.ref o)]))
  refine own_go (fun tq kq => XS.lloadN X2.here hx rfl (hb hby own_d11_5) rfl kq) ?_
  show own_Rn p e below _ (T2.setTop (mkF m 6 #[.val (.ref o), .val (.long n), .second, .val (.ref x), .val (.ref y)] [(.long n), (.ref o)]))
  obtain ⟨T3, h3, X3, e3, W3, st3⟩ := putF X2 hx hZ hown (host := "") (Or.inl (hw _ (own_mi 63 rfl))) Via.refl eh2 Pm2 Pm0 (Or.inr ⟨(hw _ (own_mi 64 rfl)), rfl, hnm⟩) (hw _ (own_mi 38 rfl)) (ty := .long) own_fd_J rfl rfl (g := (mkF m 6 #[.val (.ref o), .val (.long n), .second, .val (.ref x), .val (.ref y)] [(.long n), (.ref o)])) rfl rfl (hb hby own_d11_6)
  refine own_go st3 ?_
  have N3 := Fr.snoc X3 N2 Pm1
  have Fw3 := Pm2.same W3
  have sz4 : h0.size ≤ h3.size := Nat.le_of_eq (Wr.size W3).symm
  have K4 := K0.wr W3 (Or.inl (List.mem_of_getElem? (i := 0) rfl))
  show own_Rn p e below _ (T3.setTop (mkF m 9 #[.val (.ref o), .val (.long n), .second, .val (.ref x), .val (.ref y)] []))
  refine own_go (fun tq kq => XS.aloadN X3.here hx rfl (hb hby own_d11_9) rfl rfl kq) ?_
  show own_Rn p e below _ (T3.setTop (mkF m 10 #[.val (.ref o), .val (.long n), .second, .val (.ref x), .val (.ref y)] [(.ref o)]))
  refine own_go (fun tq kq => XS.aloadN X3.here hx rfl (hb hby own_d11_10) rfl rfl kq) ?_
  show own_Rn p e below _ (T3.setTop (mkF m 11 #[.val (.ref o), .val (.long n), .second, .val (.ref x), .val (.ref y)] [(.ref x), (.ref o)]))
  have F5 : Fld Z h3 o "com/example/cellwise/cellwise/Matrix$Competency" "heading" "Ljava/lang/String;" .null := (Pm3.other W3 (Or.inr (slot_ne (Or.inr (hw _ (own_mi 66 rfl))) (Or.inr (hw _ (own_mi 64 rfl))) (by decide) (t := (.object "java/lang/String")) (t' := .long) own_fd_Ljava2flang2fString3b own_fd_J)))
  have F6 : Exa Z h3 o "com/example/cellwise/cellwise/Matrix$Competency" := (Pm0.wr W3)
  obtain ⟨T7, h7, X7, e7, W7, st7⟩ := putF X3 hx hZ hown (host := "") (Or.inl (hw _ (own_mi 65 rfl))) Via.refl e3 F5 F6 (Or.inr ⟨(hw _ (own_mi 66 rfl)), rfl, hnm⟩) (hw _ (own_mi 38 rfl)) (ty := (.object "java/lang/String")) own_fd_Ljava2flang2fString3b rfl rfl (g := (mkF m 11 #[.val (.ref o), .val (.long n), .second, .val (.ref x), .val (.ref y)] [(.ref x), (.ref o)])) rfl rfl (hb hby own_d11_11)
  refine own_go st7 ?_
  have N7 := Fr.snoc X7 N3 Pm1
  have Fw7 := F5.same W7
  have sz8 : h3.size ≤ h7.size := Nat.le_of_eq (Wr.size W7).symm
  have K8 := K4.wr W7 (Or.inl (List.mem_of_getElem? (i := 0) rfl))
  show own_Rn p e below _ (T7.setTop (mkF m 14 #[.val (.ref o), .val (.long n), .second, .val (.ref x), .val (.ref y)] []))
  refine own_go (fun tq kq => XS.aloadN X7.here hx rfl (hb hby own_d11_14) rfl rfl kq) ?_
  show own_Rn p e below _ (T7.setTop (mkF m 15 #[.val (.ref o), .val (.long n), .second, .val (.ref x), .val (.ref y)] [(.ref o)]))
  refine own_go (fun tq kq => XS.aload X7.here hx rfl (hb hby own_d11_15) rfl rfl kq) ?_
  show own_Rn p e below _ (T7.setTop (mkF m 17 #[.val (.ref o), .val (.long n), .second, .val (.ref x), .val (.ref y)] [(.ref y), (.ref o)]))
  have F9 : Fld Z h7 o "com/example/cellwise/cellwise/Matrix$Competency" "description" "Ljava/lang/String;" .null := ((Pm4.other W3 (Or.inr (slot_ne (Or.inr (hw _ (own_mi 68 rfl))) (Or.inr (hw _ (own_mi 64 rfl))) (by decide) (t := (.object "java/lang/String")) (t' := .long) own_fd_Ljava2flang2fString3b own_fd_J))).other W7 (Or.inr (slot_ne (Or.inr (hw _ (own_mi 68 rfl))) (Or.inr (hw _ (own_mi 66 rfl))) (by decide) (t := (.object "java/lang/String")) (t' := (.object "java/lang/String")) own_fd_Ljava2flang2fString3b own_fd_Ljava2flang2fString3b)))
  have F10 : Exa Z h7 o "com/example/cellwise/cellwise/Matrix$Competency" := (F6.wr W7)
  obtain ⟨T11, h11, X11, e11, W11, st11⟩ := putF X7 hx hZ hown (host := "") (Or.inl (hw _ (own_mi 67 rfl))) Via.refl e7 F9 F10 (Or.inr ⟨(hw _ (own_mi 68 rfl)), rfl, hnm⟩) (hw _ (own_mi 38 rfl)) (ty := (.object "java/lang/String")) own_fd_Ljava2flang2fString3b rfl rfl (g := (mkF m 17 #[.val (.ref o), .val (.long n), .second, .val (.ref x), .val (.ref y)] [(.ref y), (.ref o)])) rfl rfl (hb hby own_d11_17)
  refine own_go st11 ?_
  have N11 := Fr.snoc X11 N7 Pm1
  have Fw11 := F9.same W11
  have sz12 : h7.size ≤ h11.size := Nat.le_of_eq (Wr.size W11).symm
  have K12 := K8.wr W11 (Or.inl (List.mem_of_getElem? (i := 0) rfl))
  show own_Rn p e below _ (T11.setTop (mkF m 20 #[.val (.ref o), .val (.long n), .second, .val (.ref x), .val (.ref y)] []))
  have F13 : Fld Z h11 o "com/example/cellwise/cellwise/Matrix$Competency" "id" "J" (.long n) := ((Fw3.other W7 (Or.inr (slot_ne (Or.inr (hw _ (own_mi 64 rfl))) (Or.inr (hw _ (own_mi 66 rfl))) (by decide) (t := .long) (t' := (.object "java/lang/String")) own_fd_J own_fd_Ljava2flang2fString3b))).other W11 (Or.inr (slot_ne (Or.inr (hw _ (own_mi 64 rfl))) (Or.inr (hw _ (own_mi 68 rfl))) (by decide) (t := .long) (t' := (.object "java/lang/String")) own_fd_J own_fd_Ljava2flang2fString3b)))
  have F14 : Fld Z h11 o "com/example/cellwise/cellwise/Matrix$Competency" "heading" "Ljava/lang/String;" (.ref x) := (Fw7.other W11 (Or.inr (slot_ne (Or.inr (hw _ (own_mi 66 rfl))) (Or.inr (hw _ (own_mi 68 rfl))) (by decide) (t := (.object "java/lang/String")) (t' := (.object "java/lang/String")) own_fd_Ljava2flang2fString3b own_fd_Ljava2flang2fString3b)))
  exact own_ret X11 (v := none) (fun _ => rfl) (fun fs hr => X11.returnOut hx Bd.returns (hb hby own_d11_20) hr) (by rw [e11]; exact ⟨rfl, N11, K12, F13, F14, Fw11⟩) (by decide) (by decide)
theorem own_ef_rmTrI (m : MethodId) (o : Addr) (n : Int64) (x : Addr) : entryFrame m #[(.ref o), (.long n), (.ref x)] 4 = mkF m 0 #[.val (.ref o), .val (.long n), .second, .val (.ref x)] [] := by first | (simp [entryFrame, mkF, argsToLocals, Value.category]; done) | rfl
theorem own_pn_com_example_cellwise_cellwise_Matrix_Training : plainName "com/example/cellwise/cellwise/Matrix$Training" = true := by first | (simp [plainName, overriddenIn]; done) | decide +kernel
theorem own_d13_0 : decode prog_18_method_1_code 0 = .ok (.aload_n 0, 1) := by decide +kernel
theorem own_d13_1 : decode prog_18_method_1_code 1 = .ok (.invokespecial 1, 3) := by decide +kernel
theorem own_d13_4 : decode prog_18_method_1_code 4 = .ok (.aload_n 0, 1) := by decide +kernel
theorem own_d13_5 : decode prog_18_method_1_code 5 = .ok (.lload_n 1, 1) := by decide +kernel
theorem own_d13_6 : decode prog_18_method_1_code 6 = .ok (.putfield 7, 3) := by decide +kernel
theorem own_d13_9 : decode prog_18_method_1_code 9 = .ok (.aload_n 0, 1) := by decide +kernel
theorem own_d13_10 : decode prog_18_method_1_code 10 = .ok (.aload_n 3, 1) := by decide +kernel
theorem own_d13_11 : decode prog_18_method_1_code 11 = .ok (.putfield 13, 3) := by decide +kernel
theorem own_d13_14 : decode prog_18_method_1_code 14 = .ok (.return_, 1) := by decide +kernel
def Q_rmTrI (Z : State) (o : Addr) (n : Int64) (x : Addr) (h0 : Heap) (n0 : Nat) (vq : Option Value) (hhq : Heap) (Lq : List Loc) : Prop := vq = none ∧ Fr n0 Lq ∧ Keep h0 hhq [o] ∧ Fld Z hhq o "com/example/cellwise/cellwise/Matrix$Training" "id" "J" (.long n) ∧ Fld Z hhq o "com/example/cellwise/cellwise/Matrix$Training" "name" "Ljava/lang/String;" (.ref x)
set_option maxRecDepth 65536 in
set_option maxHeartbeats 40000000 in
theorem rmTrI (l : Launch) (Z : State) (a0 : Array Value) (hw : ∀ d ∈ tables_1, d.before a0 Z = true) (ws : List Jvm.Cond) (o : Addr) (n : Int64) (x : Addr) (h0 : Heap) (n0 : Nat) (Z0 : n0 ≤ h0.size) (Pm0 : Exa Z h0 o "com/example/cellwise/cellwise/Matrix$Training") (Pm1 : n0 ≤ o) (Pm2 : Fld Z h0 o "com/example/cellwise/cellwise/Matrix$Training" "id" "J" (.long (0 : Int64))) (Pm3 : Fld Z h0 o "com/example/cellwise/cellwise/Matrix$Training" "name" "Ljava/lang/String;" .null) :
    MetFree l (⟨"com/example/cellwise/cellwise/Matrix$Training", "<init>", "(JLjava/lang/String;)V"⟩ : MethodName) (head1 (Jvm.Cond.code (⟨"com/example/cellwise/cellwise/Matrix$Training", "<init>", "(JLjava/lang/String;)V"⟩ : MethodName) prog_18_method_1_code 4 none :: ws) ({ frames := 2, cells := 0, slots := 0, locals := 24 } : Room)) (fun aq U => aq = #[(.ref o), (.long n), (.ref x)] ∧ Z.Warmed39 U.vm ∧ U.heap = h0) (fun _ _ _ _ _ => True) (fun _ U oq U' => ∃ vq Lq, oq = .returned vq ∧ Q_rmTrI Z o n x h0 n0 vq U'.heap Lq ∧ FrameEnd U oq U' Lq ({ frames := 2, cells := 0, slots := 0, locals := 24 } : Room).cells ({ frames := 2, cells := 0, slots := 0, locals := 24 } : Room).slots) := by
  refine MetFree.of_bodySF (plainFor_of_name own_pn_com_example_cellwise_cellwise_Matrix_Training) hisR ?_
  intro p e s m args below meth c s₁ Bd hml0 hP hK
  obtain ⟨rfl, hZ, hh⟩ := hP
  have hx := Bd.exec
  have hby := Bd.bytes
  have hml : c.maxLocals = 4 := hml0
  have hown : s.vm.findClass "com/example/cellwise/cellwise/Matrix$Training" = some m.cls := findClass_of_methodNamed Bd.named
  have hnm := (name_of_methodNamed Bd.named Bd.method).1
  have X0 : Stand p l e ({ frames := 2, cells := 0, slots := 0, locals := 24 } : Room) s m #[(.ref o), (.long n), (.ref x)] below meth c s₁ [] 0 0 := Stand.of_body Bd
  have e0 : s₁.heap = h0 := by rw [← hh, Bd.state]; rfl
  have N0 := Fr.nil n0
  have K0 : Keep h0 h0 [o] := Keep.refl _ _
  refine own_go (S' := s₁.setTop (mkF m 0 #[.val (.ref o), .val (.long n), .second, .val (.ref x)] [])) (fun tq kq => castTop (own_ef_rmTrI m o n x) kq) ?_
  have lt1 : @LT.lt Nat _ o h0.size := Pm0.lt
  refine own_go (fun tq kq => XS.aloadN X0.here hx rfl (hb hby own_d13_0) rfl rfl kq) ?_
  show own_Rn p e below _ (s₁.setTop (mkF m 1 #[.val (.ref o), .val (.long n), .second, .val (.ref x)] [(.ref o)]))
  have Zn2 : n0 ≤ h0.size := by omega
  obtain ⟨rv2, _, ⟨T2, L2, k2, n2⟩, -, X2, ⟨Lc2, hQ2, l2, y2, z2⟩, st2⟩ := X0.specialBack hx (y := (⟨"java/lang/Record", "<init>", "()V"⟩ : MethodName)) rfl hown (mvT hZ (hw _ (own_mi 75 rfl))) (mvT hZ (hw _ (own_mi 58 rfl))) (mvT hZ (hw _ (own_mi 61 rfl))) (by decide) (backOf (W := 0) (rmRec l Z a0 hw [] (o) h0 n0 Zn2 ) hZ (hw _ (own_mi 61 rfl)) (hw _ (own_mi 60 rfl)) (by decide) (by decide)) (g := (mkF m 1 #[.val (.ref o), .val (.long n), .second, .val (.ref x)] [(.ref o)])) rfl (by rw [hml]; rfl) (Steps.refl _) (a := o) (argsL := []) (rest := []) (lenOf own_pd_2829V rfl) rfl (by show 2 * 0 + _ ≤ _; exact Nat.le_of_eq rfl) (hb hby own_d13_1) (fun _ _ => ⟨rfl, e0, (by decide : 0 + 0 ≤ _), (by decide : 0 + 0 ≤ _)⟩)
  dsimp only [Pt.U, Pt.locs, Pt.cells, Pt.slots] at X2 l2 y2 z2 st2 hQ2
  subst l2 y2 z2
  obtain ⟨rfl, Nq2, eh2⟩ := hQ2
  have N2 := Fr.app N0 Nq2
  refine own_go (fun tq kq => st2.trans kq) ?_
  show own_Rn p e below _ (T2.setTop (mkF m 4 #[.val (.ref o), .val (.long n), .second, .val (.ref x)] []))
  refine own_go (fun tq kq => XS.aloadN X2.here hx rfl (hb hby own_d13_4) rfl rfl kq) ?_
  show own_Rn p e below _ (T2.setTop (mkF m 5 #[.val (.ref o), .val (.long n), .second, .val (.ref x)] [(.ref o)]))
  refine own_go (fun tq kq => XS.lloadN X2.here hx rfl (hb hby own_d13_5) rfl kq) ?_
  show own_Rn p e below _ (T2.setTop (mkF m 6 #[.val (.ref o), .val (.long n), .second, .val (.ref x)] [(.long n), (.ref o)]))
  obtain ⟨T3, h3, X3, e3, W3, st3⟩ := putF X2 hx hZ hown (host := "") (Or.inl (hw _ (own_mi 76 rfl))) Via.refl eh2 Pm2 Pm0 (Or.inr ⟨(hw _ (own_mi 77 rfl)), rfl, hnm⟩) (hw _ (own_mi 70 rfl)) (ty := .long) own_fd_J rfl rfl (g := (mkF m 6 #[.val (.ref o), .val (.long n), .second, .val (.ref x)] [(.long n), (.ref o)])) rfl rfl (hb hby own_d13_6)
  refine own_go st3 ?_
  have N3 := Fr.snoc X3 N2 Pm1
  have Fw3 := Pm2.same W3
  have sz4 : h0.size ≤ h3.size := Nat.le_of_eq (Wr.size W3).symm
  have K4 := K0.wr W3 (Or.inl (List.mem_of_getElem? (i := 0) rfl))
  show own_Rn p e below _ (T3.setTop (mkF m 9 #[.val (.ref o), .val (.long n), .second, .val (.ref x)] []))
  refine own_go (fun tq kq => XS.aloadN X3.here hx rfl (hb hby own_d13_9) rfl rfl kq) ?_
  show own_Rn p e below _ (T3.setTop (mkF m 10 #[.val (.ref o), .val (.long n), .second, .val (.ref x)] [(.ref o)]))
  refine own_go (fun tq kq => XS.aloadN X3.here hx rfl (hb hby own_d13_10) rfl rfl kq) ?_
  show own_Rn p e below _ (T3.setTop (mkF m 11 #[.val (.ref o), .val (.long n), .second, .val (.ref x)] [(.ref x), (.ref o)]))
  have F5 : Fld Z h3 o "com/example/cellwise/cellwise/Matrix$Training" "name" "Ljava/lang/String;" .null := (Pm3.other W3 (Or.inr (slot_ne (Or.inr (hw _ (own_mi 79 rfl))) (Or.inr (hw _ (own_mi 77 rfl))) (by decide) (t := (.object "java/lang/String")) (t' := .long) own_fd_Ljava2flang2fString3b own_fd_J)))
  have F6 : Exa Z h3 o "com/example/cellwise/cellwise/Matrix$Training" := (Pm0.wr W3)
  obtain ⟨T7, h7, X7, e7, W7, st7⟩ := putF X3 hx hZ hown (host := "") (Or.inl (hw _ (own_mi 78 rfl))) Via.refl e3 F5 F6 (Or.inr ⟨(hw _ (own_mi 79 rfl)), rfl, hnm⟩) (hw _ (own_mi 70 rfl)) (ty := (.object "java/lang/String")) own_fd_Ljava2flang2fString3b rfl rfl (g := (mkF m 11 #[.val (.ref o), .val (.long n), .second, .val (.ref x)] [(.ref x), (.ref o)])) rfl rfl (hb hby own_d13_11)
  refine own_go st7 ?_
  have N7 := Fr.snoc X7 N3 Pm1
  have Fw7 := F5.same W7
  have sz8 : h3.size ≤ h7.size := Nat.le_of_eq (Wr.size W7).symm
  have K8 := K4.wr W7 (Or.inl (List.mem_of_getElem? (i := 0) rfl))
  show own_Rn p e below _ (T7.setTop (mkF m 14 #[.val (.ref o), .val (.long n), .second, .val (.ref x)] []))
  have F9 : Fld Z h7 o "com/example/cellwise/cellwise/Matrix$Training" "id" "J" (.long n) := (Fw3.other W7 (Or.inr (slot_ne (Or.inr (hw _ (own_mi 77 rfl))) (Or.inr (hw _ (own_mi 79 rfl))) (by decide) (t := .long) (t' := (.object "java/lang/String")) own_fd_J own_fd_Ljava2flang2fString3b)))
  exact own_ret X7 (v := none) (fun _ => rfl) (fun fs hr => X7.returnOut hx Bd.returns (hb hby own_d13_14) hr) (by rw [e7]; exact ⟨rfl, N7, K8, F9, Fw7⟩) (by decide) (by decide)
theorem own_ef_rmCeI (m : MethodId) (o : Addr) (x : Addr) (y : Addr) : entryFrame m #[(.ref o), (.ref x), (.ref y)] 3 = mkF m 0 #[.val (.ref o), .val (.ref x), .val (.ref y)] [] := by first | (simp [entryFrame, mkF, argsToLocals, Value.category]; done) | rfl
theorem own_pn_com_example_cellwise_cellwise_Matrix_Cell : plainName "com/example/cellwise/cellwise/Matrix$Cell" = true := by first | (simp [plainName, overriddenIn]; done) | decide +kernel
theorem own_d14_0 : decode prog_15_method_1_code 0 = .ok (.aload_n 0, 1) := by decide +kernel
theorem own_d14_1 : decode prog_15_method_1_code 1 = .ok (.invokespecial 1, 3) := by decide +kernel
theorem own_d14_4 : decode prog_15_method_1_code 4 = .ok (.aload_n 0, 1) := by decide +kernel
theorem own_d14_5 : decode prog_15_method_1_code 5 = .ok (.aload_n 1, 1) := by decide +kernel
theorem own_d14_6 : decode prog_15_method_1_code 6 = .ok (.putfield 7, 3) := by decide +kernel
theorem own_fd_Lcom2fexample2fcellwise2fcellwise2fMatrix24Competency3b : parseFieldDescriptor "Lcom/example/cellwise/cellwise/Matrix$Competency;" = some (.object "com/example/cellwise/cellwise/Matrix$Competency") := by decide +kernel
theorem own_d14_9 : decode prog_15_method_1_code 9 = .ok (.aload_n 0, 1) := by decide +kernel
theorem own_d14_10 : decode prog_15_method_1_code 10 = .ok (.aload_n 2, 1) := by decide +kernel
theorem own_d14_11 : decode prog_15_method_1_code 11 = .ok (.putfield 13, 3) := by decide +kernel
theorem own_fd_Lcom2fexample2fcellwise2fcellwise2fMatrix24Training3b : parseFieldDescriptor "Lcom/example/cellwise/cellwise/Matrix$Training;" = some (.object "com/example/cellwise/cellwise/Matrix$Training") := by decide +kernel
theorem own_d14_14 : decode prog_15_method_1_code 14 = .ok (.return_, 1) := by decide +kernel
def Q_rmCeI (Z : State) (o : Addr) (x : Addr) (y : Addr) (h0 : Heap) (n0 : Nat) (vq : Option Value) (hhq : Heap) (Lq : List Loc) : Prop := vq = none ∧ Fr n0 Lq ∧ Keep h0 hhq [o] ∧ Fld Z hhq o "com/example/cellwise/cellwise/Matrix$Cell" "competency" "Lcom/example/cellwise/cellwise/Matrix$Competency;" (.ref x) ∧ Fld Z hhq o "com/example/cellwise/cellwise/Matrix$Cell" "training" "Lcom/example/cellwise/cellwise/Matrix$Training;" (.ref y)
set_option maxRecDepth 65536 in
set_option maxHeartbeats 40000000 in
theorem rmCeI (l : Launch) (Z : State) (a0 : Array Value) (hw : ∀ d ∈ tables_1, d.before a0 Z = true) (ws : List Jvm.Cond) (o : Addr) (x : Addr) (y : Addr) (h0 : Heap) (n0 : Nat) (Z0 : n0 ≤ h0.size) (Pm0 : Exa Z h0 o "com/example/cellwise/cellwise/Matrix$Cell") (Pm1 : n0 ≤ o) (Pm2 : Fld Z h0 o "com/example/cellwise/cellwise/Matrix$Cell" "competency" "Lcom/example/cellwise/cellwise/Matrix$Competency;" .null) (Pm3 : Fld Z h0 o "com/example/cellwise/cellwise/Matrix$Cell" "training" "Lcom/example/cellwise/cellwise/Matrix$Training;" .null) :
    MetFree l (⟨"com/example/cellwise/cellwise/Matrix$Cell", "<init>", "(Lcom/example/cellwise/cellwise/Matrix$Competency;Lcom/example/cellwise/cellwise/Matrix$Training;)V"⟩ : MethodName) (head1 (Jvm.Cond.code (⟨"com/example/cellwise/cellwise/Matrix$Cell", "<init>", "(Lcom/example/cellwise/cellwise/Matrix$Competency;Lcom/example/cellwise/cellwise/Matrix$Training;)V"⟩ : MethodName) prog_15_method_1_code 3 none :: ws) ({ frames := 2, cells := 0, slots := 0, locals := 24 } : Room)) (fun aq U => aq = #[(.ref o), (.ref x), (.ref y)] ∧ Z.Warmed39 U.vm ∧ U.heap = h0) (fun _ _ _ _ _ => True) (fun _ U oq U' => ∃ vq Lq, oq = .returned vq ∧ Q_rmCeI Z o x y h0 n0 vq U'.heap Lq ∧ FrameEnd U oq U' Lq ({ frames := 2, cells := 0, slots := 0, locals := 24 } : Room).cells ({ frames := 2, cells := 0, slots := 0, locals := 24 } : Room).slots) := by
  refine MetFree.of_bodySF (plainFor_of_name own_pn_com_example_cellwise_cellwise_Matrix_Cell) hisR ?_
  intro p e s m args below meth c s₁ Bd hml0 hP hK
  obtain ⟨rfl, hZ, hh⟩ := hP
  have hx := Bd.exec
  have hby := Bd.bytes
  have hml : c.maxLocals = 3 := hml0
  have hown : s.vm.findClass "com/example/cellwise/cellwise/Matrix$Cell" = some m.cls := findClass_of_methodNamed Bd.named
  have hnm := (name_of_methodNamed Bd.named Bd.method).1
  have X0 : Stand p l e ({ frames := 2, cells := 0, slots := 0, locals := 24 } : Room) s m #[(.ref o), (.ref x), (.ref y)] below meth c s₁ [] 0 0 := Stand.of_body Bd
  have e0 : s₁.heap = h0 := by rw [← hh, Bd.state]; rfl
  have N0 := Fr.nil n0
  have K0 : Keep h0 h0 [o] := Keep.refl _ _
  refine own_go (S' := s₁.setTop (mkF m 0 #[.val (.ref o), .val (.ref x), .val (.ref y)] [])) (fun tq kq => castTop (own_ef_rmCeI m o x y) kq) ?_
  have lt1 : @LT.lt Nat _ o h0.size := Pm0.lt
  refine own_go (fun tq kq => XS.aloadN X0.here hx rfl (hb hby own_d14_0) rfl rfl kq) ?_
  show own_Rn p e below _ (s₁.setTop (mkF m 1 #[.val (.ref o), .val (.ref x), .val (.ref y)] [(.ref o)]))
  have Zn2 : n0 ≤ h0.size := by omega
  obtain ⟨rv2, _, ⟨T2, L2, k2, n2⟩, -, X2, ⟨Lc2, hQ2, l2, y2, z2⟩, st2⟩ := X0.specialBack hx (y := (⟨"java/lang/Record", "<init>", "()V"⟩ : MethodName)) rfl hown (mvT hZ (hw _ (own_mi 86 rfl))) (mvT hZ (hw _ (own_mi 58 rfl))) (mvT hZ (hw _ (own_mi 61 rfl))) (by decide) (backOf (W := 0) (rmRec l Z a0 hw [] (o) h0 n0 Zn2 ) hZ (hw _ (own_mi 61 rfl)) (hw _ (own_mi 60 rfl)) (by decide) (by decide)) (g := (mkF m 1 #[.val (.ref o), .val (.ref x), .val (.ref y)] [(.ref o)])) rfl (by rw [hml]; rfl) (Steps.refl _) (a := o) (argsL := []) (rest := []) (lenOf own_pd_2829V rfl) rfl (by show 2 * 0 + _ ≤ _; exact Nat.le_of_eq rfl) (hb hby own_d14_1) (fun _ _ => ⟨rfl, e0, (by decide : 0 + 0 ≤ _), (by decide : 0 + 0 ≤ _)⟩)
  dsimp only [Pt.U, Pt.locs, Pt.cells, Pt.slots] at X2 l2 y2 z2 st2 hQ2
  subst l2 y2 z2
  obtain ⟨rfl, Nq2, eh2⟩ := hQ2
  have N2 := Fr.app N0 Nq2
  refine own_go (fun tq kq => st2.trans kq) ?_
  show own_Rn p e below _ (T2.setTop (mkF m 4 #[.val (.ref o), .val (.ref x), .val (.ref y)] []))
  refine own_go (fun tq kq => XS.aloadN X2.here hx rfl (hb hby own_d14_4) rfl rfl kq) ?_
  show own_Rn p e below _ (T2.setTop (mkF m 5 #[.val (.ref o), .val (.ref x), .val (.ref y)] [(.ref o)]))
  refine own_go (fun tq kq => XS.aloadN X2.here hx rfl (hb hby own_d14_5) rfl rfl kq) ?_
  show own_Rn p e below _ (T2.setTop (mkF m 6 #[.val (.ref o), .val (.ref x), .val (.ref y)] [(.ref x), (.ref o)]))
  obtain ⟨T3, h3, X3, e3, W3, st3⟩ := putF X2 hx hZ hown (host := "") (Or.inl (hw _ (own_mi 87 rfl))) Via.refl eh2 Pm2 Pm0 (Or.inr ⟨(hw _ (own_mi 88 rfl)), rfl, hnm⟩) (hw _ (own_mi 81 rfl)) (ty := (.object "com/example/cellwise/cellwise/Matrix$Competency")) own_fd_Lcom2fexample2fcellwise2fcellwise2fMatrix24Competency3b rfl rfl (g := (mkF m 6 #[.val (.ref o), .val (.ref x), .val (.ref y)] [(.ref x), (.ref o)])) rfl rfl (hb hby own_d14_6)
  refine own_go st3 ?_
  have N3 := Fr.snoc X3 N2 Pm1
  have Fw3 := Pm2.same W3
  have sz4 : h0.size ≤ h3.size := Nat.le_of_eq (Wr.size W3).symm
  have K4 := K0.wr W3 (Or.inl (List.mem_of_getElem? (i := 0) rfl))
  show own_Rn p e below _ (T3.setTop (mkF m 9 #[.val (.ref o), .val (.ref x), .val (.ref y)] []))
  refine own_go (fun tq kq => XS.aloadN X3.here hx rfl (hb hby own_d14_9) rfl rfl kq) ?_
  show own_Rn p e below _ (T3.setTop (mkF m 10 #[.val (.ref o), .val (.ref x), .val (.ref y)] [(.ref o)]))
  refine own_go (fun tq kq => XS.aloadN X3.here hx rfl (hb hby own_d14_10) rfl rfl kq) ?_
  show own_Rn p e below _ (T3.setTop (mkF m 11 #[.val (.ref o), .val (.ref x), .val (.ref y)] [(.ref y), (.ref o)]))
  have F5 : Fld Z h3 o "com/example/cellwise/cellwise/Matrix$Cell" "training" "Lcom/example/cellwise/cellwise/Matrix$Training;" .null := (Pm3.other W3 (Or.inr (slot_ne (Or.inr (hw _ (own_mi 90 rfl))) (Or.inr (hw _ (own_mi 88 rfl))) (by decide) (t := (.object "com/example/cellwise/cellwise/Matrix$Training")) (t' := (.object "com/example/cellwise/cellwise/Matrix$Competency")) own_fd_Lcom2fexample2fcellwise2fcellwise2fMatrix24Training3b own_fd_Lcom2fexample2fcellwise2fcellwise2fMatrix24Competency3b)))
  have F6 : Exa Z h3 o "com/example/cellwise/cellwise/Matrix$Cell" := (Pm0.wr W3)
  obtain ⟨T7, h7, X7, e7, W7, st7⟩ := putF X3 hx hZ hown (host := "") (Or.inl (hw _ (own_mi 89 rfl))) Via.refl e3 F5 F6 (Or.inr ⟨(hw _ (own_mi 90 rfl)), rfl, hnm⟩) (hw _ (own_mi 81 rfl)) (ty := (.object "com/example/cellwise/cellwise/Matrix$Training")) own_fd_Lcom2fexample2fcellwise2fcellwise2fMatrix24Training3b rfl rfl (g := (mkF m 11 #[.val (.ref o), .val (.ref x), .val (.ref y)] [(.ref y), (.ref o)])) rfl rfl (hb hby own_d14_11)
  refine own_go st7 ?_
  have N7 := Fr.snoc X7 N3 Pm1
  have Fw7 := F5.same W7
  have sz8 : h3.size ≤ h7.size := Nat.le_of_eq (Wr.size W7).symm
  have K8 := K4.wr W7 (Or.inl (List.mem_of_getElem? (i := 0) rfl))
  show own_Rn p e below _ (T7.setTop (mkF m 14 #[.val (.ref o), .val (.ref x), .val (.ref y)] []))
  have F9 : Fld Z h7 o "com/example/cellwise/cellwise/Matrix$Cell" "competency" "Lcom/example/cellwise/cellwise/Matrix$Competency;" (.ref x) := (Fw3.other W7 (Or.inr (slot_ne (Or.inr (hw _ (own_mi 88 rfl))) (Or.inr (hw _ (own_mi 90 rfl))) (by decide) (t := (.object "com/example/cellwise/cellwise/Matrix$Competency")) (t' := (.object "com/example/cellwise/cellwise/Matrix$Training")) own_fd_Lcom2fexample2fcellwise2fcellwise2fMatrix24Competency3b own_fd_Lcom2fexample2fcellwise2fcellwise2fMatrix24Training3b)))
  exact own_ret X7 (v := none) (fun _ => rfl) (fun fs hr => X7.returnOut hx Bd.returns (hb hby own_d14_14) hr) (by rw [e7]; exact ⟨rfl, N7, K8, F9, Fw7⟩) (by decide) (by decide)
theorem own_ef_rmGH (m : MethodId) (o : Addr) (v : Addr) : entryFrame m #[(.ref o)] 1 = mkF m 0 #[.val (.ref o)] [] := by first | (simp [entryFrame, mkF, argsToLocals, Value.category]; done) | rfl
theorem own_d18_0 : decode prog_16_method_6_code 0 = .ok (.aload_n 0, 1) := by decide +kernel
theorem own_d18_1 : decode prog_16_method_6_code 1 = .ok (.getfield 13, 3) := by decide +kernel
theorem own_d18_4 : decode prog_16_method_6_code 4 = .ok (.areturn, 1) := by decide +kernel
def Q_rmGH (Z : State) (o : Addr) (v : Addr) (h0 : Heap) (n0 : Nat) (vq : Option Value) (hhq : Heap) (Lq : List Loc) : Prop := vq = some (.ref v) ∧ Fr n0 Lq ∧ hhq = h0
set_option maxRecDepth 65536 in
set_option maxHeartbeats 40000000 in
theorem rmGH (l : Launch) (Z : State) (a0 : Array Value) (hw : ∀ d ∈ tables_1, d.before a0 Z = true) (ws : List Jvm.Cond) (o : Addr) (v : Addr) (h0 : Heap) (n0 : Nat) (Z0 : n0 ≤ h0.size) (Pm0 : Fld Z h0 o "com/example/cellwise/cellwise/Matrix$Competency" "heading" "Ljava/lang/String;" (.ref v)) :
    MetFree l (⟨"com/example/cellwise/cellwise/Matrix$Competency", "heading", "()Ljava/lang/String;"⟩ : MethodName) (head1 (Jvm.Cond.code (⟨"com/example/cellwise/cellwise/Matrix$Competency", "heading", "()Ljava/lang/String;"⟩ : MethodName) prog_16_method_6_code 1 (some (.object "java/lang/String")) :: ws) ({ frames := 0, cells := 0, slots := 0, locals := 0 } : Room)) (fun aq U => aq = #[(.ref o)] ∧ Z.Warmed39 U.vm ∧ U.heap = h0) (fun _ _ _ _ _ => True) (fun _ U oq U' => ∃ vq Lq, oq = .returned vq ∧ Q_rmGH Z o v h0 n0 vq U'.heap Lq ∧ FrameEnd U oq U' Lq ({ frames := 0, cells := 0, slots := 0, locals := 0 } : Room).cells ({ frames := 0, cells := 0, slots := 0, locals := 0 } : Room).slots) := by
  refine MetFree.of_bodySF (plainFor_of_name own_pn_com_example_cellwise_cellwise_Matrix_Competency) hisR ?_
  intro p e s m args below meth c s₁ Bd hml0 hP hK
  obtain ⟨rfl, hZ, hh⟩ := hP
  have hx := Bd.exec
  have hby := Bd.bytes
  have hml : c.maxLocals = 1 := hml0
  have hown : s.vm.findClass "com/example/cellwise/cellwise/Matrix$Competency" = some m.cls := findClass_of_methodNamed Bd.named
  have hnm := (name_of_methodNamed Bd.named Bd.method).1
  have X0 : Stand p l e ({ frames := 0, cells := 0, slots := 0, locals := 0 } : Room) s m #[(.ref o)] below meth c s₁ [] 0 0 := Stand.of_body Bd
  have e0 : s₁.heap = h0 := by rw [← hh, Bd.state]; rfl
  have N0 := Fr.nil n0
  have K0 : Keep h0 h0 [] := Keep.refl _ _
  refine own_go (S' := s₁.setTop (mkF m 0 #[.val (.ref o)] [])) (fun tq kq => castTop (own_ef_rmGH m o v) kq) ?_
  have lt1 : @LT.lt Nat _ o h0.size := Pm0.lt
  refine own_go (fun tq kq => XS.aloadN X0.here hx rfl (hb hby own_d18_0) rfl rfl kq) ?_
  show own_Rn p e below _ (s₁.setTop (mkF m 1 #[.val (.ref o)] [(.ref o)]))
  obtain ⟨T2, X2, e2, st2⟩ := getF X0 hx hZ hown (host := "") (Or.inl (hw _ (own_mi 65 rfl))) Via.refl e0 Pm0 (g := (mkF m 1 #[.val (.ref o)] [(.ref o)])) rfl rfl (hb hby own_d18_1)
  refine own_go st2 ?_
  show own_Rn p e below _ (T2.setTop (mkF m 4 #[.val (.ref o)] [(.ref v)]))
  exact own_ret X2 (v := some (.ref v)) (fun h => by rw [Bd.returns] at h; cases h) (fun fs hr => X2.areturnOut hx rfl Bd.returns rfl (hb hby own_d18_4) hr) (by rw [e2]; exact ⟨rfl, N0, rfl⟩) (by decide) (by decide)
theorem own_ef_rmGN (m : MethodId) (o : Addr) (v : Addr) : entryFrame m #[(.ref o)] 1 = mkF m 0 #[.val (.ref o)] [] := by first | (simp [entryFrame, mkF, argsToLocals, Value.category]; done) | rfl
theorem own_d27_0 : decode prog_18_method_6_code 0 = .ok (.aload_n 0, 1) := by decide +kernel
theorem own_d27_1 : decode prog_18_method_6_code 1 = .ok (.getfield 13, 3) := by decide +kernel
theorem own_d27_4 : decode prog_18_method_6_code 4 = .ok (.areturn, 1) := by decide +kernel
def Q_rmGN (Z : State) (o : Addr) (v : Addr) (h0 : Heap) (n0 : Nat) (vq : Option Value) (hhq : Heap) (Lq : List Loc) : Prop := vq = some (.ref v) ∧ Fr n0 Lq ∧ hhq = h0
set_option maxRecDepth 65536 in
set_option maxHeartbeats 40000000 in
theorem rmGN (l : Launch) (Z : State) (a0 : Array Value) (hw : ∀ d ∈ tables_1, d.before a0 Z = true) (ws : List Jvm.Cond) (o : Addr) (v : Addr) (h0 : Heap) (n0 : Nat) (Z0 : n0 ≤ h0.size) (Pm0 : Fld Z h0 o "com/example/cellwise/cellwise/Matrix$Training" "name" "Ljava/lang/String;" (.ref v)) :
    MetFree l (⟨"com/example/cellwise/cellwise/Matrix$Training", "name", "()Ljava/lang/String;"⟩ : MethodName) (head1 (Jvm.Cond.code (⟨"com/example/cellwise/cellwise/Matrix$Training", "name", "()Ljava/lang/String;"⟩ : MethodName) prog_18_method_6_code 1 (some (.object "java/lang/String")) :: ws) ({ frames := 0, cells := 0, slots := 0, locals := 0 } : Room)) (fun aq U => aq = #[(.ref o)] ∧ Z.Warmed39 U.vm ∧ U.heap = h0) (fun _ _ _ _ _ => True) (fun _ U oq U' => ∃ vq Lq, oq = .returned vq ∧ Q_rmGN Z o v h0 n0 vq U'.heap Lq ∧ FrameEnd U oq U' Lq ({ frames := 0, cells := 0, slots := 0, locals := 0 } : Room).cells ({ frames := 0, cells := 0, slots := 0, locals := 0 } : Room).slots) := by
  refine MetFree.of_bodySF (plainFor_of_name own_pn_com_example_cellwise_cellwise_Matrix_Training) hisR ?_
  intro p e s m args below meth c s₁ Bd hml0 hP hK
  obtain ⟨rfl, hZ, hh⟩ := hP
  have hx := Bd.exec
  have hby := Bd.bytes
  have hml : c.maxLocals = 1 := hml0
  have hown : s.vm.findClass "com/example/cellwise/cellwise/Matrix$Training" = some m.cls := findClass_of_methodNamed Bd.named
  have hnm := (name_of_methodNamed Bd.named Bd.method).1
  have X0 : Stand p l e ({ frames := 0, cells := 0, slots := 0, locals := 0 } : Room) s m #[(.ref o)] below meth c s₁ [] 0 0 := Stand.of_body Bd
  have e0 : s₁.heap = h0 := by rw [← hh, Bd.state]; rfl
  have N0 := Fr.nil n0
  have K0 : Keep h0 h0 [] := Keep.refl _ _
  refine own_go (S' := s₁.setTop (mkF m 0 #[.val (.ref o)] [])) (fun tq kq => castTop (own_ef_rmGN m o v) kq) ?_
  have lt1 : @LT.lt Nat _ o h0.size := Pm0.lt
  refine own_go (fun tq kq => XS.aloadN X0.here hx rfl (hb hby own_d27_0) rfl rfl kq) ?_
  show own_Rn p e below _ (s₁.setTop (mkF m 1 #[.val (.ref o)] [(.ref o)]))
  obtain ⟨T2, X2, e2, st2⟩ := getF X0 hx hZ hown (host := "") (Or.inl (hw _ (own_mi 78 rfl))) Via.refl e0 Pm0 (g := (mkF m 1 #[.val (.ref o)] [(.ref o)])) rfl rfl (hb hby own_d27_1)
  refine own_go st2 ?_
  show own_Rn p e below _ (T2.setTop (mkF m 4 #[.val (.ref o)] [(.ref v)]))
  exact own_ret X2 (v := some (.ref v)) (fun h => by rw [Bd.returns] at h; cases h) (fun fs hr => X2.areturnOut hx rfl Bd.returns rfl (hb hby own_d27_4) hr) (by rw [e2]; exact ⟨rfl, N0, rfl⟩) (by decide) (by decide)
theorem own_ef_rmName (m : MethodId) (o : Addr) (cc : Addr) (tr : Addr) (x1 : Addr) (t1 : Addr) (k1 : ClassId) (hs : List Int32) (x2 : Addr) (t2 : Addr) (k2 : ClassId) (ns : List Int32) (es : List Int32) (G1 : Int32) : entryFrame m #[(.ref o)] 1 = mkF m 0 #[.val (.ref o)] [] := by first | (simp [entryFrame, mkF, argsToLocals, Value.category]; done) | rfl
theorem own_d15_0 : decode prog_15_method_2_code 0 = .ok (.new 17, 3) := by decide +kernel
theorem own_d15_3 : decode prog_15_method_2_code 3 = .ok (.dup, 1) := by decide +kernel
theorem own_d15_4 : decode prog_15_method_2_code 4 = .ok (.invokespecial 19, 3) := by decide +kernel
theorem own_d15_7 : decode prog_15_method_2_code 7 = .ok (.aload_n 0, 1) := by decide +kernel
theorem own_d15_8 : decode prog_15_method_2_code 8 = .ok (.getfield 7, 3) := by decide +kernel
theorem own_d15_11 : decode prog_15_method_2_code 11 = .ok (.invokevirtual 20, 3) := by decide +kernel
theorem own_pd_2829Ljava2flang2fString3b : parseMethodDescriptor "()Ljava/lang/String;" = some ⟨[], some (.object "java/lang/String")⟩ := by decide +kernel
theorem own_d15_14 : decode prog_15_method_2_code 14 = .ok (.invokevirtual 26, 3) := by decide +kernel
theorem own_pd_28Ljava2flang2fString3b29Ljava2flang2fStringBuilder3b : parseMethodDescriptor "(Ljava/lang/String;)Ljava/lang/StringBuilder;" = some ⟨[(.object "java/lang/String")], some (.object "java/lang/StringBuilder")⟩ := by decide +kernel
theorem own_d15_17 : decode prog_15_method_2_code 17 = .ok (.ldc 30, 2) := by decide +kernel
theorem own_d15_19 : decode prog_15_method_2_code 19 = .ok (.invokevirtual 26, 3) := by decide +kernel
theorem own_d15_22 : decode prog_15_method_2_code 22 = .ok (.aload_n 0, 1) := by decide +kernel
theorem own_d15_23 : decode prog_15_method_2_code 23 = .ok (.getfield 13, 3) := by decide +kernel
theorem own_d15_26 : decode prog_15_method_2_code 26 = .ok (.invokevirtual 32, 3) := by decide +kernel
theorem own_d15_29 : decode prog_15_method_2_code 29 = .ok (.invokevirtual 26, 3) := by decide +kernel
theorem own_d15_32 : decode prog_15_method_2_code 32 = .ok (.invokevirtual 37, 3) := by decide +kernel
theorem own_d15_35 : decode prog_15_method_2_code 35 = .ok (.areturn, 1) := by decide +kernel
def Q_rmName (Z : State) (o : Addr) (cc : Addr) (tr : Addr) (x1 : Addr) (t1 : Addr) (k1 : ClassId) (hs : List Int32) (x2 : Addr) (t2 : Addr) (k2 : ClassId) (ns : List Int32) (es : List Int32) (G1 : Int32) (h0 : Heap) (n0 : Nat) (vq : Option Value) (hhq : Heap) (Lq : List Loc) : Prop := ∃ (x : Addr), ∃ (t : Addr), ∃ (kt : ClassId), vq = some (.ref x) ∧ Fr n0 Lq ∧ Keep h0 hhq [] ∧ Exa Z hhq x "java/lang/String" ∧ Fld Z hhq x "java/lang/String" "value" "[B" (.ref t) ∧ Fld Z hhq x "java/lang/String" "coder" "B" (.int (0 : Int32)) ∧ Arv Z hhq t kt .byte (Int32.ofNat es.length) (own_bs es) (.int 0)
set_option maxRecDepth 65536 in
set_option maxHeartbeats 40000000 in
theorem rmName (l : Launch) (Z : State) (a0 : Array Value) (hw : ∀ d ∈ tables_1, d.before a0 Z = true) (ws : List Jvm.Cond) (o : Addr) (cc : Addr) (tr : Addr) (x1 : Addr) (t1 : Addr) (k1 : ClassId) (hs : List Int32) (x2 : Addr) (t2 : Addr) (k2 : ClassId) (ns : List Int32) (es : List Int32) (G1 : Int32) (h0 : Heap) (n0 : Nat) (Z0 : n0 ≤ h0.size) (hEL : EW Z a0 consts_1) (Pm0 : Fld Z h0 o "com/example/cellwise/cellwise/Matrix$Cell" "competency" "Lcom/example/cellwise/cellwise/Matrix$Competency;" (.ref cc)) (Pm1 : Fld Z h0 o "com/example/cellwise/cellwise/Matrix$Cell" "training" "Lcom/example/cellwise/cellwise/Matrix$Training;" (.ref tr)) (Pm2 : Exa Z h0 cc "com/example/cellwise/cellwise/Matrix$Competency") (Pm3 : Fld Z h0 cc "com/example/cellwise/cellwise/Matrix$Competency" "heading" "Ljava/lang/String;" (.ref x1)) (Pm4 : Exa Z h0 tr "com/example/cellwise/cellwise/Matrix$Training") (Pm5 : Fld Z h0 tr "com/example/cellwise/cellwise/Matrix$Training" "name" "Ljava/lang/String;" (.ref x2)) (Pm6 : Exa Z h0 x1 "java/lang/String") (Pm7 : Fld Z h0 x1 "java/lang/String" "value" "[B" (.ref t1)) (Pm8 : Fld Z h0 x1 "java/lang/String" "coder" "B" (.int (0 : Int32))) (Pm9 : Arv Z h0 t1 k1 .byte (Int32.ofNat hs.length) (own_bs hs) (.int 0)) (Pm10 : Exa Z h0 x2 "java/lang/String") (Pm11 : Fld Z h0 x2 "java/lang/String" "value" "[B" (.ref t2)) (Pm12 : Fld Z h0 x2 "java/lang/String" "coder" "B" (.int (0 : Int32))) (Pm13 : Arv Z h0 t2 k2 .byte (Int32.ofNat ns.length) (own_bs ns) (.int 0)) (hes : (es = (hs ++ ([32, 105, 110, 32] : List Int32)) ++ ns)) (h15 : (es.length ≤ 15)) (O2 : Sta Z Z.heap "java/lang/String" "COMPACT_STRINGS" "Z" (.int G1)) (P5 : (¬ (G1 = (0 : Int32)))) (X00 : Old Z n0 h0) :
    MetFree l (⟨"com/example/cellwise/cellwise/Matrix$Cell", "name", "()Ljava/lang/String;"⟩ : MethodName) (head1 (Jvm.Cond.code (⟨"com/example/cellwise/cellwise/Matrix$Cell", "name", "()Ljava/lang/String;"⟩ : MethodName) prog_15_method_2_code 1 (some (.object "java/lang/String")) :: ws) ({ frames := 6, cells := 6, slots := 59, locals := 100 } : Room)) (fun aq U => aq = #[(.ref o)] ∧ Z.Warmed39 U.vm ∧ U.heap = h0 ∧ CHv Z consts_1 U.vm h0 ∧ ∀ ax ∈ ([] : List Addr), Safe Z consts_1 U.vm h0 ax) (fun _ _ _ _ _ => True) (fun _ U oq U' => ∃ vq Lq, oq = .returned vq ∧ Q_rmName Z o cc tr x1 t1 k1 hs x2 t2 k2 ns es G1 h0 n0 vq U'.heap Lq ∧ CHr Z consts_1 U.vm U.heap U'.vm U'.heap ∧ ReturnedEndW U oq U' Lq ({ frames := 6, cells := 6, slots := 59, locals := 100 } : Room).cells ({ frames := 6, cells := 6, slots := 59, locals := 100 } : Room).slots) := by
  refine MetFree.of_bodySF (plainFor_of_name own_pn_com_example_cellwise_cellwise_Matrix_Cell) hisR ?_
  intro p e s m args below meth c s₁ Bd hml0 hP hK
  obtain ⟨rfl, hZ, hh, hH, hSf⟩ := hP
  have hx := Bd.exec
  have hby := Bd.bytes
  have hml : c.maxLocals = 1 := hml0
  have hown : s.vm.findClass "com/example/cellwise/cellwise/Matrix$Cell" = some m.cls := findClass_of_methodNamed Bd.named
  have hnm := (name_of_methodNamed Bd.named Bd.method).1
  have X0 : Stand p l e ({ frames := 6, cells := 6, slots := 59, locals := 100 } : Room) (s.setVm s.vm) m #[(.ref o)] below meth c s₁ [] 0 0 := Stand.of_body Bd
  have e0 : s₁.heap = h0 := by rw [← hh, Bd.state]; rfl
  have N0 := Fr.nil n0
  have K0 : Keep h0 h0 [] := Keep.refl _ _
  refine own_go (S' := s₁.setTop (mkF m 0 #[.val (.ref o)] [])) (fun tq kq => castTop (own_ef_rmName m o cc tr x1 t1 k1 hs x2 t2 k2 ns es G1) kq) ?_
  have lt1 : @LT.lt Nat _ o h0.size := Pm0.lt
  have lt2 : @LT.lt Nat _ cc h0.size := Pm2.lt
  have lt3 : @LT.lt Nat _ tr h0.size := Pm4.lt
  have lt4 : @LT.lt Nat _ x1 h0.size := Pm6.lt
  have lt5 : @LT.lt Nat _ t1 h0.size := Pm9.lt
  have lt6 : @LT.lt Nat _ x2 h0.size := Pm10.lt
  have lt7 : @LT.lt Nat _ t2 h0.size := Pm13.lt
  have hS0 : s.Since s.vm h0.size := (State.WarmedH.refl s).since _
  have CR0 : CHr Z consts_1 s.vm h0 s.vm h0 := CHr.refl hH
  have hwS : ∀ d ∈ Bundle.stringAtoms, d.before a0 Z = true := fun d hd => hw d ((by decide +kernel : ∀ d ∈ Bundle.stringAtoms, d ∈ tables_1) d hd)
  have hle : hs.length + 4 + ns.length ≤ 15 := by rw [hes, List.length_append, List.length_append] at h15; exact h15
  obtain ⟨T8, h8, X8, e8, E8, A8, D8, -, st8⟩ := newO X0 hx hZ hown (hw _ (own_mi 96 rfl)) (hw _ (own_mi 97 rfl)) (hw _ (own_mi 98 rfl)) e0 (g := (mkF m 0 #[.val (.ref o)] [])) rfl (hb hby own_d15_0) (by decide) (by decide)
  obtain ⟨b8, g8⟩ : ∃ z, z = h0.size := ⟨_, rfl⟩
  rw [← g8] at A8 D8 st8
  refine own_go st8 ?_
  have sz9 : h0.size ≤ h8.size := E8.1
  have K9 := K0.ext E8
  have cr9 : CHr Z consts_1 s.vm h0 s.vm h8 := CHr.ext E8 CR0.1
  have CR9 := CR0.trans cr9
  have lt10 : @LT.lt Nat _ b8 h8.size := A8.lt
  have gn8 : n0 ≤ b8 := by omega
  have D8_value : Fld Z h8 b8 "java/lang/AbstractStringBuilder" "value" "[B" .null := D8 (Or.inl (hw _ (own_mi 111 rfl))) (ty := (.array .byte)) own_fd_5bB
  have D8_coder : Fld Z h8 b8 "java/lang/AbstractStringBuilder" "coder" "B" (.int (0 : Int32)) := D8 (Or.inl (hw _ (own_mi 113 rfl))) (ty := .byte) own_fd_B
  have D8_count : Fld Z h8 b8 "java/lang/AbstractStringBuilder" "count" "I" (.int (0 : Int32)) := D8 (Or.inl (hw _ (own_mi 140 rfl))) (ty := .int) own_fd_I
  show own_Rn p e below _ (T8.setTop (mkF m 3 #[.val (.ref o)] [(.ref b8)]))
  refine own_go (fun tq kq => XS.dup X8.here hx rfl (hb hby own_d15_3) rfl rfl kq) ?_
  show own_Rn p e below _ (T8.setTop (mkF m 4 #[.val (.ref o)] [(.ref b8), (.ref b8)]))
  have Zn12 : n0 ≤ h8.size := by omega
  have F13 : Old Z n0 h8 := (X00.ext E8)
  obtain ⟨rv12, _, ⟨T12, L12, k12, n12⟩, -, X12, ⟨Lc12, hQ12, l12, y12, z12⟩, st12⟩ := X8.specialBack hx (y := (⟨"java/lang/StringBuilder", "<init>", "()V"⟩ : MethodName)) rfl hown (mvT hZ (hw _ (own_mi 99 rfl))) (mvT hZ (hw _ (own_mi 100 rfl))) (mvT hZ (hw _ (own_mi 101 rfl))) (by decide) (backOf (W := 1) (rmSI l Z a0 hw [] (b8) (G1) h8 n0 Zn12 A8 D8_value D8_coder D8_count gn8 (O2) (P5) F13) hZ (hw _ (own_mi 101 rfl)) (hw _ (own_mi 98 rfl)) (by decide) (by decide)) (g := (mkF m 4 #[.val (.ref o)] [(.ref b8), (.ref b8)])) rfl (by rw [hml]; rfl) (Steps.refl _) (a := b8) (argsL := []) (rest := [(.ref b8)]) (lenOf own_pd_2829V rfl) rfl (by show 2 * 0 + _ ≤ _; exact Nat.le_of_eq rfl) (hb hby own_d15_4) (fun _ _ => ⟨rfl, e8, (by decide : 1 + 1 ≤ _), (by decide : 4 + 16 ≤ _)⟩)
  dsimp only [Pt.U, Pt.locs, Pt.cells, Pt.slots] at X12 l12 y12 z12 st12 hQ12
  subst l12 y12 z12
  obtain ⟨bv11, kb11, rfl, Nq12, Kq12, G0_12, G1_12, G2_12, G3_12, G4_12, G5_12⟩ := hQ12
  have N12 := Fr.app N0 Nq12
  have sf14 : Safe Z consts_1 s.vm h8 b8 := Safe.exa hZ.alike A8 (by decide) (by decide)
  have sz15 : h8.size ≤ T12.heap.size := Kq12.1
  have K15 := K9.trans Kq12 (allS (Or.inr (by omega)) all0)
  have cr15 : CHr Z consts_1 s.vm h8 s.vm T12.heap := CHr.keep Kq12 (sfS sf14 sf0) CR9.1
  have CR15 := CR9.trans cr15
  have sf16 : Safe Z consts_1 s.vm T12.heap bv11 := Safe.keep Kq12 (sfS sf14 sf0) CR9.1 (Safe.new (by omega))
  have lt17 : @LT.lt Nat _ bv11 T12.heap.size := G4_12.lt
  refine own_go (fun tq kq => st12.trans kq) ?_
  show own_Rn p e below _ (T12.setTop (mkF m 7 #[.val (.ref o)] [(.ref b8)]))
  refine own_go (fun tq kq => XS.aloadN X12.here hx rfl (hb hby own_d15_7) rfl rfl kq) ?_
  show own_Rn p e below _ (T12.setTop (mkF m 8 #[.val (.ref o)] [(.ref o), (.ref b8)]))
  have ne18 : o ≠ b8 := own_nea (by omega)
  have F19 : Fld Z T12.heap o "com/example/cellwise/cellwise/Matrix$Cell" "competency" "Lcom/example/cellwise/cellwise/Matrix$Competency;" (.ref cc) := ((Pm0.ext E8).keep Kq12 (ninS ne18 nin0))
  obtain ⟨T20, X20, e20, st20⟩ := getF X12 hx hZ hown (host := "") (Or.inl (hw _ (own_mi 87 rfl))) Via.refl rfl F19 (g := (mkF m 8 #[.val (.ref o)] [(.ref o), (.ref b8)])) rfl rfl (hb hby own_d15_8)
  refine own_go st20 ?_
  show own_Rn p e below _ (T20.setTop (mkF m 11 #[.val (.ref o)] [(.ref cc), (.ref b8)]))
  have Zn21 : n0 ≤ T12.heap.size := by omega
  have ne22 : cc ≠ b8 := own_nea (by omega)
  have F23 : Fld Z T12.heap cc "com/example/cellwise/cellwise/Matrix$Competency" "heading" "Ljava/lang/String;" (.ref x1) := ((Pm3.ext E8).keep Kq12 (ninS ne22 nin0))
  have F24 : Exa Z T12.heap cc "com/example/cellwise/cellwise/Matrix$Competency" := ((Pm2.ext E8).keep Kq12)
  obtain ⟨cq21, kq21, qa21, qb21, qc21⟩ := isOf hZ e20 F24
  obtain ⟨rv21, _, ⟨T21, L21, k21, n21⟩, -, X21, ⟨Lc21, hQ21, l21, y21, z21⟩, st21⟩ := X20.virtualBack hx (y := (⟨"com/example/cellwise/cellwise/Matrix$Competency", "heading", "()Ljava/lang/String;"⟩ : MethodName)) (z := (⟨"com/example/cellwise/cellwise/Matrix$Competency", "heading", "()Ljava/lang/String;"⟩ : MethodName)) hown (mvT hZ (hw _ (own_mi 114 rfl))) (mvT hZ (hw _ (own_mi 115 rfl))) (notFace_of_selects (args := #[]) (mvT hZ (hw _ (own_mi 117 rfl)))) (mvT hZ (hw _ (own_mi 117 rfl))) (mvT hZ (hw _ (own_mi 116 rfl))) (by decide) (backOf (W := 1) (rmGH l Z a0 hw [] (cc) (x1) T12.heap n0 Zn21 F23) hZ (hw _ (own_mi 118 rfl)) (hw _ (own_mi 39 rfl)) (by decide) (by decide)) qa21 qc21 (g := (mkF m 11 #[.val (.ref o)] [(.ref cc), (.ref b8)])) rfl (by rw [hml]; rfl) (Steps.refl _) (argsL := []) (rest := [(.ref b8)]) (lenOf own_pd_2829Ljava2flang2fString3b rfl) rfl (by show 2 * 0 + _ ≤ _; exact Nat.le_of_eq rfl) (hb hby own_d15_11) (fun _ _ => ⟨rfl, e20, (by decide : 2 + 0 ≤ _), (by decide : 20 + 0 ≤ _)⟩)
  dsimp only [Pt.U, Pt.locs, Pt.cells, Pt.slots] at X21 l21 y21 z21 st21 hQ21
  subst l21 y21 z21
  obtain ⟨rfl, Nq21, eh21⟩ := hQ21
  have N21 := Fr.app N12 Nq21
  refine own_go (fun tq kq => st21.trans kq) ?_
  show own_Rn p e below _ (T21.setTop (mkF m 14 #[.val (.ref o)] [(.ref x1), (.ref b8)]))
  have ne25 : t1 ≠ bv11 := own_nea (by omega)
  have Zn26 : n0 ≤ T12.heap.size := by omega
  have F27 : Exa Z T12.heap x1 "java/lang/String" := ((Pm6.ext E8).keep Kq12)
  have ne28 : x1 ≠ b8 := own_nea (by omega)
  have F29 : Fld Z T12.heap x1 "java/lang/String" "value" "[B" (.ref t1) := ((Pm7.ext E8).keep Kq12 (ninS ne28 nin0))
  have F30 : Fld Z T12.heap x1 "java/lang/String" "coder" "B" (.int (0 : Int32)) := ((Pm8.ext E8).keep Kq12 (ninS ne28 nin0))
  have ne31 : t1 ≠ b8 := own_nea (by omega)
  have F32 : Arv Z T12.heap t1 k1 .byte (Int32.ofNat hs.length) (own_bs hs) (.int 0) := ((Pm9.ext E8).keep Kq12 (ninS ne31 nin0))
  have F33 : Exa Z T12.heap b8 "java/lang/StringBuilder" := (A8.keep Kq12)
  have F34 : Old Z n0 T12.heap := (F13.keep Kq12 (allS gn8 all0))
  obtain ⟨cq26, kq26, qa26, qb26, qc26⟩ := isOf hZ eh21 F33
  obtain ⟨rv26, _, ⟨T26, L26, k26, n26⟩, -, X26, ⟨Lc26, hQ26, l26, y26, z26⟩, st26⟩ := X21.virtualBack hx (y := (⟨"java/lang/StringBuilder", "append", "(Ljava/lang/String;)Ljava/lang/StringBuilder;"⟩ : MethodName)) (z := (⟨"java/lang/StringBuilder", "append", "(Ljava/lang/String;)Ljava/lang/StringBuilder;"⟩ : MethodName)) hown (mvT hZ (hw _ (own_mi 119 rfl))) (mvT hZ (hw _ (own_mi 120 rfl))) (notFace_of_selects (args := #[]) (mvT hZ (hw _ (own_mi 122 rfl)))) (mvT hZ (hw _ (own_mi 122 rfl))) (mvT hZ (hw _ (own_mi 121 rfl))) (by decide) (backOf (W := 0) (rmSA l Z a0 hw [] (b8) (x1) (t1) (k1) (hs) (bv11) (kb11) (([] : List Int32)) (hs) (G1) T12.heap n0 Zn26 F27 F29 F30 F32 F33 G2_12 G3_12 G4_12 G5_12 ((List.nil_append _).symm) (by omega) (ne25) G1_12 gn8 (O2) (P5) F34) hZ (hw _ (own_mi 123 rfl)) (hw _ (own_mi 98 rfl)) (by decide) (by decide)) qa26 qc26 (g := (mkF m 14 #[.val (.ref o)] [(.ref x1), (.ref b8)])) rfl (by rw [hml]; rfl) (Steps.refl _) (argsL := [(.ref x1)]) (rest := []) (lenOf own_pd_28Ljava2flang2fString3b29Ljava2flang2fStringBuilder3b rfl) rfl (by show 2 * 0 + _ ≤ _; exact Nat.le_of_eq rfl) (hb hby own_d15_14) (fun _ _ => ⟨rfl, eh21, (by decide : 2 + 0 ≤ _), (by decide : 20 + 0 ≤ _)⟩)
  dsimp only [Pt.U, Pt.locs, Pt.cells, Pt.slots] at X26 l26 y26 z26 st26 hQ26
  subst l26 y26 z26
  obtain ⟨rfl, Nq26, Kq26, G0_26, G1_26, G2_26, G3_26⟩ := hQ26
  have N26 := Fr.app N21 Nq26
  have sf36 : Safe Z consts_1 s.vm T12.heap b8 := Safe.exa hZ.alike F33 (by decide) (by decide)
  have sz37 : T12.heap.size ≤ T26.heap.size := Kq26.1
  have K37 := K15.trans Kq26 (allS (Or.inr (by omega)) (allS (Or.inr (by omega)) all0))
  have cr37 : CHr Z consts_1 s.vm T12.heap s.vm T26.heap := CHr.keep Kq26 (sfS sf36 (sfS sf16 sf0)) CR15.1
  have CR37 := CR15.trans cr37
  refine own_go (fun tq kq => st26.trans kq) ?_
  show own_Rn p e below _ (T26.setTop (mkF m 17 #[.val (.ref o)] [(.ref b8)]))
  obtain ⟨a38, T38, h38, kk38, bb38, kc38, X38, e38, E38, hS38, hk38, hZ38, hown38, Ex38, Co38, Va38, Ab38, la38, lb38, crq38, Li38, sn38, st38⟩ := ldcCH X26 hx hZ hown (hw _ (own_mi 166 rfl)) hwS rfl hS0 (by omega) hEL (List.mem_of_getElem? (i := 0) rfl) CR37.1 (vs := ((([32, 105, 110, 32] : List Int32).map (fun c => c.toInt8.toInt32)).map Value.int)) (z := (4 : Int32)) ⟨by decide, by decide⟩ (by decide) (by decide) (g := (mkF m 17 #[.val (.ref o)] [(.ref b8)])) rfl (hb hby own_d15_17) (n := 16) (by decide) (by decide) (by decide) (by decide)
  refine own_go st38 ?_
  have sz39 : T26.heap.size ≤ h38.size := E38.1
  have K39 := K37.ext E38
  have cr39 : CHr Z consts_1 s.vm T26.heap T38.vm h38 := crq38
  have CR39 := CR37.trans cr39
  have sf41 : Safe Z consts_1 T38.vm h38 bv11 := (CHr.safe cr39 (show @LT.lt Nat _ _ _ by omega) (CHr.safe cr37 (show @LT.lt Nat _ _ _ by omega) sf16))
  obtain ⟨na38_bv11, nb38_bv11⟩ := sn38 bv11 sf41
  have lt42 : @LT.lt Nat _ a38 h38.size := Ex38.lt
  have lt43 : @LT.lt Nat _ bb38 h38.size := Ab38.lt
  show own_Rn p e below _ (T38.setTop (mkF m 19 #[.val (.ref o)] [(.ref a38), (.ref b8)]))
  have Zn44 : n0 ≤ h38.size := by omega
  have F45 : Exa Z h38 b8 "java/lang/StringBuilder" := ((F33.keep Kq26).ext E38)
  have F46 : Fld Z h38 b8 "java/lang/AbstractStringBuilder" "value" "[B" (.ref bv11) := (G0_26.ext E38)
  have F47 : Fld Z h38 b8 "java/lang/AbstractStringBuilder" "coder" "B" (.int (0 : Int32)) := (G1_26.ext E38)
  have F48 : Arv Z h38 bv11 kb11 .byte (16 : Int32) (own_bs hs) (.int 0) := (G3_26.ext E38)
  have F49 : Fld Z h38 b8 "java/lang/AbstractStringBuilder" "count" "I" (.int (Int32.ofNat hs.length)) := (G2_26.ext E38)
  have F50 : Old Z n0 h38 := ((F34.keep Kq26 (allS gn8 (allS G1_12 all0))).ext E38)
  obtain ⟨cq44, kq44, qa44, qb44, qc44⟩ := isOf hZ38 e38 F45
  obtain ⟨rv44, _, ⟨T44, L44, k44, n44⟩, -, X44, ⟨Lc44, hQ44, l44, y44, z44⟩, st44⟩ := X38.virtualBack hx (y := (⟨"java/lang/StringBuilder", "append", "(Ljava/lang/String;)Ljava/lang/StringBuilder;"⟩ : MethodName)) (z := (⟨"java/lang/StringBuilder", "append", "(Ljava/lang/String;)Ljava/lang/StringBuilder;"⟩ : MethodName)) hown38 (mvT hZ38 (hw _ (own_mi 119 rfl))) (mvT hZ38 (hw _ (own_mi 120 rfl))) (notFace_of_selects (args := #[]) (mvT hZ38 (hw _ (own_mi 122 rfl)))) (mvT hZ38 (hw _ (own_mi 122 rfl))) (mvT hZ38 (hw _ (own_mi 121 rfl))) (by decide) (backOf (W := 0) (rmSA l Z a0 hw [] (b8) (a38) (bb38) (kc38) (([32, 105, 110, 32] : List Int32)) (bv11) (kb11) (hs) ((hs ++ ([32, 105, 110, 32] : List Int32))) (G1) h38 n0 Zn44 Ex38 Va38 Co38 Ab38 F45 F46 F47 F48 F49 (rfl) (by rw [List.length_append]; show _ + 4 ≤ 15; omega) ((Ne.symm nb38_bv11)) G1_12 gn8 (O2) (P5) F50) hZ38 (hw _ (own_mi 123 rfl)) (hw _ (own_mi 98 rfl)) (by decide) (by decide)) qa44 qc44 (g := (mkF m 19 #[.val (.ref o)] [(.ref a38), (.ref b8)])) rfl (by rw [hml]; rfl) (Steps.refl _) (argsL := [(.ref a38)]) (rest := []) (lenOf own_pd_28Ljava2flang2fString3b29Ljava2flang2fStringBuilder3b rfl) rfl (by show 2 * 0 + _ ≤ _; exact Nat.le_of_eq rfl) (hb hby own_d15_19) (fun _ _ => ⟨rfl, e38, (by decide : 4 + 0 ≤ _), (by decide : 40 + 0 ≤ _)⟩)
  dsimp only [Pt.U, Pt.locs, Pt.cells, Pt.slots] at X44 l44 y44 z44 st44 hQ44
  subst l44 y44 z44
  obtain ⟨rfl, Nq44, Kq44, G0_44, G1_44, G2_44, G3_44⟩ := hQ44
  have N44 := Fr.app N26 Nq44
  have sf52 : Safe Z consts_1 T38.vm h38 b8 := Safe.exa hZ38.alike F45 (by decide) (by decide)
  have sz53 : h38.size ≤ T44.heap.size := Kq44.1
  have K53 := K39.trans Kq44 (allS (Or.inr (by omega)) (allS (Or.inr (by omega)) all0))
  have cr53 : CHr Z consts_1 T38.vm h38 T38.vm T44.heap := CHr.keep Kq44 (sfS sf52 (sfS sf41 sf0)) CR39.1
  have CR53 := CR39.trans cr53
  refine own_go (fun tq kq => st44.trans kq) ?_
  show own_Rn p e below _ (T44.setTop (mkF m 22 #[.val (.ref o)] [(.ref b8)]))
  refine own_go (fun tq kq => XS.aloadN X44.here hx rfl (hb hby own_d15_22) rfl rfl kq) ?_
  show own_Rn p e below _ (T44.setTop (mkF m 23 #[.val (.ref o)] [(.ref o), (.ref b8)]))
  have ne54 : o ≠ bv11 := own_nea (by omega)
  have F55 : Fld Z T44.heap o "com/example/cellwise/cellwise/Matrix$Cell" "training" "Lcom/example/cellwise/cellwise/Matrix$Training;" (.ref tr) := (((((Pm1.ext E8).keep Kq12 (ninS ne18 nin0)).keep Kq26 (ninS ne18 (ninS ne54 nin0))).ext E38).keep Kq44 (ninS ne18 (ninS ne54 nin0)))
  obtain ⟨T56, X56, e56, st56⟩ := getF X44 hx hZ38 hown38 (host := "") (Or.inl (hw _ (own_mi 89 rfl))) Via.refl rfl F55 (g := (mkF m 23 #[.val (.ref o)] [(.ref o), (.ref b8)])) rfl rfl (hb hby own_d15_23)
  refine own_go st56 ?_
  show own_Rn p e below _ (T56.setTop (mkF m 26 #[.val (.ref o)] [(.ref tr), (.ref b8)]))
  have Zn57 : n0 ≤ T44.heap.size := by omega
  have ne58 : tr ≠ b8 := own_nea (by omega)
  have ne59 : tr ≠ bv11 := own_nea (by omega)
  have F60 : Fld Z T44.heap tr "com/example/cellwise/cellwise/Matrix$Training" "name" "Ljava/lang/String;" (.ref x2) := (((((Pm5.ext E8).keep Kq12 (ninS ne58 nin0)).keep Kq26 (ninS ne58 (ninS ne59 nin0))).ext E38).keep Kq44 (ninS ne58 (ninS ne59 nin0)))
  have F61 : Exa Z T44.heap tr "com/example/cellwise/cellwise/Matrix$Training" := (((((Pm4.ext E8).keep Kq12).keep Kq26).ext E38).keep Kq44)
  obtain ⟨cq57, kq57, qa57, qb57, qc57⟩ := isOf hZ38 e56 F61
  obtain ⟨rv57, _, ⟨T57, L57, k57, n57⟩, -, X57, ⟨Lc57, hQ57, l57, y57, z57⟩, st57⟩ := X56.virtualBack hx (y := (⟨"com/example/cellwise/cellwise/Matrix$Training", "name", "()Ljava/lang/String;"⟩ : MethodName)) (z := (⟨"com/example/cellwise/cellwise/Matrix$Training", "name", "()Ljava/lang/String;"⟩ : MethodName)) hown38 (mvT hZ38 (hw _ (own_mi 167 rfl))) (mvT hZ38 (hw _ (own_mi 168 rfl))) (notFace_of_selects (args := #[]) (mvT hZ38 (hw _ (own_mi 170 rfl)))) (mvT hZ38 (hw _ (own_mi 170 rfl))) (mvT hZ38 (hw _ (own_mi 169 rfl))) (by decide) (backOf (W := 1) (rmGN l Z a0 hw [] (tr) (x2) T44.heap n0 Zn57 F60) hZ38 (hw _ (own_mi 171 rfl)) (hw _ (own_mi 71 rfl)) (by decide) (by decide)) qa57 qc57 (g := (mkF m 26 #[.val (.ref o)] [(.ref tr), (.ref b8)])) rfl (by rw [hml]; rfl) (Steps.refl _) (argsL := []) (rest := [(.ref b8)]) (lenOf own_pd_2829Ljava2flang2fString3b rfl) rfl (by show 2 * 0 + _ ≤ _; exact Nat.le_of_eq rfl) (hb hby own_d15_26) (fun _ _ => ⟨rfl, e56, (by decide : 4 + 0 ≤ _), (by decide : 40 + 0 ≤ _)⟩)
  dsimp only [Pt.U, Pt.locs, Pt.cells, Pt.slots] at X57 l57 y57 z57 st57 hQ57
  subst l57 y57 z57
  obtain ⟨rfl, Nq57, eh57⟩ := hQ57
  have N57 := Fr.app N44 Nq57
  refine own_go (fun tq kq => st57.trans kq) ?_
  show own_Rn p e below _ (T57.setTop (mkF m 29 #[.val (.ref o)] [(.ref x2), (.ref b8)]))
  have ne62 : t2 ≠ bv11 := own_nea (by omega)
  have Zn63 : n0 ≤ T44.heap.size := by omega
  have F64 : Exa Z T44.heap x2 "java/lang/String" := (((((Pm10.ext E8).keep Kq12).keep Kq26).ext E38).keep Kq44)
  have ne65 : x2 ≠ b8 := own_nea (by omega)
  have ne66 : x2 ≠ bv11 := own_nea (by omega)
  have F67 : Fld Z T44.heap x2 "java/lang/String" "value" "[B" (.ref t2) := (((((Pm11.ext E8).keep Kq12 (ninS ne65 nin0)).keep Kq26 (ninS ne65 (ninS ne66 nin0))).ext E38).keep Kq44 (ninS ne65 (ninS ne66 nin0)))
  have F68 : Fld Z T44.heap x2 "java/lang/String" "coder" "B" (.int (0 : Int32)) := (((((Pm12.ext E8).keep Kq12 (ninS ne65 nin0)).keep Kq26 (ninS ne65 (ninS ne66 nin0))).ext E38).keep Kq44 (ninS ne65 (ninS ne66 nin0)))
  have ne69 : t2 ≠ b8 := own_nea (by omega)
  have F70 : Arv Z T44.heap t2 k2 .byte (Int32.ofNat ns.length) (own_bs ns) (.int 0) := (((((Pm13.ext E8).keep Kq12 (ninS ne69 nin0)).keep Kq26 (ninS ne69 (ninS ne62 nin0))).ext E38).keep Kq44 (ninS ne69 (ninS ne62 nin0)))
  have F71 : Exa Z T44.heap b8 "java/lang/StringBuilder" := (F45.keep Kq44)
  have F72 : Old Z n0 T44.heap := (F50.keep Kq44 (allS gn8 (allS G1_12 all0)))
  obtain ⟨cq63, kq63, qa63, qb63, qc63⟩ := isOf hZ38 eh57 F71
  obtain ⟨rv63, _, ⟨T63, L63, k63, n63⟩, -, X63, ⟨Lc63, hQ63, l63, y63, z63⟩, st63⟩ := X57.virtualBack hx (y := (⟨"java/lang/StringBuilder", "append", "(Ljava/lang/String;)Ljava/lang/StringBuilder;"⟩ : MethodName)) (z := (⟨"java/lang/StringBuilder", "append", "(Ljava/lang/String;)Ljava/lang/StringBuilder;"⟩ : MethodName)) hown38 (mvT hZ38 (hw _ (own_mi 119 rfl))) (mvT hZ38 (hw _ (own_mi 120 rfl))) (notFace_of_selects (args := #[]) (mvT hZ38 (hw _ (own_mi 122 rfl)))) (mvT hZ38 (hw _ (own_mi 122 rfl))) (mvT hZ38 (hw _ (own_mi 121 rfl))) (by decide) (backOf (W := 0) (rmSA l Z a0 hw [] (b8) (x2) (t2) (k2) (ns) (bv11) (kb11) ((hs ++ ([32, 105, 110, 32] : List Int32))) (es) (G1) T44.heap n0 Zn63 F64 F67 F68 F70 F71 G0_44 G1_44 G3_44 G2_44 (hes) (h15) (ne62) G1_12 gn8 (O2) (P5) F72) hZ38 (hw _ (own_mi 123 rfl)) (hw _ (own_mi 98 rfl)) (by decide) (by decide)) qa63 qc63 (g := (mkF m 29 #[.val (.ref o)] [(.ref x2), (.ref b8)])) rfl (by rw [hml]; rfl) (Steps.refl _) (argsL := [(.ref x2)]) (rest := []) (lenOf own_pd_28Ljava2flang2fString3b29Ljava2flang2fStringBuilder3b rfl) rfl (by show 2 * 0 + _ ≤ _; exact Nat.le_of_eq rfl) (hb hby own_d15_29) (fun _ _ => ⟨rfl, eh57, (by decide : 4 + 0 ≤ _), (by decide : 40 + 0 ≤ _)⟩)
  dsimp only [Pt.U, Pt.locs, Pt.cells, Pt.slots] at X63 l63 y63 z63 st63 hQ63
  subst l63 y63 z63
  obtain ⟨rfl, Nq63, Kq63, G0_63, G1_63, G2_63, G3_63⟩ := hQ63
  have N63 := Fr.app N57 Nq63
  have sf74 : Safe Z consts_1 T38.vm T44.heap bv11 := (CHr.safe cr53 (show @LT.lt Nat _ _ _ by omega) sf41)
  have sf75 : Safe Z consts_1 T38.vm T44.heap b8 := Safe.exa hZ38.alike F71 (by decide) (by decide)
  have sz76 : T44.heap.size ≤ T63.heap.size := Kq63.1
  have K76 := K53.trans Kq63 (allS (Or.inr (by omega)) (allS (Or.inr (by omega)) all0))
  have cr76 : CHr Z consts_1 T38.vm T44.heap T38.vm T63.heap := CHr.keep Kq63 (sfS sf75 (sfS sf74 sf0)) CR53.1
  have CR76 := CR53.trans cr76
  refine own_go (fun tq kq => st63.trans kq) ?_
  show own_Rn p e below _ (T63.setTop (mkF m 32 #[.val (.ref o)] [(.ref b8)]))
  have Zn77 : n0 ≤ T63.heap.size := by omega
  have F78 : Exa Z T63.heap b8 "java/lang/StringBuilder" := (F71.keep Kq63)
  have F79 : Old Z n0 T63.heap := (F72.keep Kq63 (allS gn8 (allS G1_12 all0)))
  obtain ⟨cq77, kq77, qa77, qb77, qc77⟩ := isOf hZ38 rfl F78
  obtain ⟨rv77, _, ⟨T77, L77, k77, n77⟩, -, X77, ⟨Lc77, hQ77, l77, y77, z77⟩, st77⟩ := X63.virtualBack hx (y := (⟨"java/lang/StringBuilder", "toString", "()Ljava/lang/String;"⟩ : MethodName)) (z := (⟨"java/lang/StringBuilder", "toString", "()Ljava/lang/String;"⟩ : MethodName)) hown38 (mvT hZ38 (hw _ (own_mi 172 rfl))) (mvT hZ38 (hw _ (own_mi 173 rfl))) (notFace_of_selects (args := #[]) (mvT hZ38 (hw _ (own_mi 175 rfl)))) (mvT hZ38 (hw _ (own_mi 175 rfl))) (mvT hZ38 (hw _ (own_mi 174 rfl))) (by decide) (backOf (W := 0) (rmTS l Z a0 hw [] (b8) (bv11) (kb11) (es) (G1) T63.heap n0 Zn77 F78 G0_63 G1_63 G3_63 G2_63 (h15) (O2) (P5) F79) hZ38 (hw _ (own_mi 176 rfl)) (hw _ (own_mi 98 rfl)) (by decide) (by decide)) qa77 qc77 (g := (mkF m 32 #[.val (.ref o)] [(.ref b8)])) rfl (by rw [hml]; rfl) (Steps.refl _) (argsL := []) (rest := []) (lenOf own_pd_2829Ljava2flang2fString3b rfl) rfl (by show 2 * 0 + _ ≤ _; exact Nat.le_of_eq rfl) (hb hby own_d15_32) (fun _ _ => ⟨rfl, rfl, (by decide : 4 + 2 ≤ _), (by decide : 40 + 19 ≤ _)⟩)
  dsimp only [Pt.U, Pt.locs, Pt.cells, Pt.slots] at X77 l77 y77 z77 st77 hQ77
  subst l77 y77 z77
  obtain ⟨xs, ts, ks, rfl, Nq77, Kq77, G0_77, G1_77, G2_77, G3_77, G4_77, G5_77, G6_77, G7_77⟩ := hQ77
  have N77 := Fr.app N63 Nq77
  have sz80 : T63.heap.size ≤ T77.heap.size := Kq77.1
  have K80 := K76.trans Kq77 all0
  have cr80 : CHr Z consts_1 T38.vm T63.heap T38.vm T77.heap := CHr.keep Kq77 sf0 CR76.1
  have CR80 := CR76.trans cr80
  have sf81 : Safe Z consts_1 T38.vm T77.heap xs := Safe.keep Kq77 sf0 CR76.1 (Safe.new (by omega))
  have sf82 : Safe Z consts_1 T38.vm T77.heap ts := Safe.keep Kq77 sf0 CR76.1 (Safe.new (by omega))
  have lt83 : @LT.lt Nat _ xs T77.heap.size := G4_77.lt
  have lt84 : @LT.lt Nat _ ts T77.heap.size := G6_77.lt
  refine own_go (fun tq kq => st77.trans kq) ?_
  show own_Rn p e below _ (T77.setTop (mkF m 35 #[.val (.ref o)] [(.ref xs)]))
  exact own_retS X77 hS38 (by omega) (v := some (.ref xs)) (fun h => by rw [Bd.returns] at h; cases h) (fun fs hr => X77.areturnOut hx rfl Bd.returns rfl (hb hby own_d15_35) hr) (⟨xs, ts, ks, rfl, N77, K80, G7_77, G4_77, G5_77, G6_77⟩) (by rw [hh]; exact CR80.trans (CHv.at X77 hZ38 hEL CR80.1)) (by decide) (by decide)
theorem own_ef_rmExp (m : MethodId) (i : Int32) (hl : Int32) (a : Int32) (b : Int32) (m0 : Int32) (m1 : Int32) : entryFrame m #[(.int i), (.int hl), (.int a), (.int b), (.int m0), (.int m1)] 7 = mkF m 0 #[.val (.int i), .val (.int hl), .val (.int a), .val (.int b), .val (.int m0), .val (.int m1), .unset] [] := by first | (simp [entryFrame, mkF, argsToLocals, Value.category]; done) | rfl
theorem own_d45_0 : decode method_4_code 0 = .ok (.iload_n 0, 1) := by decide +kernel
theorem own_d45_1 : decode method_4_code 1 = .ok (.iload_n 1, 1) := by decide +kernel
theorem own_d45_2 : decode method_4_code 2 = .ok (.if_icmp .ge 13, 3) := by decide +kernel
theorem own_d45_5 : decode method_4_code 5 = .ok (.iload_n 0, 1) := by decide +kernel
theorem own_d45_6 : decode method_4_code 6 = .ok (.ifCond .ne 7, 3) := by decide +kernel
theorem own_d45_9 : decode method_4_code 9 = .ok (.iload_n 2, 1) := by decide +kernel
theorem own_d45_10 : decode method_4_code 10 = .ok (.goto 4, 3) := by decide +kernel
theorem own_d45_14 : decode method_4_code 14 = .ok (.ireturn, 1) := by decide +kernel
theorem own_d45_13 : decode method_4_code 13 = .ok (.iload_n 3, 1) := by decide +kernel
theorem own_d45_15 : decode method_4_code 15 = .ok (.iload_n 0, 1) := by decide +kernel
theorem own_d45_16 : decode method_4_code 16 = .ok (.iload_n 1, 1) := by decide +kernel
theorem own_d45_17 : decode method_4_code 17 = .ok (.isub, 1) := by decide +kernel
theorem own_d45_18 : decode method_4_code 18 = .ok (.istore 6, 2) := by decide +kernel
theorem own_d45_20 : decode method_4_code 20 = .ok (.iload 6, 2) := by decide +kernel
theorem own_d45_22 : decode method_4_code 22 = .ok (.ifCond .ne 6, 3) := by decide +kernel
theorem own_d45_25 : decode method_4_code 25 = .ok (.bipush 32, 2) := by decide +kernel
theorem own_d45_27 : decode method_4_code 27 = .ok (.ireturn, 1) := by decide +kernel
theorem own_d45_28 : decode method_4_code 28 = .ok (.iload 6, 2) := by decide +kernel
theorem own_d45_30 : decode method_4_code 30 = .ok (.iconst 1, 1) := by decide +kernel
theorem own_d45_31 : decode method_4_code 31 = .ok (.if_icmp .ne 6, 3) := by decide +kernel
theorem own_d45_34 : decode method_4_code 34 = .ok (.bipush 105, 2) := by decide +kernel
theorem own_d45_36 : decode method_4_code 36 = .ok (.ireturn, 1) := by decide +kernel
theorem own_d45_37 : decode method_4_code 37 = .ok (.iload 6, 2) := by decide +kernel
theorem own_d45_39 : decode method_4_code 39 = .ok (.iconst 2, 1) := by decide +kernel
theorem own_d45_40 : decode method_4_code 40 = .ok (.if_icmp .ne 6, 3) := by decide +kernel
theorem own_d45_43 : decode method_4_code 43 = .ok (.bipush 110, 2) := by decide +kernel
theorem own_d45_45 : decode method_4_code 45 = .ok (.ireturn, 1) := by decide +kernel
theorem own_d45_46 : decode method_4_code 46 = .ok (.iload 6, 2) := by decide +kernel
theorem own_d45_48 : decode method_4_code 48 = .ok (.iconst 3, 1) := by decide +kernel
theorem own_d45_49 : decode method_4_code 49 = .ok (.if_icmp .ne 6, 3) := by decide +kernel
theorem own_d45_52 : decode method_4_code 52 = .ok (.bipush 32, 2) := by decide +kernel
theorem own_d45_54 : decode method_4_code 54 = .ok (.ireturn, 1) := by decide +kernel
theorem own_d45_55 : decode method_4_code 55 = .ok (.iload 6, 2) := by decide +kernel
theorem own_d45_57 : decode method_4_code 57 = .ok (.iconst 4, 1) := by decide +kernel
theorem own_d45_58 : decode method_4_code 58 = .ok (.if_icmp .ne 8, 3) := by decide +kernel
theorem own_d45_61 : decode method_4_code 61 = .ok (.iload 4, 2) := by decide +kernel
theorem own_d45_63 : decode method_4_code 63 = .ok (.goto 5, 3) := by decide +kernel
theorem own_d45_68 : decode method_4_code 68 = .ok (.ireturn, 1) := by decide +kernel
theorem own_d45_66 : decode method_4_code 66 = .ok (.iload 5, 2) := by decide +kernel
def Q_rmExp (Z : State) (i : Int32) (hl : Int32) (a : Int32) (b : Int32) (m0 : Int32) (m1 : Int32) (h0 : Heap) (n0 : Nat) (vq : Option Value) (hhq : Heap) (Lq : List Loc) : Prop := vq = some (.int (own_exp i hl a b m0 m1)) ∧ Fr n0 Lq ∧ hhq = h0
set_option maxRecDepth 65536 in
set_option maxHeartbeats 40000000 in
theorem rmExp (l : Launch) (Z : State) (a0 : Array Value) (hw : ∀ d ∈ tables_1, d.before a0 Z = true) (ws : List Jvm.Cond) (i : Int32) (hl : Int32) (a : Int32) (b : Int32) (m0 : Int32) (m1 : Int32) (h0 : Heap) (n0 : Nat) (Z0 : n0 ≤ h0.size) (ra : (¬ a < 0 ∧ ¬ (255 : Int32) < a)) (rb : (¬ b < 0 ∧ ¬ (255 : Int32) < b)) (rm0_ : (¬ m0 < 0 ∧ ¬ (255 : Int32) < m0)) (rm1_ : (¬ m1 < 0 ∧ ¬ (255 : Int32) < m1)) :
    MetFree l (⟨"com/example/cellwise/cellwise/CellNamePinLaw", "expect", "(IICCCC)C"⟩ : MethodName) (head1 (Jvm.Cond.code (⟨"com/example/cellwise/cellwise/CellNamePinLaw", "expect", "(IICCCC)C"⟩ : MethodName) method_4_code 7 (some .char) :: ws) ({ frames := 0, cells := 0, slots := 0, locals := 0 } : Room)) (fun aq U => aq = #[(.int i), (.int hl), (.int a), (.int b), (.int m0), (.int m1)] ∧ Z.Warmed39 U.vm ∧ U.heap = h0) (fun _ _ _ _ _ => True) (fun _ U oq U' => ∃ vq Lq, oq = .returned vq ∧ Q_rmExp Z i hl a b m0 m1 h0 n0 vq U'.heap Lq ∧ FrameEnd U oq U' Lq ({ frames := 0, cells := 0, slots := 0, locals := 0 } : Room).cells ({ frames := 0, cells := 0, slots := 0, locals := 0 } : Room).slots) := by
  refine MetFree.of_bodySF (plainFor_of_name own_pn_com_example_cellwise_cellwise_CellNamePinLaw) hisR ?_
  intro p e s m args below meth c s₁ Bd hml0 hP hK
  obtain ⟨rfl, hZ, hh⟩ := hP
  have hx := Bd.exec
  have hby := Bd.bytes
  have hml : c.maxLocals = 7 := hml0
  have hown : s.vm.findClass "com/example/cellwise/cellwise/CellNamePinLaw" = some m.cls := findClass_of_methodNamed Bd.named
  have hnm := (name_of_methodNamed Bd.named Bd.method).1
  have X0 : Stand p l e ({ frames := 0, cells := 0, slots := 0, locals := 0 } : Room) s m #[(.int i), (.int hl), (.int a), (.int b), (.int m0), (.int m1)] below meth c s₁ [] 0 0 := Stand.of_body Bd
  have e0 : s₁.heap = h0 := by rw [← hh, Bd.state]; rfl
  have N0 := Fr.nil n0
  have K0 : Keep h0 h0 [] := Keep.refl _ _
  refine own_go (S' := s₁.setTop (mkF m 0 #[.val (.int i), .val (.int hl), .val (.int a), .val (.int b), .val (.int m0), .val (.int m1), .unset] [])) (fun tq kq => castTop (own_ef_rmExp m i hl a b m0 m1) kq) ?_
  refine own_go (fun tq kq => XS.iloadN X0.here hx rfl (hb hby own_d45_0) rfl kq) ?_
  show own_Rn p e below _ (s₁.setTop (mkF m 1 #[.val (.int i), .val (.int hl), .val (.int a), .val (.int b), .val (.int m0), .val (.int m1), .unset] [(.int i)]))
  refine own_go (fun tq kq => XS.iloadN X0.here hx rfl (hb hby own_d45_1) rfl kq) ?_
  show own_Rn p e below _ (s₁.setTop (mkF m 2 #[.val (.int i), .val (.int hl), .val (.int a), .val (.int b), .val (.int m0), .val (.int m1), .unset] [(.int hl), (.int i)]))
  by_cases hq1 : i < hl
  · skip
    refine own_go (fun tq kq => XS.icmpNo X0.here hx rfl (hb hby own_d45_2) rfl (tlt (hq1 : i < hl)).2.1 kq) ?_
    show own_Rn p e below _ (s₁.setTop (mkF m 5 #[.val (.int i), .val (.int hl), .val (.int a), .val (.int b), .val (.int m0), .val (.int m1), .unset] []))
    refine own_go (fun tq kq => XS.iloadN X0.here hx rfl (hb hby own_d45_5) rfl kq) ?_
    show own_Rn p e below _ (s₁.setTop (mkF m 6 #[.val (.int i), .val (.int hl), .val (.int a), .val (.int b), .val (.int m0), .val (.int m1), .unset] [(.int i)]))
    by_cases hq2 : i = (0 : Int32)
    · skip
      refine own_go (fun tq kq => XS.ifNo X0.here hx rfl (hb hby own_d45_6) rfl ((if0 _ _).trans (teq (hq2 : i = (0 : Int32))).2) kq) ?_
      show own_Rn p e below _ (s₁.setTop (mkF m 9 #[.val (.int i), .val (.int hl), .val (.int a), .val (.int b), .val (.int m0), .val (.int m1), .unset] []))
      refine own_go (fun tq kq => XS.iloadN X0.here hx rfl (hb hby own_d45_9) rfl kq) ?_
      show own_Rn p e below _ (s₁.setTop (mkF m 10 #[.val (.int i), .val (.int hl), .val (.int a), .val (.int b), .val (.int m0), .val (.int m1), .unset] [(.int a)]))
      refine own_go (fun tq kq => XS.goto X0.here hx rfl (pc0 := 10) (pc' := 14) rfl (hb hby own_d45_10) (by decide) (by decide) kq) ?_
      show own_Rn p e below _ (s₁.setTop (mkF m 14 #[.val (.int i), .val (.int hl), .val (.int a), .val (.int b), .val (.int m0), .val (.int m1), .unset] [(.int a)]))
      exact own_ret X0 (v := some (.int (nar .char a))) (fun h => by rw [Bd.returns] at h; cases h) (fun fs hr => retN X0 hx (t := .char) Bd.returns (by simp) (hb hby own_d45_14) hr) (by rw [e0]; exact ⟨congrArg (fun z => some (Value.int z)) (by rw [own_exp, if_pos hq1, if_pos hq2]; exact own_narC _ ra), N0, rfl⟩) (by decide) (by decide)
    · skip
      refine own_go (fun tq kq => XS.ifYes X0.here hx rfl (pc0 := 6) (pc' := 13) rfl (hb hby own_d45_6) rfl ((if0 _ _).trans (feq (hq2 : ¬ (i = (0 : Int32)))).2) (by decide) (by decide) kq) ?_
      show own_Rn p e below _ (s₁.setTop (mkF m 13 #[.val (.int i), .val (.int hl), .val (.int a), .val (.int b), .val (.int m0), .val (.int m1), .unset] []))
      refine own_go (fun tq kq => XS.iloadN X0.here hx rfl (hb hby own_d45_13) rfl kq) ?_
      show own_Rn p e below _ (s₁.setTop (mkF m 14 #[.val (.int i), .val (.int hl), .val (.int a), .val (.int b), .val (.int m0), .val (.int m1), .unset] [(.int b)]))
      exact own_ret X0 (v := some (.int (nar .char b))) (fun h => by rw [Bd.returns] at h; cases h) (fun fs hr => retN X0 hx (t := .char) Bd.returns (by simp) (hb hby own_d45_14) hr) (by rw [e0]; exact ⟨congrArg (fun z => some (Value.int z)) (by rw [own_exp, if_pos hq1, if_neg hq2]; exact own_narC _ rb), N0, rfl⟩) (by decide) (by decide)
  · skip
    refine own_go (fun tq kq => XS.icmpYes X0.here hx rfl (pc0 := 2) (pc' := 15) rfl (hb hby own_d45_2) rfl (flt (hq1 : ¬ (i < hl))).2.1 (by decide) (by decide) kq) ?_
    show own_Rn p e below _ (s₁.setTop (mkF m 15 #[.val (.int i), .val (.int hl), .val (.int a), .val (.int b), .val (.int m0), .val (.int m1), .unset] []))
    refine own_go (fun tq kq => XS.iloadN X0.here hx rfl (hb hby own_d45_15) rfl kq) ?_
    show own_Rn p e below _ (s₁.setTop (mkF m 16 #[.val (.int i), .val (.int hl), .val (.int a), .val (.int b), .val (.int m0), .val (.int m1), .unset] [(.int i)]))
    refine own_go (fun tq kq => XS.iloadN X0.here hx rfl (hb hby own_d45_16) rfl kq) ?_
    show own_Rn p e below _ (s₁.setTop (mkF m 17 #[.val (.int i), .val (.int hl), .val (.int a), .val (.int b), .val (.int m0), .val (.int m1), .unset] [(.int hl), (.int i)]))
    refine own_go (fun tq kq => XS.isub X0.here hx rfl (hb hby own_d45_17) rfl kq) ?_
    show own_Rn p e below _ (s₁.setTop (mkF m 18 #[.val (.int i), .val (.int hl), .val (.int a), .val (.int b), .val (.int m0), .val (.int m1), .unset] [(.int (i - hl))]))
    refine own_go (fun tq kq => XS.istore X0.here hx rfl (hb hby own_d45_18) rfl (l' := #[.val (.int i), .val (.int hl), .val (.int a), .val (.int b), .val (.int m0), .val (.int m1), .val (.int (i - hl))]) rfl kq) ?_
    show own_Rn p e below _ (s₁.setTop (mkF m 20 #[.val (.int i), .val (.int hl), .val (.int a), .val (.int b), .val (.int m0), .val (.int m1), .val (.int (i - hl))] []))
    refine own_go (fun tq kq => XS.iload X0.here hx rfl (hb hby own_d45_20) rfl kq) ?_
    show own_Rn p e below _ (s₁.setTop (mkF m 22 #[.val (.int i), .val (.int hl), .val (.int a), .val (.int b), .val (.int m0), .val (.int m1), .val (.int (i - hl))] [(.int (i - hl))]))
    by_cases hq3 : (i - hl) = (0 : Int32)
    · skip
      refine own_go (fun tq kq => XS.ifNo X0.here hx rfl (hb hby own_d45_22) rfl ((if0 _ _).trans (teq (hq3 : (i - hl) = (0 : Int32))).2) kq) ?_
      show own_Rn p e below _ (s₁.setTop (mkF m 25 #[.val (.int i), .val (.int hl), .val (.int a), .val (.int b), .val (.int m0), .val (.int m1), .val (.int (i - hl))] []))
      refine own_go (fun tq kq => XS.bipush X0.here hx rfl (hb hby own_d45_25) kq) ?_
      show own_Rn p e below _ (s₁.setTop (mkF m 27 #[.val (.int i), .val (.int hl), .val (.int a), .val (.int b), .val (.int m0), .val (.int m1), .val (.int (i - hl))] [(.int (32 : Int32))]))
      exact own_ret X0 (v := some (.int (nar .char (32 : Int32)))) (fun h => by rw [Bd.returns] at h; cases h) (fun fs hr => retN X0 hx (t := .char) Bd.returns (by simp) (hb hby own_d45_27) hr) (by rw [e0]; exact ⟨congrArg (fun z => some (Value.int z)) (by rw [own_exp, if_neg hq1, if_pos hq3]; exact rfl), N0, rfl⟩) (by decide) (by decide)
    · skip
      refine own_go (fun tq kq => XS.ifYes X0.here hx rfl (pc0 := 22) (pc' := 28) rfl (hb hby own_d45_22) rfl ((if0 _ _).trans (feq (hq3 : ¬ ((i - hl) = (0 : Int32)))).2) (by decide) (by decide) kq) ?_
      show own_Rn p e below _ (s₁.setTop (mkF m 28 #[.val (.int i), .val (.int hl), .val (.int a), .val (.int b), .val (.int m0), .val (.int m1), .val (.int (i - hl))] []))
      refine own_go (fun tq kq => XS.iload X0.here hx rfl (hb hby own_d45_28) rfl kq) ?_
      show own_Rn p e below _ (s₁.setTop (mkF m 30 #[.val (.int i), .val (.int hl), .val (.int a), .val (.int b), .val (.int m0), .val (.int m1), .val (.int (i - hl))] [(.int (i - hl))]))
      refine own_go (fun tq kq => XS.iconst X0.here hx rfl (hb hby own_d45_30) kq) ?_
      show own_Rn p e below _ (s₁.setTop (mkF m 31 #[.val (.int i), .val (.int hl), .val (.int a), .val (.int b), .val (.int m0), .val (.int m1), .val (.int (i - hl))] [(.int (1 : Int32)), (.int (i - hl))]))
      by_cases hq4 : (i - hl) = (1 : Int32)
      · skip
        refine own_go (fun tq kq => XS.icmpNo X0.here hx rfl (hb hby own_d45_31) rfl (teq (hq4 : (i - hl) = (1 : Int32))).2 kq) ?_
        show own_Rn p e below _ (s₁.setTop (mkF m 34 #[.val (.int i), .val (.int hl), .val (.int a), .val (.int b), .val (.int m0), .val (.int m1), .val (.int (i - hl))] []))
        refine own_go (fun tq kq => XS.bipush X0.here hx rfl (hb hby own_d45_34) kq) ?_
        show own_Rn p e below _ (s₁.setTop (mkF m 36 #[.val (.int i), .val (.int hl), .val (.int a), .val (.int b), .val (.int m0), .val (.int m1), .val (.int (i - hl))] [(.int (105 : Int32))]))
        exact own_ret X0 (v := some (.int (nar .char (105 : Int32)))) (fun h => by rw [Bd.returns] at h; cases h) (fun fs hr => retN X0 hx (t := .char) Bd.returns (by simp) (hb hby own_d45_36) hr) (by rw [e0]; exact ⟨congrArg (fun z => some (Value.int z)) (by rw [own_exp, if_neg hq1, if_neg hq3, if_pos hq4]; exact rfl), N0, rfl⟩) (by decide) (by decide)
      · skip
        refine own_go (fun tq kq => XS.icmpYes X0.here hx rfl (pc0 := 31) (pc' := 37) rfl (hb hby own_d45_31) rfl (feq (hq4 : ¬ ((i - hl) = (1 : Int32)))).2 (by decide) (by decide) kq) ?_
        show own_Rn p e below _ (s₁.setTop (mkF m 37 #[.val (.int i), .val (.int hl), .val (.int a), .val (.int b), .val (.int m0), .val (.int m1), .val (.int (i - hl))] []))
        refine own_go (fun tq kq => XS.iload X0.here hx rfl (hb hby own_d45_37) rfl kq) ?_
        show own_Rn p e below _ (s₁.setTop (mkF m 39 #[.val (.int i), .val (.int hl), .val (.int a), .val (.int b), .val (.int m0), .val (.int m1), .val (.int (i - hl))] [(.int (i - hl))]))
        refine own_go (fun tq kq => XS.iconst X0.here hx rfl (hb hby own_d45_39) kq) ?_
        show own_Rn p e below _ (s₁.setTop (mkF m 40 #[.val (.int i), .val (.int hl), .val (.int a), .val (.int b), .val (.int m0), .val (.int m1), .val (.int (i - hl))] [(.int (2 : Int32)), (.int (i - hl))]))
        by_cases hq5 : (i - hl) = (2 : Int32)
        · skip
          refine own_go (fun tq kq => XS.icmpNo X0.here hx rfl (hb hby own_d45_40) rfl (teq (hq5 : (i - hl) = (2 : Int32))).2 kq) ?_
          show own_Rn p e below _ (s₁.setTop (mkF m 43 #[.val (.int i), .val (.int hl), .val (.int a), .val (.int b), .val (.int m0), .val (.int m1), .val (.int (i - hl))] []))
          refine own_go (fun tq kq => XS.bipush X0.here hx rfl (hb hby own_d45_43) kq) ?_
          show own_Rn p e below _ (s₁.setTop (mkF m 45 #[.val (.int i), .val (.int hl), .val (.int a), .val (.int b), .val (.int m0), .val (.int m1), .val (.int (i - hl))] [(.int (110 : Int32))]))
          exact own_ret X0 (v := some (.int (nar .char (110 : Int32)))) (fun h => by rw [Bd.returns] at h; cases h) (fun fs hr => retN X0 hx (t := .char) Bd.returns (by simp) (hb hby own_d45_45) hr) (by rw [e0]; exact ⟨congrArg (fun z => some (Value.int z)) (by rw [own_exp, if_neg hq1, if_neg hq3, if_neg hq4, if_pos hq5]; exact rfl), N0, rfl⟩) (by decide) (by decide)
        · skip
          refine own_go (fun tq kq => XS.icmpYes X0.here hx rfl (pc0 := 40) (pc' := 46) rfl (hb hby own_d45_40) rfl (feq (hq5 : ¬ ((i - hl) = (2 : Int32)))).2 (by decide) (by decide) kq) ?_
          show own_Rn p e below _ (s₁.setTop (mkF m 46 #[.val (.int i), .val (.int hl), .val (.int a), .val (.int b), .val (.int m0), .val (.int m1), .val (.int (i - hl))] []))
          refine own_go (fun tq kq => XS.iload X0.here hx rfl (hb hby own_d45_46) rfl kq) ?_
          show own_Rn p e below _ (s₁.setTop (mkF m 48 #[.val (.int i), .val (.int hl), .val (.int a), .val (.int b), .val (.int m0), .val (.int m1), .val (.int (i - hl))] [(.int (i - hl))]))
          refine own_go (fun tq kq => XS.iconst X0.here hx rfl (hb hby own_d45_48) kq) ?_
          show own_Rn p e below _ (s₁.setTop (mkF m 49 #[.val (.int i), .val (.int hl), .val (.int a), .val (.int b), .val (.int m0), .val (.int m1), .val (.int (i - hl))] [(.int (3 : Int32)), (.int (i - hl))]))
          by_cases hq6 : (i - hl) = (3 : Int32)
          · skip
            refine own_go (fun tq kq => XS.icmpNo X0.here hx rfl (hb hby own_d45_49) rfl (teq (hq6 : (i - hl) = (3 : Int32))).2 kq) ?_
            show own_Rn p e below _ (s₁.setTop (mkF m 52 #[.val (.int i), .val (.int hl), .val (.int a), .val (.int b), .val (.int m0), .val (.int m1), .val (.int (i - hl))] []))
            refine own_go (fun tq kq => XS.bipush X0.here hx rfl (hb hby own_d45_52) kq) ?_
            show own_Rn p e below _ (s₁.setTop (mkF m 54 #[.val (.int i), .val (.int hl), .val (.int a), .val (.int b), .val (.int m0), .val (.int m1), .val (.int (i - hl))] [(.int (32 : Int32))]))
            exact own_ret X0 (v := some (.int (nar .char (32 : Int32)))) (fun h => by rw [Bd.returns] at h; cases h) (fun fs hr => retN X0 hx (t := .char) Bd.returns (by simp) (hb hby own_d45_54) hr) (by rw [e0]; exact ⟨congrArg (fun z => some (Value.int z)) (by rw [own_exp, if_neg hq1, if_neg hq3, if_neg hq4, if_neg hq5, if_pos hq6]; exact rfl), N0, rfl⟩) (by decide) (by decide)
          · skip
            refine own_go (fun tq kq => XS.icmpYes X0.here hx rfl (pc0 := 49) (pc' := 55) rfl (hb hby own_d45_49) rfl (feq (hq6 : ¬ ((i - hl) = (3 : Int32)))).2 (by decide) (by decide) kq) ?_
            show own_Rn p e below _ (s₁.setTop (mkF m 55 #[.val (.int i), .val (.int hl), .val (.int a), .val (.int b), .val (.int m0), .val (.int m1), .val (.int (i - hl))] []))
            refine own_go (fun tq kq => XS.iload X0.here hx rfl (hb hby own_d45_55) rfl kq) ?_
            show own_Rn p e below _ (s₁.setTop (mkF m 57 #[.val (.int i), .val (.int hl), .val (.int a), .val (.int b), .val (.int m0), .val (.int m1), .val (.int (i - hl))] [(.int (i - hl))]))
            refine own_go (fun tq kq => XS.iconst X0.here hx rfl (hb hby own_d45_57) kq) ?_
            show own_Rn p e below _ (s₁.setTop (mkF m 58 #[.val (.int i), .val (.int hl), .val (.int a), .val (.int b), .val (.int m0), .val (.int m1), .val (.int (i - hl))] [(.int (4 : Int32)), (.int (i - hl))]))
            by_cases hq7 : (i - hl) = (4 : Int32)
            · skip
              refine own_go (fun tq kq => XS.icmpNo X0.here hx rfl (hb hby own_d45_58) rfl (teq (hq7 : (i - hl) = (4 : Int32))).2 kq) ?_
              show own_Rn p e below _ (s₁.setTop (mkF m 61 #[.val (.int i), .val (.int hl), .val (.int a), .val (.int b), .val (.int m0), .val (.int m1), .val (.int (i - hl))] []))
              refine own_go (fun tq kq => XS.iload X0.here hx rfl (hb hby own_d45_61) rfl kq) ?_
              show own_Rn p e below _ (s₁.setTop (mkF m 63 #[.val (.int i), .val (.int hl), .val (.int a), .val (.int b), .val (.int m0), .val (.int m1), .val (.int (i - hl))] [(.int m0)]))
              refine own_go (fun tq kq => XS.goto X0.here hx rfl (pc0 := 63) (pc' := 68) rfl (hb hby own_d45_63) (by decide) (by decide) kq) ?_
              show own_Rn p e below _ (s₁.setTop (mkF m 68 #[.val (.int i), .val (.int hl), .val (.int a), .val (.int b), .val (.int m0), .val (.int m1), .val (.int (i - hl))] [(.int m0)]))
              exact own_ret X0 (v := some (.int (nar .char m0))) (fun h => by rw [Bd.returns] at h; cases h) (fun fs hr => retN X0 hx (t := .char) Bd.returns (by simp) (hb hby own_d45_68) hr) (by rw [e0]; exact ⟨congrArg (fun z => some (Value.int z)) (by rw [own_exp, if_neg hq1, if_neg hq3, if_neg hq4, if_neg hq5, if_neg hq6, if_pos hq7]; exact own_narC _ rm0_), N0, rfl⟩) (by decide) (by decide)
            · skip
              refine own_go (fun tq kq => XS.icmpYes X0.here hx rfl (pc0 := 58) (pc' := 66) rfl (hb hby own_d45_58) rfl (feq (hq7 : ¬ ((i - hl) = (4 : Int32)))).2 (by decide) (by decide) kq) ?_
              show own_Rn p e below _ (s₁.setTop (mkF m 66 #[.val (.int i), .val (.int hl), .val (.int a), .val (.int b), .val (.int m0), .val (.int m1), .val (.int (i - hl))] []))
              refine own_go (fun tq kq => XS.iload X0.here hx rfl (hb hby own_d45_66) rfl kq) ?_
              show own_Rn p e below _ (s₁.setTop (mkF m 68 #[.val (.int i), .val (.int hl), .val (.int a), .val (.int b), .val (.int m0), .val (.int m1), .val (.int (i - hl))] [(.int m1)]))
              exact own_ret X0 (v := some (.int (nar .char m1))) (fun h => by rw [Bd.returns] at h; cases h) (fun fs hr => retN X0 hx (t := .char) Bd.returns (by simp) (hb hby own_d45_68) hr) (by rw [e0]; exact ⟨congrArg (fun z => some (Value.int z)) (by rw [own_exp, if_neg hq1, if_neg hq3, if_neg hq4, if_neg hq5, if_neg hq6, if_neg hq7]; exact own_narC _ rm1_), N0, rfl⟩) (by decide) (by decide)
theorem own_ef_rmAt (m : MethodId) (r : Addr) (tr : Addr) (kr : ClassId) (K1 : Nat) (K2 : Nat) (ii : Nat) (a : Int32) (b : Int32) (m0 : Int32) (m1 : Int32) (G1 : Int32) (G3 : Value) : entryFrame m #[(.ref r), (.int (Int32.ofNat ii)), (.int (Int32.ofNat (own_es K1 a b K2 m0 m1).length)), (.int (Int32.ofNat K1)), (.int a), (.int b), (.int m0), (.int m1)] 8 = mkF m 0 #[.val (.ref r), .val (.int (Int32.ofNat ii)), .val (.int (Int32.ofNat (own_es K1 a b K2 m0 m1).length)), .val (.int (Int32.ofNat K1)), .val (.int a), .val (.int b), .val (.int m0), .val (.int m1)] [] := by first | (simp [entryFrame, mkF, argsToLocals, Value.category]; done) | rfl
theorem own_d39_0 : decode method_5_code 0 = .ok (.iload_n 1, 1) := by decide +kernel
theorem own_d39_1 : decode method_5_code 1 = .ok (.iload_n 2, 1) := by decide +kernel
theorem own_d39_2 : decode method_5_code 2 = .ok (.if_icmp .ge 24, 3) := by decide +kernel
theorem own_d39_5 : decode method_5_code 5 = .ok (.aload_n 0, 1) := by decide +kernel
theorem own_d39_6 : decode method_5_code 6 = .ok (.iload_n 1, 1) := by decide +kernel
theorem own_d39_7 : decode method_5_code 7 = .ok (.invokevirtual 49, 3) := by decide +kernel
theorem own_pd_28I29C : parseMethodDescriptor "(I)C" = some ⟨[.int], some .char⟩ := by decide +kernel
theorem own_d39_10 : decode method_5_code 10 = .ok (.iload_n 1, 1) := by decide +kernel
theorem own_d39_11 : decode method_5_code 11 = .ok (.iload_n 3, 1) := by decide +kernel
theorem own_d39_12 : decode method_5_code 12 = .ok (.iload 4, 2) := by decide +kernel
theorem own_d39_14 : decode method_5_code 14 = .ok (.iload 5, 2) := by decide +kernel
theorem own_d39_16 : decode method_5_code 16 = .ok (.iload 6, 2) := by decide +kernel
theorem own_d39_18 : decode method_5_code 18 = .ok (.iload 7, 2) := by decide +kernel
theorem own_d39_20 : decode method_5_code 20 = .ok (.invokestatic 53, 3) := by decide +kernel
theorem own_pd_28IICCCC29C : parseMethodDescriptor "(IICCCC)C" = some ⟨[.int, .int, .char, .char, .char, .char], some .char⟩ := by decide +kernel
theorem own_d39_23 : decode method_5_code 23 = .ok (.if_icmp .ne 7, 3) := by decide +kernel
theorem own_d39_26 : decode method_5_code 26 = .ok (.iconst 1, 1) := by decide +kernel
theorem own_d39_27 : decode method_5_code 27 = .ok (.goto 4, 3) := by decide +kernel
theorem own_d39_31 : decode method_5_code 31 = .ok (.ireturn, 1) := by decide +kernel
def Q_rmAt (Z : State) (r : Addr) (tr : Addr) (kr : ClassId) (K1 : Nat) (K2 : Nat) (ii : Nat) (a : Int32) (b : Int32) (m0 : Int32) (m1 : Int32) (G1 : Int32) (G3 : Value) (h0 : Heap) (n0 : Nat) (vq : Option Value) (hhq : Heap) (Lq : List Loc) : Prop := vq = some (.int (1 : Int32)) ∧ Fr n0 Lq ∧ hhq = h0
set_option maxRecDepth 65536 in
set_option maxHeartbeats 40000000 in
theorem rmAt (l : Launch) (Z : State) (a0 : Array Value) (hw : ∀ d ∈ tables_1, d.before a0 Z = true) (ws : List Jvm.Cond) (r : Addr) (tr : Addr) (kr : ClassId) (K1 : Nat) (K2 : Nat) (ii : Nat) (a : Int32) (b : Int32) (m0 : Int32) (m1 : Int32) (G1 : Int32) (G3 : Value) (h0 : Heap) (n0 : Nat) (Z0 : n0 ≤ h0.size) (Pm0 : Exa Z h0 r "java/lang/String") (Pm1 : Fld Z h0 r "java/lang/String" "value" "[B" (.ref tr)) (Pm2 : Fld Z h0 r "java/lang/String" "coder" "B" (.int (0 : Int32))) (Pm3 : Arv Z h0 tr kr .byte (Int32.ofNat (own_es K1 a b K2 m0 m1).length) (own_bs (own_es K1 a b K2 m0 m1)) (.int 0)) (ra : (¬ a < 0 ∧ ¬ (255 : Int32) < a)) (rb : (¬ b < 0 ∧ ¬ (255 : Int32) < b)) (rm0_ : (¬ m0 < 0 ∧ ¬ (255 : Int32) < m0)) (rm1_ : (¬ m1 < 0 ∧ ¬ (255 : Int32) < m1)) (hK1 : (K1 < 3)) (hK2 : (K2 < 3)) (hii : (ii < 8)) (O2 : Sta Z Z.heap "java/lang/String" "COMPACT_STRINGS" "Z" (.int G1)) (O4 : Sta Z Z.heap "jdk/internal/util/Preconditions" "SIOOBE_FORMATTER" "Ljava/util/function/BiFunction;" G3) (P5 : (¬ (G1 = (0 : Int32)))) (rG3 : (G3.isRef = true)) (X00 : Old Z n0 h0) :
    MetFree l (⟨"com/example/cellwise/cellwise/CellNamePinLaw", "at", "(Ljava/lang/String;IIICCCC)Z"⟩ : MethodName) (head1 (Jvm.Cond.code (⟨"com/example/cellwise/cellwise/CellNamePinLaw", "at", "(Ljava/lang/String;IIICCCC)Z"⟩ : MethodName) method_5_code 8 (some .boolean) :: ws) ({ frames := 4, cells := 0, slots := 0, locals := 53 } : Room)) (fun aq U => aq = #[(.ref r), (.int (Int32.ofNat ii)), (.int (Int32.ofNat (own_es K1 a b K2 m0 m1).length)), (.int (Int32.ofNat K1)), (.int a), (.int b), (.int m0), (.int m1)] ∧ Z.Warmed39 U.vm ∧ U.heap = h0) (fun _ _ _ _ _ => True) (fun _ U oq U' => ∃ vq Lq, oq = .returned vq ∧ Q_rmAt Z r tr kr K1 K2 ii a b m0 m1 G1 G3 h0 n0 vq U'.heap Lq ∧ FrameEnd U oq U' Lq ({ frames := 4, cells := 0, slots := 0, locals := 53 } : Room).cells ({ frames := 4, cells := 0, slots := 0, locals := 53 } : Room).slots) := by
  refine MetFree.of_bodySF (plainFor_of_name own_pn_com_example_cellwise_cellwise_CellNamePinLaw) hisR ?_
  intro p e s m args below meth c s₁ Bd hml0 hP hK
  obtain ⟨rfl, hZ, hh⟩ := hP
  have hx := Bd.exec
  have hby := Bd.bytes
  have hml : c.maxLocals = 8 := hml0
  have hown : s.vm.findClass "com/example/cellwise/cellwise/CellNamePinLaw" = some m.cls := findClass_of_methodNamed Bd.named
  have hnm := (name_of_methodNamed Bd.named Bd.method).1
  have X0 : Stand p l e ({ frames := 4, cells := 0, slots := 0, locals := 53 } : Room) s m #[(.ref r), (.int (Int32.ofNat ii)), (.int (Int32.ofNat (own_es K1 a b K2 m0 m1).length)), (.int (Int32.ofNat K1)), (.int a), (.int b), (.int m0), (.int m1)] below meth c s₁ [] 0 0 := Stand.of_body Bd
  have e0 : s₁.heap = h0 := by rw [← hh, Bd.state]; rfl
  have N0 := Fr.nil n0
  have K0 : Keep h0 h0 [] := Keep.refl _ _
  refine own_go (S' := s₁.setTop (mkF m 0 #[.val (.ref r), .val (.int (Int32.ofNat ii)), .val (.int (Int32.ofNat (own_es K1 a b K2 m0 m1).length)), .val (.int (Int32.ofNat K1)), .val (.int a), .val (.int b), .val (.int m0), .val (.int m1)] [])) (fun tq kq => castTop (own_ef_rmAt m r tr kr K1 K2 ii a b m0 m1 G1 G3) kq) ?_
  have lt1 : @LT.lt Nat _ r h0.size := Pm0.lt
  have lt2 : @LT.lt Nat _ tr h0.size := Pm3.lt
  have hch : ∀ d ∈ StrChars.Road.wordsChN, d.before a0 Z = true := fun d hd => hw d ((by decide +kernel : ∀ d ∈ StrChars.Road.wordsChN, d ∈ tables_1) d hd)
  have hlen : (own_es K1 a b K2 m0 m1).length = K1 + 4 + K2 := own_es_len hK1 hK2 a b m0 m1
  have hp := @own_es_rng K1 K2 a b m0 m1 ra rb rm0_ rm1_
  refine own_go (fun tq kq => XS.iloadN X0.here hx rfl (hb hby own_d39_0) rfl kq) ?_
  show own_Rn p e below _ (s₁.setTop (mkF m 1 #[.val (.ref r), .val (.int (Int32.ofNat ii)), .val (.int (Int32.ofNat (own_es K1 a b K2 m0 m1).length)), .val (.int (Int32.ofNat K1)), .val (.int a), .val (.int b), .val (.int m0), .val (.int m1)] [(.int (Int32.ofNat ii))]))
  refine own_go (fun tq kq => XS.iloadN X0.here hx rfl (hb hby own_d39_1) rfl kq) ?_
  show own_Rn p e below _ (s₁.setTop (mkF m 2 #[.val (.ref r), .val (.int (Int32.ofNat ii)), .val (.int (Int32.ofNat (own_es K1 a b K2 m0 m1).length)), .val (.int (Int32.ofNat K1)), .val (.int a), .val (.int b), .val (.int m0), .val (.int m1)] [(.int (Int32.ofNat (own_es K1 a b K2 m0 m1).length)), (.int (Int32.ofNat ii))]))
  by_cases hcmp : (Int32.ofNat ii) < (Int32.ofNat (own_es K1 a b K2 m0 m1).length)
  · skip
    refine own_go (fun tq kq => XS.icmpNo X0.here hx rfl (hb hby own_d39_2) rfl (tlt (hcmp : (Int32.ofNat ii) < (Int32.ofNat (own_es K1 a b K2 m0 m1).length))).2.1 kq) ?_
    show own_Rn p e below _ (s₁.setTop (mkF m 5 #[.val (.ref r), .val (.int (Int32.ofNat ii)), .val (.int (Int32.ofNat (own_es K1 a b K2 m0 m1).length)), .val (.int (Int32.ofNat K1)), .val (.int a), .val (.int b), .val (.int m0), .val (.int m1)] []))
    have hlt : ii < (own_es K1 a b K2 m0 m1).length := own_lt_of (by omega) (by omega) hcmp
    refine own_go (fun tq kq => XS.aloadN X0.here hx rfl (hb hby own_d39_5) rfl rfl kq) ?_
    show own_Rn p e below _ (s₁.setTop (mkF m 6 #[.val (.ref r), .val (.int (Int32.ofNat ii)), .val (.int (Int32.ofNat (own_es K1 a b K2 m0 m1).length)), .val (.int (Int32.ofNat K1)), .val (.int a), .val (.int b), .val (.int m0), .val (.int m1)] [(.ref r)]))
    refine own_go (fun tq kq => XS.iloadN X0.here hx rfl (hb hby own_d39_6) rfl kq) ?_
    show own_Rn p e below _ (s₁.setTop (mkF m 7 #[.val (.ref r), .val (.int (Int32.ofNat ii)), .val (.int (Int32.ofNat (own_es K1 a b K2 m0 m1).length)), .val (.int (Int32.ofNat K1)), .val (.int a), .val (.int b), .val (.int m0), .val (.int m1)] [(.int (Int32.ofNat ii)), (.ref r)]))
    obtain ⟨cq3, kq3, qa3, qb3, qc3⟩ := isOf hZ e0 Pm0
    obtain ⟨rv3, _, ⟨T3, L3, k3, n3⟩, -, X3, ⟨Lc3, hQ3, l3, y3, z3⟩, st3⟩ := X0.virtualBack hx (y := (⟨"java/lang/String", "charAt", "(I)C"⟩ : MethodName)) (z := (⟨"java/lang/String", "charAt", "(I)C"⟩ : MethodName)) hown (mvT hZ (hw _ (own_mi 221 rfl))) (mvT hZ (hw _ (own_mi 222 rfl))) (notFace_of_selects (args := #[]) (mvT hZ (hw _ (own_mi 224 rfl)))) (mvT hZ (hw _ (own_mi 224 rfl))) (mvT hZ (hw _ (own_mi 223 rfl))) (by decide) (StrChars.Road.chN (W := 0) hZ hch (kI := 4) (hw _ (own_mi 5 rfl)) Pm0 Pm1 Pm2 Pm3 (cs := (own_es K1 a b K2 m0 m1)) (StrChars.Road.codOf rfl (fun c hc => (hp c hc).2)) (fun c hc => own_up c (hp c hc)) (O2.ext X00.2) P5 (O4.ext X00.2) rG3 (by omega) (i := ii) hlt (j := (Int32.ofNat ii)) rfl (by decide) (by decide)) qa3 qc3 (g := (mkF m 7 #[.val (.ref r), .val (.int (Int32.ofNat ii)), .val (.int (Int32.ofNat (own_es K1 a b K2 m0 m1).length)), .val (.int (Int32.ofNat K1)), .val (.int a), .val (.int b), .val (.int m0), .val (.int m1)] [(.int (Int32.ofNat ii)), (.ref r)])) rfl (by rw [hml]; rfl) (Steps.refl _) (argsL := [(.int (Int32.ofNat ii))]) (rest := []) (lenOf own_pd_28I29C rfl) rfl (by show 2 * 0 + _ ≤ _; exact Nat.le_of_eq rfl) (hb hby own_d39_7) (fun _ _ => ⟨rfl, e0, (by decide : 0 + 0 ≤ _), (by decide : 0 + 0 ≤ _)⟩)
    dsimp only [Pt.U, Pt.locs, Pt.cells, Pt.slots] at X3 l3 y3 z3 st3 hQ3
    subst l3 y3 z3
    obtain ⟨rfl, rfl, eh3⟩ := hQ3
    have N3 := Fr.app N0 (Fr.nil n0)
    refine own_go (fun tq kq => st3.trans kq) ?_
    show own_Rn p e below _ (T3.setTop (mkF m 10 #[.val (.ref r), .val (.int (Int32.ofNat ii)), .val (.int (Int32.ofNat (own_es K1 a b K2 m0 m1).length)), .val (.int (Int32.ofNat K1)), .val (.int a), .val (.int b), .val (.int m0), .val (.int m1)] [(.int ((own_es K1 a b K2 m0 m1).getD ii 0))]))
    refine own_go (fun tq kq => XS.iloadN X3.here hx rfl (hb hby own_d39_10) rfl kq) ?_
    show own_Rn p e below _ (T3.setTop (mkF m 11 #[.val (.ref r), .val (.int (Int32.ofNat ii)), .val (.int (Int32.ofNat (own_es K1 a b K2 m0 m1).length)), .val (.int (Int32.ofNat K1)), .val (.int a), .val (.int b), .val (.int m0), .val (.int m1)] [(.int (Int32.ofNat ii)), (.int ((own_es K1 a b K2 m0 m1).getD ii 0))]))
    refine own_go (fun tq kq => XS.iloadN X3.here hx rfl (hb hby own_d39_11) rfl kq) ?_
    show own_Rn p e below _ (T3.setTop (mkF m 12 #[.val (.ref r), .val (.int (Int32.ofNat ii)), .val (.int (Int32.ofNat (own_es K1 a b K2 m0 m1).length)), .val (.int (Int32.ofNat K1)), .val (.int a), .val (.int b), .val (.int m0), .val (.int m1)] [(.int (Int32.ofNat K1)), (.int (Int32.ofNat ii)), (.int ((own_es K1 a b K2 m0 m1).getD ii 0))]))
    refine own_go (fun tq kq => XS.iload X3.here hx rfl (hb hby own_d39_12) rfl kq) ?_
    show own_Rn p e below _ (T3.setTop (mkF m 14 #[.val (.ref r), .val (.int (Int32.ofNat ii)), .val (.int (Int32.ofNat (own_es K1 a b K2 m0 m1).length)), .val (.int (Int32.ofNat K1)), .val (.int a), .val (.int b), .val (.int m0), .val (.int m1)] [(.int a), (.int (Int32.ofNat K1)), (.int (Int32.ofNat ii)), (.int ((own_es K1 a b K2 m0 m1).getD ii 0))]))
    refine own_go (fun tq kq => XS.iload X3.here hx rfl (hb hby own_d39_14) rfl kq) ?_
    show own_Rn p e below _ (T3.setTop (mkF m 16 #[.val (.ref r), .val (.int (Int32.ofNat ii)), .val (.int (Int32.ofNat (own_es K1 a b K2 m0 m1).length)), .val (.int (Int32.ofNat K1)), .val (.int a), .val (.int b), .val (.int m0), .val (.int m1)] [(.int b), (.int a), (.int (Int32.ofNat K1)), (.int (Int32.ofNat ii)), (.int ((own_es K1 a b K2 m0 m1).getD ii 0))]))
    refine own_go (fun tq kq => XS.iload X3.here hx rfl (hb hby own_d39_16) rfl kq) ?_
    show own_Rn p e below _ (T3.setTop (mkF m 18 #[.val (.ref r), .val (.int (Int32.ofNat ii)), .val (.int (Int32.ofNat (own_es K1 a b K2 m0 m1).length)), .val (.int (Int32.ofNat K1)), .val (.int a), .val (.int b), .val (.int m0), .val (.int m1)] [(.int m0), (.int b), (.int a), (.int (Int32.ofNat K1)), (.int (Int32.ofNat ii)), (.int ((own_es K1 a b K2 m0 m1).getD ii 0))]))
    refine own_go (fun tq kq => XS.iload X3.here hx rfl (hb hby own_d39_18) rfl kq) ?_
    show own_Rn p e below _ (T3.setTop (mkF m 20 #[.val (.ref r), .val (.int (Int32.ofNat ii)), .val (.int (Int32.ofNat (own_es K1 a b K2 m0 m1).length)), .val (.int (Int32.ofNat K1)), .val (.int a), .val (.int b), .val (.int m0), .val (.int m1)] [(.int m1), (.int m0), (.int b), (.int a), (.int (Int32.ofNat K1)), (.int (Int32.ofNat ii)), (.int ((own_es K1 a b K2 m0 m1).getD ii 0))]))
    have Zn4 : n0 ≤ h0.size := by omega
    obtain ⟨rv4, _, ⟨T4, L4, k4, n4⟩, -, X4, ⟨Lc4, hQ4, l4, y4, z4⟩, st4⟩ := Jvm.LawKit.callS X3 hx (y := (⟨"com/example/cellwise/cellwise/CellNamePinLaw", "expect", "(IICCCC)C"⟩ : MethodName)) hown (mvT hZ (hw _ (own_mi 242 rfl))) (mvT hZ (hw _ (own_mi 243 rfl))) (mvT hZ (hw _ (own_mi 2 rfl))) (mvT hZ (hw _ (own_mi 244 rfl))) (by decide) (backOf (W := 1) (rmExp l Z a0 hw [] ((Int32.ofNat ii)) ((Int32.ofNat K1)) (a) (b) (m0) (m1) h0 n0 Zn4 (ra) (rb) (rm0_) (rm1_)) hZ (hw _ (own_mi 244 rfl)) (hw _ (own_mi 2 rfl)) (by decide) (by decide)) (g := (mkF m 20 #[.val (.ref r), .val (.int (Int32.ofNat ii)), .val (.int (Int32.ofNat (own_es K1 a b K2 m0 m1).length)), .val (.int (Int32.ofNat K1)), .val (.int a), .val (.int b), .val (.int m0), .val (.int m1)] [(.int m1), (.int m0), (.int b), (.int a), (.int (Int32.ofNat K1)), (.int (Int32.ofNat ii)), (.int ((own_es K1 a b K2 m0 m1).getD ii 0))])) rfl (by rw [hml]; rfl) (argsL := [(.int (Int32.ofNat ii)), (.int (Int32.ofNat K1)), (.int a), (.int b), (.int m0), (.int m1)]) (rest := [(.int ((own_es K1 a b K2 m0 m1).getD ii 0))]) (lenOf own_pd_28IICCCC29C rfl) rfl (by show 2 * 0 + _ ≤ _; exact Nat.le_of_eq rfl) (hb hby own_d39_20) (fun _ _ => ⟨rfl, eh3, (by decide : 0 + 0 ≤ _), (by decide : 0 + 0 ≤ _)⟩)
    dsimp only [Pt.U, Pt.locs, Pt.cells, Pt.slots] at X4 l4 y4 z4 st4 hQ4
    subst l4 y4 z4
    obtain ⟨rfl, Nq4, eh4⟩ := hQ4
    have N4 := Fr.app N3 Nq4
    refine own_go st4 ?_
    show own_Rn p e below _ (T4.setTop (mkF m 23 #[.val (.ref r), .val (.int (Int32.ofNat ii)), .val (.int (Int32.ofNat (own_es K1 a b K2 m0 m1).length)), .val (.int (Int32.ofNat K1)), .val (.int a), .val (.int b), .val (.int m0), .val (.int m1)] [(.int (own_exp (Int32.ofNat ii) (Int32.ofNat K1) a b m0 m1)), (.int ((own_es K1 a b K2 m0 m1).getD ii 0))]))
    refine own_go (fun tq kq => XS.icmpNo X4.here hx rfl (hb hby own_d39_23) rfl (teq (own_at K1 K2 ii hK1 hK2 a b m0 m1 (by omega) : ((own_es K1 a b K2 m0 m1).getD ii 0) = (own_exp (Int32.ofNat ii) (Int32.ofNat K1) a b m0 m1))).2 kq) ?_
    show own_Rn p e below _ (T4.setTop (mkF m 26 #[.val (.ref r), .val (.int (Int32.ofNat ii)), .val (.int (Int32.ofNat (own_es K1 a b K2 m0 m1).length)), .val (.int (Int32.ofNat K1)), .val (.int a), .val (.int b), .val (.int m0), .val (.int m1)] []))
    refine own_go (fun tq kq => XS.iconst X4.here hx rfl (hb hby own_d39_26) kq) ?_
    show own_Rn p e below _ (T4.setTop (mkF m 27 #[.val (.ref r), .val (.int (Int32.ofNat ii)), .val (.int (Int32.ofNat (own_es K1 a b K2 m0 m1).length)), .val (.int (Int32.ofNat K1)), .val (.int a), .val (.int b), .val (.int m0), .val (.int m1)] [(.int (1 : Int32))]))
    refine own_go (fun tq kq => XS.goto X4.here hx rfl (pc0 := 27) (pc' := 31) rfl (hb hby own_d39_27) (by decide) (by decide) kq) ?_
    show own_Rn p e below _ (T4.setTop (mkF m 31 #[.val (.ref r), .val (.int (Int32.ofNat ii)), .val (.int (Int32.ofNat (own_es K1 a b K2 m0 m1).length)), .val (.int (Int32.ofNat K1)), .val (.int a), .val (.int b), .val (.int m0), .val (.int m1)] [(.int (1 : Int32))]))
    exact own_ret X4 (v := some (.int (nar .boolean (1 : Int32)))) (fun h => by rw [Bd.returns] at h; cases h) (fun fs hr => retN X4 hx (t := .boolean) Bd.returns (by simp) (hb hby own_d39_31) hr) (by rw [eh4]; exact ⟨rfl, N4, rfl⟩) (by decide) (by decide)
  · skip
    refine own_go (fun tq kq => XS.icmpYes X0.here hx rfl (pc0 := 2) (pc' := 26) rfl (hb hby own_d39_2) rfl (flt (hcmp : ¬ ((Int32.ofNat ii) < (Int32.ofNat (own_es K1 a b K2 m0 m1).length)))).2.1 (by decide) (by decide) kq) ?_
    show own_Rn p e below _ (s₁.setTop (mkF m 26 #[.val (.ref r), .val (.int (Int32.ofNat ii)), .val (.int (Int32.ofNat (own_es K1 a b K2 m0 m1).length)), .val (.int (Int32.ofNat K1)), .val (.int a), .val (.int b), .val (.int m0), .val (.int m1)] []))
    refine own_go (fun tq kq => XS.iconst X0.here hx rfl (hb hby own_d39_26) kq) ?_
    show own_Rn p e below _ (s₁.setTop (mkF m 27 #[.val (.ref r), .val (.int (Int32.ofNat ii)), .val (.int (Int32.ofNat (own_es K1 a b K2 m0 m1).length)), .val (.int (Int32.ofNat K1)), .val (.int a), .val (.int b), .val (.int m0), .val (.int m1)] [(.int (1 : Int32))]))
    refine own_go (fun tq kq => XS.goto X0.here hx rfl (pc0 := 27) (pc' := 31) rfl (hb hby own_d39_27) (by decide) (by decide) kq) ?_
    show own_Rn p e below _ (s₁.setTop (mkF m 31 #[.val (.ref r), .val (.int (Int32.ofNat ii)), .val (.int (Int32.ofNat (own_es K1 a b K2 m0 m1).length)), .val (.int (Int32.ofNat K1)), .val (.int a), .val (.int b), .val (.int m0), .val (.int m1)] [(.int (1 : Int32))]))
    exact own_ret X0 (v := some (.int (nar .boolean (1 : Int32)))) (fun h => by rw [Bd.returns] at h; cases h) (fun fs hr => retN X0 hx (t := .boolean) Bd.returns (by simp) (hb hby own_d39_31) hr) (by rw [e0]; exact ⟨rfl, N0, rfl⟩) (by decide) (by decide)
theorem own_ef_rm0 (m : MethodId) (i0 : Int32) (i1 : Int32) (i2 : Int32) (l3 : Int64) (l4 : Int64) (G1 : Int32) (G3 : Value) : entryFrame m #[(.int i0), (.int i1), (.int i2), (.long l3), (.long l4)] maxLocals = mkF m 0 #[.val (.int i0), .val (.int i1), .val (.int i2), .val (.long l3), .second, .val (.long l4), .second, .unset, .unset, .unset, .unset, .unset, .unset, .unset, .unset, .unset, .unset, .unset, .unset, .unset] [] := by first | (simp [entryFrame, mkF, argsToLocals, Value.category, maxLocals]; done) | rfl
theorem own_pd_28ICC29Ljava2flang2fString3b : parseMethodDescriptor "(ICC)Ljava/lang/String;" = some ⟨[.int, .char, .char], some (.object "java/lang/String")⟩ := by decide +kernel
theorem own_pd_28JLjava2flang2fString3bLjava2flang2fString3b29V : parseMethodDescriptor "(JLjava/lang/String;Ljava/lang/String;)V" = some ⟨[.long, (.object "java/lang/String"), (.object "java/lang/String")], none⟩ := by decide +kernel
theorem own_pd_28JLjava2flang2fString3b29V : parseMethodDescriptor "(JLjava/lang/String;)V" = some ⟨[.long, (.object "java/lang/String")], none⟩ := by decide +kernel
theorem own_pd_28Lcom2fexample2fcellwise2fcellwise2fMatrix24Competency3bLcom2fexample2fcellwise2fcellwise2fMatrix24Training3b29V : parseMethodDescriptor "(Lcom/example/cellwise/cellwise/Matrix$Competency;Lcom/example/cellwise/cellwise/Matrix$Training;)V" = some ⟨[(.object "com/example/cellwise/cellwise/Matrix$Competency"), (.object "com/example/cellwise/cellwise/Matrix$Training")], none⟩ := by decide +kernel
theorem own_pd_28Ljava2flang2fString3bIIICCCC29Z : parseMethodDescriptor "(Ljava/lang/String;IIICCCC)Z" = some ⟨[(.object "java/lang/String"), .int, .int, .int, .char, .char, .char, .char], some .boolean⟩ := by decide +kernel
def Q_rm0 (Z : State) (i0 : Int32) (i1 : Int32) (i2 : Int32) (l3 : Int64) (l4 : Int64) (G1 : Int32) (G3 : Value) (h0 : Heap) (n0 : Nat) (vq : Option Value) (hhq : Heap) (Lq : List Loc) : Prop := vq = some (.int (1 : Int32)) ∧ Fr n0 Lq
set_option maxRecDepth 65536 in
set_option maxHeartbeats 40000000 in
theorem rm0 (l : Launch) (Z : State) (a0 : Array Value) (hw : ∀ d ∈ tables_1, d.before a0 Z = true) (ws : List Jvm.Cond) (i0 : Int32) (i1 : Int32) (i2 : Int32) (l3 : Int64) (l4 : Int64) (G1 : Int32) (G3 : Value) (h0 : Heap) (n0 : Nat) (Z0 : n0 ≤ h0.size) (hEL : EW Z a0 consts_1) (O2 : Sta Z Z.heap "java/lang/String" "COMPACT_STRINGS" "Z" (.int G1)) (O4 : Sta Z Z.heap "jdk/internal/util/Preconditions" "SIOOBE_FORMATTER" "Ljava/util/function/BiFunction;" G3) (P5 : (¬ (G1 = (0 : Int32)))) (rG3 : (G3.isRef = true)) (X00 : Old Z n0 h0) :
    MetFree l x (head1 (Jvm.Cond.code x code maxLocals ret :: ws) room_1) (fun aq U => aq = #[(.int i0), (.int i1), (.int i2), (.long l3), (.long l4)] ∧ Z.Warmed39 U.vm ∧ U.heap = h0 ∧ CHv Z consts_1 U.vm h0 ∧ ∀ ax ∈ ([] : List Addr), Safe Z consts_1 U.vm h0 ax) (fun _ _ _ _ _ => True) (fun _ U oq U' => ∃ vq Lq, oq = .returned vq ∧ Q_rm0 Z i0 i1 i2 l3 l4 G1 G3 h0 n0 vq U'.heap Lq ∧ CHr Z consts_1 U.vm U.heap U'.vm U'.heap ∧ ReturnedEndW U oq U' Lq 48 2240) := by
  refine MetFree.of_bodySF (plainFor_of_name own_pn_com_example_cellwise_cellwise_CellNamePinLaw) hisR ?_
  intro p e s m args below meth c s₁ Bd hml0 hP hK
  obtain ⟨rfl, hZ, hh, hH, hSf⟩ := hP
  have hx := Bd.exec
  have hby := Bd.bytes
  have hml : c.maxLocals = 20 := hml0
  have hown : s.vm.findClass "com/example/cellwise/cellwise/CellNamePinLaw" = some m.cls := findClass_of_methodNamed Bd.named
  have hnm := (name_of_methodNamed Bd.named Bd.method).1
  have X0 : Stand p l e room_1 (s.setVm s.vm) m #[(.int i0), (.int i1), (.int i2), (.long l3), (.long l4)] below meth c s₁ [] 0 0 := Stand.of_body Bd
  have e0 : s₁.heap = h0 := by rw [← hh, Bd.state]; rfl
  have N0 := Fr.nil n0
  have K0 : Keep h0 h0 [] := Keep.refl _ _
  refine own_go (S' := s₁.setTop (mkF m 0 #[.val (.int i0), .val (.int i1), .val (.int i2), .val (.long l3), .second, .val (.long l4), .second, .unset, .unset, .unset, .unset, .unset, .unset, .unset, .unset, .unset, .unset, .unset, .unset, .unset] [])) (fun tq kq => castTop (own_ef_rm0 m i0 i1 i2 l3 l4 G1 G3) kq) ?_
  have hS0 : s.Since s.vm h0.size := (State.WarmedH.refl s).since _
  have CR0 : CHr Z consts_1 s.vm h0 s.vm h0 := CHr.refl hH
  have hwS : ∀ d ∈ Bundle.stringAtoms, d.before a0 Z = true := fun d hd => hw d ((by decide +kernel : ∀ d ∈ Bundle.stringAtoms, d ∈ tables_1) d hd)
  refine own_go (fun tq kq => XS.iloadN X0.here hx rfl (hb hby at_0) rfl kq) ?_
  show own_Rn p e below _ (s₁.setTop (mkF m 1 #[.val (.int i0), .val (.int i1), .val (.int i2), .val (.long l3), .second, .val (.long l4), .second, .unset, .unset, .unset, .unset, .unset, .unset, .unset, .unset, .unset, .unset, .unset, .unset, .unset] [(.int i2)]))
  refine own_go (fun tq kq => XS.bipush X0.here hx rfl (hb hby at_1) kq) ?_
  show own_Rn p e below _ (s₁.setTop (mkF m 3 #[.val (.int i0), .val (.int i1), .val (.int i2), .val (.long l3), .second, .val (.long l4), .second, .unset, .unset, .unset, .unset, .unset, .unset, .unset, .unset, .unset, .unset, .unset, .unset, .unset] [(.int (15 : Int32)), (.int i2)]))
  refine own_go (fun tq kq => XS.iand X0.here hx rfl (hb hby at_3) rfl kq) ?_
  show own_Rn p e below _ (s₁.setTop (mkF m 4 #[.val (.int i0), .val (.int i1), .val (.int i2), .val (.long l3), .second, .val (.long l4), .second, .unset, .unset, .unset, .unset, .unset, .unset, .unset, .unset, .unset, .unset, .unset, .unset, .unset] [(.int (i2 &&& (15 : Int32)))]))
  refine own_go (fun tq kq => XS.iconst X0.here hx rfl (hb hby at_4) kq) ?_
  show own_Rn p e below _ (s₁.setTop (mkF m 5 #[.val (.int i0), .val (.int i1), .val (.int i2), .val (.long l3), .second, .val (.long l4), .second, .unset, .unset, .unset, .unset, .unset, .unset, .unset, .unset, .unset, .unset, .unset, .unset, .unset] [(.int (3 : Int32)), (.int (i2 &&& (15 : Int32)))]))
  refine own_go (fun tq kq => iremM X0 hx rfl (hb hby at_5) rfl (by decide) kq) ?_
  show own_Rn p e below _ (s₁.setTop (mkF m 6 #[.val (.int i0), .val (.int i1), .val (.int i2), .val (.long l3), .second, .val (.long l4), .second, .unset, .unset, .unset, .unset, .unset, .unset, .unset, .unset, .unset, .unset, .unset, .unset, .unset] [(.int ((i2 &&& (15 : Int32)) % (3 : Int32)))]))
  obtain ⟨K1, hK1, eK1⟩ := own_m3 _ (own_and15 i2)
  rw [eK1]
  show own_Rn p e below _ (s₁.setTop (mkF m 6 #[.val (.int i0), .val (.int i1), .val (.int i2), .val (.long l3), .second, .val (.long l4), .second, .unset, .unset, .unset, .unset, .unset, .unset, .unset, .unset, .unset, .unset, .unset, .unset, .unset] [(.int (Int32.ofNat K1))]))
  refine own_go (fun tq kq => XS.istore X0.here hx rfl (hb hby at_6) rfl (l' := #[.val (.int i0), .val (.int i1), .val (.int i2), .val (.long l3), .second, .val (.long l4), .second, .val (.int (Int32.ofNat K1)), .unset, .unset, .unset, .unset, .unset, .unset, .unset, .unset, .unset, .unset, .unset, .unset]) rfl kq) ?_
  show own_Rn p e below _ (s₁.setTop (mkF m 8 #[.val (.int i0), .val (.int i1), .val (.int i2), .val (.long l3), .second, .val (.long l4), .second, .val (.int (Int32.ofNat K1)), .unset, .unset, .unset, .unset, .unset, .unset, .unset, .unset, .unset, .unset, .unset, .unset] []))
  refine own_go (fun tq kq => XS.iloadN X0.here hx rfl (hb hby at_8) rfl kq) ?_
  show own_Rn p e below _ (s₁.setTop (mkF m 9 #[.val (.int i0), .val (.int i1), .val (.int i2), .val (.long l3), .second, .val (.long l4), .second, .val (.int (Int32.ofNat K1)), .unset, .unset, .unset, .unset, .unset, .unset, .unset, .unset, .unset, .unset, .unset, .unset] [(.int i2)]))
  refine own_go (fun tq kq => XS.iconst X0.here hx rfl (hb hby at_9) kq) ?_
  show own_Rn p e below _ (s₁.setTop (mkF m 10 #[.val (.int i0), .val (.int i1), .val (.int i2), .val (.long l3), .second, .val (.long l4), .second, .val (.int (Int32.ofNat K1)), .unset, .unset, .unset, .unset, .unset, .unset, .unset, .unset, .unset, .unset, .unset, .unset] [(.int (4 : Int32)), (.int i2)]))
  refine own_go (fun tq kq => XS.iushr X0.here hx rfl (hb hby at_10) rfl kq) ?_
  show own_Rn p e below _ (s₁.setTop (mkF m 11 #[.val (.int i0), .val (.int i1), .val (.int i2), .val (.long l3), .second, .val (.long l4), .second, .val (.int (Int32.ofNat K1)), .unset, .unset, .unset, .unset, .unset, .unset, .unset, .unset, .unset, .unset, .unset, .unset] [(.int ((i2.toUInt32 >>> ((4 : Int32) &&& 31).toUInt32).toInt32))]))
  refine own_go (fun tq kq => XS.bipush X0.here hx rfl (hb hby at_11) kq) ?_
  show own_Rn p e below _ (s₁.setTop (mkF m 13 #[.val (.int i0), .val (.int i1), .val (.int i2), .val (.long l3), .second, .val (.long l4), .second, .val (.int (Int32.ofNat K1)), .unset, .unset, .unset, .unset, .unset, .unset, .unset, .unset, .unset, .unset, .unset, .unset] [(.int (15 : Int32)), (.int ((i2.toUInt32 >>> ((4 : Int32) &&& 31).toUInt32).toInt32))]))
  refine own_go (fun tq kq => XS.iand X0.here hx rfl (hb hby at_13) rfl kq) ?_
  show own_Rn p e below _ (s₁.setTop (mkF m 14 #[.val (.int i0), .val (.int i1), .val (.int i2), .val (.long l3), .second, .val (.long l4), .second, .val (.int (Int32.ofNat K1)), .unset, .unset, .unset, .unset, .unset, .unset, .unset, .unset, .unset, .unset, .unset, .unset] [(.int (((i2.toUInt32 >>> ((4 : Int32) &&& 31).toUInt32).toInt32) &&& (15 : Int32)))]))
  refine own_go (fun tq kq => XS.iconst X0.here hx rfl (hb hby at_14) kq) ?_
  show own_Rn p e below _ (s₁.setTop (mkF m 15 #[.val (.int i0), .val (.int i1), .val (.int i2), .val (.long l3), .second, .val (.long l4), .second, .val (.int (Int32.ofNat K1)), .unset, .unset, .unset, .unset, .unset, .unset, .unset, .unset, .unset, .unset, .unset, .unset] [(.int (3 : Int32)), (.int (((i2.toUInt32 >>> ((4 : Int32) &&& 31).toUInt32).toInt32) &&& (15 : Int32)))]))
  refine own_go (fun tq kq => iremM X0 hx rfl (hb hby at_15) rfl (by decide) kq) ?_
  show own_Rn p e below _ (s₁.setTop (mkF m 16 #[.val (.int i0), .val (.int i1), .val (.int i2), .val (.long l3), .second, .val (.long l4), .second, .val (.int (Int32.ofNat K1)), .unset, .unset, .unset, .unset, .unset, .unset, .unset, .unset, .unset, .unset, .unset, .unset] [(.int ((((i2.toUInt32 >>> ((4 : Int32) &&& 31).toUInt32).toInt32) &&& (15 : Int32)) % (3 : Int32)))]))
  obtain ⟨K2, hK2, eK2⟩ := own_m3 _ (own_and15 ((i2.toUInt32 >>> ((4 : Int32) &&& 31).toUInt32).toInt32))
  rw [eK2]
  show own_Rn p e below _ (s₁.setTop (mkF m 16 #[.val (.int i0), .val (.int i1), .val (.int i2), .val (.long l3), .second, .val (.long l4), .second, .val (.int (Int32.ofNat K1)), .unset, .unset, .unset, .unset, .unset, .unset, .unset, .unset, .unset, .unset, .unset, .unset] [(.int (Int32.ofNat K2))]))
  refine own_go (fun tq kq => XS.istore X0.here hx rfl (hb hby at_16) rfl (l' := #[.val (.int i0), .val (.int i1), .val (.int i2), .val (.long l3), .second, .val (.long l4), .second, .val (.int (Int32.ofNat K1)), .val (.int (Int32.ofNat K2)), .unset, .unset, .unset, .unset, .unset, .unset, .unset, .unset, .unset, .unset, .unset]) rfl kq) ?_
  show own_Rn p e below _ (s₁.setTop (mkF m 18 #[.val (.int i0), .val (.int i1), .val (.int i2), .val (.long l3), .second, .val (.long l4), .second, .val (.int (Int32.ofNat K1)), .val (.int (Int32.ofNat K2)), .unset, .unset, .unset, .unset, .unset, .unset, .unset, .unset, .unset, .unset, .unset] []))
  refine own_go (fun tq kq => XS.iloadN X0.here hx rfl (hb hby at_18) rfl kq) ?_
  show own_Rn p e below _ (s₁.setTop (mkF m 19 #[.val (.int i0), .val (.int i1), .val (.int i2), .val (.long l3), .second, .val (.long l4), .second, .val (.int (Int32.ofNat K1)), .val (.int (Int32.ofNat K2)), .unset, .unset, .unset, .unset, .unset, .unset, .unset, .unset, .unset, .unset, .unset] [(.int i0)]))
  refine own_go (fun tq kq => XS.sipush X0.here hx rfl (hb hby at_19) kq) ?_
  show own_Rn p e below _ (s₁.setTop (mkF m 22 #[.val (.int i0), .val (.int i1), .val (.int i2), .val (.long l3), .second, .val (.long l4), .second, .val (.int (Int32.ofNat K1)), .val (.int (Int32.ofNat K2)), .unset, .unset, .unset, .unset, .unset, .unset, .unset, .unset, .unset, .unset, .unset] [(.int (255 : Int32)), (.int i0)]))
  refine own_go (fun tq kq => XS.iand X0.here hx rfl (hb hby at_22) rfl kq) ?_
  show own_Rn p e below _ (s₁.setTop (mkF m 23 #[.val (.int i0), .val (.int i1), .val (.int i2), .val (.long l3), .second, .val (.long l4), .second, .val (.int (Int32.ofNat K1)), .val (.int (Int32.ofNat K2)), .unset, .unset, .unset, .unset, .unset, .unset, .unset, .unset, .unset, .unset, .unset] [(.int (i0 &&& (255 : Int32)))]))
  refine own_go (fun tq kq => XS.i2c X0.here hx rfl (hb hby at_23) rfl kq) ?_
  show own_Rn p e below _ (s₁.setTop (mkF m 24 #[.val (.int i0), .val (.int i1), .val (.int i2), .val (.long l3), .second, .val (.long l4), .second, .val (.int (Int32.ofNat K1)), .val (.int (Int32.ofNat K2)), .unset, .unset, .unset, .unset, .unset, .unset, .unset, .unset, .unset, .unset, .unset] [(.int ((i0 &&& (255 : Int32)).toUInt32.toUInt16.toUInt32.toInt32))]))
  obtain ⟨a, ha⟩ : ∃ z : Int32, z = ((i0 &&& (255 : Int32)).toUInt32.toUInt16.toUInt32.toInt32) := ⟨_, rfl⟩
  rw [← ha]
  show own_Rn p e below _ (s₁.setTop (mkF m 24 #[.val (.int i0), .val (.int i1), .val (.int i2), .val (.long l3), .second, .val (.long l4), .second, .val (.int (Int32.ofNat K1)), .val (.int (Int32.ofNat K2)), .unset, .unset, .unset, .unset, .unset, .unset, .unset, .unset, .unset, .unset, .unset] [(.int a)]))
  have ra : ¬ a < 0 ∧ ¬ (255 : Int32) < a := by rw [ha]; exact own_chr_rng _
  refine own_go (fun tq kq => XS.istore X0.here hx rfl (hb hby at_24) rfl (l' := #[.val (.int i0), .val (.int i1), .val (.int i2), .val (.long l3), .second, .val (.long l4), .second, .val (.int (Int32.ofNat K1)), .val (.int (Int32.ofNat K2)), .val (.int a), .unset, .unset, .unset, .unset, .unset, .unset, .unset, .unset, .unset, .unset]) rfl kq) ?_
  show own_Rn p e below _ (s₁.setTop (mkF m 26 #[.val (.int i0), .val (.int i1), .val (.int i2), .val (.long l3), .second, .val (.long l4), .second, .val (.int (Int32.ofNat K1)), .val (.int (Int32.ofNat K2)), .val (.int a), .unset, .unset, .unset, .unset, .unset, .unset, .unset, .unset, .unset, .unset] []))
  refine own_go (fun tq kq => XS.iloadN X0.here hx rfl (hb hby at_26) rfl kq) ?_
  show own_Rn p e below _ (s₁.setTop (mkF m 27 #[.val (.int i0), .val (.int i1), .val (.int i2), .val (.long l3), .second, .val (.long l4), .second, .val (.int (Int32.ofNat K1)), .val (.int (Int32.ofNat K2)), .val (.int a), .unset, .unset, .unset, .unset, .unset, .unset, .unset, .unset, .unset, .unset] [(.int i0)]))
  refine own_go (fun tq kq => XS.bipush X0.here hx rfl (hb hby at_27) kq) ?_
  show own_Rn p e below _ (s₁.setTop (mkF m 29 #[.val (.int i0), .val (.int i1), .val (.int i2), .val (.long l3), .second, .val (.long l4), .second, .val (.int (Int32.ofNat K1)), .val (.int (Int32.ofNat K2)), .val (.int a), .unset, .unset, .unset, .unset, .unset, .unset, .unset, .unset, .unset, .unset] [(.int (8 : Int32)), (.int i0)]))
  refine own_go (fun tq kq => XS.iushr X0.here hx rfl (hb hby at_29) rfl kq) ?_
  show own_Rn p e below _ (s₁.setTop (mkF m 30 #[.val (.int i0), .val (.int i1), .val (.int i2), .val (.long l3), .second, .val (.long l4), .second, .val (.int (Int32.ofNat K1)), .val (.int (Int32.ofNat K2)), .val (.int a), .unset, .unset, .unset, .unset, .unset, .unset, .unset, .unset, .unset, .unset] [(.int ((i0.toUInt32 >>> ((8 : Int32) &&& 31).toUInt32).toInt32))]))
  refine own_go (fun tq kq => XS.sipush X0.here hx rfl (hb hby at_30) kq) ?_
  show own_Rn p e below _ (s₁.setTop (mkF m 33 #[.val (.int i0), .val (.int i1), .val (.int i2), .val (.long l3), .second, .val (.long l4), .second, .val (.int (Int32.ofNat K1)), .val (.int (Int32.ofNat K2)), .val (.int a), .unset, .unset, .unset, .unset, .unset, .unset, .unset, .unset, .unset, .unset] [(.int (255 : Int32)), (.int ((i0.toUInt32 >>> ((8 : Int32) &&& 31).toUInt32).toInt32))]))
  refine own_go (fun tq kq => XS.iand X0.here hx rfl (hb hby at_33) rfl kq) ?_
  show own_Rn p e below _ (s₁.setTop (mkF m 34 #[.val (.int i0), .val (.int i1), .val (.int i2), .val (.long l3), .second, .val (.long l4), .second, .val (.int (Int32.ofNat K1)), .val (.int (Int32.ofNat K2)), .val (.int a), .unset, .unset, .unset, .unset, .unset, .unset, .unset, .unset, .unset, .unset] [(.int (((i0.toUInt32 >>> ((8 : Int32) &&& 31).toUInt32).toInt32) &&& (255 : Int32)))]))
  refine own_go (fun tq kq => XS.i2c X0.here hx rfl (hb hby at_34) rfl kq) ?_
  show own_Rn p e below _ (s₁.setTop (mkF m 35 #[.val (.int i0), .val (.int i1), .val (.int i2), .val (.long l3), .second, .val (.long l4), .second, .val (.int (Int32.ofNat K1)), .val (.int (Int32.ofNat K2)), .val (.int a), .unset, .unset, .unset, .unset, .unset, .unset, .unset, .unset, .unset, .unset] [(.int ((((i0.toUInt32 >>> ((8 : Int32) &&& 31).toUInt32).toInt32) &&& (255 : Int32)).toUInt32.toUInt16.toUInt32.toInt32))]))
  obtain ⟨b, hvb⟩ : ∃ z : Int32, z = ((((i0.toUInt32 >>> ((8 : Int32) &&& 31).toUInt32).toInt32) &&& (255 : Int32)).toUInt32.toUInt16.toUInt32.toInt32) := ⟨_, rfl⟩
  rw [← hvb]
  show own_Rn p e below _ (s₁.setTop (mkF m 35 #[.val (.int i0), .val (.int i1), .val (.int i2), .val (.long l3), .second, .val (.long l4), .second, .val (.int (Int32.ofNat K1)), .val (.int (Int32.ofNat K2)), .val (.int a), .unset, .unset, .unset, .unset, .unset, .unset, .unset, .unset, .unset, .unset] [(.int b)]))
  have rb : ¬ b < 0 ∧ ¬ (255 : Int32) < b := by rw [hvb]; exact own_chr_rng _
  refine own_go (fun tq kq => XS.istore X0.here hx rfl (hb hby at_35) rfl (l' := #[.val (.int i0), .val (.int i1), .val (.int i2), .val (.long l3), .second, .val (.long l4), .second, .val (.int (Int32.ofNat K1)), .val (.int (Int32.ofNat K2)), .val (.int a), .val (.int b), .unset, .unset, .unset, .unset, .unset, .unset, .unset, .unset, .unset]) rfl kq) ?_
  show own_Rn p e below _ (s₁.setTop (mkF m 37 #[.val (.int i0), .val (.int i1), .val (.int i2), .val (.long l3), .second, .val (.long l4), .second, .val (.int (Int32.ofNat K1)), .val (.int (Int32.ofNat K2)), .val (.int a), .val (.int b), .unset, .unset, .unset, .unset, .unset, .unset, .unset, .unset, .unset] []))
  refine own_go (fun tq kq => XS.iloadN X0.here hx rfl (hb hby at_37) rfl kq) ?_
  show own_Rn p e below _ (s₁.setTop (mkF m 38 #[.val (.int i0), .val (.int i1), .val (.int i2), .val (.long l3), .second, .val (.long l4), .second, .val (.int (Int32.ofNat K1)), .val (.int (Int32.ofNat K2)), .val (.int a), .val (.int b), .unset, .unset, .unset, .unset, .unset, .unset, .unset, .unset, .unset] [(.int i1)]))
  refine own_go (fun tq kq => XS.sipush X0.here hx rfl (hb hby at_38) kq) ?_
  show own_Rn p e below _ (s₁.setTop (mkF m 41 #[.val (.int i0), .val (.int i1), .val (.int i2), .val (.long l3), .second, .val (.long l4), .second, .val (.int (Int32.ofNat K1)), .val (.int (Int32.ofNat K2)), .val (.int a), .val (.int b), .unset, .unset, .unset, .unset, .unset, .unset, .unset, .unset, .unset] [(.int (255 : Int32)), (.int i1)]))
  refine own_go (fun tq kq => XS.iand X0.here hx rfl (hb hby at_41) rfl kq) ?_
  show own_Rn p e below _ (s₁.setTop (mkF m 42 #[.val (.int i0), .val (.int i1), .val (.int i2), .val (.long l3), .second, .val (.long l4), .second, .val (.int (Int32.ofNat K1)), .val (.int (Int32.ofNat K2)), .val (.int a), .val (.int b), .unset, .unset, .unset, .unset, .unset, .unset, .unset, .unset, .unset] [(.int (i1 &&& (255 : Int32)))]))
  refine own_go (fun tq kq => XS.i2c X0.here hx rfl (hb hby at_42) rfl kq) ?_
  show own_Rn p e below _ (s₁.setTop (mkF m 43 #[.val (.int i0), .val (.int i1), .val (.int i2), .val (.long l3), .second, .val (.long l4), .second, .val (.int (Int32.ofNat K1)), .val (.int (Int32.ofNat K2)), .val (.int a), .val (.int b), .unset, .unset, .unset, .unset, .unset, .unset, .unset, .unset, .unset] [(.int ((i1 &&& (255 : Int32)).toUInt32.toUInt16.toUInt32.toInt32))]))
  obtain ⟨m0, hm0⟩ : ∃ z : Int32, z = ((i1 &&& (255 : Int32)).toUInt32.toUInt16.toUInt32.toInt32) := ⟨_, rfl⟩
  rw [← hm0]
  show own_Rn p e below _ (s₁.setTop (mkF m 43 #[.val (.int i0), .val (.int i1), .val (.int i2), .val (.long l3), .second, .val (.long l4), .second, .val (.int (Int32.ofNat K1)), .val (.int (Int32.ofNat K2)), .val (.int a), .val (.int b), .unset, .unset, .unset, .unset, .unset, .unset, .unset, .unset, .unset] [(.int m0)]))
  have rm0 : ¬ m0 < 0 ∧ ¬ (255 : Int32) < m0 := by rw [hm0]; exact own_chr_rng _
  refine own_go (fun tq kq => XS.istore X0.here hx rfl (hb hby at_43) rfl (l' := #[.val (.int i0), .val (.int i1), .val (.int i2), .val (.long l3), .second, .val (.long l4), .second, .val (.int (Int32.ofNat K1)), .val (.int (Int32.ofNat K2)), .val (.int a), .val (.int b), .val (.int m0), .unset, .unset, .unset, .unset, .unset, .unset, .unset, .unset]) rfl kq) ?_
  show own_Rn p e below _ (s₁.setTop (mkF m 45 #[.val (.int i0), .val (.int i1), .val (.int i2), .val (.long l3), .second, .val (.long l4), .second, .val (.int (Int32.ofNat K1)), .val (.int (Int32.ofNat K2)), .val (.int a), .val (.int b), .val (.int m0), .unset, .unset, .unset, .unset, .unset, .unset, .unset, .unset] []))
  refine own_go (fun tq kq => XS.iloadN X0.here hx rfl (hb hby at_45) rfl kq) ?_
  show own_Rn p e below _ (s₁.setTop (mkF m 46 #[.val (.int i0), .val (.int i1), .val (.int i2), .val (.long l3), .second, .val (.long l4), .second, .val (.int (Int32.ofNat K1)), .val (.int (Int32.ofNat K2)), .val (.int a), .val (.int b), .val (.int m0), .unset, .unset, .unset, .unset, .unset, .unset, .unset, .unset] [(.int i1)]))
  refine own_go (fun tq kq => XS.bipush X0.here hx rfl (hb hby at_46) kq) ?_
  show own_Rn p e below _ (s₁.setTop (mkF m 48 #[.val (.int i0), .val (.int i1), .val (.int i2), .val (.long l3), .second, .val (.long l4), .second, .val (.int (Int32.ofNat K1)), .val (.int (Int32.ofNat K2)), .val (.int a), .val (.int b), .val (.int m0), .unset, .unset, .unset, .unset, .unset, .unset, .unset, .unset] [(.int (8 : Int32)), (.int i1)]))
  refine own_go (fun tq kq => XS.iushr X0.here hx rfl (hb hby at_48) rfl kq) ?_
  show own_Rn p e below _ (s₁.setTop (mkF m 49 #[.val (.int i0), .val (.int i1), .val (.int i2), .val (.long l3), .second, .val (.long l4), .second, .val (.int (Int32.ofNat K1)), .val (.int (Int32.ofNat K2)), .val (.int a), .val (.int b), .val (.int m0), .unset, .unset, .unset, .unset, .unset, .unset, .unset, .unset] [(.int ((i1.toUInt32 >>> ((8 : Int32) &&& 31).toUInt32).toInt32))]))
  refine own_go (fun tq kq => XS.sipush X0.here hx rfl (hb hby at_49) kq) ?_
  show own_Rn p e below _ (s₁.setTop (mkF m 52 #[.val (.int i0), .val (.int i1), .val (.int i2), .val (.long l3), .second, .val (.long l4), .second, .val (.int (Int32.ofNat K1)), .val (.int (Int32.ofNat K2)), .val (.int a), .val (.int b), .val (.int m0), .unset, .unset, .unset, .unset, .unset, .unset, .unset, .unset] [(.int (255 : Int32)), (.int ((i1.toUInt32 >>> ((8 : Int32) &&& 31).toUInt32).toInt32))]))
  refine own_go (fun tq kq => XS.iand X0.here hx rfl (hb hby at_52) rfl kq) ?_
  show own_Rn p e below _ (s₁.setTop (mkF m 53 #[.val (.int i0), .val (.int i1), .val (.int i2), .val (.long l3), .second, .val (.long l4), .second, .val (.int (Int32.ofNat K1)), .val (.int (Int32.ofNat K2)), .val (.int a), .val (.int b), .val (.int m0), .unset, .unset, .unset, .unset, .unset, .unset, .unset, .unset] [(.int (((i1.toUInt32 >>> ((8 : Int32) &&& 31).toUInt32).toInt32) &&& (255 : Int32)))]))
  refine own_go (fun tq kq => XS.i2c X0.here hx rfl (hb hby at_53) rfl kq) ?_
  show own_Rn p e below _ (s₁.setTop (mkF m 54 #[.val (.int i0), .val (.int i1), .val (.int i2), .val (.long l3), .second, .val (.long l4), .second, .val (.int (Int32.ofNat K1)), .val (.int (Int32.ofNat K2)), .val (.int a), .val (.int b), .val (.int m0), .unset, .unset, .unset, .unset, .unset, .unset, .unset, .unset] [(.int ((((i1.toUInt32 >>> ((8 : Int32) &&& 31).toUInt32).toInt32) &&& (255 : Int32)).toUInt32.toUInt16.toUInt32.toInt32))]))
  obtain ⟨m1, hm1⟩ : ∃ z : Int32, z = ((((i1.toUInt32 >>> ((8 : Int32) &&& 31).toUInt32).toInt32) &&& (255 : Int32)).toUInt32.toUInt16.toUInt32.toInt32) := ⟨_, rfl⟩
  rw [← hm1]
  show own_Rn p e below _ (s₁.setTop (mkF m 54 #[.val (.int i0), .val (.int i1), .val (.int i2), .val (.long l3), .second, .val (.long l4), .second, .val (.int (Int32.ofNat K1)), .val (.int (Int32.ofNat K2)), .val (.int a), .val (.int b), .val (.int m0), .unset, .unset, .unset, .unset, .unset, .unset, .unset, .unset] [(.int m1)]))
  have rm1 : ¬ m1 < 0 ∧ ¬ (255 : Int32) < m1 := by rw [hm1]; exact own_chr_rng _
  refine own_go (fun tq kq => XS.istore X0.here hx rfl (hb hby at_54) rfl (l' := #[.val (.int i0), .val (.int i1), .val (.int i2), .val (.long l3), .second, .val (.long l4), .second, .val (.int (Int32.ofNat K1)), .val (.int (Int32.ofNat K2)), .val (.int a), .val (.int b), .val (.int m0), .val (.int m1), .unset, .unset, .unset, .unset, .unset, .unset, .unset]) rfl kq) ?_
  show own_Rn p e below _ (s₁.setTop (mkF m 56 #[.val (.int i0), .val (.int i1), .val (.int i2), .val (.long l3), .second, .val (.long l4), .second, .val (.int (Int32.ofNat K1)), .val (.int (Int32.ofNat K2)), .val (.int a), .val (.int b), .val (.int m0), .val (.int m1), .unset, .unset, .unset, .unset, .unset, .unset, .unset] []))
  refine own_go (fun tq kq => XS.iloadN X0.here hx rfl (hb hby at_56) rfl kq) ?_
  show own_Rn p e below _ (s₁.setTop (mkF m 57 #[.val (.int i0), .val (.int i1), .val (.int i2), .val (.long l3), .second, .val (.long l4), .second, .val (.int (Int32.ofNat K1)), .val (.int (Int32.ofNat K2)), .val (.int a), .val (.int b), .val (.int m0), .val (.int m1), .unset, .unset, .unset, .unset, .unset, .unset, .unset] [(.int i2)]))
  refine own_go (fun tq kq => XS.bipush X0.here hx rfl (hb hby at_57) kq) ?_
  show own_Rn p e below _ (s₁.setTop (mkF m 59 #[.val (.int i0), .val (.int i1), .val (.int i2), .val (.long l3), .second, .val (.long l4), .second, .val (.int (Int32.ofNat K1)), .val (.int (Int32.ofNat K2)), .val (.int a), .val (.int b), .val (.int m0), .val (.int m1), .unset, .unset, .unset, .unset, .unset, .unset, .unset] [(.int (8 : Int32)), (.int i2)]))
  refine own_go (fun tq kq => XS.iushr X0.here hx rfl (hb hby at_59) rfl kq) ?_
  show own_Rn p e below _ (s₁.setTop (mkF m 60 #[.val (.int i0), .val (.int i1), .val (.int i2), .val (.long l3), .second, .val (.long l4), .second, .val (.int (Int32.ofNat K1)), .val (.int (Int32.ofNat K2)), .val (.int a), .val (.int b), .val (.int m0), .val (.int m1), .unset, .unset, .unset, .unset, .unset, .unset, .unset] [(.int ((i2.toUInt32 >>> ((8 : Int32) &&& 31).toUInt32).toInt32))]))
  refine own_go (fun tq kq => XS.sipush X0.here hx rfl (hb hby at_60) kq) ?_
  show own_Rn p e below _ (s₁.setTop (mkF m 63 #[.val (.int i0), .val (.int i1), .val (.int i2), .val (.long l3), .second, .val (.long l4), .second, .val (.int (Int32.ofNat K1)), .val (.int (Int32.ofNat K2)), .val (.int a), .val (.int b), .val (.int m0), .val (.int m1), .unset, .unset, .unset, .unset, .unset, .unset, .unset] [(.int (255 : Int32)), (.int ((i2.toUInt32 >>> ((8 : Int32) &&& 31).toUInt32).toInt32))]))
  refine own_go (fun tq kq => XS.iand X0.here hx rfl (hb hby at_63) rfl kq) ?_
  show own_Rn p e below _ (s₁.setTop (mkF m 64 #[.val (.int i0), .val (.int i1), .val (.int i2), .val (.long l3), .second, .val (.long l4), .second, .val (.int (Int32.ofNat K1)), .val (.int (Int32.ofNat K2)), .val (.int a), .val (.int b), .val (.int m0), .val (.int m1), .unset, .unset, .unset, .unset, .unset, .unset, .unset] [(.int (((i2.toUInt32 >>> ((8 : Int32) &&& 31).toUInt32).toInt32) &&& (255 : Int32)))]))
  refine own_go (fun tq kq => XS.i2c X0.here hx rfl (hb hby at_64) rfl kq) ?_
  show own_Rn p e below _ (s₁.setTop (mkF m 65 #[.val (.int i0), .val (.int i1), .val (.int i2), .val (.long l3), .second, .val (.long l4), .second, .val (.int (Int32.ofNat K1)), .val (.int (Int32.ofNat K2)), .val (.int a), .val (.int b), .val (.int m0), .val (.int m1), .unset, .unset, .unset, .unset, .unset, .unset, .unset] [(.int ((((i2.toUInt32 >>> ((8 : Int32) &&& 31).toUInt32).toInt32) &&& (255 : Int32)).toUInt32.toUInt16.toUInt32.toInt32))]))
  obtain ⟨dd, hdd⟩ : ∃ z : Int32, z = ((((i2.toUInt32 >>> ((8 : Int32) &&& 31).toUInt32).toInt32) &&& (255 : Int32)).toUInt32.toUInt16.toUInt32.toInt32) := ⟨_, rfl⟩
  rw [← hdd]
  show own_Rn p e below _ (s₁.setTop (mkF m 65 #[.val (.int i0), .val (.int i1), .val (.int i2), .val (.long l3), .second, .val (.long l4), .second, .val (.int (Int32.ofNat K1)), .val (.int (Int32.ofNat K2)), .val (.int a), .val (.int b), .val (.int m0), .val (.int m1), .unset, .unset, .unset, .unset, .unset, .unset, .unset] [(.int dd)]))
  have rdd : ¬ dd < 0 ∧ ¬ (255 : Int32) < dd := by rw [hdd]; exact own_chr_rng _
  refine own_go (fun tq kq => XS.istore X0.here hx rfl (hb hby at_65) rfl (l' := #[.val (.int i0), .val (.int i1), .val (.int i2), .val (.long l3), .second, .val (.long l4), .second, .val (.int (Int32.ofNat K1)), .val (.int (Int32.ofNat K2)), .val (.int a), .val (.int b), .val (.int m0), .val (.int m1), .val (.int dd), .unset, .unset, .unset, .unset, .unset, .unset]) rfl kq) ?_
  show own_Rn p e below _ (s₁.setTop (mkF m 67 #[.val (.int i0), .val (.int i1), .val (.int i2), .val (.long l3), .second, .val (.long l4), .second, .val (.int (Int32.ofNat K1)), .val (.int (Int32.ofNat K2)), .val (.int a), .val (.int b), .val (.int m0), .val (.int m1), .val (.int dd), .unset, .unset, .unset, .unset, .unset, .unset] []))
  refine own_go (fun tq kq => XS.iload X0.here hx rfl (hb hby at_67) rfl kq) ?_
  show own_Rn p e below _ (s₁.setTop (mkF m 69 #[.val (.int i0), .val (.int i1), .val (.int i2), .val (.long l3), .second, .val (.long l4), .second, .val (.int (Int32.ofNat K1)), .val (.int (Int32.ofNat K2)), .val (.int a), .val (.int b), .val (.int m0), .val (.int m1), .val (.int dd), .unset, .unset, .unset, .unset, .unset, .unset] [(.int (Int32.ofNat K1))]))
  refine own_go (fun tq kq => XS.iload X0.here hx rfl (hb hby at_69) rfl kq) ?_
  show own_Rn p e below _ (s₁.setTop (mkF m 71 #[.val (.int i0), .val (.int i1), .val (.int i2), .val (.long l3), .second, .val (.long l4), .second, .val (.int (Int32.ofNat K1)), .val (.int (Int32.ofNat K2)), .val (.int a), .val (.int b), .val (.int m0), .val (.int m1), .val (.int dd), .unset, .unset, .unset, .unset, .unset, .unset] [(.int a), (.int (Int32.ofNat K1))]))
  refine own_go (fun tq kq => XS.iload X0.here hx rfl (hb hby at_71) rfl kq) ?_
  show own_Rn p e below _ (s₁.setTop (mkF m 73 #[.val (.int i0), .val (.int i1), .val (.int i2), .val (.long l3), .second, .val (.long l4), .second, .val (.int (Int32.ofNat K1)), .val (.int (Int32.ofNat K2)), .val (.int a), .val (.int b), .val (.int m0), .val (.int m1), .val (.int dd), .unset, .unset, .unset, .unset, .unset, .unset] [(.int b), (.int a), (.int (Int32.ofNat K1))]))
  have Zn1 : n0 ≤ h0.size := by omega
  obtain ⟨rv1, _, ⟨T1, L1, k1, n1⟩, -, X1, hS1, hG1, ⟨Lc1, hQ1, l1, y1, z1, CR1q⟩, st1⟩ := Jvm.RoadKit.callSS X0 hx (y := (⟨"com/example/cellwise/cellwise/CellNamePinLaw", "str", "(ICC)Ljava/lang/String;"⟩ : MethodName)) hown (mvT hZ (hw _ (own_mi 0 rfl))) (mvT hZ (hw _ (own_mi 1 rfl))) (mvT hZ (hw _ (own_mi 2 rfl))) (mvT hZ (hw _ (own_mi 3 rfl))) (by decide) (own_backSH (W := 0) (rm := ({ frames := 4, cells := 6, slots := 12, locals := 66 } : Room)) (sf := []) (h := h0) (rmStr l Z a0 hw [] (K1) (a) (b) (G1) h0 n0 Zn1 hEL (hK1) (ra) (rb) (O2) (P5) X00) hZ (hw _ (own_mi 3 rfl)) (hw _ (own_mi 2 rfl)) (by decide) (by decide) hEL CR0.1 sf0) (g := (mkF m 73 #[.val (.int i0), .val (.int i1), .val (.int i2), .val (.long l3), .second, .val (.long l4), .second, .val (.int (Int32.ofNat K1)), .val (.int (Int32.ofNat K2)), .val (.int a), .val (.int b), .val (.int m0), .val (.int m1), .val (.int dd), .unset, .unset, .unset, .unset, .unset, .unset] [(.int b), (.int a), (.int (Int32.ofNat K1))])) rfl (by rw [hml]; rfl) (argsL := [(.int (Int32.ofNat K1)), (.int a), (.int b)]) (rest := []) (lenOf own_pd_28ICC29Ljava2flang2fString3b rfl) rfl (by show 2 * 0 + _ ≤ _; exact Nat.le_of_eq rfl) (hb hby at_73) (fun _ _ => ⟨rfl, e0, (by decide : 0 + 6 ≤ _), (by decide : 0 + 12 ≤ _)⟩)
  dsimp only [Pt.U, Pt.locs, Pt.cells, Pt.slots] at X1 l1 y1 z1 st1 hQ1 hS1 hG1 CR1q
  subst l1 y1 z1
  obtain ⟨x1, t1, k1, rfl, Nq1, Kq1, G0_1, G1_1, G2_1, G3_1⟩ := hQ1
  have N1 := Fr.app N0 Nq1
  obtain ⟨Xr1, hSr1, hZ1, hown1⟩ := rebS hS0 (n1 := s₁.heap.size) (by rw [e0]; omega) X1 hS1 hG1 hZ hown
  have sz2 : h0.size ≤ T1.heap.size := Kq1.1
  have cr2 : CHr Z consts_1 s.vm h0 T1.vm T1.heap := CR1q
  have CR2 := CR0.trans cr2
  have lt3 : @LT.lt Nat _ x1 T1.heap.size := G0_1.lt
  have lt4 : @LT.lt Nat _ t1 T1.heap.size := G3_1.lt
  refine own_go (fun tq kq => st1.trans kq) ?_
  show own_Rn p e below _ (T1.setTop (mkF m 76 #[.val (.int i0), .val (.int i1), .val (.int i2), .val (.long l3), .second, .val (.long l4), .second, .val (.int (Int32.ofNat K1)), .val (.int (Int32.ofNat K2)), .val (.int a), .val (.int b), .val (.int m0), .val (.int m1), .val (.int dd), .unset, .unset, .unset, .unset, .unset, .unset] [(.ref x1)]))
  refine own_go (fun tq kq => XS.astore Xr1.here hx rfl (hb hby at_76) rfl rfl (l' := #[.val (.int i0), .val (.int i1), .val (.int i2), .val (.long l3), .second, .val (.long l4), .second, .val (.int (Int32.ofNat K1)), .val (.int (Int32.ofNat K2)), .val (.int a), .val (.int b), .val (.int m0), .val (.int m1), .val (.int dd), .val (.ref x1), .unset, .unset, .unset, .unset, .unset]) rfl kq) ?_
  show own_Rn p e below _ (T1.setTop (mkF m 78 #[.val (.int i0), .val (.int i1), .val (.int i2), .val (.long l3), .second, .val (.long l4), .second, .val (.int (Int32.ofNat K1)), .val (.int (Int32.ofNat K2)), .val (.int a), .val (.int b), .val (.int m0), .val (.int m1), .val (.int dd), .val (.ref x1), .unset, .unset, .unset, .unset, .unset] []))
  refine own_go (fun tq kq => XS.iload Xr1.here hx rfl (hb hby at_78) rfl kq) ?_
  show own_Rn p e below _ (T1.setTop (mkF m 80 #[.val (.int i0), .val (.int i1), .val (.int i2), .val (.long l3), .second, .val (.long l4), .second, .val (.int (Int32.ofNat K1)), .val (.int (Int32.ofNat K2)), .val (.int a), .val (.int b), .val (.int m0), .val (.int m1), .val (.int dd), .val (.ref x1), .unset, .unset, .unset, .unset, .unset] [(.int (Int32.ofNat K2))]))
  refine own_go (fun tq kq => XS.iload Xr1.here hx rfl (hb hby at_80) rfl kq) ?_
  show own_Rn p e below _ (T1.setTop (mkF m 82 #[.val (.int i0), .val (.int i1), .val (.int i2), .val (.long l3), .second, .val (.long l4), .second, .val (.int (Int32.ofNat K1)), .val (.int (Int32.ofNat K2)), .val (.int a), .val (.int b), .val (.int m0), .val (.int m1), .val (.int dd), .val (.ref x1), .unset, .unset, .unset, .unset, .unset] [(.int m0), (.int (Int32.ofNat K2))]))
  refine own_go (fun tq kq => XS.iload Xr1.here hx rfl (hb hby at_82) rfl kq) ?_
  show own_Rn p e below _ (T1.setTop (mkF m 84 #[.val (.int i0), .val (.int i1), .val (.int i2), .val (.long l3), .second, .val (.long l4), .second, .val (.int (Int32.ofNat K1)), .val (.int (Int32.ofNat K2)), .val (.int a), .val (.int b), .val (.int m0), .val (.int m1), .val (.int dd), .val (.ref x1), .unset, .unset, .unset, .unset, .unset] [(.int m1), (.int m0), (.int (Int32.ofNat K2))]))
  have Zn5 : n0 ≤ T1.heap.size := by omega
  have F6 : Old Z n0 T1.heap := (X00.keep Kq1 all0)
  obtain ⟨rv5, _, ⟨T5, L5, k5, n5⟩, -, X5, hS5, hG5, ⟨Lc5, hQ5, l5, y5, z5, CR5q⟩, st5⟩ := Jvm.RoadKit.callSS Xr1 hx (y := (⟨"com/example/cellwise/cellwise/CellNamePinLaw", "str", "(ICC)Ljava/lang/String;"⟩ : MethodName)) hown1 (mvT hZ1 (hw _ (own_mi 0 rfl))) (mvT hZ1 (hw _ (own_mi 1 rfl))) (mvT hZ1 (hw _ (own_mi 2 rfl))) (mvT hZ1 (hw _ (own_mi 3 rfl))) (by decide) (own_backSH (W := 0) (rm := ({ frames := 4, cells := 6, slots := 12, locals := 66 } : Room)) (sf := []) (h := T1.heap) (rmStr l Z a0 hw [] (K2) (m0) (m1) (G1) T1.heap n0 Zn5 hEL (hK2) (rm0) (rm1) (O2) (P5) F6) hZ1 (hw _ (own_mi 3 rfl)) (hw _ (own_mi 2 rfl)) (by decide) (by decide) hEL CR2.1 sf0) (g := (mkF m 84 #[.val (.int i0), .val (.int i1), .val (.int i2), .val (.long l3), .second, .val (.long l4), .second, .val (.int (Int32.ofNat K1)), .val (.int (Int32.ofNat K2)), .val (.int a), .val (.int b), .val (.int m0), .val (.int m1), .val (.int dd), .val (.ref x1), .unset, .unset, .unset, .unset, .unset] [(.int m1), (.int m0), (.int (Int32.ofNat K2))])) rfl (by rw [hml]; rfl) (argsL := [(.int (Int32.ofNat K2)), (.int m0), (.int m1)]) (rest := []) (lenOf own_pd_28ICC29Ljava2flang2fString3b rfl) rfl (by show 2 * 0 + _ ≤ _; exact Nat.le_of_eq rfl) (hb hby at_84) (fun _ _ => ⟨rfl, rfl, (by decide : 6 + 6 ≤ _), (by decide : 12 + 12 ≤ _)⟩)
  dsimp only [Pt.U, Pt.locs, Pt.cells, Pt.slots] at X5 l5 y5 z5 st5 hQ5 hS5 hG5 CR5q
  subst l5 y5 z5
  obtain ⟨x2, t2, k2, rfl, Nq5, Kq5, G0_5, G1_5, G2_5, G3_5⟩ := hQ5
  have N5 := Fr.app N1 Nq5
  obtain ⟨Xr5, hSr5, hZ5, hown5⟩ := rebS hSr1 (n1 := T1.heap.size) (by omega) X5 hS5 hG5 hZ1 hown1
  have sz7 : T1.heap.size ≤ T5.heap.size := Kq5.1
  have cr7 : CHr Z consts_1 T1.vm T1.heap T5.vm T5.heap := CR5q
  have CR7 := CR2.trans cr7
  have lt8 : @LT.lt Nat _ x2 T5.heap.size := G0_5.lt
  have lt9 : @LT.lt Nat _ t2 T5.heap.size := G3_5.lt
  refine own_go (fun tq kq => st5.trans kq) ?_
  show own_Rn p e below _ (T5.setTop (mkF m 87 #[.val (.int i0), .val (.int i1), .val (.int i2), .val (.long l3), .second, .val (.long l4), .second, .val (.int (Int32.ofNat K1)), .val (.int (Int32.ofNat K2)), .val (.int a), .val (.int b), .val (.int m0), .val (.int m1), .val (.int dd), .val (.ref x1), .unset, .unset, .unset, .unset, .unset] [(.ref x2)]))
  refine own_go (fun tq kq => XS.astore Xr5.here hx rfl (hb hby at_87) rfl rfl (l' := #[.val (.int i0), .val (.int i1), .val (.int i2), .val (.long l3), .second, .val (.long l4), .second, .val (.int (Int32.ofNat K1)), .val (.int (Int32.ofNat K2)), .val (.int a), .val (.int b), .val (.int m0), .val (.int m1), .val (.int dd), .val (.ref x1), .val (.ref x2), .unset, .unset, .unset, .unset]) rfl kq) ?_
  show own_Rn p e below _ (T5.setTop (mkF m 89 #[.val (.int i0), .val (.int i1), .val (.int i2), .val (.long l3), .second, .val (.long l4), .second, .val (.int (Int32.ofNat K1)), .val (.int (Int32.ofNat K2)), .val (.int a), .val (.int b), .val (.int m0), .val (.int m1), .val (.int dd), .val (.ref x1), .val (.ref x2), .unset, .unset, .unset, .unset] []))
  obtain ⟨T10, h10, X10, e10, E10, A10, D10, -, st10⟩ := newO Xr5 hx hZ5 hown5 (hw _ (own_mi 37 rfl)) (hw _ (own_mi 38 rfl)) (hw _ (own_mi 39 rfl)) rfl (g := (mkF m 89 #[.val (.int i0), .val (.int i1), .val (.int i2), .val (.long l3), .second, .val (.long l4), .second, .val (.int (Int32.ofNat K1)), .val (.int (Int32.ofNat K2)), .val (.int a), .val (.int b), .val (.int m0), .val (.int m1), .val (.int dd), .val (.ref x1), .val (.ref x2), .unset, .unset, .unset, .unset] [])) rfl (hb hby at_89) (by decide) (by decide)
  obtain ⟨b10, g10⟩ : ∃ z, z = T5.heap.size := ⟨_, rfl⟩
  rw [← g10] at A10 D10 st10
  refine own_go st10 ?_
  have sz11 : T5.heap.size ≤ h10.size := E10.1
  have cr11 : CHr Z consts_1 T5.vm T5.heap T5.vm h10 := CHr.ext E10 CR7.1
  have CR11 := CR7.trans cr11
  have lt12 : @LT.lt Nat _ b10 h10.size := A10.lt
  have gn10 : n0 ≤ b10 := by omega
  have D10_id : Fld Z h10 b10 "com/example/cellwise/cellwise/Matrix$Competency" "id" "J" (.long (0 : Int64)) := D10 (Or.inr (hw _ (own_mi 64 rfl))) (ty := .long) own_fd_J
  have D10_heading : Fld Z h10 b10 "com/example/cellwise/cellwise/Matrix$Competency" "heading" "Ljava/lang/String;" .null := D10 (Or.inr (hw _ (own_mi 66 rfl))) (ty := (.object "java/lang/String")) own_fd_Ljava2flang2fString3b
  have D10_description : Fld Z h10 b10 "com/example/cellwise/cellwise/Matrix$Competency" "description" "Ljava/lang/String;" .null := D10 (Or.inr (hw _ (own_mi 68 rfl))) (ty := (.object "java/lang/String")) own_fd_Ljava2flang2fString3b
  show own_Rn p e below _ (T10.setTop (mkF m 92 #[.val (.int i0), .val (.int i1), .val (.int i2), .val (.long l3), .second, .val (.long l4), .second, .val (.int (Int32.ofNat K1)), .val (.int (Int32.ofNat K2)), .val (.int a), .val (.int b), .val (.int m0), .val (.int m1), .val (.int dd), .val (.ref x1), .val (.ref x2), .unset, .unset, .unset, .unset] [(.ref b10)]))
  refine own_go (fun tq kq => XS.dup X10.here hx rfl (hb hby at_92) rfl rfl kq) ?_
  show own_Rn p e below _ (T10.setTop (mkF m 93 #[.val (.int i0), .val (.int i1), .val (.int i2), .val (.long l3), .second, .val (.long l4), .second, .val (.int (Int32.ofNat K1)), .val (.int (Int32.ofNat K2)), .val (.int a), .val (.int b), .val (.int m0), .val (.int m1), .val (.int dd), .val (.ref x1), .val (.ref x2), .unset, .unset, .unset, .unset] [(.ref b10), (.ref b10)]))
  refine own_go (fun tq kq => XS.lloadN X10.here hx rfl (hb hby at_93) rfl kq) ?_
  show own_Rn p e below _ (T10.setTop (mkF m 94 #[.val (.int i0), .val (.int i1), .val (.int i2), .val (.long l3), .second, .val (.long l4), .second, .val (.int (Int32.ofNat K1)), .val (.int (Int32.ofNat K2)), .val (.int a), .val (.int b), .val (.int m0), .val (.int m1), .val (.int dd), .val (.ref x1), .val (.ref x2), .unset, .unset, .unset, .unset] [(.long l3), (.ref b10), (.ref b10)]))
  refine own_go (fun tq kq => XS.aload X10.here hx rfl (hb hby at_94) rfl rfl kq) ?_
  show own_Rn p e below _ (T10.setTop (mkF m 96 #[.val (.int i0), .val (.int i1), .val (.int i2), .val (.long l3), .second, .val (.long l4), .second, .val (.int (Int32.ofNat K1)), .val (.int (Int32.ofNat K2)), .val (.int a), .val (.int b), .val (.int m0), .val (.int m1), .val (.int dd), .val (.ref x1), .val (.ref x2), .unset, .unset, .unset, .unset] [(.ref x1), (.long l3), (.ref b10), (.ref b10)]))
  refine own_go (fun tq kq => XS.iload X10.here hx rfl (hb hby at_96) rfl kq) ?_
  show own_Rn p e below _ (T10.setTop (mkF m 98 #[.val (.int i0), .val (.int i1), .val (.int i2), .val (.long l3), .second, .val (.long l4), .second, .val (.int (Int32.ofNat K1)), .val (.int (Int32.ofNat K2)), .val (.int a), .val (.int b), .val (.int m0), .val (.int m1), .val (.int dd), .val (.ref x1), .val (.ref x2), .unset, .unset, .unset, .unset] [(.int dd), (.ref x1), (.long l3), (.ref b10), (.ref b10)]))
  have Zn13 : n0 ≤ h10.size := by omega
  have F14 : Old Z n0 h10 := ((F6.keep Kq5 all0).ext E10)
  obtain ⟨rv13, _, ⟨T13, L13, k13, n13⟩, -, X13, ⟨Lc13, hQ13, l13, y13, z13⟩, st13⟩ := Jvm.LawKit.callS X10 hx (y := (⟨"java/lang/String", "valueOf", "(C)Ljava/lang/String;"⟩ : MethodName)) hown5 (mvT hZ5 (hw _ (own_mi 40 rfl))) (mvT hZ5 (hw _ (own_mi 41 rfl))) (mvT hZ5 (hw _ (own_mi 6 rfl))) (mvT hZ5 (hw _ (own_mi 42 rfl))) (by decide) (backOf (W := 5) (rmVal l Z a0 hw [] (dd) (G1) h10 n0 Zn13 (rdd) (O2) (P5) F14) hZ5 (hw _ (own_mi 42 rfl)) (hw _ (own_mi 6 rfl)) (by decide) (by decide)) (g := (mkF m 98 #[.val (.int i0), .val (.int i1), .val (.int i2), .val (.long l3), .second, .val (.long l4), .second, .val (.int (Int32.ofNat K1)), .val (.int (Int32.ofNat K2)), .val (.int a), .val (.int b), .val (.int m0), .val (.int m1), .val (.int dd), .val (.ref x1), .val (.ref x2), .unset, .unset, .unset, .unset] [(.int dd), (.ref x1), (.long l3), (.ref b10), (.ref b10)])) rfl (by rw [hml]; rfl) (argsL := [(.int dd)]) (rest := [(.ref x1), (.long l3), (.ref b10), (.ref b10)]) (lenOf own_pd_28C29Ljava2flang2fString3b rfl) rfl (by show 2 * 0 + _ ≤ _; exact Nat.le_of_eq rfl) (hb hby at_98) (fun _ _ => ⟨rfl, e10, (by decide : 13 + 2 ≤ _), (by decide : 27 + 5 ≤ _)⟩)
  dsimp only [Pt.U, Pt.locs, Pt.cells, Pt.slots] at X13 l13 y13 z13 st13 hQ13
  subst l13 y13 z13
  obtain ⟨xd, td, kd, rfl, Nq13, Kq13, G0_13, G1_13, G2_13, G3_13, G4_13, G5_13, G6_13, G7_13⟩ := hQ13
  have N13 := Fr.app N5 Nq13
  have sz15 : h10.size ≤ T13.heap.size := Kq13.1
  have cr15 : CHr Z consts_1 T5.vm h10 T5.vm T13.heap := CHr.keep Kq13 sf0 CR11.1
  have CR15 := CR11.trans cr15
  have sf16 : Safe Z consts_1 T5.vm T13.heap xd := Safe.keep Kq13 sf0 CR11.1 (Safe.new (by omega))
  have sf17 : Safe Z consts_1 T5.vm T13.heap td := Safe.keep Kq13 sf0 CR11.1 (Safe.new (by omega))
  have lt18 : @LT.lt Nat _ xd T13.heap.size := G4_13.lt
  have lt19 : @LT.lt Nat _ td T13.heap.size := G7_13.lt
  refine own_go st13 ?_
  show own_Rn p e below _ (T13.setTop (mkF m 101 #[.val (.int i0), .val (.int i1), .val (.int i2), .val (.long l3), .second, .val (.long l4), .second, .val (.int (Int32.ofNat K1)), .val (.int (Int32.ofNat K2)), .val (.int a), .val (.int b), .val (.int m0), .val (.int m1), .val (.int dd), .val (.ref x1), .val (.ref x2), .unset, .unset, .unset, .unset] [(.ref xd), (.ref x1), (.long l3), (.ref b10), (.ref b10)]))
  have Zn20 : n0 ≤ T13.heap.size := by omega
  have F21 : Exa Z T13.heap b10 "com/example/cellwise/cellwise/Matrix$Competency" := (A10.keep Kq13)
  have F22 : Fld Z T13.heap b10 "com/example/cellwise/cellwise/Matrix$Competency" "id" "J" (.long (0 : Int64)) := (D10_id.keep Kq13 nin0)
  have F23 : Fld Z T13.heap b10 "com/example/cellwise/cellwise/Matrix$Competency" "heading" "Ljava/lang/String;" .null := (D10_heading.keep Kq13 nin0)
  have F24 : Fld Z T13.heap b10 "com/example/cellwise/cellwise/Matrix$Competency" "description" "Ljava/lang/String;" .null := (D10_description.keep Kq13 nin0)
  obtain ⟨rv20, _, ⟨T20, L20, k20, n20⟩, -, X20, ⟨Lc20, hQ20, l20, y20, z20⟩, st20⟩ := X13.specialBack hx (y := (⟨"com/example/cellwise/cellwise/Matrix$Competency", "<init>", "(JLjava/lang/String;Ljava/lang/String;)V"⟩ : MethodName)) rfl hown5 (mvT hZ5 (hw _ (own_mi 54 rfl))) (mvT hZ5 (hw _ (own_mi 55 rfl))) (mvT hZ5 (hw _ (own_mi 56 rfl))) (by decide) (backOf (W := 1) (rmCoI l Z a0 hw [] (b10) (l3) (x1) (xd) T13.heap n0 Zn20 F21 gn10 F22 F23 F24) hZ5 (hw _ (own_mi 56 rfl)) (hw _ (own_mi 39 rfl)) (by decide) (by decide)) (g := (mkF m 101 #[.val (.int i0), .val (.int i1), .val (.int i2), .val (.long l3), .second, .val (.long l4), .second, .val (.int (Int32.ofNat K1)), .val (.int (Int32.ofNat K2)), .val (.int a), .val (.int b), .val (.int m0), .val (.int m1), .val (.int dd), .val (.ref x1), .val (.ref x2), .unset, .unset, .unset, .unset] [(.ref xd), (.ref x1), (.long l3), (.ref b10), (.ref b10)])) rfl (by rw [hml]; rfl) (Steps.refl _) (a := b10) (argsL := [(.long l3), (.ref x1), (.ref xd)]) (rest := [(.ref b10)]) (lenOf own_pd_28JLjava2flang2fString3bLjava2flang2fString3b29V rfl) rfl (by show 2 * 0 + _ ≤ _; exact Nat.le_of_eq rfl) (hb hby at_101) (fun _ _ => ⟨rfl, rfl, (by decide : 15 + 0 ≤ _), (by decide : 32 + 0 ≤ _)⟩)
  dsimp only [Pt.U, Pt.locs, Pt.cells, Pt.slots] at X20 l20 y20 z20 st20 hQ20
  subst l20 y20 z20
  obtain ⟨rfl, Nq20, Kq20, G0_20, G1_20, G2_20⟩ := hQ20
  have N20 := Fr.app N13 Nq20
  have sf25 : Safe Z consts_1 T5.vm T13.heap b10 := Safe.exa hZ5.alike F21 (by decide) (by decide)
  have sz26 : T13.heap.size ≤ T20.heap.size := Kq20.1
  have cr26 : CHr Z consts_1 T5.vm T13.heap T5.vm T20.heap := CHr.keep Kq20 (sfS sf25 sf0) CR15.1
  have CR26 := CR15.trans cr26
  refine own_go (fun tq kq => st20.trans kq) ?_
  show own_Rn p e below _ (T20.setTop (mkF m 104 #[.val (.int i0), .val (.int i1), .val (.int i2), .val (.long l3), .second, .val (.long l4), .second, .val (.int (Int32.ofNat K1)), .val (.int (Int32.ofNat K2)), .val (.int a), .val (.int b), .val (.int m0), .val (.int m1), .val (.int dd), .val (.ref x1), .val (.ref x2), .unset, .unset, .unset, .unset] [(.ref b10)]))
  refine own_go (fun tq kq => XS.astore X20.here hx rfl (hb hby at_104) rfl rfl (l' := #[.val (.int i0), .val (.int i1), .val (.int i2), .val (.long l3), .second, .val (.long l4), .second, .val (.int (Int32.ofNat K1)), .val (.int (Int32.ofNat K2)), .val (.int a), .val (.int b), .val (.int m0), .val (.int m1), .val (.int dd), .val (.ref x1), .val (.ref x2), .val (.ref b10), .unset, .unset, .unset]) rfl kq) ?_
  show own_Rn p e below _ (T20.setTop (mkF m 106 #[.val (.int i0), .val (.int i1), .val (.int i2), .val (.long l3), .second, .val (.long l4), .second, .val (.int (Int32.ofNat K1)), .val (.int (Int32.ofNat K2)), .val (.int a), .val (.int b), .val (.int m0), .val (.int m1), .val (.int dd), .val (.ref x1), .val (.ref x2), .val (.ref b10), .unset, .unset, .unset] []))
  obtain ⟨T27, h27, X27, e27, E27, A27, D27, -, st27⟩ := newO X20 hx hZ5 hown5 (hw _ (own_mi 69 rfl)) (hw _ (own_mi 70 rfl)) (hw _ (own_mi 71 rfl)) rfl (g := (mkF m 106 #[.val (.int i0), .val (.int i1), .val (.int i2), .val (.long l3), .second, .val (.long l4), .second, .val (.int (Int32.ofNat K1)), .val (.int (Int32.ofNat K2)), .val (.int a), .val (.int b), .val (.int m0), .val (.int m1), .val (.int dd), .val (.ref x1), .val (.ref x2), .val (.ref b10), .unset, .unset, .unset] [])) rfl (hb hby at_106) (by decide) (by decide)
  obtain ⟨b27, g27⟩ : ∃ z, z = T20.heap.size := ⟨_, rfl⟩
  rw [← g27] at A27 D27 st27
  refine own_go st27 ?_
  have sz28 : T20.heap.size ≤ h27.size := E27.1
  have cr28 : CHr Z consts_1 T5.vm T20.heap T5.vm h27 := CHr.ext E27 CR26.1
  have CR28 := CR26.trans cr28
  have lt29 : @LT.lt Nat _ b27 h27.size := A27.lt
  have gn27 : n0 ≤ b27 := by omega
  have D27_id : Fld Z h27 b27 "com/example/cellwise/cellwise/Matrix$Training" "id" "J" (.long (0 : Int64)) := D27 (Or.inr (hw _ (own_mi 77 rfl))) (ty := .long) own_fd_J
  have D27_name : Fld Z h27 b27 "com/example/cellwise/cellwise/Matrix$Training" "name" "Ljava/lang/String;" .null := D27 (Or.inr (hw _ (own_mi 79 rfl))) (ty := (.object "java/lang/String")) own_fd_Ljava2flang2fString3b
  show own_Rn p e below _ (T27.setTop (mkF m 109 #[.val (.int i0), .val (.int i1), .val (.int i2), .val (.long l3), .second, .val (.long l4), .second, .val (.int (Int32.ofNat K1)), .val (.int (Int32.ofNat K2)), .val (.int a), .val (.int b), .val (.int m0), .val (.int m1), .val (.int dd), .val (.ref x1), .val (.ref x2), .val (.ref b10), .unset, .unset, .unset] [(.ref b27)]))
  refine own_go (fun tq kq => XS.dup X27.here hx rfl (hb hby at_109) rfl rfl kq) ?_
  show own_Rn p e below _ (T27.setTop (mkF m 110 #[.val (.int i0), .val (.int i1), .val (.int i2), .val (.long l3), .second, .val (.long l4), .second, .val (.int (Int32.ofNat K1)), .val (.int (Int32.ofNat K2)), .val (.int a), .val (.int b), .val (.int m0), .val (.int m1), .val (.int dd), .val (.ref x1), .val (.ref x2), .val (.ref b10), .unset, .unset, .unset] [(.ref b27), (.ref b27)]))
  refine own_go (fun tq kq => XS.lload X27.here hx rfl (hb hby at_110) rfl kq) ?_
  show own_Rn p e below _ (T27.setTop (mkF m 112 #[.val (.int i0), .val (.int i1), .val (.int i2), .val (.long l3), .second, .val (.long l4), .second, .val (.int (Int32.ofNat K1)), .val (.int (Int32.ofNat K2)), .val (.int a), .val (.int b), .val (.int m0), .val (.int m1), .val (.int dd), .val (.ref x1), .val (.ref x2), .val (.ref b10), .unset, .unset, .unset] [(.long l4), (.ref b27), (.ref b27)]))
  refine own_go (fun tq kq => XS.aload X27.here hx rfl (hb hby at_112) rfl rfl kq) ?_
  show own_Rn p e below _ (T27.setTop (mkF m 114 #[.val (.int i0), .val (.int i1), .val (.int i2), .val (.long l3), .second, .val (.long l4), .second, .val (.int (Int32.ofNat K1)), .val (.int (Int32.ofNat K2)), .val (.int a), .val (.int b), .val (.int m0), .val (.int m1), .val (.int dd), .val (.ref x1), .val (.ref x2), .val (.ref b10), .unset, .unset, .unset] [(.ref x2), (.long l4), (.ref b27), (.ref b27)]))
  have Zn30 : n0 ≤ h27.size := by omega
  obtain ⟨rv30, _, ⟨T30, L30, k30, n30⟩, -, X30, ⟨Lc30, hQ30, l30, y30, z30⟩, st30⟩ := X27.specialBack hx (y := (⟨"com/example/cellwise/cellwise/Matrix$Training", "<init>", "(JLjava/lang/String;)V"⟩ : MethodName)) rfl hown5 (mvT hZ5 (hw _ (own_mi 72 rfl))) (mvT hZ5 (hw _ (own_mi 73 rfl))) (mvT hZ5 (hw _ (own_mi 74 rfl))) (by decide) (backOf (W := 1) (rmTrI l Z a0 hw [] (b27) (l4) (x2) h27 n0 Zn30 A27 gn27 D27_id D27_name) hZ5 (hw _ (own_mi 74 rfl)) (hw _ (own_mi 71 rfl)) (by decide) (by decide)) (g := (mkF m 114 #[.val (.int i0), .val (.int i1), .val (.int i2), .val (.long l3), .second, .val (.long l4), .second, .val (.int (Int32.ofNat K1)), .val (.int (Int32.ofNat K2)), .val (.int a), .val (.int b), .val (.int m0), .val (.int m1), .val (.int dd), .val (.ref x1), .val (.ref x2), .val (.ref b10), .unset, .unset, .unset] [(.ref x2), (.long l4), (.ref b27), (.ref b27)])) rfl (by rw [hml]; rfl) (Steps.refl _) (a := b27) (argsL := [(.long l4), (.ref x2)]) (rest := [(.ref b27)]) (lenOf own_pd_28JLjava2flang2fString3b29V rfl) rfl (by show 2 * 0 + _ ≤ _; exact Nat.le_of_eq rfl) (hb hby at_114) (fun _ _ => ⟨rfl, e27, (by decide : 16 + 0 ≤ _), (by decide : 34 + 0 ≤ _)⟩)
  dsimp only [Pt.U, Pt.locs, Pt.cells, Pt.slots] at X30 l30 y30 z30 st30 hQ30
  subst l30 y30 z30
  obtain ⟨rfl, Nq30, Kq30, G0_30, G1_30⟩ := hQ30
  have N30 := Fr.app N20 Nq30
  have sf31 : Safe Z consts_1 T5.vm h27 b27 := Safe.exa hZ5.alike A27 (by decide) (by decide)
  have sz32 : h27.size ≤ T30.heap.size := Kq30.1
  have cr32 : CHr Z consts_1 T5.vm h27 T5.vm T30.heap := CHr.keep Kq30 (sfS sf31 sf0) CR28.1
  have CR32 := CR28.trans cr32
  refine own_go (fun tq kq => st30.trans kq) ?_
  show own_Rn p e below _ (T30.setTop (mkF m 117 #[.val (.int i0), .val (.int i1), .val (.int i2), .val (.long l3), .second, .val (.long l4), .second, .val (.int (Int32.ofNat K1)), .val (.int (Int32.ofNat K2)), .val (.int a), .val (.int b), .val (.int m0), .val (.int m1), .val (.int dd), .val (.ref x1), .val (.ref x2), .val (.ref b10), .unset, .unset, .unset] [(.ref b27)]))
  refine own_go (fun tq kq => XS.astore X30.here hx rfl (hb hby at_117) rfl rfl (l' := #[.val (.int i0), .val (.int i1), .val (.int i2), .val (.long l3), .second, .val (.long l4), .second, .val (.int (Int32.ofNat K1)), .val (.int (Int32.ofNat K2)), .val (.int a), .val (.int b), .val (.int m0), .val (.int m1), .val (.int dd), .val (.ref x1), .val (.ref x2), .val (.ref b10), .val (.ref b27), .unset, .unset]) rfl kq) ?_
  show own_Rn p e below _ (T30.setTop (mkF m 119 #[.val (.int i0), .val (.int i1), .val (.int i2), .val (.long l3), .second, .val (.long l4), .second, .val (.int (Int32.ofNat K1)), .val (.int (Int32.ofNat K2)), .val (.int a), .val (.int b), .val (.int m0), .val (.int m1), .val (.int dd), .val (.ref x1), .val (.ref x2), .val (.ref b10), .val (.ref b27), .unset, .unset] []))
  obtain ⟨T33, h33, X33, e33, E33, A33, D33, -, st33⟩ := newO X30 hx hZ5 hown5 (hw _ (own_mi 80 rfl)) (hw _ (own_mi 81 rfl)) (hw _ (own_mi 82 rfl)) rfl (g := (mkF m 119 #[.val (.int i0), .val (.int i1), .val (.int i2), .val (.long l3), .second, .val (.long l4), .second, .val (.int (Int32.ofNat K1)), .val (.int (Int32.ofNat K2)), .val (.int a), .val (.int b), .val (.int m0), .val (.int m1), .val (.int dd), .val (.ref x1), .val (.ref x2), .val (.ref b10), .val (.ref b27), .unset, .unset] [])) rfl (hb hby at_119) (by decide) (by decide)
  obtain ⟨b33, g33⟩ : ∃ z, z = T30.heap.size := ⟨_, rfl⟩
  rw [← g33] at A33 D33 st33
  refine own_go st33 ?_
  have sz34 : T30.heap.size ≤ h33.size := E33.1
  have cr34 : CHr Z consts_1 T5.vm T30.heap T5.vm h33 := CHr.ext E33 CR32.1
  have CR34 := CR32.trans cr34
  have lt35 : @LT.lt Nat _ b33 h33.size := A33.lt
  have gn33 : n0 ≤ b33 := by omega
  have D33_competency : Fld Z h33 b33 "com/example/cellwise/cellwise/Matrix$Cell" "competency" "Lcom/example/cellwise/cellwise/Matrix$Competency;" .null := D33 (Or.inr (hw _ (own_mi 88 rfl))) (ty := (.object "com/example/cellwise/cellwise/Matrix$Competency")) own_fd_Lcom2fexample2fcellwise2fcellwise2fMatrix24Competency3b
  have D33_training : Fld Z h33 b33 "com/example/cellwise/cellwise/Matrix$Cell" "training" "Lcom/example/cellwise/cellwise/Matrix$Training;" .null := D33 (Or.inr (hw _ (own_mi 90 rfl))) (ty := (.object "com/example/cellwise/cellwise/Matrix$Training")) own_fd_Lcom2fexample2fcellwise2fcellwise2fMatrix24Training3b
  show own_Rn p e below _ (T33.setTop (mkF m 122 #[.val (.int i0), .val (.int i1), .val (.int i2), .val (.long l3), .second, .val (.long l4), .second, .val (.int (Int32.ofNat K1)), .val (.int (Int32.ofNat K2)), .val (.int a), .val (.int b), .val (.int m0), .val (.int m1), .val (.int dd), .val (.ref x1), .val (.ref x2), .val (.ref b10), .val (.ref b27), .unset, .unset] [(.ref b33)]))
  refine own_go (fun tq kq => XS.dup X33.here hx rfl (hb hby at_122) rfl rfl kq) ?_
  show own_Rn p e below _ (T33.setTop (mkF m 123 #[.val (.int i0), .val (.int i1), .val (.int i2), .val (.long l3), .second, .val (.long l4), .second, .val (.int (Int32.ofNat K1)), .val (.int (Int32.ofNat K2)), .val (.int a), .val (.int b), .val (.int m0), .val (.int m1), .val (.int dd), .val (.ref x1), .val (.ref x2), .val (.ref b10), .val (.ref b27), .unset, .unset] [(.ref b33), (.ref b33)]))
  refine own_go (fun tq kq => XS.aload X33.here hx rfl (hb hby at_123) rfl rfl kq) ?_
  show own_Rn p e below _ (T33.setTop (mkF m 125 #[.val (.int i0), .val (.int i1), .val (.int i2), .val (.long l3), .second, .val (.long l4), .second, .val (.int (Int32.ofNat K1)), .val (.int (Int32.ofNat K2)), .val (.int a), .val (.int b), .val (.int m0), .val (.int m1), .val (.int dd), .val (.ref x1), .val (.ref x2), .val (.ref b10), .val (.ref b27), .unset, .unset] [(.ref b10), (.ref b33), (.ref b33)]))
  refine own_go (fun tq kq => XS.aload X33.here hx rfl (hb hby at_125) rfl rfl kq) ?_
  show own_Rn p e below _ (T33.setTop (mkF m 127 #[.val (.int i0), .val (.int i1), .val (.int i2), .val (.long l3), .second, .val (.long l4), .second, .val (.int (Int32.ofNat K1)), .val (.int (Int32.ofNat K2)), .val (.int a), .val (.int b), .val (.int m0), .val (.int m1), .val (.int dd), .val (.ref x1), .val (.ref x2), .val (.ref b10), .val (.ref b27), .unset, .unset] [(.ref b27), (.ref b10), (.ref b33), (.ref b33)]))
  have Zn36 : n0 ≤ h33.size := by omega
  obtain ⟨rv36, _, ⟨T36, L36, k36, n36⟩, -, X36, ⟨Lc36, hQ36, l36, y36, z36⟩, st36⟩ := X33.specialBack hx (y := (⟨"com/example/cellwise/cellwise/Matrix$Cell", "<init>", "(Lcom/example/cellwise/cellwise/Matrix$Competency;Lcom/example/cellwise/cellwise/Matrix$Training;)V"⟩ : MethodName)) rfl hown5 (mvT hZ5 (hw _ (own_mi 83 rfl))) (mvT hZ5 (hw _ (own_mi 84 rfl))) (mvT hZ5 (hw _ (own_mi 85 rfl))) (by decide) (backOf (W := 1) (rmCeI l Z a0 hw [] (b33) (b10) (b27) h33 n0 Zn36 A33 gn33 D33_competency D33_training) hZ5 (hw _ (own_mi 85 rfl)) (hw _ (own_mi 82 rfl)) (by decide) (by decide)) (g := (mkF m 127 #[.val (.int i0), .val (.int i1), .val (.int i2), .val (.long l3), .second, .val (.long l4), .second, .val (.int (Int32.ofNat K1)), .val (.int (Int32.ofNat K2)), .val (.int a), .val (.int b), .val (.int m0), .val (.int m1), .val (.int dd), .val (.ref x1), .val (.ref x2), .val (.ref b10), .val (.ref b27), .unset, .unset] [(.ref b27), (.ref b10), (.ref b33), (.ref b33)])) rfl (by rw [hml]; rfl) (Steps.refl _) (a := b33) (argsL := [(.ref b10), (.ref b27)]) (rest := [(.ref b33)]) (lenOf own_pd_28Lcom2fexample2fcellwise2fcellwise2fMatrix24Competency3bLcom2fexample2fcellwise2fcellwise2fMatrix24Training3b29V rfl) rfl (by show 2 * 0 + _ ≤ _; exact Nat.le_of_eq rfl) (hb hby at_127) (fun _ _ => ⟨rfl, e33, (by decide : 17 + 0 ≤ _), (by decide : 36 + 0 ≤ _)⟩)
  dsimp only [Pt.U, Pt.locs, Pt.cells, Pt.slots] at X36 l36 y36 z36 st36 hQ36
  subst l36 y36 z36
  obtain ⟨rfl, Nq36, Kq36, G0_36, G1_36⟩ := hQ36
  have N36 := Fr.app N30 Nq36
  have sf37 : Safe Z consts_1 T5.vm h33 b33 := Safe.exa hZ5.alike A33 (by decide) (by decide)
  have sz38 : h33.size ≤ T36.heap.size := Kq36.1
  have cr38 : CHr Z consts_1 T5.vm h33 T5.vm T36.heap := CHr.keep Kq36 (sfS sf37 sf0) CR34.1
  have CR38 := CR34.trans cr38
  refine own_go (fun tq kq => st36.trans kq) ?_
  show own_Rn p e below _ (T36.setTop (mkF m 130 #[.val (.int i0), .val (.int i1), .val (.int i2), .val (.long l3), .second, .val (.long l4), .second, .val (.int (Int32.ofNat K1)), .val (.int (Int32.ofNat K2)), .val (.int a), .val (.int b), .val (.int m0), .val (.int m1), .val (.int dd), .val (.ref x1), .val (.ref x2), .val (.ref b10), .val (.ref b27), .unset, .unset] [(.ref b33)]))
  have hlen : (own_es K1 a b K2 m0 m1).length = K1 + 4 + K2 := own_es_len hK1 hK2 a b m0 m1
  have Zn39 : n0 ≤ T36.heap.size := by omega
  have F40 : Exa Z T36.heap b10 "com/example/cellwise/cellwise/Matrix$Competency" := (((((F21.keep Kq20).ext E27).keep Kq30).ext E33).keep Kq36)
  have ne41 : b10 ≠ b27 := own_nea (by omega)
  have ne42 : b10 ≠ b33 := own_nea (by omega)
  have F43 : Fld Z T36.heap b10 "com/example/cellwise/cellwise/Matrix$Competency" "heading" "Ljava/lang/String;" (.ref x1) := ((((G1_20.ext E27).keep Kq30 (ninS ne41 nin0)).ext E33).keep Kq36 (ninS ne42 nin0))
  have F44 : Exa Z T36.heap b27 "com/example/cellwise/cellwise/Matrix$Training" := (((A27.keep Kq30).ext E33).keep Kq36)
  have ne45 : b27 ≠ b33 := own_nea (by omega)
  have F46 : Fld Z T36.heap b27 "com/example/cellwise/cellwise/Matrix$Training" "name" "Ljava/lang/String;" (.ref x2) := ((G1_30.ext E33).keep Kq36 (ninS ne45 nin0))
  have F47 : Exa Z T36.heap x1 "java/lang/String" := ((((((((G0_1.keep Kq5).ext E10).keep Kq13).keep Kq20).ext E27).keep Kq30).ext E33).keep Kq36)
  have ne48 : x1 ≠ b10 := own_nea (by omega)
  have ne49 : x1 ≠ b27 := own_nea (by omega)
  have ne50 : x1 ≠ b33 := own_nea (by omega)
  have F51 : Fld Z T36.heap x1 "java/lang/String" "value" "[B" (.ref t1) := ((((((((G1_1.keep Kq5 nin0).ext E10).keep Kq13 nin0).keep Kq20 (ninS ne48 nin0)).ext E27).keep Kq30 (ninS ne49 nin0)).ext E33).keep Kq36 (ninS ne50 nin0))
  have F52 : Fld Z T36.heap x1 "java/lang/String" "coder" "B" (.int (0 : Int32)) := ((((((((G2_1.keep Kq5 nin0).ext E10).keep Kq13 nin0).keep Kq20 (ninS ne48 nin0)).ext E27).keep Kq30 (ninS ne49 nin0)).ext E33).keep Kq36 (ninS ne50 nin0))
  have ne53 : t1 ≠ b10 := own_nea (by omega)
  have ne54 : t1 ≠ b27 := own_nea (by omega)
  have ne55 : t1 ≠ b33 := own_nea (by omega)
  have F56 : Arv Z T36.heap t1 k1 .byte (Int32.ofNat (own_str K1 a b).length) (own_bs (own_str K1 a b)) (.int 0) := ((((((((G3_1.keep Kq5 nin0).ext E10).keep Kq13 nin0).keep Kq20 (ninS ne53 nin0)).ext E27).keep Kq30 (ninS ne54 nin0)).ext E33).keep Kq36 (ninS ne55 nin0))
  have F57 : Exa Z T36.heap x2 "java/lang/String" := (((((((G0_5.ext E10).keep Kq13).keep Kq20).ext E27).keep Kq30).ext E33).keep Kq36)
  have ne58 : x2 ≠ b10 := own_nea (by omega)
  have ne59 : x2 ≠ b27 := own_nea (by omega)
  have ne60 : x2 ≠ b33 := own_nea (by omega)
  have F61 : Fld Z T36.heap x2 "java/lang/String" "value" "[B" (.ref t2) := (((((((G1_5.ext E10).keep Kq13 nin0).keep Kq20 (ninS ne58 nin0)).ext E27).keep Kq30 (ninS ne59 nin0)).ext E33).keep Kq36 (ninS ne60 nin0))
  have F62 : Fld Z T36.heap x2 "java/lang/String" "coder" "B" (.int (0 : Int32)) := (((((((G2_5.ext E10).keep Kq13 nin0).keep Kq20 (ninS ne58 nin0)).ext E27).keep Kq30 (ninS ne59 nin0)).ext E33).keep Kq36 (ninS ne60 nin0))
  have ne63 : t2 ≠ b10 := own_nea (by omega)
  have ne64 : t2 ≠ b27 := own_nea (by omega)
  have ne65 : t2 ≠ b33 := own_nea (by omega)
  have F66 : Arv Z T36.heap t2 k2 .byte (Int32.ofNat (own_str K2 m0 m1).length) (own_bs (own_str K2 m0 m1)) (.int 0) := (((((((G3_5.ext E10).keep Kq13 nin0).keep Kq20 (ninS ne63 nin0)).ext E27).keep Kq30 (ninS ne64 nin0)).ext E33).keep Kq36 (ninS ne65 nin0))
  have F67 : Old Z n0 T36.heap := ((((((F14.keep Kq13 all0).keep Kq20 (allS gn10 all0)).ext E27).keep Kq30 (allS gn27 all0)).ext E33).keep Kq36 (allS gn33 all0))
  have F68 : Exa Z T36.heap b33 "com/example/cellwise/cellwise/Matrix$Cell" := (A33.keep Kq36)
  obtain ⟨cq39, kq39, qa39, qb39, qc39⟩ := isOf hZ5 rfl F68
  obtain ⟨rv39, _, ⟨T39, L39, k39, n39⟩, -, X39, hS39, hG39, ⟨Lc39, hQ39, l39, y39, z39, CR39q⟩, st39⟩ := X36.virtualBackS hx (y := (⟨"com/example/cellwise/cellwise/Matrix$Cell", "name", "()Ljava/lang/String;"⟩ : MethodName)) (z := (⟨"com/example/cellwise/cellwise/Matrix$Cell", "name", "()Ljava/lang/String;"⟩ : MethodName)) hown5 (mvT hZ5 (hw _ (own_mi 91 rfl))) (mvT hZ5 (hw _ (own_mi 92 rfl))) (notFace_of_selects (args := #[]) (mvT hZ5 (hw _ (own_mi 94 rfl)))) (mvT hZ5 (hw _ (own_mi 94 rfl))) (mvT hZ5 (hw _ (own_mi 93 rfl))) (by decide) (own_backSH (W := 0) (rm := ({ frames := 6, cells := 6, slots := 59, locals := 100 } : Room)) (sf := []) (h := T36.heap) (rmName l Z a0 hw [] (b33) (b10) (b27) (x1) (t1) (k1) ((own_str K1 a b)) (x2) (t2) (k2) ((own_str K2 m0 m1)) ((own_es K1 a b K2 m0 m1)) (G1) T36.heap n0 Zn39 hEL G0_36 G1_36 F40 F43 F44 F46 F47 F51 F52 F56 F57 F61 F62 F66 (rfl) (by rw [hlen]; omega) (O2) (P5) F67) hZ5 (hw _ (own_mi 95 rfl)) (hw _ (own_mi 82 rfl)) (by decide) (by decide) hEL CR38.1 sf0) qa39 qc39 (g := (mkF m 130 #[.val (.int i0), .val (.int i1), .val (.int i2), .val (.long l3), .second, .val (.long l4), .second, .val (.int (Int32.ofNat K1)), .val (.int (Int32.ofNat K2)), .val (.int a), .val (.int b), .val (.int m0), .val (.int m1), .val (.int dd), .val (.ref x1), .val (.ref x2), .val (.ref b10), .val (.ref b27), .unset, .unset] [(.ref b33)])) rfl (by rw [hml]; rfl) (Steps.refl _) (argsL := []) (rest := []) (lenOf own_pd_2829Ljava2flang2fString3b rfl) rfl (by show 2 * 0 + _ ≤ _; exact Nat.le_of_eq rfl) (hb hby at_130) (fun _ _ => ⟨rfl, rfl, (by decide : 17 + 6 ≤ _), (by decide : 36 + 59 ≤ _)⟩)
  dsimp only [Pt.U, Pt.locs, Pt.cells, Pt.slots] at X39 l39 y39 z39 st39 hQ39 hS39 hG39 CR39q
  subst l39 y39 z39
  obtain ⟨xr, tr_, kr_, rfl, Nq39, Kq39, G0_39, G1_39, G2_39, G3_39⟩ := hQ39
  have N39 := Fr.app N36 Nq39
  obtain ⟨Xr39, hSr39, hZ39, hown39⟩ := rebS hSr5 (n1 := T36.heap.size) (by omega) X39 hS39 hG39 hZ5 hown5
  have sz69 : T36.heap.size ≤ T39.heap.size := Kq39.1
  have cr69 : CHr Z consts_1 T5.vm T36.heap T39.vm T39.heap := CR39q
  have CR69 := CR38.trans cr69
  have lt70 : @LT.lt Nat _ xr T39.heap.size := G0_39.lt
  have lt71 : @LT.lt Nat _ tr_ T39.heap.size := G3_39.lt
  refine own_go (fun tq kq => st39.trans kq) ?_
  show own_Rn p e below _ (T39.setTop (mkF m 133 #[.val (.int i0), .val (.int i1), .val (.int i2), .val (.long l3), .second, .val (.long l4), .second, .val (.int (Int32.ofNat K1)), .val (.int (Int32.ofNat K2)), .val (.int a), .val (.int b), .val (.int m0), .val (.int m1), .val (.int dd), .val (.ref x1), .val (.ref x2), .val (.ref b10), .val (.ref b27), .unset, .unset] [(.ref xr)]))
  refine own_go (fun tq kq => XS.astore Xr39.here hx rfl (hb hby at_133) rfl rfl (l' := #[.val (.int i0), .val (.int i1), .val (.int i2), .val (.long l3), .second, .val (.long l4), .second, .val (.int (Int32.ofNat K1)), .val (.int (Int32.ofNat K2)), .val (.int a), .val (.int b), .val (.int m0), .val (.int m1), .val (.int dd), .val (.ref x1), .val (.ref x2), .val (.ref b10), .val (.ref b27), .val (.ref xr), .unset]) rfl kq) ?_
  show own_Rn p e below _ (T39.setTop (mkF m 135 #[.val (.int i0), .val (.int i1), .val (.int i2), .val (.long l3), .second, .val (.long l4), .second, .val (.int (Int32.ofNat K1)), .val (.int (Int32.ofNat K2)), .val (.int a), .val (.int b), .val (.int m0), .val (.int m1), .val (.int dd), .val (.ref x1), .val (.ref x2), .val (.ref b10), .val (.ref b27), .val (.ref xr), .unset] []))
  refine own_go (fun tq kq => XS.iload Xr39.here hx rfl (hb hby at_135) rfl kq) ?_
  show own_Rn p e below _ (T39.setTop (mkF m 137 #[.val (.int i0), .val (.int i1), .val (.int i2), .val (.long l3), .second, .val (.long l4), .second, .val (.int (Int32.ofNat K1)), .val (.int (Int32.ofNat K2)), .val (.int a), .val (.int b), .val (.int m0), .val (.int m1), .val (.int dd), .val (.ref x1), .val (.ref x2), .val (.ref b10), .val (.ref b27), .val (.ref xr), .unset] [(.int (Int32.ofNat K1))]))
  refine own_go (fun tq kq => XS.iconst Xr39.here hx rfl (hb hby at_137) kq) ?_
  show own_Rn p e below _ (T39.setTop (mkF m 138 #[.val (.int i0), .val (.int i1), .val (.int i2), .val (.long l3), .second, .val (.long l4), .second, .val (.int (Int32.ofNat K1)), .val (.int (Int32.ofNat K2)), .val (.int a), .val (.int b), .val (.int m0), .val (.int m1), .val (.int dd), .val (.ref x1), .val (.ref x2), .val (.ref b10), .val (.ref b27), .val (.ref xr), .unset] [(.int (4 : Int32)), (.int (Int32.ofNat K1))]))
  refine own_go (fun tq kq => XS.iadd Xr39.here hx rfl (hb hby at_138) rfl kq) ?_
  show own_Rn p e below _ (T39.setTop (mkF m 139 #[.val (.int i0), .val (.int i1), .val (.int i2), .val (.long l3), .second, .val (.long l4), .second, .val (.int (Int32.ofNat K1)), .val (.int (Int32.ofNat K2)), .val (.int a), .val (.int b), .val (.int m0), .val (.int m1), .val (.int dd), .val (.ref x1), .val (.ref x2), .val (.ref b10), .val (.ref b27), .val (.ref xr), .unset] [(.int ((Int32.ofNat K1) + (4 : Int32)))]))
  refine own_go (fun tq kq => XS.iload Xr39.here hx rfl (hb hby at_139) rfl kq) ?_
  show own_Rn p e below _ (T39.setTop (mkF m 141 #[.val (.int i0), .val (.int i1), .val (.int i2), .val (.long l3), .second, .val (.long l4), .second, .val (.int (Int32.ofNat K1)), .val (.int (Int32.ofNat K2)), .val (.int a), .val (.int b), .val (.int m0), .val (.int m1), .val (.int dd), .val (.ref x1), .val (.ref x2), .val (.ref b10), .val (.ref b27), .val (.ref xr), .unset] [(.int (Int32.ofNat K2)), (.int ((Int32.ofNat K1) + (4 : Int32)))]))
  refine own_go (fun tq kq => XS.iadd Xr39.here hx rfl (hb hby at_141) rfl kq) ?_
  show own_Rn p e below _ (T39.setTop (mkF m 142 #[.val (.int i0), .val (.int i1), .val (.int i2), .val (.long l3), .second, .val (.long l4), .second, .val (.int (Int32.ofNat K1)), .val (.int (Int32.ofNat K2)), .val (.int a), .val (.int b), .val (.int m0), .val (.int m1), .val (.int dd), .val (.ref x1), .val (.ref x2), .val (.ref b10), .val (.ref b27), .val (.ref xr), .unset] [(.int (((Int32.ofNat K1) + (4 : Int32)) + (Int32.ofNat K2)))]))
  rw [show (((Int32.ofNat K1) + (4 : Int32)) + (Int32.ofNat K2)) = Int32.ofNat (own_es K1 a b K2 m0 m1).length by rw [hlen, own_ofNat_add, own_ofNat_add]; rfl]
  show own_Rn p e below _ (T39.setTop (mkF m 142 #[.val (.int i0), .val (.int i1), .val (.int i2), .val (.long l3), .second, .val (.long l4), .second, .val (.int (Int32.ofNat K1)), .val (.int (Int32.ofNat K2)), .val (.int a), .val (.int b), .val (.int m0), .val (.int m1), .val (.int dd), .val (.ref x1), .val (.ref x2), .val (.ref b10), .val (.ref b27), .val (.ref xr), .unset] [(.int (Int32.ofNat (own_es K1 a b K2 m0 m1).length))]))
  refine own_go (fun tq kq => XS.istore Xr39.here hx rfl (hb hby at_142) rfl (l' := #[.val (.int i0), .val (.int i1), .val (.int i2), .val (.long l3), .second, .val (.long l4), .second, .val (.int (Int32.ofNat K1)), .val (.int (Int32.ofNat K2)), .val (.int a), .val (.int b), .val (.int m0), .val (.int m1), .val (.int dd), .val (.ref x1), .val (.ref x2), .val (.ref b10), .val (.ref b27), .val (.ref xr), .val (.int (Int32.ofNat (own_es K1 a b K2 m0 m1).length))]) rfl kq) ?_
  show own_Rn p e below _ (T39.setTop (mkF m 144 #[.val (.int i0), .val (.int i1), .val (.int i2), .val (.long l3), .second, .val (.long l4), .second, .val (.int (Int32.ofNat K1)), .val (.int (Int32.ofNat K2)), .val (.int a), .val (.int b), .val (.int m0), .val (.int m1), .val (.int dd), .val (.ref x1), .val (.ref x2), .val (.ref b10), .val (.ref b27), .val (.ref xr), .val (.int (Int32.ofNat (own_es K1 a b K2 m0 m1).length))] []))
  refine own_go (fun tq kq => XS.aload Xr39.here hx rfl (hb hby at_144) rfl rfl kq) ?_
  show own_Rn p e below _ (T39.setTop (mkF m 146 #[.val (.int i0), .val (.int i1), .val (.int i2), .val (.long l3), .second, .val (.long l4), .second, .val (.int (Int32.ofNat K1)), .val (.int (Int32.ofNat K2)), .val (.int a), .val (.int b), .val (.int m0), .val (.int m1), .val (.int dd), .val (.ref x1), .val (.ref x2), .val (.ref b10), .val (.ref b27), .val (.ref xr), .val (.int (Int32.ofNat (own_es K1 a b K2 m0 m1).length))] [(.ref xr)]))
  refine own_go (fun tq kq => XS.ifnullNo Xr39.here hx rfl (hb hby at_146) rfl kq) ?_
  show own_Rn p e below _ (T39.setTop (mkF m 149 #[.val (.int i0), .val (.int i1), .val (.int i2), .val (.long l3), .second, .val (.long l4), .second, .val (.int (Int32.ofNat K1)), .val (.int (Int32.ofNat K2)), .val (.int a), .val (.int b), .val (.int m0), .val (.int m1), .val (.int dd), .val (.ref x1), .val (.ref x2), .val (.ref b10), .val (.ref b27), .val (.ref xr), .val (.int (Int32.ofNat (own_es K1 a b K2 m0 m1).length))] []))
  refine own_go (fun tq kq => XS.aload Xr39.here hx rfl (hb hby at_149) rfl rfl kq) ?_
  show own_Rn p e below _ (T39.setTop (mkF m 151 #[.val (.int i0), .val (.int i1), .val (.int i2), .val (.long l3), .second, .val (.long l4), .second, .val (.int (Int32.ofNat K1)), .val (.int (Int32.ofNat K2)), .val (.int a), .val (.int b), .val (.int m0), .val (.int m1), .val (.int dd), .val (.ref x1), .val (.ref x2), .val (.ref b10), .val (.ref b27), .val (.ref xr), .val (.int (Int32.ofNat (own_es K1 a b K2 m0 m1).length))] [(.ref xr)]))
  have Zn72 : n0 ≤ T39.heap.size := by omega
  have F73 : Old Z n0 T39.heap := (F67.keep Kq39 all0)
  obtain ⟨cq72, kq72, qa72, qb72, qc72⟩ := isOf hZ39 rfl G0_39
  obtain ⟨rv72, _, ⟨T72, L72, k72, n72⟩, -, X72, ⟨Lc72, hQ72, l72, y72, z72⟩, st72⟩ := Xr39.virtualBack hx (y := (⟨"java/lang/String", "length", "()I"⟩ : MethodName)) (z := (⟨"java/lang/String", "length", "()I"⟩ : MethodName)) hown39 (mvT hZ39 (hw _ (own_mi 217 rfl))) (mvT hZ39 (hw _ (own_mi 130 rfl))) (notFace_of_selects (args := #[]) (mvT hZ39 (hw _ (own_mi 132 rfl)))) (mvT hZ39 (hw _ (own_mi 132 rfl))) (mvT hZ39 (hw _ (own_mi 131 rfl))) (by decide) (backOf (W := 0) (rmLen l Z a0 hw [] (xr) (tr_) (kr_) ((own_es K1 a b K2 m0 m1)) (G1) T39.heap n0 Zn72 G0_39 G1_39 G2_39 G3_39 (O2) (P5) F73) hZ39 (hw _ (own_mi 133 rfl)) (hw _ (own_mi 6 rfl)) (by decide) (by decide)) qa72 qc72 (g := (mkF m 151 #[.val (.int i0), .val (.int i1), .val (.int i2), .val (.long l3), .second, .val (.long l4), .second, .val (.int (Int32.ofNat K1)), .val (.int (Int32.ofNat K2)), .val (.int a), .val (.int b), .val (.int m0), .val (.int m1), .val (.int dd), .val (.ref x1), .val (.ref x2), .val (.ref b10), .val (.ref b27), .val (.ref xr), .val (.int (Int32.ofNat (own_es K1 a b K2 m0 m1).length))] [(.ref xr)])) rfl (by rw [hml]; rfl) (Steps.refl _) (argsL := []) (rest := []) (lenOf own_pd_2829I rfl) rfl (by show 2 * 0 + _ ≤ _; exact Nat.le_of_eq rfl) (hb hby at_151) (fun _ _ => ⟨rfl, rfl, (by decide : 23 + 0 ≤ _), (by decide : 95 + 0 ≤ _)⟩)
  dsimp only [Pt.U, Pt.locs, Pt.cells, Pt.slots] at X72 l72 y72 z72 st72 hQ72
  subst l72 y72 z72
  obtain ⟨rfl, Nq72, eh72⟩ := hQ72
  have N72 := Fr.app N39 Nq72
  refine own_go (fun tq kq => st72.trans kq) ?_
  show own_Rn p e below _ (T72.setTop (mkF m 154 #[.val (.int i0), .val (.int i1), .val (.int i2), .val (.long l3), .second, .val (.long l4), .second, .val (.int (Int32.ofNat K1)), .val (.int (Int32.ofNat K2)), .val (.int a), .val (.int b), .val (.int m0), .val (.int m1), .val (.int dd), .val (.ref x1), .val (.ref x2), .val (.ref b10), .val (.ref b27), .val (.ref xr), .val (.int (Int32.ofNat (own_es K1 a b K2 m0 m1).length))] [(.int (Int32.ofNat (own_es K1 a b K2 m0 m1).length))]))
  refine own_go (fun tq kq => XS.iload X72.here hx rfl (hb hby at_154) rfl kq) ?_
  show own_Rn p e below _ (T72.setTop (mkF m 156 #[.val (.int i0), .val (.int i1), .val (.int i2), .val (.long l3), .second, .val (.long l4), .second, .val (.int (Int32.ofNat K1)), .val (.int (Int32.ofNat K2)), .val (.int a), .val (.int b), .val (.int m0), .val (.int m1), .val (.int dd), .val (.ref x1), .val (.ref x2), .val (.ref b10), .val (.ref b27), .val (.ref xr), .val (.int (Int32.ofNat (own_es K1 a b K2 m0 m1).length))] [(.int (Int32.ofNat (own_es K1 a b K2 m0 m1).length)), (.int (Int32.ofNat (own_es K1 a b K2 m0 m1).length))]))
  refine own_go (fun tq kq => XS.icmpYes X72.here hx rfl (pc0 := 156) (pc' := 161) rfl (hb hby at_156) rfl (teq (rfl : (Int32.ofNat (own_es K1 a b K2 m0 m1).length) = (Int32.ofNat (own_es K1 a b K2 m0 m1).length))).1 (by decide) (by decide) kq) ?_
  show own_Rn p e below _ (T72.setTop (mkF m 161 #[.val (.int i0), .val (.int i1), .val (.int i2), .val (.long l3), .second, .val (.long l4), .second, .val (.int (Int32.ofNat K1)), .val (.int (Int32.ofNat K2)), .val (.int a), .val (.int b), .val (.int m0), .val (.int m1), .val (.int dd), .val (.ref x1), .val (.ref x2), .val (.ref b10), .val (.ref b27), .val (.ref xr), .val (.int (Int32.ofNat (own_es K1 a b K2 m0 m1).length))] []))
  refine own_go (fun tq kq => XS.aload X72.here hx rfl (hb hby at_161) rfl rfl kq) ?_
  show own_Rn p e below _ (T72.setTop (mkF m 163 #[.val (.int i0), .val (.int i1), .val (.int i2), .val (.long l3), .second, .val (.long l4), .second, .val (.int (Int32.ofNat K1)), .val (.int (Int32.ofNat K2)), .val (.int a), .val (.int b), .val (.int m0), .val (.int m1), .val (.int dd), .val (.ref x1), .val (.ref x2), .val (.ref b10), .val (.ref b27), .val (.ref xr), .val (.int (Int32.ofNat (own_es K1 a b K2 m0 m1).length))] [(.ref xr)]))
  refine own_go (fun tq kq => XS.iconst X72.here hx rfl (hb hby at_163) kq) ?_
  show own_Rn p e below _ (T72.setTop (mkF m 164 #[.val (.int i0), .val (.int i1), .val (.int i2), .val (.long l3), .second, .val (.long l4), .second, .val (.int (Int32.ofNat K1)), .val (.int (Int32.ofNat K2)), .val (.int a), .val (.int b), .val (.int m0), .val (.int m1), .val (.int dd), .val (.ref x1), .val (.ref x2), .val (.ref b10), .val (.ref b27), .val (.ref xr), .val (.int (Int32.ofNat (own_es K1 a b K2 m0 m1).length))] [(.int (0 : Int32)), (.ref xr)]))
  refine own_go (fun tq kq => XS.iload X72.here hx rfl (hb hby at_164) rfl kq) ?_
  show own_Rn p e below _ (T72.setTop (mkF m 166 #[.val (.int i0), .val (.int i1), .val (.int i2), .val (.long l3), .second, .val (.long l4), .second, .val (.int (Int32.ofNat K1)), .val (.int (Int32.ofNat K2)), .val (.int a), .val (.int b), .val (.int m0), .val (.int m1), .val (.int dd), .val (.ref x1), .val (.ref x2), .val (.ref b10), .val (.ref b27), .val (.ref xr), .val (.int (Int32.ofNat (own_es K1 a b K2 m0 m1).length))] [(.int (Int32.ofNat (own_es K1 a b K2 m0 m1).length)), (.int (0 : Int32)), (.ref xr)]))
  refine own_go (fun tq kq => XS.iload X72.here hx rfl (hb hby at_166) rfl kq) ?_
  show own_Rn p e below _ (T72.setTop (mkF m 168 #[.val (.int i0), .val (.int i1), .val (.int i2), .val (.long l3), .second, .val (.long l4), .second, .val (.int (Int32.ofNat K1)), .val (.int (Int32.ofNat K2)), .val (.int a), .val (.int b), .val (.int m0), .val (.int m1), .val (.int dd), .val (.ref x1), .val (.ref x2), .val (.ref b10), .val (.ref b27), .val (.ref xr), .val (.int (Int32.ofNat (own_es K1 a b K2 m0 m1).length))] [(.int (Int32.ofNat K1)), (.int (Int32.ofNat (own_es K1 a b K2 m0 m1).length)), (.int (0 : Int32)), (.ref xr)]))
  refine own_go (fun tq kq => XS.iload X72.here hx rfl (hb hby at_168) rfl kq) ?_
  show own_Rn p e below _ (T72.setTop (mkF m 170 #[.val (.int i0), .val (.int i1), .val (.int i2), .val (.long l3), .second, .val (.long l4), .second, .val (.int (Int32.ofNat K1)), .val (.int (Int32.ofNat K2)), .val (.int a), .val (.int b), .val (.int m0), .val (.int m1), .val (.int dd), .val (.ref x1), .val (.ref x2), .val (.ref b10), .val (.ref b27), .val (.ref xr), .val (.int (Int32.ofNat (own_es K1 a b K2 m0 m1).length))] [(.int a), (.int (Int32.ofNat K1)), (.int (Int32.ofNat (own_es K1 a b K2 m0 m1).length)), (.int (0 : Int32)), (.ref xr)]))
  refine own_go (fun tq kq => XS.iload X72.here hx rfl (hb hby at_170) rfl kq) ?_
  show own_Rn p e below _ (T72.setTop (mkF m 172 #[.val (.int i0), .val (.int i1), .val (.int i2), .val (.long l3), .second, .val (.long l4), .second, .val (.int (Int32.ofNat K1)), .val (.int (Int32.ofNat K2)), .val (.int a), .val (.int b), .val (.int m0), .val (.int m1), .val (.int dd), .val (.ref x1), .val (.ref x2), .val (.ref b10), .val (.ref b27), .val (.ref xr), .val (.int (Int32.ofNat (own_es K1 a b K2 m0 m1).length))] [(.int b), (.int a), (.int (Int32.ofNat K1)), (.int (Int32.ofNat (own_es K1 a b K2 m0 m1).length)), (.int (0 : Int32)), (.ref xr)]))
  refine own_go (fun tq kq => XS.iload X72.here hx rfl (hb hby at_172) rfl kq) ?_
  show own_Rn p e below _ (T72.setTop (mkF m 174 #[.val (.int i0), .val (.int i1), .val (.int i2), .val (.long l3), .second, .val (.long l4), .second, .val (.int (Int32.ofNat K1)), .val (.int (Int32.ofNat K2)), .val (.int a), .val (.int b), .val (.int m0), .val (.int m1), .val (.int dd), .val (.ref x1), .val (.ref x2), .val (.ref b10), .val (.ref b27), .val (.ref xr), .val (.int (Int32.ofNat (own_es K1 a b K2 m0 m1).length))] [(.int m0), (.int b), (.int a), (.int (Int32.ofNat K1)), (.int (Int32.ofNat (own_es K1 a b K2 m0 m1).length)), (.int (0 : Int32)), (.ref xr)]))
  refine own_go (fun tq kq => XS.iload X72.here hx rfl (hb hby at_174) rfl kq) ?_
  show own_Rn p e below _ (T72.setTop (mkF m 176 #[.val (.int i0), .val (.int i1), .val (.int i2), .val (.long l3), .second, .val (.long l4), .second, .val (.int (Int32.ofNat K1)), .val (.int (Int32.ofNat K2)), .val (.int a), .val (.int b), .val (.int m0), .val (.int m1), .val (.int dd), .val (.ref x1), .val (.ref x2), .val (.ref b10), .val (.ref b27), .val (.ref xr), .val (.int (Int32.ofNat (own_es K1 a b K2 m0 m1).length))] [(.int m1), (.int m0), (.int b), (.int a), (.int (Int32.ofNat K1)), (.int (Int32.ofNat (own_es K1 a b K2 m0 m1).length)), (.int (0 : Int32)), (.ref xr)]))
  have Zn74 : n0 ≤ T39.heap.size := by omega
  obtain ⟨rv74, _, ⟨T74, L74, k74, n74⟩, -, X74, ⟨Lc74, hQ74, l74, y74, z74⟩, st74⟩ := Jvm.LawKit.callS X72 hx (y := (⟨"com/example/cellwise/cellwise/CellNamePinLaw", "at", "(Ljava/lang/String;IIICCCC)Z"⟩ : MethodName)) hown39 (mvT hZ39 (hw _ (own_mi 218 rfl))) (mvT hZ39 (hw _ (own_mi 219 rfl))) (mvT hZ39 (hw _ (own_mi 2 rfl))) (mvT hZ39 (hw _ (own_mi 220 rfl))) (by decide) (backOf (W := 0) (rmAt l Z a0 hw [] (xr) (tr_) (kr_) (K1) (K2) (0) (a) (b) (m0) (m1) (G1) (G3) T39.heap n0 Zn74 G0_39 G1_39 G2_39 G3_39 (ra) (rb) (rm0) (rm1) (hK1) (hK2) (by decide) (O2) (O4) (P5) (rG3) F73) hZ39 (hw _ (own_mi 220 rfl)) (hw _ (own_mi 2 rfl)) (by decide) (by decide)) (g := (mkF m 176 #[.val (.int i0), .val (.int i1), .val (.int i2), .val (.long l3), .second, .val (.long l4), .second, .val (.int (Int32.ofNat K1)), .val (.int (Int32.ofNat K2)), .val (.int a), .val (.int b), .val (.int m0), .val (.int m1), .val (.int dd), .val (.ref x1), .val (.ref x2), .val (.ref b10), .val (.ref b27), .val (.ref xr), .val (.int (Int32.ofNat (own_es K1 a b K2 m0 m1).length))] [(.int m1), (.int m0), (.int b), (.int a), (.int (Int32.ofNat K1)), (.int (Int32.ofNat (own_es K1 a b K2 m0 m1).length)), (.int (0 : Int32)), (.ref xr)])) rfl (by rw [hml]; rfl) (argsL := [(.ref xr), (.int (0 : Int32)), (.int (Int32.ofNat (own_es K1 a b K2 m0 m1).length)), (.int (Int32.ofNat K1)), (.int a), (.int b), (.int m0), (.int m1)]) (rest := []) (lenOf own_pd_28Ljava2flang2fString3bIIICCCC29Z rfl) rfl (by show 2 * 0 + _ ≤ _; exact Nat.le_of_eq rfl) (hb hby at_176) (fun _ _ => ⟨rfl, eh72, (by decide : 23 + 0 ≤ _), (by decide : 95 + 0 ≤ _)⟩)
  dsimp only [Pt.U, Pt.locs, Pt.cells, Pt.slots] at X74 l74 y74 z74 st74 hQ74
  subst l74 y74 z74
  obtain ⟨rfl, Nq74, eh74⟩ := hQ74
  have N74 := Fr.app N72 Nq74
  refine own_go st74 ?_
  show own_Rn p e below _ (T74.setTop (mkF m 179 #[.val (.int i0), .val (.int i1), .val (.int i2), .val (.long l3), .second, .val (.long l4), .second, .val (.int (Int32.ofNat K1)), .val (.int (Int32.ofNat K2)), .val (.int a), .val (.int b), .val (.int m0), .val (.int m1), .val (.int dd), .val (.ref x1), .val (.ref x2), .val (.ref b10), .val (.ref b27), .val (.ref xr), .val (.int (Int32.ofNat (own_es K1 a b K2 m0 m1).length))] [(.int (1 : Int32))]))
  refine own_go (fun tq kq => XS.ifNo X74.here hx rfl (hb hby at_179) rfl ((if0 _ _).trans (feq ((by decide : ¬ ((1 : Int32) = (0 : Int32))) : ¬ ((1 : Int32) = (0 : Int32)))).1) kq) ?_
  show own_Rn p e below _ (T74.setTop (mkF m 182 #[.val (.int i0), .val (.int i1), .val (.int i2), .val (.long l3), .second, .val (.long l4), .second, .val (.int (Int32.ofNat K1)), .val (.int (Int32.ofNat K2)), .val (.int a), .val (.int b), .val (.int m0), .val (.int m1), .val (.int dd), .val (.ref x1), .val (.ref x2), .val (.ref b10), .val (.ref b27), .val (.ref xr), .val (.int (Int32.ofNat (own_es K1 a b K2 m0 m1).length))] []))
  refine own_go (fun tq kq => XS.aload X74.here hx rfl (hb hby at_182) rfl rfl kq) ?_
  show own_Rn p e below _ (T74.setTop (mkF m 184 #[.val (.int i0), .val (.int i1), .val (.int i2), .val (.long l3), .second, .val (.long l4), .second, .val (.int (Int32.ofNat K1)), .val (.int (Int32.ofNat K2)), .val (.int a), .val (.int b), .val (.int m0), .val (.int m1), .val (.int dd), .val (.ref x1), .val (.ref x2), .val (.ref b10), .val (.ref b27), .val (.ref xr), .val (.int (Int32.ofNat (own_es K1 a b K2 m0 m1).length))] [(.ref xr)]))
  refine own_go (fun tq kq => XS.iconst X74.here hx rfl (hb hby at_184) kq) ?_
  show own_Rn p e below _ (T74.setTop (mkF m 185 #[.val (.int i0), .val (.int i1), .val (.int i2), .val (.long l3), .second, .val (.long l4), .second, .val (.int (Int32.ofNat K1)), .val (.int (Int32.ofNat K2)), .val (.int a), .val (.int b), .val (.int m0), .val (.int m1), .val (.int dd), .val (.ref x1), .val (.ref x2), .val (.ref b10), .val (.ref b27), .val (.ref xr), .val (.int (Int32.ofNat (own_es K1 a b K2 m0 m1).length))] [(.int (1 : Int32)), (.ref xr)]))
  refine own_go (fun tq kq => XS.iload X74.here hx rfl (hb hby at_185) rfl kq) ?_
  show own_Rn p e below _ (T74.setTop (mkF m 187 #[.val (.int i0), .val (.int i1), .val (.int i2), .val (.long l3), .second, .val (.long l4), .second, .val (.int (Int32.ofNat K1)), .val (.int (Int32.ofNat K2)), .val (.int a), .val (.int b), .val (.int m0), .val (.int m1), .val (.int dd), .val (.ref x1), .val (.ref x2), .val (.ref b10), .val (.ref b27), .val (.ref xr), .val (.int (Int32.ofNat (own_es K1 a b K2 m0 m1).length))] [(.int (Int32.ofNat (own_es K1 a b K2 m0 m1).length)), (.int (1 : Int32)), (.ref xr)]))
  refine own_go (fun tq kq => XS.iload X74.here hx rfl (hb hby at_187) rfl kq) ?_
  show own_Rn p e below _ (T74.setTop (mkF m 189 #[.val (.int i0), .val (.int i1), .val (.int i2), .val (.long l3), .second, .val (.long l4), .second, .val (.int (Int32.ofNat K1)), .val (.int (Int32.ofNat K2)), .val (.int a), .val (.int b), .val (.int m0), .val (.int m1), .val (.int dd), .val (.ref x1), .val (.ref x2), .val (.ref b10), .val (.ref b27), .val (.ref xr), .val (.int (Int32.ofNat (own_es K1 a b K2 m0 m1).length))] [(.int (Int32.ofNat K1)), (.int (Int32.ofNat (own_es K1 a b K2 m0 m1).length)), (.int (1 : Int32)), (.ref xr)]))
  refine own_go (fun tq kq => XS.iload X74.here hx rfl (hb hby at_189) rfl kq) ?_
  show own_Rn p e below _ (T74.setTop (mkF m 191 #[.val (.int i0), .val (.int i1), .val (.int i2), .val (.long l3), .second, .val (.long l4), .second, .val (.int (Int32.ofNat K1)), .val (.int (Int32.ofNat K2)), .val (.int a), .val (.int b), .val (.int m0), .val (.int m1), .val (.int dd), .val (.ref x1), .val (.ref x2), .val (.ref b10), .val (.ref b27), .val (.ref xr), .val (.int (Int32.ofNat (own_es K1 a b K2 m0 m1).length))] [(.int a), (.int (Int32.ofNat K1)), (.int (Int32.ofNat (own_es K1 a b K2 m0 m1).length)), (.int (1 : Int32)), (.ref xr)]))
  refine own_go (fun tq kq => XS.iload X74.here hx rfl (hb hby at_191) rfl kq) ?_
  show own_Rn p e below _ (T74.setTop (mkF m 193 #[.val (.int i0), .val (.int i1), .val (.int i2), .val (.long l3), .second, .val (.long l4), .second, .val (.int (Int32.ofNat K1)), .val (.int (Int32.ofNat K2)), .val (.int a), .val (.int b), .val (.int m0), .val (.int m1), .val (.int dd), .val (.ref x1), .val (.ref x2), .val (.ref b10), .val (.ref b27), .val (.ref xr), .val (.int (Int32.ofNat (own_es K1 a b K2 m0 m1).length))] [(.int b), (.int a), (.int (Int32.ofNat K1)), (.int (Int32.ofNat (own_es K1 a b K2 m0 m1).length)), (.int (1 : Int32)), (.ref xr)]))
  refine own_go (fun tq kq => XS.iload X74.here hx rfl (hb hby at_193) rfl kq) ?_
  show own_Rn p e below _ (T74.setTop (mkF m 195 #[.val (.int i0), .val (.int i1), .val (.int i2), .val (.long l3), .second, .val (.long l4), .second, .val (.int (Int32.ofNat K1)), .val (.int (Int32.ofNat K2)), .val (.int a), .val (.int b), .val (.int m0), .val (.int m1), .val (.int dd), .val (.ref x1), .val (.ref x2), .val (.ref b10), .val (.ref b27), .val (.ref xr), .val (.int (Int32.ofNat (own_es K1 a b K2 m0 m1).length))] [(.int m0), (.int b), (.int a), (.int (Int32.ofNat K1)), (.int (Int32.ofNat (own_es K1 a b K2 m0 m1).length)), (.int (1 : Int32)), (.ref xr)]))
  refine own_go (fun tq kq => XS.iload X74.here hx rfl (hb hby at_195) rfl kq) ?_
  show own_Rn p e below _ (T74.setTop (mkF m 197 #[.val (.int i0), .val (.int i1), .val (.int i2), .val (.long l3), .second, .val (.long l4), .second, .val (.int (Int32.ofNat K1)), .val (.int (Int32.ofNat K2)), .val (.int a), .val (.int b), .val (.int m0), .val (.int m1), .val (.int dd), .val (.ref x1), .val (.ref x2), .val (.ref b10), .val (.ref b27), .val (.ref xr), .val (.int (Int32.ofNat (own_es K1 a b K2 m0 m1).length))] [(.int m1), (.int m0), (.int b), (.int a), (.int (Int32.ofNat K1)), (.int (Int32.ofNat (own_es K1 a b K2 m0 m1).length)), (.int (1 : Int32)), (.ref xr)]))
  have Zn75 : n0 ≤ T39.heap.size := by omega
  obtain ⟨rv75, _, ⟨T75, L75, k75, n75⟩, -, X75, ⟨Lc75, hQ75, l75, y75, z75⟩, st75⟩ := Jvm.LawKit.callS X74 hx (y := (⟨"com/example/cellwise/cellwise/CellNamePinLaw", "at", "(Ljava/lang/String;IIICCCC)Z"⟩ : MethodName)) hown39 (mvT hZ39 (hw _ (own_mi 218 rfl))) (mvT hZ39 (hw _ (own_mi 219 rfl))) (mvT hZ39 (hw _ (own_mi 2 rfl))) (mvT hZ39 (hw _ (own_mi 220 rfl))) (by decide) (backOf (W := 0) (rmAt l Z a0 hw [] (xr) (tr_) (kr_) (K1) (K2) (1) (a) (b) (m0) (m1) (G1) (G3) T39.heap n0 Zn75 G0_39 G1_39 G2_39 G3_39 (ra) (rb) (rm0) (rm1) (hK1) (hK2) (by decide) (O2) (O4) (P5) (rG3) F73) hZ39 (hw _ (own_mi 220 rfl)) (hw _ (own_mi 2 rfl)) (by decide) (by decide)) (g := (mkF m 197 #[.val (.int i0), .val (.int i1), .val (.int i2), .val (.long l3), .second, .val (.long l4), .second, .val (.int (Int32.ofNat K1)), .val (.int (Int32.ofNat K2)), .val (.int a), .val (.int b), .val (.int m0), .val (.int m1), .val (.int dd), .val (.ref x1), .val (.ref x2), .val (.ref b10), .val (.ref b27), .val (.ref xr), .val (.int (Int32.ofNat (own_es K1 a b K2 m0 m1).length))] [(.int m1), (.int m0), (.int b), (.int a), (.int (Int32.ofNat K1)), (.int (Int32.ofNat (own_es K1 a b K2 m0 m1).length)), (.int (1 : Int32)), (.ref xr)])) rfl (by rw [hml]; rfl) (argsL := [(.ref xr), (.int (1 : Int32)), (.int (Int32.ofNat (own_es K1 a b K2 m0 m1).length)), (.int (Int32.ofNat K1)), (.int a), (.int b), (.int m0), (.int m1)]) (rest := []) (lenOf own_pd_28Ljava2flang2fString3bIIICCCC29Z rfl) rfl (by show 2 * 0 + _ ≤ _; exact Nat.le_of_eq rfl) (hb hby at_197) (fun _ _ => ⟨rfl, eh74, (by decide : 23 + 0 ≤ _), (by decide : 95 + 0 ≤ _)⟩)
  dsimp only [Pt.U, Pt.locs, Pt.cells, Pt.slots] at X75 l75 y75 z75 st75 hQ75
  subst l75 y75 z75
  obtain ⟨rfl, Nq75, eh75⟩ := hQ75
  have N75 := Fr.app N74 Nq75
  refine own_go st75 ?_
  show own_Rn p e below _ (T75.setTop (mkF m 200 #[.val (.int i0), .val (.int i1), .val (.int i2), .val (.long l3), .second, .val (.long l4), .second, .val (.int (Int32.ofNat K1)), .val (.int (Int32.ofNat K2)), .val (.int a), .val (.int b), .val (.int m0), .val (.int m1), .val (.int dd), .val (.ref x1), .val (.ref x2), .val (.ref b10), .val (.ref b27), .val (.ref xr), .val (.int (Int32.ofNat (own_es K1 a b K2 m0 m1).length))] [(.int (1 : Int32))]))
  refine own_go (fun tq kq => XS.ifNo X75.here hx rfl (hb hby at_200) rfl ((if0 _ _).trans (feq ((by decide : ¬ ((1 : Int32) = (0 : Int32))) : ¬ ((1 : Int32) = (0 : Int32)))).1) kq) ?_
  show own_Rn p e below _ (T75.setTop (mkF m 203 #[.val (.int i0), .val (.int i1), .val (.int i2), .val (.long l3), .second, .val (.long l4), .second, .val (.int (Int32.ofNat K1)), .val (.int (Int32.ofNat K2)), .val (.int a), .val (.int b), .val (.int m0), .val (.int m1), .val (.int dd), .val (.ref x1), .val (.ref x2), .val (.ref b10), .val (.ref b27), .val (.ref xr), .val (.int (Int32.ofNat (own_es K1 a b K2 m0 m1).length))] []))
  refine own_go (fun tq kq => XS.aload X75.here hx rfl (hb hby at_203) rfl rfl kq) ?_
  show own_Rn p e below _ (T75.setTop (mkF m 205 #[.val (.int i0), .val (.int i1), .val (.int i2), .val (.long l3), .second, .val (.long l4), .second, .val (.int (Int32.ofNat K1)), .val (.int (Int32.ofNat K2)), .val (.int a), .val (.int b), .val (.int m0), .val (.int m1), .val (.int dd), .val (.ref x1), .val (.ref x2), .val (.ref b10), .val (.ref b27), .val (.ref xr), .val (.int (Int32.ofNat (own_es K1 a b K2 m0 m1).length))] [(.ref xr)]))
  refine own_go (fun tq kq => XS.iconst X75.here hx rfl (hb hby at_205) kq) ?_
  show own_Rn p e below _ (T75.setTop (mkF m 206 #[.val (.int i0), .val (.int i1), .val (.int i2), .val (.long l3), .second, .val (.long l4), .second, .val (.int (Int32.ofNat K1)), .val (.int (Int32.ofNat K2)), .val (.int a), .val (.int b), .val (.int m0), .val (.int m1), .val (.int dd), .val (.ref x1), .val (.ref x2), .val (.ref b10), .val (.ref b27), .val (.ref xr), .val (.int (Int32.ofNat (own_es K1 a b K2 m0 m1).length))] [(.int (2 : Int32)), (.ref xr)]))
  refine own_go (fun tq kq => XS.iload X75.here hx rfl (hb hby at_206) rfl kq) ?_
  show own_Rn p e below _ (T75.setTop (mkF m 208 #[.val (.int i0), .val (.int i1), .val (.int i2), .val (.long l3), .second, .val (.long l4), .second, .val (.int (Int32.ofNat K1)), .val (.int (Int32.ofNat K2)), .val (.int a), .val (.int b), .val (.int m0), .val (.int m1), .val (.int dd), .val (.ref x1), .val (.ref x2), .val (.ref b10), .val (.ref b27), .val (.ref xr), .val (.int (Int32.ofNat (own_es K1 a b K2 m0 m1).length))] [(.int (Int32.ofNat (own_es K1 a b K2 m0 m1).length)), (.int (2 : Int32)), (.ref xr)]))
  refine own_go (fun tq kq => XS.iload X75.here hx rfl (hb hby at_208) rfl kq) ?_
  show own_Rn p e below _ (T75.setTop (mkF m 210 #[.val (.int i0), .val (.int i1), .val (.int i2), .val (.long l3), .second, .val (.long l4), .second, .val (.int (Int32.ofNat K1)), .val (.int (Int32.ofNat K2)), .val (.int a), .val (.int b), .val (.int m0), .val (.int m1), .val (.int dd), .val (.ref x1), .val (.ref x2), .val (.ref b10), .val (.ref b27), .val (.ref xr), .val (.int (Int32.ofNat (own_es K1 a b K2 m0 m1).length))] [(.int (Int32.ofNat K1)), (.int (Int32.ofNat (own_es K1 a b K2 m0 m1).length)), (.int (2 : Int32)), (.ref xr)]))
  refine own_go (fun tq kq => XS.iload X75.here hx rfl (hb hby at_210) rfl kq) ?_
  show own_Rn p e below _ (T75.setTop (mkF m 212 #[.val (.int i0), .val (.int i1), .val (.int i2), .val (.long l3), .second, .val (.long l4), .second, .val (.int (Int32.ofNat K1)), .val (.int (Int32.ofNat K2)), .val (.int a), .val (.int b), .val (.int m0), .val (.int m1), .val (.int dd), .val (.ref x1), .val (.ref x2), .val (.ref b10), .val (.ref b27), .val (.ref xr), .val (.int (Int32.ofNat (own_es K1 a b K2 m0 m1).length))] [(.int a), (.int (Int32.ofNat K1)), (.int (Int32.ofNat (own_es K1 a b K2 m0 m1).length)), (.int (2 : Int32)), (.ref xr)]))
  refine own_go (fun tq kq => XS.iload X75.here hx rfl (hb hby at_212) rfl kq) ?_
  show own_Rn p e below _ (T75.setTop (mkF m 214 #[.val (.int i0), .val (.int i1), .val (.int i2), .val (.long l3), .second, .val (.long l4), .second, .val (.int (Int32.ofNat K1)), .val (.int (Int32.ofNat K2)), .val (.int a), .val (.int b), .val (.int m0), .val (.int m1), .val (.int dd), .val (.ref x1), .val (.ref x2), .val (.ref b10), .val (.ref b27), .val (.ref xr), .val (.int (Int32.ofNat (own_es K1 a b K2 m0 m1).length))] [(.int b), (.int a), (.int (Int32.ofNat K1)), (.int (Int32.ofNat (own_es K1 a b K2 m0 m1).length)), (.int (2 : Int32)), (.ref xr)]))
  refine own_go (fun tq kq => XS.iload X75.here hx rfl (hb hby at_214) rfl kq) ?_
  show own_Rn p e below _ (T75.setTop (mkF m 216 #[.val (.int i0), .val (.int i1), .val (.int i2), .val (.long l3), .second, .val (.long l4), .second, .val (.int (Int32.ofNat K1)), .val (.int (Int32.ofNat K2)), .val (.int a), .val (.int b), .val (.int m0), .val (.int m1), .val (.int dd), .val (.ref x1), .val (.ref x2), .val (.ref b10), .val (.ref b27), .val (.ref xr), .val (.int (Int32.ofNat (own_es K1 a b K2 m0 m1).length))] [(.int m0), (.int b), (.int a), (.int (Int32.ofNat K1)), (.int (Int32.ofNat (own_es K1 a b K2 m0 m1).length)), (.int (2 : Int32)), (.ref xr)]))
  refine own_go (fun tq kq => XS.iload X75.here hx rfl (hb hby at_216) rfl kq) ?_
  show own_Rn p e below _ (T75.setTop (mkF m 218 #[.val (.int i0), .val (.int i1), .val (.int i2), .val (.long l3), .second, .val (.long l4), .second, .val (.int (Int32.ofNat K1)), .val (.int (Int32.ofNat K2)), .val (.int a), .val (.int b), .val (.int m0), .val (.int m1), .val (.int dd), .val (.ref x1), .val (.ref x2), .val (.ref b10), .val (.ref b27), .val (.ref xr), .val (.int (Int32.ofNat (own_es K1 a b K2 m0 m1).length))] [(.int m1), (.int m0), (.int b), (.int a), (.int (Int32.ofNat K1)), (.int (Int32.ofNat (own_es K1 a b K2 m0 m1).length)), (.int (2 : Int32)), (.ref xr)]))
  have Zn76 : n0 ≤ T39.heap.size := by omega
  obtain ⟨rv76, _, ⟨T76, L76, k76, n76⟩, -, X76, ⟨Lc76, hQ76, l76, y76, z76⟩, st76⟩ := Jvm.LawKit.callS X75 hx (y := (⟨"com/example/cellwise/cellwise/CellNamePinLaw", "at", "(Ljava/lang/String;IIICCCC)Z"⟩ : MethodName)) hown39 (mvT hZ39 (hw _ (own_mi 218 rfl))) (mvT hZ39 (hw _ (own_mi 219 rfl))) (mvT hZ39 (hw _ (own_mi 2 rfl))) (mvT hZ39 (hw _ (own_mi 220 rfl))) (by decide) (backOf (W := 0) (rmAt l Z a0 hw [] (xr) (tr_) (kr_) (K1) (K2) (2) (a) (b) (m0) (m1) (G1) (G3) T39.heap n0 Zn76 G0_39 G1_39 G2_39 G3_39 (ra) (rb) (rm0) (rm1) (hK1) (hK2) (by decide) (O2) (O4) (P5) (rG3) F73) hZ39 (hw _ (own_mi 220 rfl)) (hw _ (own_mi 2 rfl)) (by decide) (by decide)) (g := (mkF m 218 #[.val (.int i0), .val (.int i1), .val (.int i2), .val (.long l3), .second, .val (.long l4), .second, .val (.int (Int32.ofNat K1)), .val (.int (Int32.ofNat K2)), .val (.int a), .val (.int b), .val (.int m0), .val (.int m1), .val (.int dd), .val (.ref x1), .val (.ref x2), .val (.ref b10), .val (.ref b27), .val (.ref xr), .val (.int (Int32.ofNat (own_es K1 a b K2 m0 m1).length))] [(.int m1), (.int m0), (.int b), (.int a), (.int (Int32.ofNat K1)), (.int (Int32.ofNat (own_es K1 a b K2 m0 m1).length)), (.int (2 : Int32)), (.ref xr)])) rfl (by rw [hml]; rfl) (argsL := [(.ref xr), (.int (2 : Int32)), (.int (Int32.ofNat (own_es K1 a b K2 m0 m1).length)), (.int (Int32.ofNat K1)), (.int a), (.int b), (.int m0), (.int m1)]) (rest := []) (lenOf own_pd_28Ljava2flang2fString3bIIICCCC29Z rfl) rfl (by show 2 * 0 + _ ≤ _; exact Nat.le_of_eq rfl) (hb hby at_218) (fun _ _ => ⟨rfl, eh75, (by decide : 23 + 0 ≤ _), (by decide : 95 + 0 ≤ _)⟩)
  dsimp only [Pt.U, Pt.locs, Pt.cells, Pt.slots] at X76 l76 y76 z76 st76 hQ76
  subst l76 y76 z76
  obtain ⟨rfl, Nq76, eh76⟩ := hQ76
  have N76 := Fr.app N75 Nq76
  refine own_go st76 ?_
  show own_Rn p e below _ (T76.setTop (mkF m 221 #[.val (.int i0), .val (.int i1), .val (.int i2), .val (.long l3), .second, .val (.long l4), .second, .val (.int (Int32.ofNat K1)), .val (.int (Int32.ofNat K2)), .val (.int a), .val (.int b), .val (.int m0), .val (.int m1), .val (.int dd), .val (.ref x1), .val (.ref x2), .val (.ref b10), .val (.ref b27), .val (.ref xr), .val (.int (Int32.ofNat (own_es K1 a b K2 m0 m1).length))] [(.int (1 : Int32))]))
  refine own_go (fun tq kq => XS.ifNo X76.here hx rfl (hb hby at_221) rfl ((if0 _ _).trans (feq ((by decide : ¬ ((1 : Int32) = (0 : Int32))) : ¬ ((1 : Int32) = (0 : Int32)))).1) kq) ?_
  show own_Rn p e below _ (T76.setTop (mkF m 224 #[.val (.int i0), .val (.int i1), .val (.int i2), .val (.long l3), .second, .val (.long l4), .second, .val (.int (Int32.ofNat K1)), .val (.int (Int32.ofNat K2)), .val (.int a), .val (.int b), .val (.int m0), .val (.int m1), .val (.int dd), .val (.ref x1), .val (.ref x2), .val (.ref b10), .val (.ref b27), .val (.ref xr), .val (.int (Int32.ofNat (own_es K1 a b K2 m0 m1).length))] []))
  refine own_go (fun tq kq => XS.aload X76.here hx rfl (hb hby at_224) rfl rfl kq) ?_
  show own_Rn p e below _ (T76.setTop (mkF m 226 #[.val (.int i0), .val (.int i1), .val (.int i2), .val (.long l3), .second, .val (.long l4), .second, .val (.int (Int32.ofNat K1)), .val (.int (Int32.ofNat K2)), .val (.int a), .val (.int b), .val (.int m0), .val (.int m1), .val (.int dd), .val (.ref x1), .val (.ref x2), .val (.ref b10), .val (.ref b27), .val (.ref xr), .val (.int (Int32.ofNat (own_es K1 a b K2 m0 m1).length))] [(.ref xr)]))
  refine own_go (fun tq kq => XS.iconst X76.here hx rfl (hb hby at_226) kq) ?_
  show own_Rn p e below _ (T76.setTop (mkF m 227 #[.val (.int i0), .val (.int i1), .val (.int i2), .val (.long l3), .second, .val (.long l4), .second, .val (.int (Int32.ofNat K1)), .val (.int (Int32.ofNat K2)), .val (.int a), .val (.int b), .val (.int m0), .val (.int m1), .val (.int dd), .val (.ref x1), .val (.ref x2), .val (.ref b10), .val (.ref b27), .val (.ref xr), .val (.int (Int32.ofNat (own_es K1 a b K2 m0 m1).length))] [(.int (3 : Int32)), (.ref xr)]))
  refine own_go (fun tq kq => XS.iload X76.here hx rfl (hb hby at_227) rfl kq) ?_
  show own_Rn p e below _ (T76.setTop (mkF m 229 #[.val (.int i0), .val (.int i1), .val (.int i2), .val (.long l3), .second, .val (.long l4), .second, .val (.int (Int32.ofNat K1)), .val (.int (Int32.ofNat K2)), .val (.int a), .val (.int b), .val (.int m0), .val (.int m1), .val (.int dd), .val (.ref x1), .val (.ref x2), .val (.ref b10), .val (.ref b27), .val (.ref xr), .val (.int (Int32.ofNat (own_es K1 a b K2 m0 m1).length))] [(.int (Int32.ofNat (own_es K1 a b K2 m0 m1).length)), (.int (3 : Int32)), (.ref xr)]))
  refine own_go (fun tq kq => XS.iload X76.here hx rfl (hb hby at_229) rfl kq) ?_
  show own_Rn p e below _ (T76.setTop (mkF m 231 #[.val (.int i0), .val (.int i1), .val (.int i2), .val (.long l3), .second, .val (.long l4), .second, .val (.int (Int32.ofNat K1)), .val (.int (Int32.ofNat K2)), .val (.int a), .val (.int b), .val (.int m0), .val (.int m1), .val (.int dd), .val (.ref x1), .val (.ref x2), .val (.ref b10), .val (.ref b27), .val (.ref xr), .val (.int (Int32.ofNat (own_es K1 a b K2 m0 m1).length))] [(.int (Int32.ofNat K1)), (.int (Int32.ofNat (own_es K1 a b K2 m0 m1).length)), (.int (3 : Int32)), (.ref xr)]))
  refine own_go (fun tq kq => XS.iload X76.here hx rfl (hb hby at_231) rfl kq) ?_
  show own_Rn p e below _ (T76.setTop (mkF m 233 #[.val (.int i0), .val (.int i1), .val (.int i2), .val (.long l3), .second, .val (.long l4), .second, .val (.int (Int32.ofNat K1)), .val (.int (Int32.ofNat K2)), .val (.int a), .val (.int b), .val (.int m0), .val (.int m1), .val (.int dd), .val (.ref x1), .val (.ref x2), .val (.ref b10), .val (.ref b27), .val (.ref xr), .val (.int (Int32.ofNat (own_es K1 a b K2 m0 m1).length))] [(.int a), (.int (Int32.ofNat K1)), (.int (Int32.ofNat (own_es K1 a b K2 m0 m1).length)), (.int (3 : Int32)), (.ref xr)]))
  refine own_go (fun tq kq => XS.iload X76.here hx rfl (hb hby at_233) rfl kq) ?_
  show own_Rn p e below _ (T76.setTop (mkF m 235 #[.val (.int i0), .val (.int i1), .val (.int i2), .val (.long l3), .second, .val (.long l4), .second, .val (.int (Int32.ofNat K1)), .val (.int (Int32.ofNat K2)), .val (.int a), .val (.int b), .val (.int m0), .val (.int m1), .val (.int dd), .val (.ref x1), .val (.ref x2), .val (.ref b10), .val (.ref b27), .val (.ref xr), .val (.int (Int32.ofNat (own_es K1 a b K2 m0 m1).length))] [(.int b), (.int a), (.int (Int32.ofNat K1)), (.int (Int32.ofNat (own_es K1 a b K2 m0 m1).length)), (.int (3 : Int32)), (.ref xr)]))
  refine own_go (fun tq kq => XS.iload X76.here hx rfl (hb hby at_235) rfl kq) ?_
  show own_Rn p e below _ (T76.setTop (mkF m 237 #[.val (.int i0), .val (.int i1), .val (.int i2), .val (.long l3), .second, .val (.long l4), .second, .val (.int (Int32.ofNat K1)), .val (.int (Int32.ofNat K2)), .val (.int a), .val (.int b), .val (.int m0), .val (.int m1), .val (.int dd), .val (.ref x1), .val (.ref x2), .val (.ref b10), .val (.ref b27), .val (.ref xr), .val (.int (Int32.ofNat (own_es K1 a b K2 m0 m1).length))] [(.int m0), (.int b), (.int a), (.int (Int32.ofNat K1)), (.int (Int32.ofNat (own_es K1 a b K2 m0 m1).length)), (.int (3 : Int32)), (.ref xr)]))
  refine own_go (fun tq kq => XS.iload X76.here hx rfl (hb hby at_237) rfl kq) ?_
  show own_Rn p e below _ (T76.setTop (mkF m 239 #[.val (.int i0), .val (.int i1), .val (.int i2), .val (.long l3), .second, .val (.long l4), .second, .val (.int (Int32.ofNat K1)), .val (.int (Int32.ofNat K2)), .val (.int a), .val (.int b), .val (.int m0), .val (.int m1), .val (.int dd), .val (.ref x1), .val (.ref x2), .val (.ref b10), .val (.ref b27), .val (.ref xr), .val (.int (Int32.ofNat (own_es K1 a b K2 m0 m1).length))] [(.int m1), (.int m0), (.int b), (.int a), (.int (Int32.ofNat K1)), (.int (Int32.ofNat (own_es K1 a b K2 m0 m1).length)), (.int (3 : Int32)), (.ref xr)]))
  have Zn77 : n0 ≤ T39.heap.size := by omega
  obtain ⟨rv77, _, ⟨T77, L77, k77, n77⟩, -, X77, ⟨Lc77, hQ77, l77, y77, z77⟩, st77⟩ := Jvm.LawKit.callS X76 hx (y := (⟨"com/example/cellwise/cellwise/CellNamePinLaw", "at", "(Ljava/lang/String;IIICCCC)Z"⟩ : MethodName)) hown39 (mvT hZ39 (hw _ (own_mi 218 rfl))) (mvT hZ39 (hw _ (own_mi 219 rfl))) (mvT hZ39 (hw _ (own_mi 2 rfl))) (mvT hZ39 (hw _ (own_mi 220 rfl))) (by decide) (backOf (W := 0) (rmAt l Z a0 hw [] (xr) (tr_) (kr_) (K1) (K2) (3) (a) (b) (m0) (m1) (G1) (G3) T39.heap n0 Zn77 G0_39 G1_39 G2_39 G3_39 (ra) (rb) (rm0) (rm1) (hK1) (hK2) (by decide) (O2) (O4) (P5) (rG3) F73) hZ39 (hw _ (own_mi 220 rfl)) (hw _ (own_mi 2 rfl)) (by decide) (by decide)) (g := (mkF m 239 #[.val (.int i0), .val (.int i1), .val (.int i2), .val (.long l3), .second, .val (.long l4), .second, .val (.int (Int32.ofNat K1)), .val (.int (Int32.ofNat K2)), .val (.int a), .val (.int b), .val (.int m0), .val (.int m1), .val (.int dd), .val (.ref x1), .val (.ref x2), .val (.ref b10), .val (.ref b27), .val (.ref xr), .val (.int (Int32.ofNat (own_es K1 a b K2 m0 m1).length))] [(.int m1), (.int m0), (.int b), (.int a), (.int (Int32.ofNat K1)), (.int (Int32.ofNat (own_es K1 a b K2 m0 m1).length)), (.int (3 : Int32)), (.ref xr)])) rfl (by rw [hml]; rfl) (argsL := [(.ref xr), (.int (3 : Int32)), (.int (Int32.ofNat (own_es K1 a b K2 m0 m1).length)), (.int (Int32.ofNat K1)), (.int a), (.int b), (.int m0), (.int m1)]) (rest := []) (lenOf own_pd_28Ljava2flang2fString3bIIICCCC29Z rfl) rfl (by show 2 * 0 + _ ≤ _; exact Nat.le_of_eq rfl) (hb hby at_239) (fun _ _ => ⟨rfl, eh76, (by decide : 23 + 0 ≤ _), (by decide : 95 + 0 ≤ _)⟩)
  dsimp only [Pt.U, Pt.locs, Pt.cells, Pt.slots] at X77 l77 y77 z77 st77 hQ77
  subst l77 y77 z77
  obtain ⟨rfl, Nq77, eh77⟩ := hQ77
  have N77 := Fr.app N76 Nq77
  refine own_go st77 ?_
  show own_Rn p e below _ (T77.setTop (mkF m 242 #[.val (.int i0), .val (.int i1), .val (.int i2), .val (.long l3), .second, .val (.long l4), .second, .val (.int (Int32.ofNat K1)), .val (.int (Int32.ofNat K2)), .val (.int a), .val (.int b), .val (.int m0), .val (.int m1), .val (.int dd), .val (.ref x1), .val (.ref x2), .val (.ref b10), .val (.ref b27), .val (.ref xr), .val (.int (Int32.ofNat (own_es K1 a b K2 m0 m1).length))] [(.int (1 : Int32))]))
  refine own_go (fun tq kq => XS.ifNo X77.here hx rfl (hb hby at_242) rfl ((if0 _ _).trans (feq ((by decide : ¬ ((1 : Int32) = (0 : Int32))) : ¬ ((1 : Int32) = (0 : Int32)))).1) kq) ?_
  show own_Rn p e below _ (T77.setTop (mkF m 245 #[.val (.int i0), .val (.int i1), .val (.int i2), .val (.long l3), .second, .val (.long l4), .second, .val (.int (Int32.ofNat K1)), .val (.int (Int32.ofNat K2)), .val (.int a), .val (.int b), .val (.int m0), .val (.int m1), .val (.int dd), .val (.ref x1), .val (.ref x2), .val (.ref b10), .val (.ref b27), .val (.ref xr), .val (.int (Int32.ofNat (own_es K1 a b K2 m0 m1).length))] []))
  refine own_go (fun tq kq => XS.aload X77.here hx rfl (hb hby at_245) rfl rfl kq) ?_
  show own_Rn p e below _ (T77.setTop (mkF m 247 #[.val (.int i0), .val (.int i1), .val (.int i2), .val (.long l3), .second, .val (.long l4), .second, .val (.int (Int32.ofNat K1)), .val (.int (Int32.ofNat K2)), .val (.int a), .val (.int b), .val (.int m0), .val (.int m1), .val (.int dd), .val (.ref x1), .val (.ref x2), .val (.ref b10), .val (.ref b27), .val (.ref xr), .val (.int (Int32.ofNat (own_es K1 a b K2 m0 m1).length))] [(.ref xr)]))
  refine own_go (fun tq kq => XS.iconst X77.here hx rfl (hb hby at_247) kq) ?_
  show own_Rn p e below _ (T77.setTop (mkF m 248 #[.val (.int i0), .val (.int i1), .val (.int i2), .val (.long l3), .second, .val (.long l4), .second, .val (.int (Int32.ofNat K1)), .val (.int (Int32.ofNat K2)), .val (.int a), .val (.int b), .val (.int m0), .val (.int m1), .val (.int dd), .val (.ref x1), .val (.ref x2), .val (.ref b10), .val (.ref b27), .val (.ref xr), .val (.int (Int32.ofNat (own_es K1 a b K2 m0 m1).length))] [(.int (4 : Int32)), (.ref xr)]))
  refine own_go (fun tq kq => XS.iload X77.here hx rfl (hb hby at_248) rfl kq) ?_
  show own_Rn p e below _ (T77.setTop (mkF m 250 #[.val (.int i0), .val (.int i1), .val (.int i2), .val (.long l3), .second, .val (.long l4), .second, .val (.int (Int32.ofNat K1)), .val (.int (Int32.ofNat K2)), .val (.int a), .val (.int b), .val (.int m0), .val (.int m1), .val (.int dd), .val (.ref x1), .val (.ref x2), .val (.ref b10), .val (.ref b27), .val (.ref xr), .val (.int (Int32.ofNat (own_es K1 a b K2 m0 m1).length))] [(.int (Int32.ofNat (own_es K1 a b K2 m0 m1).length)), (.int (4 : Int32)), (.ref xr)]))
  refine own_go (fun tq kq => XS.iload X77.here hx rfl (hb hby at_250) rfl kq) ?_
  show own_Rn p e below _ (T77.setTop (mkF m 252 #[.val (.int i0), .val (.int i1), .val (.int i2), .val (.long l3), .second, .val (.long l4), .second, .val (.int (Int32.ofNat K1)), .val (.int (Int32.ofNat K2)), .val (.int a), .val (.int b), .val (.int m0), .val (.int m1), .val (.int dd), .val (.ref x1), .val (.ref x2), .val (.ref b10), .val (.ref b27), .val (.ref xr), .val (.int (Int32.ofNat (own_es K1 a b K2 m0 m1).length))] [(.int (Int32.ofNat K1)), (.int (Int32.ofNat (own_es K1 a b K2 m0 m1).length)), (.int (4 : Int32)), (.ref xr)]))
  refine own_go (fun tq kq => XS.iload X77.here hx rfl (hb hby at_252) rfl kq) ?_
  show own_Rn p e below _ (T77.setTop (mkF m 254 #[.val (.int i0), .val (.int i1), .val (.int i2), .val (.long l3), .second, .val (.long l4), .second, .val (.int (Int32.ofNat K1)), .val (.int (Int32.ofNat K2)), .val (.int a), .val (.int b), .val (.int m0), .val (.int m1), .val (.int dd), .val (.ref x1), .val (.ref x2), .val (.ref b10), .val (.ref b27), .val (.ref xr), .val (.int (Int32.ofNat (own_es K1 a b K2 m0 m1).length))] [(.int a), (.int (Int32.ofNat K1)), (.int (Int32.ofNat (own_es K1 a b K2 m0 m1).length)), (.int (4 : Int32)), (.ref xr)]))
  refine own_go (fun tq kq => XS.iload X77.here hx rfl (hb hby at_254) rfl kq) ?_
  show own_Rn p e below _ (T77.setTop (mkF m 256 #[.val (.int i0), .val (.int i1), .val (.int i2), .val (.long l3), .second, .val (.long l4), .second, .val (.int (Int32.ofNat K1)), .val (.int (Int32.ofNat K2)), .val (.int a), .val (.int b), .val (.int m0), .val (.int m1), .val (.int dd), .val (.ref x1), .val (.ref x2), .val (.ref b10), .val (.ref b27), .val (.ref xr), .val (.int (Int32.ofNat (own_es K1 a b K2 m0 m1).length))] [(.int b), (.int a), (.int (Int32.ofNat K1)), (.int (Int32.ofNat (own_es K1 a b K2 m0 m1).length)), (.int (4 : Int32)), (.ref xr)]))
  refine own_go (fun tq kq => XS.iload X77.here hx rfl (hb hby at_256) rfl kq) ?_
  show own_Rn p e below _ (T77.setTop (mkF m 258 #[.val (.int i0), .val (.int i1), .val (.int i2), .val (.long l3), .second, .val (.long l4), .second, .val (.int (Int32.ofNat K1)), .val (.int (Int32.ofNat K2)), .val (.int a), .val (.int b), .val (.int m0), .val (.int m1), .val (.int dd), .val (.ref x1), .val (.ref x2), .val (.ref b10), .val (.ref b27), .val (.ref xr), .val (.int (Int32.ofNat (own_es K1 a b K2 m0 m1).length))] [(.int m0), (.int b), (.int a), (.int (Int32.ofNat K1)), (.int (Int32.ofNat (own_es K1 a b K2 m0 m1).length)), (.int (4 : Int32)), (.ref xr)]))
  refine own_go (fun tq kq => XS.iload X77.here hx rfl (hb hby at_258) rfl kq) ?_
  show own_Rn p e below _ (T77.setTop (mkF m 260 #[.val (.int i0), .val (.int i1), .val (.int i2), .val (.long l3), .second, .val (.long l4), .second, .val (.int (Int32.ofNat K1)), .val (.int (Int32.ofNat K2)), .val (.int a), .val (.int b), .val (.int m0), .val (.int m1), .val (.int dd), .val (.ref x1), .val (.ref x2), .val (.ref b10), .val (.ref b27), .val (.ref xr), .val (.int (Int32.ofNat (own_es K1 a b K2 m0 m1).length))] [(.int m1), (.int m0), (.int b), (.int a), (.int (Int32.ofNat K1)), (.int (Int32.ofNat (own_es K1 a b K2 m0 m1).length)), (.int (4 : Int32)), (.ref xr)]))
  have Zn78 : n0 ≤ T39.heap.size := by omega
  obtain ⟨rv78, _, ⟨T78, L78, k78, n78⟩, -, X78, ⟨Lc78, hQ78, l78, y78, z78⟩, st78⟩ := Jvm.LawKit.callS X77 hx (y := (⟨"com/example/cellwise/cellwise/CellNamePinLaw", "at", "(Ljava/lang/String;IIICCCC)Z"⟩ : MethodName)) hown39 (mvT hZ39 (hw _ (own_mi 218 rfl))) (mvT hZ39 (hw _ (own_mi 219 rfl))) (mvT hZ39 (hw _ (own_mi 2 rfl))) (mvT hZ39 (hw _ (own_mi 220 rfl))) (by decide) (backOf (W := 0) (rmAt l Z a0 hw [] (xr) (tr_) (kr_) (K1) (K2) (4) (a) (b) (m0) (m1) (G1) (G3) T39.heap n0 Zn78 G0_39 G1_39 G2_39 G3_39 (ra) (rb) (rm0) (rm1) (hK1) (hK2) (by decide) (O2) (O4) (P5) (rG3) F73) hZ39 (hw _ (own_mi 220 rfl)) (hw _ (own_mi 2 rfl)) (by decide) (by decide)) (g := (mkF m 260 #[.val (.int i0), .val (.int i1), .val (.int i2), .val (.long l3), .second, .val (.long l4), .second, .val (.int (Int32.ofNat K1)), .val (.int (Int32.ofNat K2)), .val (.int a), .val (.int b), .val (.int m0), .val (.int m1), .val (.int dd), .val (.ref x1), .val (.ref x2), .val (.ref b10), .val (.ref b27), .val (.ref xr), .val (.int (Int32.ofNat (own_es K1 a b K2 m0 m1).length))] [(.int m1), (.int m0), (.int b), (.int a), (.int (Int32.ofNat K1)), (.int (Int32.ofNat (own_es K1 a b K2 m0 m1).length)), (.int (4 : Int32)), (.ref xr)])) rfl (by rw [hml]; rfl) (argsL := [(.ref xr), (.int (4 : Int32)), (.int (Int32.ofNat (own_es K1 a b K2 m0 m1).length)), (.int (Int32.ofNat K1)), (.int a), (.int b), (.int m0), (.int m1)]) (rest := []) (lenOf own_pd_28Ljava2flang2fString3bIIICCCC29Z rfl) rfl (by show 2 * 0 + _ ≤ _; exact Nat.le_of_eq rfl) (hb hby at_260) (fun _ _ => ⟨rfl, eh77, (by decide : 23 + 0 ≤ _), (by decide : 95 + 0 ≤ _)⟩)
  dsimp only [Pt.U, Pt.locs, Pt.cells, Pt.slots] at X78 l78 y78 z78 st78 hQ78
  subst l78 y78 z78
  obtain ⟨rfl, Nq78, eh78⟩ := hQ78
  have N78 := Fr.app N77 Nq78
  refine own_go st78 ?_
  show own_Rn p e below _ (T78.setTop (mkF m 263 #[.val (.int i0), .val (.int i1), .val (.int i2), .val (.long l3), .second, .val (.long l4), .second, .val (.int (Int32.ofNat K1)), .val (.int (Int32.ofNat K2)), .val (.int a), .val (.int b), .val (.int m0), .val (.int m1), .val (.int dd), .val (.ref x1), .val (.ref x2), .val (.ref b10), .val (.ref b27), .val (.ref xr), .val (.int (Int32.ofNat (own_es K1 a b K2 m0 m1).length))] [(.int (1 : Int32))]))
  refine own_go (fun tq kq => XS.ifNo X78.here hx rfl (hb hby at_263) rfl ((if0 _ _).trans (feq ((by decide : ¬ ((1 : Int32) = (0 : Int32))) : ¬ ((1 : Int32) = (0 : Int32)))).1) kq) ?_
  show own_Rn p e below _ (T78.setTop (mkF m 266 #[.val (.int i0), .val (.int i1), .val (.int i2), .val (.long l3), .second, .val (.long l4), .second, .val (.int (Int32.ofNat K1)), .val (.int (Int32.ofNat K2)), .val (.int a), .val (.int b), .val (.int m0), .val (.int m1), .val (.int dd), .val (.ref x1), .val (.ref x2), .val (.ref b10), .val (.ref b27), .val (.ref xr), .val (.int (Int32.ofNat (own_es K1 a b K2 m0 m1).length))] []))
  refine own_go (fun tq kq => XS.aload X78.here hx rfl (hb hby at_266) rfl rfl kq) ?_
  show own_Rn p e below _ (T78.setTop (mkF m 268 #[.val (.int i0), .val (.int i1), .val (.int i2), .val (.long l3), .second, .val (.long l4), .second, .val (.int (Int32.ofNat K1)), .val (.int (Int32.ofNat K2)), .val (.int a), .val (.int b), .val (.int m0), .val (.int m1), .val (.int dd), .val (.ref x1), .val (.ref x2), .val (.ref b10), .val (.ref b27), .val (.ref xr), .val (.int (Int32.ofNat (own_es K1 a b K2 m0 m1).length))] [(.ref xr)]))
  refine own_go (fun tq kq => XS.iconst X78.here hx rfl (hb hby at_268) kq) ?_
  show own_Rn p e below _ (T78.setTop (mkF m 269 #[.val (.int i0), .val (.int i1), .val (.int i2), .val (.long l3), .second, .val (.long l4), .second, .val (.int (Int32.ofNat K1)), .val (.int (Int32.ofNat K2)), .val (.int a), .val (.int b), .val (.int m0), .val (.int m1), .val (.int dd), .val (.ref x1), .val (.ref x2), .val (.ref b10), .val (.ref b27), .val (.ref xr), .val (.int (Int32.ofNat (own_es K1 a b K2 m0 m1).length))] [(.int (5 : Int32)), (.ref xr)]))
  refine own_go (fun tq kq => XS.iload X78.here hx rfl (hb hby at_269) rfl kq) ?_
  show own_Rn p e below _ (T78.setTop (mkF m 271 #[.val (.int i0), .val (.int i1), .val (.int i2), .val (.long l3), .second, .val (.long l4), .second, .val (.int (Int32.ofNat K1)), .val (.int (Int32.ofNat K2)), .val (.int a), .val (.int b), .val (.int m0), .val (.int m1), .val (.int dd), .val (.ref x1), .val (.ref x2), .val (.ref b10), .val (.ref b27), .val (.ref xr), .val (.int (Int32.ofNat (own_es K1 a b K2 m0 m1).length))] [(.int (Int32.ofNat (own_es K1 a b K2 m0 m1).length)), (.int (5 : Int32)), (.ref xr)]))
  refine own_go (fun tq kq => XS.iload X78.here hx rfl (hb hby at_271) rfl kq) ?_
  show own_Rn p e below _ (T78.setTop (mkF m 273 #[.val (.int i0), .val (.int i1), .val (.int i2), .val (.long l3), .second, .val (.long l4), .second, .val (.int (Int32.ofNat K1)), .val (.int (Int32.ofNat K2)), .val (.int a), .val (.int b), .val (.int m0), .val (.int m1), .val (.int dd), .val (.ref x1), .val (.ref x2), .val (.ref b10), .val (.ref b27), .val (.ref xr), .val (.int (Int32.ofNat (own_es K1 a b K2 m0 m1).length))] [(.int (Int32.ofNat K1)), (.int (Int32.ofNat (own_es K1 a b K2 m0 m1).length)), (.int (5 : Int32)), (.ref xr)]))
  refine own_go (fun tq kq => XS.iload X78.here hx rfl (hb hby at_273) rfl kq) ?_
  show own_Rn p e below _ (T78.setTop (mkF m 275 #[.val (.int i0), .val (.int i1), .val (.int i2), .val (.long l3), .second, .val (.long l4), .second, .val (.int (Int32.ofNat K1)), .val (.int (Int32.ofNat K2)), .val (.int a), .val (.int b), .val (.int m0), .val (.int m1), .val (.int dd), .val (.ref x1), .val (.ref x2), .val (.ref b10), .val (.ref b27), .val (.ref xr), .val (.int (Int32.ofNat (own_es K1 a b K2 m0 m1).length))] [(.int a), (.int (Int32.ofNat K1)), (.int (Int32.ofNat (own_es K1 a b K2 m0 m1).length)), (.int (5 : Int32)), (.ref xr)]))
  refine own_go (fun tq kq => XS.iload X78.here hx rfl (hb hby at_275) rfl kq) ?_
  show own_Rn p e below _ (T78.setTop (mkF m 277 #[.val (.int i0), .val (.int i1), .val (.int i2), .val (.long l3), .second, .val (.long l4), .second, .val (.int (Int32.ofNat K1)), .val (.int (Int32.ofNat K2)), .val (.int a), .val (.int b), .val (.int m0), .val (.int m1), .val (.int dd), .val (.ref x1), .val (.ref x2), .val (.ref b10), .val (.ref b27), .val (.ref xr), .val (.int (Int32.ofNat (own_es K1 a b K2 m0 m1).length))] [(.int b), (.int a), (.int (Int32.ofNat K1)), (.int (Int32.ofNat (own_es K1 a b K2 m0 m1).length)), (.int (5 : Int32)), (.ref xr)]))
  refine own_go (fun tq kq => XS.iload X78.here hx rfl (hb hby at_277) rfl kq) ?_
  show own_Rn p e below _ (T78.setTop (mkF m 279 #[.val (.int i0), .val (.int i1), .val (.int i2), .val (.long l3), .second, .val (.long l4), .second, .val (.int (Int32.ofNat K1)), .val (.int (Int32.ofNat K2)), .val (.int a), .val (.int b), .val (.int m0), .val (.int m1), .val (.int dd), .val (.ref x1), .val (.ref x2), .val (.ref b10), .val (.ref b27), .val (.ref xr), .val (.int (Int32.ofNat (own_es K1 a b K2 m0 m1).length))] [(.int m0), (.int b), (.int a), (.int (Int32.ofNat K1)), (.int (Int32.ofNat (own_es K1 a b K2 m0 m1).length)), (.int (5 : Int32)), (.ref xr)]))
  refine own_go (fun tq kq => XS.iload X78.here hx rfl (hb hby at_279) rfl kq) ?_
  show own_Rn p e below _ (T78.setTop (mkF m 281 #[.val (.int i0), .val (.int i1), .val (.int i2), .val (.long l3), .second, .val (.long l4), .second, .val (.int (Int32.ofNat K1)), .val (.int (Int32.ofNat K2)), .val (.int a), .val (.int b), .val (.int m0), .val (.int m1), .val (.int dd), .val (.ref x1), .val (.ref x2), .val (.ref b10), .val (.ref b27), .val (.ref xr), .val (.int (Int32.ofNat (own_es K1 a b K2 m0 m1).length))] [(.int m1), (.int m0), (.int b), (.int a), (.int (Int32.ofNat K1)), (.int (Int32.ofNat (own_es K1 a b K2 m0 m1).length)), (.int (5 : Int32)), (.ref xr)]))
  have Zn79 : n0 ≤ T39.heap.size := by omega
  obtain ⟨rv79, _, ⟨T79, L79, k79, n79⟩, -, X79, ⟨Lc79, hQ79, l79, y79, z79⟩, st79⟩ := Jvm.LawKit.callS X78 hx (y := (⟨"com/example/cellwise/cellwise/CellNamePinLaw", "at", "(Ljava/lang/String;IIICCCC)Z"⟩ : MethodName)) hown39 (mvT hZ39 (hw _ (own_mi 218 rfl))) (mvT hZ39 (hw _ (own_mi 219 rfl))) (mvT hZ39 (hw _ (own_mi 2 rfl))) (mvT hZ39 (hw _ (own_mi 220 rfl))) (by decide) (backOf (W := 0) (rmAt l Z a0 hw [] (xr) (tr_) (kr_) (K1) (K2) (5) (a) (b) (m0) (m1) (G1) (G3) T39.heap n0 Zn79 G0_39 G1_39 G2_39 G3_39 (ra) (rb) (rm0) (rm1) (hK1) (hK2) (by decide) (O2) (O4) (P5) (rG3) F73) hZ39 (hw _ (own_mi 220 rfl)) (hw _ (own_mi 2 rfl)) (by decide) (by decide)) (g := (mkF m 281 #[.val (.int i0), .val (.int i1), .val (.int i2), .val (.long l3), .second, .val (.long l4), .second, .val (.int (Int32.ofNat K1)), .val (.int (Int32.ofNat K2)), .val (.int a), .val (.int b), .val (.int m0), .val (.int m1), .val (.int dd), .val (.ref x1), .val (.ref x2), .val (.ref b10), .val (.ref b27), .val (.ref xr), .val (.int (Int32.ofNat (own_es K1 a b K2 m0 m1).length))] [(.int m1), (.int m0), (.int b), (.int a), (.int (Int32.ofNat K1)), (.int (Int32.ofNat (own_es K1 a b K2 m0 m1).length)), (.int (5 : Int32)), (.ref xr)])) rfl (by rw [hml]; rfl) (argsL := [(.ref xr), (.int (5 : Int32)), (.int (Int32.ofNat (own_es K1 a b K2 m0 m1).length)), (.int (Int32.ofNat K1)), (.int a), (.int b), (.int m0), (.int m1)]) (rest := []) (lenOf own_pd_28Ljava2flang2fString3bIIICCCC29Z rfl) rfl (by show 2 * 0 + _ ≤ _; exact Nat.le_of_eq rfl) (hb hby at_281) (fun _ _ => ⟨rfl, eh78, (by decide : 23 + 0 ≤ _), (by decide : 95 + 0 ≤ _)⟩)
  dsimp only [Pt.U, Pt.locs, Pt.cells, Pt.slots] at X79 l79 y79 z79 st79 hQ79
  subst l79 y79 z79
  obtain ⟨rfl, Nq79, eh79⟩ := hQ79
  have N79 := Fr.app N78 Nq79
  refine own_go st79 ?_
  show own_Rn p e below _ (T79.setTop (mkF m 284 #[.val (.int i0), .val (.int i1), .val (.int i2), .val (.long l3), .second, .val (.long l4), .second, .val (.int (Int32.ofNat K1)), .val (.int (Int32.ofNat K2)), .val (.int a), .val (.int b), .val (.int m0), .val (.int m1), .val (.int dd), .val (.ref x1), .val (.ref x2), .val (.ref b10), .val (.ref b27), .val (.ref xr), .val (.int (Int32.ofNat (own_es K1 a b K2 m0 m1).length))] [(.int (1 : Int32))]))
  refine own_go (fun tq kq => XS.ifNo X79.here hx rfl (hb hby at_284) rfl ((if0 _ _).trans (feq ((by decide : ¬ ((1 : Int32) = (0 : Int32))) : ¬ ((1 : Int32) = (0 : Int32)))).1) kq) ?_
  show own_Rn p e below _ (T79.setTop (mkF m 287 #[.val (.int i0), .val (.int i1), .val (.int i2), .val (.long l3), .second, .val (.long l4), .second, .val (.int (Int32.ofNat K1)), .val (.int (Int32.ofNat K2)), .val (.int a), .val (.int b), .val (.int m0), .val (.int m1), .val (.int dd), .val (.ref x1), .val (.ref x2), .val (.ref b10), .val (.ref b27), .val (.ref xr), .val (.int (Int32.ofNat (own_es K1 a b K2 m0 m1).length))] []))
  refine own_go (fun tq kq => XS.aload X79.here hx rfl (hb hby at_287) rfl rfl kq) ?_
  show own_Rn p e below _ (T79.setTop (mkF m 289 #[.val (.int i0), .val (.int i1), .val (.int i2), .val (.long l3), .second, .val (.long l4), .second, .val (.int (Int32.ofNat K1)), .val (.int (Int32.ofNat K2)), .val (.int a), .val (.int b), .val (.int m0), .val (.int m1), .val (.int dd), .val (.ref x1), .val (.ref x2), .val (.ref b10), .val (.ref b27), .val (.ref xr), .val (.int (Int32.ofNat (own_es K1 a b K2 m0 m1).length))] [(.ref xr)]))
  refine own_go (fun tq kq => XS.bipush X79.here hx rfl (hb hby at_289) kq) ?_
  show own_Rn p e below _ (T79.setTop (mkF m 291 #[.val (.int i0), .val (.int i1), .val (.int i2), .val (.long l3), .second, .val (.long l4), .second, .val (.int (Int32.ofNat K1)), .val (.int (Int32.ofNat K2)), .val (.int a), .val (.int b), .val (.int m0), .val (.int m1), .val (.int dd), .val (.ref x1), .val (.ref x2), .val (.ref b10), .val (.ref b27), .val (.ref xr), .val (.int (Int32.ofNat (own_es K1 a b K2 m0 m1).length))] [(.int (6 : Int32)), (.ref xr)]))
  refine own_go (fun tq kq => XS.iload X79.here hx rfl (hb hby at_291) rfl kq) ?_
  show own_Rn p e below _ (T79.setTop (mkF m 293 #[.val (.int i0), .val (.int i1), .val (.int i2), .val (.long l3), .second, .val (.long l4), .second, .val (.int (Int32.ofNat K1)), .val (.int (Int32.ofNat K2)), .val (.int a), .val (.int b), .val (.int m0), .val (.int m1), .val (.int dd), .val (.ref x1), .val (.ref x2), .val (.ref b10), .val (.ref b27), .val (.ref xr), .val (.int (Int32.ofNat (own_es K1 a b K2 m0 m1).length))] [(.int (Int32.ofNat (own_es K1 a b K2 m0 m1).length)), (.int (6 : Int32)), (.ref xr)]))
  refine own_go (fun tq kq => XS.iload X79.here hx rfl (hb hby at_293) rfl kq) ?_
  show own_Rn p e below _ (T79.setTop (mkF m 295 #[.val (.int i0), .val (.int i1), .val (.int i2), .val (.long l3), .second, .val (.long l4), .second, .val (.int (Int32.ofNat K1)), .val (.int (Int32.ofNat K2)), .val (.int a), .val (.int b), .val (.int m0), .val (.int m1), .val (.int dd), .val (.ref x1), .val (.ref x2), .val (.ref b10), .val (.ref b27), .val (.ref xr), .val (.int (Int32.ofNat (own_es K1 a b K2 m0 m1).length))] [(.int (Int32.ofNat K1)), (.int (Int32.ofNat (own_es K1 a b K2 m0 m1).length)), (.int (6 : Int32)), (.ref xr)]))
  refine own_go (fun tq kq => XS.iload X79.here hx rfl (hb hby at_295) rfl kq) ?_
  show own_Rn p e below _ (T79.setTop (mkF m 297 #[.val (.int i0), .val (.int i1), .val (.int i2), .val (.long l3), .second, .val (.long l4), .second, .val (.int (Int32.ofNat K1)), .val (.int (Int32.ofNat K2)), .val (.int a), .val (.int b), .val (.int m0), .val (.int m1), .val (.int dd), .val (.ref x1), .val (.ref x2), .val (.ref b10), .val (.ref b27), .val (.ref xr), .val (.int (Int32.ofNat (own_es K1 a b K2 m0 m1).length))] [(.int a), (.int (Int32.ofNat K1)), (.int (Int32.ofNat (own_es K1 a b K2 m0 m1).length)), (.int (6 : Int32)), (.ref xr)]))
  refine own_go (fun tq kq => XS.iload X79.here hx rfl (hb hby at_297) rfl kq) ?_
  show own_Rn p e below _ (T79.setTop (mkF m 299 #[.val (.int i0), .val (.int i1), .val (.int i2), .val (.long l3), .second, .val (.long l4), .second, .val (.int (Int32.ofNat K1)), .val (.int (Int32.ofNat K2)), .val (.int a), .val (.int b), .val (.int m0), .val (.int m1), .val (.int dd), .val (.ref x1), .val (.ref x2), .val (.ref b10), .val (.ref b27), .val (.ref xr), .val (.int (Int32.ofNat (own_es K1 a b K2 m0 m1).length))] [(.int b), (.int a), (.int (Int32.ofNat K1)), (.int (Int32.ofNat (own_es K1 a b K2 m0 m1).length)), (.int (6 : Int32)), (.ref xr)]))
  refine own_go (fun tq kq => XS.iload X79.here hx rfl (hb hby at_299) rfl kq) ?_
  show own_Rn p e below _ (T79.setTop (mkF m 301 #[.val (.int i0), .val (.int i1), .val (.int i2), .val (.long l3), .second, .val (.long l4), .second, .val (.int (Int32.ofNat K1)), .val (.int (Int32.ofNat K2)), .val (.int a), .val (.int b), .val (.int m0), .val (.int m1), .val (.int dd), .val (.ref x1), .val (.ref x2), .val (.ref b10), .val (.ref b27), .val (.ref xr), .val (.int (Int32.ofNat (own_es K1 a b K2 m0 m1).length))] [(.int m0), (.int b), (.int a), (.int (Int32.ofNat K1)), (.int (Int32.ofNat (own_es K1 a b K2 m0 m1).length)), (.int (6 : Int32)), (.ref xr)]))
  refine own_go (fun tq kq => XS.iload X79.here hx rfl (hb hby at_301) rfl kq) ?_
  show own_Rn p e below _ (T79.setTop (mkF m 303 #[.val (.int i0), .val (.int i1), .val (.int i2), .val (.long l3), .second, .val (.long l4), .second, .val (.int (Int32.ofNat K1)), .val (.int (Int32.ofNat K2)), .val (.int a), .val (.int b), .val (.int m0), .val (.int m1), .val (.int dd), .val (.ref x1), .val (.ref x2), .val (.ref b10), .val (.ref b27), .val (.ref xr), .val (.int (Int32.ofNat (own_es K1 a b K2 m0 m1).length))] [(.int m1), (.int m0), (.int b), (.int a), (.int (Int32.ofNat K1)), (.int (Int32.ofNat (own_es K1 a b K2 m0 m1).length)), (.int (6 : Int32)), (.ref xr)]))
  have Zn80 : n0 ≤ T39.heap.size := by omega
  obtain ⟨rv80, _, ⟨T80, L80, k80, n80⟩, -, X80, ⟨Lc80, hQ80, l80, y80, z80⟩, st80⟩ := Jvm.LawKit.callS X79 hx (y := (⟨"com/example/cellwise/cellwise/CellNamePinLaw", "at", "(Ljava/lang/String;IIICCCC)Z"⟩ : MethodName)) hown39 (mvT hZ39 (hw _ (own_mi 218 rfl))) (mvT hZ39 (hw _ (own_mi 219 rfl))) (mvT hZ39 (hw _ (own_mi 2 rfl))) (mvT hZ39 (hw _ (own_mi 220 rfl))) (by decide) (backOf (W := 0) (rmAt l Z a0 hw [] (xr) (tr_) (kr_) (K1) (K2) (6) (a) (b) (m0) (m1) (G1) (G3) T39.heap n0 Zn80 G0_39 G1_39 G2_39 G3_39 (ra) (rb) (rm0) (rm1) (hK1) (hK2) (by decide) (O2) (O4) (P5) (rG3) F73) hZ39 (hw _ (own_mi 220 rfl)) (hw _ (own_mi 2 rfl)) (by decide) (by decide)) (g := (mkF m 303 #[.val (.int i0), .val (.int i1), .val (.int i2), .val (.long l3), .second, .val (.long l4), .second, .val (.int (Int32.ofNat K1)), .val (.int (Int32.ofNat K2)), .val (.int a), .val (.int b), .val (.int m0), .val (.int m1), .val (.int dd), .val (.ref x1), .val (.ref x2), .val (.ref b10), .val (.ref b27), .val (.ref xr), .val (.int (Int32.ofNat (own_es K1 a b K2 m0 m1).length))] [(.int m1), (.int m0), (.int b), (.int a), (.int (Int32.ofNat K1)), (.int (Int32.ofNat (own_es K1 a b K2 m0 m1).length)), (.int (6 : Int32)), (.ref xr)])) rfl (by rw [hml]; rfl) (argsL := [(.ref xr), (.int (6 : Int32)), (.int (Int32.ofNat (own_es K1 a b K2 m0 m1).length)), (.int (Int32.ofNat K1)), (.int a), (.int b), (.int m0), (.int m1)]) (rest := []) (lenOf own_pd_28Ljava2flang2fString3bIIICCCC29Z rfl) rfl (by show 2 * 0 + _ ≤ _; exact Nat.le_of_eq rfl) (hb hby at_303) (fun _ _ => ⟨rfl, eh79, (by decide : 23 + 0 ≤ _), (by decide : 95 + 0 ≤ _)⟩)
  dsimp only [Pt.U, Pt.locs, Pt.cells, Pt.slots] at X80 l80 y80 z80 st80 hQ80
  subst l80 y80 z80
  obtain ⟨rfl, Nq80, eh80⟩ := hQ80
  have N80 := Fr.app N79 Nq80
  refine own_go st80 ?_
  show own_Rn p e below _ (T80.setTop (mkF m 306 #[.val (.int i0), .val (.int i1), .val (.int i2), .val (.long l3), .second, .val (.long l4), .second, .val (.int (Int32.ofNat K1)), .val (.int (Int32.ofNat K2)), .val (.int a), .val (.int b), .val (.int m0), .val (.int m1), .val (.int dd), .val (.ref x1), .val (.ref x2), .val (.ref b10), .val (.ref b27), .val (.ref xr), .val (.int (Int32.ofNat (own_es K1 a b K2 m0 m1).length))] [(.int (1 : Int32))]))
  refine own_go (fun tq kq => XS.ifNo X80.here hx rfl (hb hby at_306) rfl ((if0 _ _).trans (feq ((by decide : ¬ ((1 : Int32) = (0 : Int32))) : ¬ ((1 : Int32) = (0 : Int32)))).1) kq) ?_
  show own_Rn p e below _ (T80.setTop (mkF m 309 #[.val (.int i0), .val (.int i1), .val (.int i2), .val (.long l3), .second, .val (.long l4), .second, .val (.int (Int32.ofNat K1)), .val (.int (Int32.ofNat K2)), .val (.int a), .val (.int b), .val (.int m0), .val (.int m1), .val (.int dd), .val (.ref x1), .val (.ref x2), .val (.ref b10), .val (.ref b27), .val (.ref xr), .val (.int (Int32.ofNat (own_es K1 a b K2 m0 m1).length))] []))
  refine own_go (fun tq kq => XS.aload X80.here hx rfl (hb hby at_309) rfl rfl kq) ?_
  show own_Rn p e below _ (T80.setTop (mkF m 311 #[.val (.int i0), .val (.int i1), .val (.int i2), .val (.long l3), .second, .val (.long l4), .second, .val (.int (Int32.ofNat K1)), .val (.int (Int32.ofNat K2)), .val (.int a), .val (.int b), .val (.int m0), .val (.int m1), .val (.int dd), .val (.ref x1), .val (.ref x2), .val (.ref b10), .val (.ref b27), .val (.ref xr), .val (.int (Int32.ofNat (own_es K1 a b K2 m0 m1).length))] [(.ref xr)]))
  refine own_go (fun tq kq => XS.bipush X80.here hx rfl (hb hby at_311) kq) ?_
  show own_Rn p e below _ (T80.setTop (mkF m 313 #[.val (.int i0), .val (.int i1), .val (.int i2), .val (.long l3), .second, .val (.long l4), .second, .val (.int (Int32.ofNat K1)), .val (.int (Int32.ofNat K2)), .val (.int a), .val (.int b), .val (.int m0), .val (.int m1), .val (.int dd), .val (.ref x1), .val (.ref x2), .val (.ref b10), .val (.ref b27), .val (.ref xr), .val (.int (Int32.ofNat (own_es K1 a b K2 m0 m1).length))] [(.int (7 : Int32)), (.ref xr)]))
  refine own_go (fun tq kq => XS.iload X80.here hx rfl (hb hby at_313) rfl kq) ?_
  show own_Rn p e below _ (T80.setTop (mkF m 315 #[.val (.int i0), .val (.int i1), .val (.int i2), .val (.long l3), .second, .val (.long l4), .second, .val (.int (Int32.ofNat K1)), .val (.int (Int32.ofNat K2)), .val (.int a), .val (.int b), .val (.int m0), .val (.int m1), .val (.int dd), .val (.ref x1), .val (.ref x2), .val (.ref b10), .val (.ref b27), .val (.ref xr), .val (.int (Int32.ofNat (own_es K1 a b K2 m0 m1).length))] [(.int (Int32.ofNat (own_es K1 a b K2 m0 m1).length)), (.int (7 : Int32)), (.ref xr)]))
  refine own_go (fun tq kq => XS.iload X80.here hx rfl (hb hby at_315) rfl kq) ?_
  show own_Rn p e below _ (T80.setTop (mkF m 317 #[.val (.int i0), .val (.int i1), .val (.int i2), .val (.long l3), .second, .val (.long l4), .second, .val (.int (Int32.ofNat K1)), .val (.int (Int32.ofNat K2)), .val (.int a), .val (.int b), .val (.int m0), .val (.int m1), .val (.int dd), .val (.ref x1), .val (.ref x2), .val (.ref b10), .val (.ref b27), .val (.ref xr), .val (.int (Int32.ofNat (own_es K1 a b K2 m0 m1).length))] [(.int (Int32.ofNat K1)), (.int (Int32.ofNat (own_es K1 a b K2 m0 m1).length)), (.int (7 : Int32)), (.ref xr)]))
  refine own_go (fun tq kq => XS.iload X80.here hx rfl (hb hby at_317) rfl kq) ?_
  show own_Rn p e below _ (T80.setTop (mkF m 319 #[.val (.int i0), .val (.int i1), .val (.int i2), .val (.long l3), .second, .val (.long l4), .second, .val (.int (Int32.ofNat K1)), .val (.int (Int32.ofNat K2)), .val (.int a), .val (.int b), .val (.int m0), .val (.int m1), .val (.int dd), .val (.ref x1), .val (.ref x2), .val (.ref b10), .val (.ref b27), .val (.ref xr), .val (.int (Int32.ofNat (own_es K1 a b K2 m0 m1).length))] [(.int a), (.int (Int32.ofNat K1)), (.int (Int32.ofNat (own_es K1 a b K2 m0 m1).length)), (.int (7 : Int32)), (.ref xr)]))
  refine own_go (fun tq kq => XS.iload X80.here hx rfl (hb hby at_319) rfl kq) ?_
  show own_Rn p e below _ (T80.setTop (mkF m 321 #[.val (.int i0), .val (.int i1), .val (.int i2), .val (.long l3), .second, .val (.long l4), .second, .val (.int (Int32.ofNat K1)), .val (.int (Int32.ofNat K2)), .val (.int a), .val (.int b), .val (.int m0), .val (.int m1), .val (.int dd), .val (.ref x1), .val (.ref x2), .val (.ref b10), .val (.ref b27), .val (.ref xr), .val (.int (Int32.ofNat (own_es K1 a b K2 m0 m1).length))] [(.int b), (.int a), (.int (Int32.ofNat K1)), (.int (Int32.ofNat (own_es K1 a b K2 m0 m1).length)), (.int (7 : Int32)), (.ref xr)]))
  refine own_go (fun tq kq => XS.iload X80.here hx rfl (hb hby at_321) rfl kq) ?_
  show own_Rn p e below _ (T80.setTop (mkF m 323 #[.val (.int i0), .val (.int i1), .val (.int i2), .val (.long l3), .second, .val (.long l4), .second, .val (.int (Int32.ofNat K1)), .val (.int (Int32.ofNat K2)), .val (.int a), .val (.int b), .val (.int m0), .val (.int m1), .val (.int dd), .val (.ref x1), .val (.ref x2), .val (.ref b10), .val (.ref b27), .val (.ref xr), .val (.int (Int32.ofNat (own_es K1 a b K2 m0 m1).length))] [(.int m0), (.int b), (.int a), (.int (Int32.ofNat K1)), (.int (Int32.ofNat (own_es K1 a b K2 m0 m1).length)), (.int (7 : Int32)), (.ref xr)]))
  refine own_go (fun tq kq => XS.iload X80.here hx rfl (hb hby at_323) rfl kq) ?_
  show own_Rn p e below _ (T80.setTop (mkF m 325 #[.val (.int i0), .val (.int i1), .val (.int i2), .val (.long l3), .second, .val (.long l4), .second, .val (.int (Int32.ofNat K1)), .val (.int (Int32.ofNat K2)), .val (.int a), .val (.int b), .val (.int m0), .val (.int m1), .val (.int dd), .val (.ref x1), .val (.ref x2), .val (.ref b10), .val (.ref b27), .val (.ref xr), .val (.int (Int32.ofNat (own_es K1 a b K2 m0 m1).length))] [(.int m1), (.int m0), (.int b), (.int a), (.int (Int32.ofNat K1)), (.int (Int32.ofNat (own_es K1 a b K2 m0 m1).length)), (.int (7 : Int32)), (.ref xr)]))
  have Zn81 : n0 ≤ T39.heap.size := by omega
  obtain ⟨rv81, _, ⟨T81, L81, k81, n81⟩, -, X81, ⟨Lc81, hQ81, l81, y81, z81⟩, st81⟩ := Jvm.LawKit.callS X80 hx (y := (⟨"com/example/cellwise/cellwise/CellNamePinLaw", "at", "(Ljava/lang/String;IIICCCC)Z"⟩ : MethodName)) hown39 (mvT hZ39 (hw _ (own_mi 218 rfl))) (mvT hZ39 (hw _ (own_mi 219 rfl))) (mvT hZ39 (hw _ (own_mi 2 rfl))) (mvT hZ39 (hw _ (own_mi 220 rfl))) (by decide) (backOf (W := 0) (rmAt l Z a0 hw [] (xr) (tr_) (kr_) (K1) (K2) (7) (a) (b) (m0) (m1) (G1) (G3) T39.heap n0 Zn81 G0_39 G1_39 G2_39 G3_39 (ra) (rb) (rm0) (rm1) (hK1) (hK2) (by decide) (O2) (O4) (P5) (rG3) F73) hZ39 (hw _ (own_mi 220 rfl)) (hw _ (own_mi 2 rfl)) (by decide) (by decide)) (g := (mkF m 325 #[.val (.int i0), .val (.int i1), .val (.int i2), .val (.long l3), .second, .val (.long l4), .second, .val (.int (Int32.ofNat K1)), .val (.int (Int32.ofNat K2)), .val (.int a), .val (.int b), .val (.int m0), .val (.int m1), .val (.int dd), .val (.ref x1), .val (.ref x2), .val (.ref b10), .val (.ref b27), .val (.ref xr), .val (.int (Int32.ofNat (own_es K1 a b K2 m0 m1).length))] [(.int m1), (.int m0), (.int b), (.int a), (.int (Int32.ofNat K1)), (.int (Int32.ofNat (own_es K1 a b K2 m0 m1).length)), (.int (7 : Int32)), (.ref xr)])) rfl (by rw [hml]; rfl) (argsL := [(.ref xr), (.int (7 : Int32)), (.int (Int32.ofNat (own_es K1 a b K2 m0 m1).length)), (.int (Int32.ofNat K1)), (.int a), (.int b), (.int m0), (.int m1)]) (rest := []) (lenOf own_pd_28Ljava2flang2fString3bIIICCCC29Z rfl) rfl (by show 2 * 0 + _ ≤ _; exact Nat.le_of_eq rfl) (hb hby at_325) (fun _ _ => ⟨rfl, eh80, (by decide : 23 + 0 ≤ _), (by decide : 95 + 0 ≤ _)⟩)
  dsimp only [Pt.U, Pt.locs, Pt.cells, Pt.slots] at X81 l81 y81 z81 st81 hQ81
  subst l81 y81 z81
  obtain ⟨rfl, Nq81, eh81⟩ := hQ81
  have N81 := Fr.app N80 Nq81
  refine own_go st81 ?_
  show own_Rn p e below _ (T81.setTop (mkF m 328 #[.val (.int i0), .val (.int i1), .val (.int i2), .val (.long l3), .second, .val (.long l4), .second, .val (.int (Int32.ofNat K1)), .val (.int (Int32.ofNat K2)), .val (.int a), .val (.int b), .val (.int m0), .val (.int m1), .val (.int dd), .val (.ref x1), .val (.ref x2), .val (.ref b10), .val (.ref b27), .val (.ref xr), .val (.int (Int32.ofNat (own_es K1 a b K2 m0 m1).length))] [(.int (1 : Int32))]))
  refine own_go (fun tq kq => XS.ifNo X81.here hx rfl (hb hby at_328) rfl ((if0 _ _).trans (feq ((by decide : ¬ ((1 : Int32) = (0 : Int32))) : ¬ ((1 : Int32) = (0 : Int32)))).1) kq) ?_
  show own_Rn p e below _ (T81.setTop (mkF m 331 #[.val (.int i0), .val (.int i1), .val (.int i2), .val (.long l3), .second, .val (.long l4), .second, .val (.int (Int32.ofNat K1)), .val (.int (Int32.ofNat K2)), .val (.int a), .val (.int b), .val (.int m0), .val (.int m1), .val (.int dd), .val (.ref x1), .val (.ref x2), .val (.ref b10), .val (.ref b27), .val (.ref xr), .val (.int (Int32.ofNat (own_es K1 a b K2 m0 m1).length))] []))
  refine own_go (fun tq kq => XS.iconst X81.here hx rfl (hb hby at_331) kq) ?_
  show own_Rn p e below _ (T81.setTop (mkF m 332 #[.val (.int i0), .val (.int i1), .val (.int i2), .val (.long l3), .second, .val (.long l4), .second, .val (.int (Int32.ofNat K1)), .val (.int (Int32.ofNat K2)), .val (.int a), .val (.int b), .val (.int m0), .val (.int m1), .val (.int dd), .val (.ref x1), .val (.ref x2), .val (.ref b10), .val (.ref b27), .val (.ref xr), .val (.int (Int32.ofNat (own_es K1 a b K2 m0 m1).length))] [(.int (1 : Int32))]))
  refine own_go (fun tq kq => XS.goto X81.here hx rfl (pc0 := 332) (pc' := 336) rfl (hb hby at_332) (by decide) (by decide) kq) ?_
  show own_Rn p e below _ (T81.setTop (mkF m 336 #[.val (.int i0), .val (.int i1), .val (.int i2), .val (.long l3), .second, .val (.long l4), .second, .val (.int (Int32.ofNat K1)), .val (.int (Int32.ofNat K2)), .val (.int a), .val (.int b), .val (.int m0), .val (.int m1), .val (.int dd), .val (.ref x1), .val (.ref x2), .val (.ref b10), .val (.ref b27), .val (.ref xr), .val (.int (Int32.ofNat (own_es K1 a b K2 m0 m1).length))] [(.int (1 : Int32))]))
  exact own_retS X81 hSr39 (by rw [eh81]; omega) (v := some (.int (nar .boolean (1 : Int32)))) (fun h => by rw [Bd.returns] at h; cases h) (fun fs hr => retN X81 hx (t := .boolean) Bd.returns (by simp) (hb hby at_336) hr) (by rw [eh81]; exact ⟨rfl, N81⟩) (by rw [hh, eh81]; exact CR69.trans (CHv.at X81 hZ39 hEL CR69.1)) (by decide) (by decide)
set_option maxRecDepth 65536 in
set_option maxHeartbeats 40000000 in
theorem comes_1 {Post : Tables → Env → Array Value → State → Outcome → State → Prop} (hpost : ∀ tb e args s v u, (limb_1_1.after args s (.returned v) u = true ∧ limb_1_2.after args s (.returned v) u = true ∧ True) → ReturnedEndW s (.returned v) u (Jvm.fieldLocs frame_1_writes args s ++ Jvm.arrayLocs frame_1_arrays args s ++ Jvm.staticLocs frame_1_statics s) 48 2240 → Post tb e args s (.returned v) u) :
    ArmFor flags0 classFile x code maxLocals ret World_1 tables_1 room_1 Calls_1 rest_1 Pre_1 Post := by
  intro l hfl _ _ p e ha hc hk s m args below hf hA hF happ hP
  obtain ⟨hcalls, hrest, hpre⟩ := hP
  obtain ⟨-, -, -, hnamed, -, -, -, hat⟩ := (Spec.applies_iff hf).mp happ
  obtain ⟨hg, hn⟩ := and_e (Cond.before_iff.mp (show (Jvm.Cond.and given_1 narrow_1).before args s = true from hpre))
  obtain ⟨h1, hr⟩ := and_e hg
  obtain ⟨w0, w1, w2, w3, w4, rfl⟩ : ∃ w0 w1 w2 w3 w4 : Value, args = #[w0, w1, w2, w3, w4] := by
    have hs : args.size = 5 := by simpa [Cond.value, given_1] using h1
    obtain ⟨L⟩ := args
    match L, hs with
    | [w0, w1, w2, w3, w4], _ => exact ⟨w0, w1, w2, w3, w4, rfl⟩
  have hw := fun d (hd : d ∈ tables_1) => atoms_spec (ws := Jvm.Cond.code x code maxLocals ret :: tables_1) hat d (List.mem_cons_of_mem _ hd)
  have hfit : Fit s := fun {y c} hc i hi => by
    obtain ⟨ha, rfl⟩ := Array.getElem?_eq_some_iff.mp hc
    have q := List.all_eq_true.mp ((Array.all_eq_true_iff_forall_mem.mp hF) _ (Array.getElem_mem ha)) i (List.mem_range.mpr hi)
    simpa [Array.getElem?_eq_getElem hi] using q
  obtain ⟨ha0, hr⟩ := and_e hr
  obtain ⟨i0, ee0⟩ := is_v ha0
  obtain rfl : w0 = (.int i0) := Option.some.inj ee0
  obtain ⟨ha1, hr⟩ := and_e hr
  obtain ⟨i1, ee1⟩ := is_v ha1
  obtain rfl : w1 = (.int i1) := Option.some.inj ee1
  obtain ⟨ha2, hr⟩ := and_e hr
  obtain ⟨i2, ee2⟩ := is_v ha2
  obtain rfl : w2 = (.int i2) := Option.some.inj ee2
  obtain ⟨ha3, hr⟩ := and_e hr
  obtain ⟨l3, ee3⟩ := isL_v ha3
  obtain rfl : w3 = (.long l3) := Option.some.inj ee3
  obtain ⟨l4, ee4⟩ := isL_v hr
  obtain rfl : w4 = (.long l4) := Option.some.inj ee4
  obtain ⟨hsets, hown0⟩ := atoms_of _ (rest_1_c_eq ▸ (show rest_1_c.before _ s = true from hrest))
  have n5 := not_v (Cond.before_iff.mp (hsets _ (List.mem_of_getElem? (i := 2) rfl)))
  obtain ⟨G1, e10⟩ := is_v (Cond.before_iff.mp (hsets _ (List.mem_of_getElem? (i := 1) rfl)))
  have O2 : Sta s s.heap "java/lang/String" "COMPACT_STRINGS" "Z" (.int G1) := Sta.start e10 (Or.inl (hsets _ (List.mem_of_getElem? (i := 0) rfl)))
  obtain ⟨G3, e14, rG3⟩ := isR_v (Cond.before_iff.mp (hsets _ (List.mem_of_getElem? (i := 8) rfl)))
  have O4 : Sta s s.heap "jdk/internal/util/Preconditions" "SIOOBE_FORMATTER" "Ljava/util/function/BiFunction;" G3 := Sta.start e14 (Or.inl (hsets _ (List.mem_of_getElem? (i := 7) rfl)))
  have P5 : ¬ (G1 = (0 : Int32)) := gotF (Cond.eq_ints e10 (Term.int_eval (0))) n5
  have hEL : EW s #[(.int i0), (.int i1), (.int i2), (.long l3), (.long l4)] consts_1 := (EW.cons (hw _ (own_mi 166 rfl)) (by decide) (EW.cons (hw _ (own_mi 34 rfl)) (by decide) EW.nil))
  have hH : CHv s consts_1 s.vm s.heap := CHv.start hEL (fun p hp => hcalls.1 p hp) (hsets _ (List.mem_of_getElem? (i := 2) rfl)) (hw _ (own_mi 23 rfl)) (hw _ (own_mi 5 rfl))
  obtain ⟨n, o, h1, h2, h3, _, L, rfl, ⟨rfl, N⟩, -, hq⟩ := rm0 l s _ hw tables_1 i0 i1 i2 l3 l4 G1 G3 s.heap s.heap.size (Nat.le_refl _) hEL O2 O4 P5 rG3 (Old.start s) p e ha hc hk s m _ below hf ((Spec.applies_iff_loose hf).mp happ).1 ⟨rfl, State.Warmed39.refl s, rfl, hH, fun x hx => nomatch hx⟩ trivial
  refine ⟨n, _, h1, h2, h3, hpost _ _ _ _ _ _ ⟨Cond.after_iff.mpr rfl, Cond.after_iff.mpr (eq_i res_at (Term.int_eval (1)) rfl), trivial⟩ ⟨hq.1, hq.2.1, hq.2.2.1, (hq.2.2.2.sift fun y hy => Or.inr (N y hy)).mono (by decide) (by decide)⟩⟩
theorem main_1_1 : Claimed_1_1 := comes_1 fun _ _ _ _ _ _ h hF => ⟨h.1, hF⟩
theorem main_1_2 : Claimed_1_2 := comes_1 fun _ _ _ _ _ _ h hF => ⟨h.2.1, hF⟩
end Jvm.Pilot.@@N@@
namespace Jvm.Pilot.@@N@@
open Jvm Jvm.ClassFile Sem Op Lib Jvm.Free Jvm.Stand Jvm.Pilot.@@N@@.Jvm.D
/-! MADE BY PROGRAM (witnessworld.py) out of the Statement's table words and the real class files: 29 classes; the members and pool entries that the words name. The judged class is class 1, her method 1. -/
namespace start1
open Jvm.ClassFile
def u (s : String) : CpInfo := .utf8 (stringToUtf16 s)
/-- a pool by its gaps: so many unusable entries, then the entry; so many at the end -/
def gap : Nat → List CpInfo → List CpInfo
  | 0, r => r
  | n + 1, r => .unusable :: gap n r
def poolList (es : List (Nat × CpInfo)) (last : Nat) : List CpInfo := es.foldr (fun e r => gap e.1 (e.2 :: r)) (gap last [])
def pool (es : List (Nat × CpInfo)) (last : Nat) : Array CpInfo := ⟨poolList es last⟩
def fileOf (pool : Array CpInfo) (this : Nat) (attrs : Array Attribute := #[]) (ms : Array MethodInfo := #[]) (fl : Nat := 33) (sup : Nat := 0) (ifs : Array Nat := #[]) (fds : Array FieldInfo := #[]) : ClassFile where
  minorVersion := 0
  majorVersion := 65
  constantPool := pool
  accessFlags := fl
  thisClass := this
  superClass := sup
  interfaces := ifs
  fields := fds
  methods := ms
  attributes := attrs
def plain (name : String) (sup : Option ClassId) : Class where
  name := name
  kind := .ordinary
  loader := none
  accessFlags := 33
  super := sup
  interfaces := #[]
  cf := none
  fields := #[]
  methods := #[]
  instanceTypes := #[]
  staticTypes := #[]
  resolved := #[]
  callSites := []
  init := .initialized
  statics := none
  mirror := none

def pool0 : Array CpInfo := pool [(5, u "<init>"), (0, u "()V"), (1, .class_ 10), (1, u "java/lang/Object")] 113

def k0c0 : Code := { maxStack := 0, maxLocals := 1, code := object_method_1_code, exceptionTable := #[], attributes := #[] }
def k0m0 : Method := { name := "<init>", desc := "()V", sig := { parameters := [], returnType := none }, accessFlags := 1, code := some k0c0 }
/-- java/lang/Object -/
def k0 : Class := { plain "java/lang/Object" none with
  accessFlags := 33
  interfaces := #[]
  cf := some (fileOf pool0 8 #[] #[{ accessFlags := 1, nameIndex := 5, descriptorIndex := 6, attributes := #[] }] 33 0 #[] #[])
  fields := #[]
  methods := #[k0m0]
  instanceTypes := #[]
  staticTypes := #[]
  resolved := Array.replicate 124 none
  statics := none }

def pool1 : Array CpInfo := pool [(2, .class_ 4), (1, u "java/lang/Object"), (0, u "<init>"), (0, u "()V"), (0, .methodref 8 9), (0, .class_ 10), (0, .nameAndType 11 12), (0, u "com/example/cellwise/cellwise/CellNamePinLaw"), (0, u "str"), (0, u "(ICC)Ljava/lang/String;"), (0, .class_ 14), (0, u "com/example/cellwise/cellwise/Matrix$Competency"), (0, .methodref 16 17), (0, .class_ 18), (0, .nameAndType 19 20), (0, u "java/lang/String"), (0, u "valueOf"), (0, u "(C)Ljava/lang/String;"), (0, .methodref 13 22), (0, .nameAndType 5 23), (0, u "(JLjava/lang/String;Ljava/lang/String;)V"), (0, .class_ 25), (0, u "com/example/cellwise/cellwise/Matrix$Training"), (0, .methodref 24 27), (0, .nameAndType 5 28), (0, u "(JLjava/lang/String;)V"), (0, .class_ 30), (0, u "com/example/cellwise/cellwise/Matrix$Cell"), (0, .methodref 29 32), (0, .nameAndType 5 33), (0, u "(Lcom/example/cellwise/cellwise/Matrix$Competency;Lcom/example/cellwise/cellwise/Matrix$Training;)V"), (0, .methodref 29 35), (0, .nameAndType 36 37), (0, u "name"), (0, u "()Ljava/lang/String;"), (0, .methodref 16 39), (0, .nameAndType 40 41), (0, u "length"), (0, u "()I"), (0, .methodref 8 43), (0, .nameAndType 44 45), (0, u "at"), (0, u "(Ljava/lang/String;IIICCCC)Z"), (0, .methodref 16 47), (0, .nameAndType 5 48), (0, u "([C)V"), (0, .methodref 16 50), (0, .nameAndType 51 52), (0, u "charAt"), (0, u "(I)C"), (0, .methodref 8 54), (0, .nameAndType 55 56), (0, u "expect"), (0, u "(IICCCC)C"), (2, u "law"), (0, u "(IIIJJ)Z")] 9

def k1m0 : Method := { name := "<init>", desc := "()V", sig := { parameters := [], returnType := none }, accessFlags := 1, code := none }
def k1c1 : Code := { maxStack := 8, maxLocals := 20, code := code, exceptionTable := #[], attributes := #[] }
def k1m1 : Method := { name := "law", desc := "(IIIJJ)Z", sig := { parameters := [.int, .int, .int, .long, .long], returnType := some .boolean }, accessFlags := 9, code := some k1c1 }
def k1c2 : Code := { maxStack := 6, maxLocals := 3, code := method_3_code, exceptionTable := #[], attributes := #[] }
def k1m2 : Method := { name := "str", desc := "(ICC)Ljava/lang/String;", sig := { parameters := [.int, .char, .char], returnType := some (.object "java/lang/String") }, accessFlags := 10, code := some k1c2 }
def k1c3 : Code := { maxStack := 2, maxLocals := 7, code := method_4_code, exceptionTable := #[], attributes := #[] }
def k1m3 : Method := { name := "expect", desc := "(IICCCC)C", sig := { parameters := [.int, .int, .char, .char, .char, .char], returnType := some .char }, accessFlags := 10, code := some k1c3 }
def k1c4 : Code := { maxStack := 7, maxLocals := 8, code := method_5_code, exceptionTable := #[], attributes := #[] }
def k1m4 : Method := { name := "at", desc := "(Ljava/lang/String;IIICCCC)Z", sig := { parameters := [(.object "java/lang/String"), .int, .int, .int, .char, .char, .char, .char], returnType := some .boolean }, accessFlags := 10, code := some k1c4 }
/-- com/example/cellwise/cellwise/CellNamePinLaw -/
def k1 : Class := { plain "com/example/cellwise/cellwise/CellNamePinLaw" (some 0) with
  accessFlags := 49
  interfaces := #[]
  cf := some (fileOf pool1 8 #[] #[{ accessFlags := 1, nameIndex := 5, descriptorIndex := 6, attributes := #[] }, { accessFlags := 9, nameIndex := 59, descriptorIndex := 60, attributes := #[] }, { accessFlags := 10, nameIndex := 11, descriptorIndex := 12, attributes := #[] }, { accessFlags := 10, nameIndex := 55, descriptorIndex := 56, attributes := #[] }, { accessFlags := 10, nameIndex := 44, descriptorIndex := 45, attributes := #[] }] 49 2 #[] #[])
  fields := #[]
  methods := #[k1m0, k1m1, k1m2, k1m3, k1m4]
  instanceTypes := #[]
  staticTypes := #[]
  resolved := Array.replicate 70 none
  statics := none }

def pool2 : Array CpInfo := pool [(1, .class_ 2), (0, u "java/io/Serializable"), (0, .class_ 4), (0, u "java/lang/Object")] 2

/-- java/io/Serializable -/
def k2 : Class := { plain "java/io/Serializable" (some 0) with
  accessFlags := 1537
  interfaces := #[]
  cf := some (fileOf pool2 1 #[] #[] 1537 3 #[] #[])
  fields := #[]
  methods := #[]
  instanceTypes := #[]
  staticTypes := #[]
  resolved := Array.replicate 7 none
  statics := none }

def pool3 : Array CpInfo := pool [(1, .class_ 2), (0, u "java/lang/Comparable"), (0, .class_ 4), (0, u "java/lang/Object")] 7

/-- java/lang/Comparable -/
def k3 : Class := { plain "java/lang/Comparable" (some 0) with
  accessFlags := 1537
  interfaces := #[]
  cf := some (fileOf pool3 1 #[] #[] 1537 3 #[] #[])
  fields := #[]
  methods := #[]
  instanceTypes := #[]
  staticTypes := #[]
  resolved := Array.replicate 12 none
  statics := none }

def pool4 : Array CpInfo := pool [(2, .class_ 4), (1, u "java/lang/CharSequence"), (42, .class_ 48), (0, u "java/lang/CharSequence$1CodePointIterator"), (10, .class_ 60), (0, u "java/lang/CharSequence$1CharIterator"), (5, .class_ 67), (0, u "java/lang/Object")] 63

/-- java/lang/CharSequence -/
def k4 : Class := { plain "java/lang/CharSequence" (some 0) with
  accessFlags := 1537
  interfaces := #[]
  cf := some (fileOf pool4 2 #[.nestMembers #[47, 59]] #[] 1537 66 #[] #[])
  fields := #[]
  methods := #[]
  instanceTypes := #[]
  staticTypes := #[]
  resolved := Array.replicate 131 none
  statics := none }

def pool5 : Array CpInfo := pool [(1, .class_ 2), (0, u "java/lang/constant/Constable"), (0, .class_ 4), (0, u "java/lang/Object")] 6

/-- java/lang/constant/Constable -/
def k5 : Class := { plain "java/lang/constant/Constable" (some 0) with
  accessFlags := 1537
  interfaces := #[]
  cf := some (fileOf pool5 1 #[] #[] 1537 3 #[] #[])
  fields := #[]
  methods := #[]
  instanceTypes := #[]
  staticTypes := #[]
  resolved := Array.replicate 11 none
  statics := none }

def pool6 : Array CpInfo := pool [(1, .class_ 2), (0, u "java/lang/constant/ConstantDesc"), (0, .class_ 4), (0, u "java/lang/Object")] 32

/-- java/lang/constant/ConstantDesc -/
def k6 : Class := { plain "java/lang/constant/ConstantDesc" (some 0) with
  accessFlags := 1537
  interfaces := #[]
  cf := some (fileOf pool6 1 #[] #[] 1537 3 #[] #[])
  fields := #[]
  methods := #[]
  instanceTypes := #[]
  staticTypes := #[]
  resolved := Array.replicate 37 none
  statics := none }

def pool7 : Array CpInfo := pool [(1, .methodref 2 3), (0, .class_ 4), (0, .nameAndType 5 6), (0, u "java/lang/Object"), (0, u "<init>"), (0, u "()V"), (0, .string 8), (0, u ""), (0, .fieldref 10 11), (0, .class_ 12), (0, .nameAndType 13 14), (0, u "java/lang/String"), (0, u "value"), (0, u "[B"), (0, .fieldref 10 16), (0, .nameAndType 17 18), (0, u "coder"), (0, u "B"), (2, u "hash"), (0, u "I"), (2, u "hashIsZero"), (0, u "Z"), (0, .methodref 10 28), (0, .nameAndType 5 29), (0, u "([CIILjava/lang/Void;)V"), (8, .fieldref 10 39), (0, .nameAndType 40 26), (0, u "COMPACT_STRINGS"), (1, .class_ 44), (1, u "java/lang/StringUTF16"), (0, u "compress"), (1, .methodref 42 48), (0, .nameAndType 49 50), (0, u "coderFromArrayLen"), (0, u "([BI)B"), (2, u "toBytes"), (0, .methodref 55 56), (0, .class_ 57), (0, .nameAndType 58 59), (0, u "java/util/Arrays"), (0, u "copyOfRange"), (0, u "([BII)[B"), (47, .class_ 109), (1, u "java/lang/StringLatin1"), (32, u "()Z"), (34, .methodref 42 178), (0, .nameAndType 45 179), (0, u "([CII)[B"), (13, .class_ 195), (1, u "java/lang/System"), (13, .methodref 10 210), (0, .nameAndType 5 211), (0, u "([BB)V"), (0, .methodref 193 213), (0, .nameAndType 214 215), (0, u "arraycopy"), (0, u "(Ljava/lang/Object;ILjava/lang/Object;II)V"), (118, u "()I"), (0, .methodref 10 336), (0, .nameAndType 17 337), (0, u "()B"), (2, u "()[B"), (22, u "([BI)C"), (5, u "(C)Z"), (21, u "(II)V"), (35, u "(I)C"), (61, .methodref 10 490), (0, .nameAndType 5 491), (0, u "(Ljava/lang/AbstractStringBuilder;Ljava/lang/Void;)V"), (0, .methodref 10 493), (0, .nameAndType 494 142), (0, u "isLatin1"), (0, .methodref 107 496), (0, .nameAndType 497 363), (0, u "charAt"), (3, u "checkIndex"), (4, .nameAndType 507 334), (0, u "length"), (24, u "getBytes"), (16, .methodref 550 506), (0, .class_ 551), (0, u "java/lang/AbstractStringBuilder"), (0, .methodref 550 553), (0, .nameAndType 554 340), (0, u "getValue"), (20, .class_ 576), (0, u "java/lang/CharSequence"), (22, u "CASE_INSENSITIVE_ORDER"), (0, u "Ljava/util/Comparator;"), (181, u "valueOf"), (0, u "(C)Ljava/lang/String;"), (37, u "([BIB)V"), (188, u "([C)V"), (4, .methodref 107 1016), (0, .nameAndType 1017 369), (0, u "canEncode"), (0, .methodref 107 1019), (0, .nameAndType 53 1020), (0, u "(C)[B"), (26, .methodref 550 493), (5, .fieldref 1054 1055), (0, .class_ 1056), (0, .nameAndType 1057 1058), (0, u "jdk/internal/util/Preconditions"), (0, u "SIOOBE_FORMATTER"), (0, u "Ljava/util/function/BiFunction;"), (0, .methodref 1054 1060), (0, .nameAndType 501 1061), (0, u "(IILjava/util/function/BiFunction;)I"), (39, u "serialPersistentFields"), (0, u "[Ljava/io/ObjectStreamField;"), (0, .class_ 1104), (0, u "java/lang/String$CaseInsensitiveComparator"), (1, .class_ 1107), (0, u "java/io/Serializable"), (0, .class_ 1109), (0, u "java/lang/Comparable"), (0, .class_ 1111), (0, u "java/lang/constant/Constable"), (0, .class_ 1113), (0, u "java/lang/constant/ConstantDesc"), (2, u "serialVersionUID"), (0, u "J"), (3, u "REPL"), (0, u "C"), (2, u "LATIN1"), (1, u "UTF16"), (105, u "(Ljava/lang/StringBuilder;)V")] 217

def k7m0 : Method := { name := "<init>", desc := "()V", sig := { parameters := [], returnType := none }, accessFlags := 1, code := none }
def k7c1 : Code := { maxStack := 5, maxLocals := 2, code := jdk_42_method_3_code, exceptionTable := #[], attributes := #[] }
def k7m1 : Method := { name := "<init>", desc := "([C)V", sig := { parameters := [(.array .char)], returnType := none }, accessFlags := 1, code := some k7c1 }
def k7c2 : Code := { maxStack := 3, maxLocals := 2, code := jdk_42_method_53_code, exceptionTable := #[], attributes := #[] }
def k7m2 : Method := { name := "<init>", desc := "(Ljava/lang/StringBuilder;)V", sig := { parameters := [(.object "java/lang/StringBuilder")], returnType := none }, accessFlags := 1, code := some k7c2 }
def k7c3 : Code := { maxStack := 2, maxLocals := 1, code := jdk_42_method_54_code, exceptionTable := #[], attributes := #[] }
def k7m3 : Method := { name := "length", desc := "()I", sig := { parameters := [], returnType := some .int }, accessFlags := 1, code := some k7c3 }
def k7c4 : Code := { maxStack := 2, maxLocals := 2, code := jdk_42_method_56_code, exceptionTable := #[], attributes := #[] }
def k7m4 : Method := { name := "charAt", desc := "(I)C", sig := { parameters := [.int], returnType := some .char }, accessFlags := 1, code := some k7c4 }
def k7c5 : Code := { maxStack := 4, maxLocals := 1, code := jdk_42_method_139_code, exceptionTable := #[], attributes := #[] }
def k7m5 : Method := { name := "valueOf", desc := "(C)Ljava/lang/String;", sig := { parameters := [.char], returnType := some (.object "java/lang/String") }, accessFlags := 9, code := some k7c5 }
def k7c6 : Code := { maxStack := 5, maxLocals := 4, code := jdk_42_method_147_code, exceptionTable := #[], attributes := #[] }
def k7m6 : Method := { name := "getBytes", desc := "([BIB)V", sig := { parameters := [(.array .byte), .int, .byte], returnType := none }, accessFlags := 0, code := some k7c6 }
def k7c7 : Code := { maxStack := 4, maxLocals := 6, code := jdk_42_method_149_code, exceptionTable := #[], attributes := #[] }
def k7m7 : Method := { name := "<init>", desc := "([CIILjava/lang/Void;)V", sig := { parameters := [(.array .char), .int, .int, (.object "java/lang/Void")], returnType := none }, accessFlags := 2, code := some k7c7 }
def k7c8 : Code := { maxStack := 5, maxLocals := 5, code := jdk_42_method_150_code, exceptionTable := #[], attributes := #[] }
def k7m8 : Method := { name := "<init>", desc := "(Ljava/lang/AbstractStringBuilder;Ljava/lang/Void;)V", sig := { parameters := [(.object "java/lang/AbstractStringBuilder"), (.object "java/lang/Void")], returnType := none }, accessFlags := 0, code := some k7c8 }
def k7c9 : Code := { maxStack := 2, maxLocals := 3, code := jdk_42_method_151_code, exceptionTable := #[], attributes := #[] }
def k7m9 : Method := { name := "<init>", desc := "([BB)V", sig := { parameters := [(.array .byte), .byte], returnType := none }, accessFlags := 0, code := some k7c9 }
def k7c10 : Code := { maxStack := 1, maxLocals := 1, code := jdk_42_method_152_code, exceptionTable := #[], attributes := #[] }
def k7m10 : Method := { name := "coder", desc := "()B", sig := { parameters := [], returnType := some .byte }, accessFlags := 0, code := some k7c10 }
def k7c11 : Code := { maxStack := 1, maxLocals := 1, code := jdk_42_method_154_code, exceptionTable := #[], attributes := #[] }
def k7m11 : Method := { name := "isLatin1", desc := "()Z", sig := { parameters := [], returnType := some .boolean }, accessFlags := 0, code := some k7c11 }
def k7c12 : Code := { maxStack := 3, maxLocals := 2, code := jdk_42_method_155_code, exceptionTable := #[], attributes := #[] }
def k7m12 : Method := { name := "checkIndex", desc := "(II)V", sig := { parameters := [.int, .int], returnType := none }, accessFlags := 8, code := some k7c12 }
/-- java/lang/String -/
def k7 : Class := { plain "java/lang/String" (some 0) with
  accessFlags := 49
  interfaces := #[2, 3, 4, 5, 6]
  cf := some (fileOf pool7 10 #[.nestMembers #[1103]] #[{ accessFlags := 1, nameIndex := 5, descriptorIndex := 6, attributes := #[] }, { accessFlags := 1, nameIndex := 5, descriptorIndex := 1010, attributes := #[] }, { accessFlags := 1, nameIndex := 5, descriptorIndex := 1233, attributes := #[] }, { accessFlags := 1, nameIndex := 507, descriptorIndex := 334, attributes := #[] }, { accessFlags := 1, nameIndex := 497, descriptorIndex := 427, attributes := #[] }, { accessFlags := 9, nameIndex := 782, descriptorIndex := 783, attributes := #[] }, { accessFlags := 0, nameIndex := 532, descriptorIndex := 821, attributes := #[] }, { accessFlags := 2, nameIndex := 5, descriptorIndex := 29, attributes := #[] }, { accessFlags := 0, nameIndex := 5, descriptorIndex := 491, attributes := #[] }, { accessFlags := 0, nameIndex := 5, descriptorIndex := 211, attributes := #[] }, { accessFlags := 0, nameIndex := 17, descriptorIndex := 337, attributes := #[] }, { accessFlags := 0, nameIndex := 494, descriptorIndex := 142, attributes := #[] }, { accessFlags := 8, nameIndex := 501, descriptorIndex := 391, attributes := #[] }] 49 2 #[1106, 1108, 575, 1110, 1112] #[{ accessFlags := 18, nameIndex := 13, descriptorIndex := 14, attributes := #[] }, { accessFlags := 18, nameIndex := 17, descriptorIndex := 18, attributes := #[] }, { accessFlags := 2, nameIndex := 21, descriptorIndex := 22, attributes := #[] }, { accessFlags := 2, nameIndex := 25, descriptorIndex := 26, attributes := #[] }, { accessFlags := 26, nameIndex := 1116, descriptorIndex := 1117, attributes := #[] }, { accessFlags := 24, nameIndex := 40, descriptorIndex := 26, attributes := #[] }, { accessFlags := 26, nameIndex := 1101, descriptorIndex := 1102, attributes := #[] }, { accessFlags := 26, nameIndex := 1121, descriptorIndex := 1122, attributes := #[] }, { accessFlags := 25, nameIndex := 599, descriptorIndex := 600, attributes := #[] }, { accessFlags := 24, nameIndex := 1125, descriptorIndex := 18, attributes := #[] }, { accessFlags := 24, nameIndex := 1127, descriptorIndex := 18, attributes := #[] }])
  fields := #[{ name := "value", type := (.array .byte), accessFlags := 18, slot := 0, constantValue := 0 }, { name := "coder", type := .byte, accessFlags := 18, slot := 1, constantValue := 0 }, { name := "hash", type := .int, accessFlags := 2, slot := 2, constantValue := 0 }, { name := "hashIsZero", type := .boolean, accessFlags := 2, slot := 3, constantValue := 0 }, { name := "serialVersionUID", type := .long, accessFlags := 26, slot := 0, constantValue := 0 }, { name := "COMPACT_STRINGS", type := .boolean, accessFlags := 24, slot := 1, constantValue := 0 }, { name := "serialPersistentFields", type := (.array (.object "java/io/ObjectStreamField")), accessFlags := 26, slot := 2, constantValue := 0 }, { name := "REPL", type := .char, accessFlags := 26, slot := 3, constantValue := 0 }, { name := "CASE_INSENSITIVE_ORDER", type := (.object "java/util/Comparator"), accessFlags := 25, slot := 4, constantValue := 0 }, { name := "LATIN1", type := .byte, accessFlags := 24, slot := 5, constantValue := 0 }, { name := "UTF16", type := .byte, accessFlags := 24, slot := 6, constantValue := 0 }]
  methods := #[k7m0, k7m1, k7m2, k7m3, k7m4, k7m5, k7m6, k7m7, k7m8, k7m9, k7m10, k7m11, k7m12]
  instanceTypes := #[(.array .byte), .byte, .int, .boolean]
  staticTypes := #[.long, .boolean, (.array (.object "java/io/ObjectStreamField")), .char, (.object "java/util/Comparator"), .byte, .byte]
  resolved := Array.replicate 1451 none
  statics := some 0 }

def pool8 : Array CpInfo := pool [(6, .class_ 8), (1, u "java/lang/Object"), (0, u "<init>"), (0, u "()V"), (1, .class_ 14), (1, u "java/lang/StringUTF16"), (31, u "$assertionsDisabled"), (0, u "Z"), (13, u "HI_BYTE_SHIFT"), (0, u "I"), (2, u "LO_BYTE_SHIFT"), (49, .methodref 12 116), (0, .nameAndType 117 118), (0, u "compress"), (0, u "([CI[BII)I"), (3, u "([CII)[B"), (138, u "coderFromArrayLen"), (0, u "([BI)B"), (106, .class_ 371), (1, u "java/lang/StringUTF16$LinesSpliterator"), (58, u "MAX_LENGTH"), (196, .class_ 628), (0, u "java/lang/StringUTF16$CodePointsSpliterator"), (0, .class_ 630), (0, u "java/lang/StringUTF16$CharsSpliterator")] 4

def k8m0 : Method := { name := "<init>", desc := "()V", sig := { parameters := [], returnType := none }, accessFlags := 0, code := none }
def k8c1 : Code := { maxStack := 2, maxLocals := 2, code := jdk_52_method_15_code, exceptionTable := #[], attributes := #[] }
def k8m1 : Method := { name := "coderFromArrayLen", desc := "([BI)B", sig := { parameters := [(.array .byte), .int], returnType := some .byte }, accessFlags := 8, code := some k8c1 }
def k8c2 : Code := { maxStack := 5, maxLocals := 6, code := jdk_52_method_16_code, exceptionTable := #[], attributes := #[] }
def k8m2 : Method := { name := "compress", desc := "([CII)[B", sig := { parameters := [(.array .char), .int, .int], returnType := some (.array .byte) }, accessFlags := 9, code := some k8c2 }
def k8c3 : Code := { maxStack := 3, maxLocals := 7, code := jdk_52_method_21_code, exceptionTable := #[], attributes := #[] }
def k8m3 : Method := { name := "compress", desc := "([CI[BII)I", sig := { parameters := [(.array .char), .int, (.array .byte), .int, .int], returnType := some .int }, accessFlags := 9, code := some k8c3 }
/-- java/lang/StringUTF16 -/
def k8 : Class := { plain "java/lang/StringUTF16" (some 0) with
  accessFlags := 48
  interfaces := #[]
  cf := some (fileOf pool8 12 #[.nestMembers #[627, 629, 369]] #[{ accessFlags := 0, nameIndex := 9, descriptorIndex := 10, attributes := #[] }, { accessFlags := 8, nameIndex := 261, descriptorIndex := 262, attributes := #[] }, { accessFlags := 9, nameIndex := 117, descriptorIndex := 122, attributes := #[] }, { accessFlags := 9, nameIndex := 117, descriptorIndex := 118, attributes := #[] }] 48 6 #[] #[{ accessFlags := 26, nameIndex := 61, descriptorIndex := 62, attributes := #[] }, { accessFlags := 26, nameIndex := 65, descriptorIndex := 62, attributes := #[] }, { accessFlags := 24, nameIndex := 430, descriptorIndex := 62, attributes := #[] }, { accessFlags := 4120, nameIndex := 46, descriptorIndex := 47, attributes := #[] }])
  fields := #[{ name := "HI_BYTE_SHIFT", type := .int, accessFlags := 26, slot := 0, constantValue := 0 }, { name := "LO_BYTE_SHIFT", type := .int, accessFlags := 26, slot := 1, constantValue := 0 }, { name := "MAX_LENGTH", type := .int, accessFlags := 24, slot := 2, constantValue := 0 }, { name := "$assertionsDisabled", type := .boolean, accessFlags := 4120, slot := 3, constantValue := 0 }]
  methods := #[k8m0, k8m1, k8m2, k8m3]
  instanceTypes := #[]
  staticTypes := #[.int, .int, .int, .boolean]
  resolved := Array.replicate 635 none
  statics := none }

def pool9 : Array CpInfo := pool [(1, .methodref 2 3), (0, .class_ 4), (0, .nameAndType 5 6), (0, u "java/lang/Object"), (0, u "<init>"), (0, u "()V"), (0, .class_ 8), (0, u "java/lang/Record")] 13

def k9c0 : Code := { maxStack := 1, maxLocals := 1, code := jdk_30_method_1_code, exceptionTable := #[], attributes := #[] }
def k9m0 : Method := { name := "<init>", desc := "()V", sig := { parameters := [], returnType := none }, accessFlags := 4, code := some k9c0 }
/-- java/lang/Record -/
def k9 : Class := { plain "java/lang/Record" (some 0) with
  accessFlags := 1057
  interfaces := #[]
  cf := some (fileOf pool9 7 #[] #[{ accessFlags := 4, nameIndex := 5, descriptorIndex := 6, attributes := #[] }] 1057 2 #[] #[])
  fields := #[]
  methods := #[k9m0]
  instanceTypes := #[]
  staticTypes := #[]
  resolved := Array.replicate 22 none
  statics := none }

def pool10 : Array CpInfo := pool [(1, .methodref 2 3), (0, .class_ 4), (0, .nameAndType 5 6), (0, u "java/lang/Record"), (0, u "<init>"), (0, u "()V"), (0, .fieldref 8 9), (0, .class_ 10), (0, .nameAndType 11 12), (0, u "com/example/cellwise/cellwise/Matrix$Competency"), (0, u "id"), (0, u "J"), (0, .fieldref 8 14), (0, .nameAndType 15 16), (0, u "heading"), (0, u "Ljava/lang/String;"), (0, .fieldref 8 18), (0, .nameAndType 19 16), (0, u "description"), (12, u "(JLjava/lang/String;Ljava/lang/String;)V"), (3, u "()Ljava/lang/String;"), (6, .class_ 44), (0, u "com/example/cellwise/cellwise/Matrix")] 21

def k10c0 : Code := { maxStack := 3, maxLocals := 5, code := prog_16_method_1_code, exceptionTable := #[], attributes := #[] }
def k10m0 : Method := { name := "<init>", desc := "(JLjava/lang/String;Ljava/lang/String;)V", sig := { parameters := [.long, (.object "java/lang/String"), (.object "java/lang/String")], returnType := none }, accessFlags := 1, code := some k10c0 }
def k10c1 : Code := { maxStack := 1, maxLocals := 1, code := prog_16_method_6_code, exceptionTable := #[], attributes := #[] }
def k10m1 : Method := { name := "heading", desc := "()Ljava/lang/String;", sig := { parameters := [], returnType := some (.object "java/lang/String") }, accessFlags := 1, code := some k10c1 }
/-- com/example/cellwise/cellwise/Matrix$Competency -/
def k10 : Class := { plain "com/example/cellwise/cellwise/Matrix$Competency" (some 9) with
  accessFlags := 49
  interfaces := #[]
  cf := some (fileOf pool10 8 #[.nestHost 43] #[{ accessFlags := 1, nameIndex := 5, descriptorIndex := 32, attributes := #[] }, { accessFlags := 1, nameIndex := 15, descriptorIndex := 36, attributes := #[] }] 49 2 #[] #[{ accessFlags := 18, nameIndex := 11, descriptorIndex := 12, attributes := #[] }, { accessFlags := 18, nameIndex := 15, descriptorIndex := 16, attributes := #[] }, { accessFlags := 18, nameIndex := 19, descriptorIndex := 16, attributes := #[] }])
  fields := #[{ name := "id", type := .long, accessFlags := 18, slot := 0, constantValue := 0 }, { name := "heading", type := (.object "java/lang/String"), accessFlags := 18, slot := 1, constantValue := 0 }, { name := "description", type := (.object "java/lang/String"), accessFlags := 18, slot := 2, constantValue := 0 }]
  methods := #[k10m0, k10m1]
  instanceTypes := #[.long, (.object "java/lang/String"), (.object "java/lang/String")]
  staticTypes := #[]
  resolved := Array.replicate 66 none
  statics := none }

def pool11 : Array CpInfo := pool [(1, .class_ 2), (0, u "java/lang/String"), (1, .class_ 6), (1, u "java/lang/Object"), (0, u "<init>"), (0, u "()V"), (0, .methodref 1 10), (0, .nameAndType 11 12), (0, u "checkIndex"), (0, u "(II)V"), (1, .class_ 16), (1, u "java/lang/StringLatin1"), (36, u "([BI)C"), (36, u "canEncode"), (14, u "(C)Z"), (15, u "$assertionsDisabled"), (0, u "Z"), (98, .class_ 223), (1, u "java/lang/StringLatin1$LinesSpliterator"), (28, u "charAt"), (127, u "toBytes"), (1, u "(C)[B"), (7, .class_ 391), (0, u "java/lang/StringLatin1$CharsSpliterator")] 3

def k11m0 : Method := { name := "<init>", desc := "()V", sig := { parameters := [], returnType := none }, accessFlags := 0, code := none }
def k11c1 : Code := { maxStack := 2, maxLocals := 2, code := jdk_43_method_2_code, exceptionTable := #[], attributes := #[] }
def k11m1 : Method := { name := "charAt", desc := "([BI)C", sig := { parameters := [(.array .byte), .int], returnType := some .char }, accessFlags := 9, code := some k11c1 }
def k11c2 : Code := { maxStack := 2, maxLocals := 1, code := jdk_43_method_3_code, exceptionTable := #[], attributes := #[] }
def k11m2 : Method := { name := "canEncode", desc := "(C)Z", sig := { parameters := [.char], returnType := some .boolean }, accessFlags := 9, code := some k11c2 }
def k11c3 : Code := { maxStack := 4, maxLocals := 1, code := jdk_43_method_46_code, exceptionTable := #[], attributes := #[] }
def k11m3 : Method := { name := "toBytes", desc := "(C)[B", sig := { parameters := [.char], returnType := some (.array .byte) }, accessFlags := 9, code := some k11c3 }
/-- java/lang/StringLatin1 -/
def k11 : Class := { plain "java/lang/StringLatin1" (some 0) with
  accessFlags := 48
  interfaces := #[]
  cf := some (fileOf pool11 14 #[.nestMembers #[390, 221]] #[{ accessFlags := 0, nameIndex := 7, descriptorIndex := 8, attributes := #[] }, { accessFlags := 9, nameIndex := 252, descriptorIndex := 53, attributes := #[] }, { accessFlags := 9, nameIndex := 90, descriptorIndex := 105, attributes := #[] }, { accessFlags := 9, nameIndex := 380, descriptorIndex := 382, attributes := #[] }] 48 4 #[] #[{ accessFlags := 4120, nameIndex := 121, descriptorIndex := 122, attributes := #[] }])
  fields := #[{ name := "$assertionsDisabled", type := .boolean, accessFlags := 4120, slot := 0, constantValue := 0 }]
  methods := #[k11m0, k11m1, k11m2, k11m3]
  instanceTypes := #[]
  staticTypes := #[.boolean]
  resolved := Array.replicate 395 none
  statics := none }

def pool12 : Array CpInfo := pool [(1, .methodref 2 3), (0, .class_ 4), (0, .nameAndType 5 6), (0, u "java/lang/Record"), (0, u "<init>"), (0, u "()V"), (0, .fieldref 8 9), (0, .class_ 10), (0, .nameAndType 11 12), (0, u "com/example/cellwise/cellwise/Matrix$Training"), (0, u "id"), (0, u "J"), (0, .fieldref 8 14), (0, .nameAndType 15 16), (0, u "name"), (0, u "Ljava/lang/String;"), (12, u "(JLjava/lang/String;)V"), (3, u "()Ljava/lang/String;"), (6, .class_ 41), (0, u "com/example/cellwise/cellwise/Matrix")] 20

def k12c0 : Code := { maxStack := 3, maxLocals := 4, code := prog_18_method_1_code, exceptionTable := #[], attributes := #[] }
def k12m0 : Method := { name := "<init>", desc := "(JLjava/lang/String;)V", sig := { parameters := [.long, (.object "java/lang/String")], returnType := none }, accessFlags := 1, code := some k12c0 }
def k12c1 : Code := { maxStack := 1, maxLocals := 1, code := prog_18_method_6_code, exceptionTable := #[], attributes := #[] }
def k12m1 : Method := { name := "name", desc := "()Ljava/lang/String;", sig := { parameters := [], returnType := some (.object "java/lang/String") }, accessFlags := 1, code := some k12c1 }
/-- com/example/cellwise/cellwise/Matrix$Training -/
def k12 : Class := { plain "com/example/cellwise/cellwise/Matrix$Training" (some 9) with
  accessFlags := 49
  interfaces := #[]
  cf := some (fileOf pool12 8 #[.nestHost 40] #[{ accessFlags := 1, nameIndex := 5, descriptorIndex := 29, attributes := #[] }, { accessFlags := 1, nameIndex := 15, descriptorIndex := 33, attributes := #[] }] 49 2 #[] #[{ accessFlags := 18, nameIndex := 11, descriptorIndex := 12, attributes := #[] }, { accessFlags := 18, nameIndex := 15, descriptorIndex := 16, attributes := #[] }])
  fields := #[{ name := "id", type := .long, accessFlags := 18, slot := 0, constantValue := 0 }, { name := "name", type := (.object "java/lang/String"), accessFlags := 18, slot := 1, constantValue := 0 }]
  methods := #[k12m0, k12m1]
  instanceTypes := #[.long, (.object "java/lang/String")]
  staticTypes := #[]
  resolved := Array.replicate 62 none
  statics := none }

def pool13 : Array CpInfo := pool [(1, .methodref 2 3), (0, .class_ 4), (0, .nameAndType 5 6), (0, u "java/lang/Record"), (0, u "<init>"), (0, u "()V"), (0, .fieldref 8 9), (0, .class_ 10), (0, .nameAndType 11 12), (0, u "com/example/cellwise/cellwise/Matrix$Cell"), (0, u "competency"), (0, u "Lcom/example/cellwise/cellwise/Matrix$Competency;"), (0, .fieldref 8 14), (0, .nameAndType 15 16), (0, u "training"), (0, u "Lcom/example/cellwise/cellwise/Matrix$Training;"), (0, .class_ 18), (0, u "java/lang/StringBuilder"), (0, .methodref 17 3), (0, .methodref 21 22), (0, .class_ 23), (0, .nameAndType 24 25), (0, u "com/example/cellwise/cellwise/Matrix$Competency"), (0, u "heading"), (0, u "()Ljava/lang/String;"), (0, .methodref 17 27), (0, .nameAndType 28 29), (0, u "append"), (0, u "(Ljava/lang/String;)Ljava/lang/StringBuilder;"), (0, .string 31), (0, u " in "), (0, .methodref 33 34), (0, .class_ 35), (0, .nameAndType 36 25), (0, u "com/example/cellwise/cellwise/Matrix$Training"), (0, u "name"), (0, .methodref 17 38), (0, .nameAndType 39 25), (0, u "toString"), (11, u "(Lcom/example/cellwise/cellwise/Matrix$Competency;Lcom/example/cellwise/cellwise/Matrix$Training;)V"), (10, .class_ 63), (0, u "com/example/cellwise/cellwise/Matrix")] 22

def k13c0 : Code := { maxStack := 2, maxLocals := 3, code := prog_15_method_1_code, exceptionTable := #[], attributes := #[] }
def k13m0 : Method := { name := "<init>", desc := "(Lcom/example/cellwise/cellwise/Matrix$Competency;Lcom/example/cellwise/cellwise/Matrix$Training;)V", sig := { parameters := [(.object "com/example/cellwise/cellwise/Matrix$Competency"), (.object "com/example/cellwise/cellwise/Matrix$Training")], returnType := none }, accessFlags := 1, code := some k13c0 }
def k13c1 : Code := { maxStack := 2, maxLocals := 1, code := prog_15_method_2_code, exceptionTable := #[], attributes := #[] }
def k13m1 : Method := { name := "name", desc := "()Ljava/lang/String;", sig := { parameters := [], returnType := some (.object "java/lang/String") }, accessFlags := 1, code := some k13c1 }
/-- com/example/cellwise/cellwise/Matrix$Cell -/
def k13 : Class := { plain "com/example/cellwise/cellwise/Matrix$Cell" (some 9) with
  accessFlags := 49
  interfaces := #[]
  cf := some (fileOf pool13 8 #[.nestHost 62] #[{ accessFlags := 1, nameIndex := 5, descriptorIndex := 51, attributes := #[] }, { accessFlags := 1, nameIndex := 36, descriptorIndex := 25, attributes := #[] }] 49 2 #[] #[{ accessFlags := 18, nameIndex := 11, descriptorIndex := 12, attributes := #[] }, { accessFlags := 18, nameIndex := 15, descriptorIndex := 16, attributes := #[] }])
  fields := #[{ name := "competency", type := (.object "com/example/cellwise/cellwise/Matrix$Competency"), accessFlags := 18, slot := 0, constantValue := 0 }, { name := "training", type := (.object "com/example/cellwise/cellwise/Matrix$Training"), accessFlags := 18, slot := 1, constantValue := 0 }]
  methods := #[k13m0, k13m1]
  instanceTypes := #[(.object "com/example/cellwise/cellwise/Matrix$Competency"), (.object "com/example/cellwise/cellwise/Matrix$Training")]
  staticTypes := #[]
  resolved := Array.replicate 86 none
  statics := none }

def pool14 : Array CpInfo := pool [(1, .class_ 2), (0, u "java/lang/Appendable"), (0, .class_ 4), (0, u "java/lang/Object")] 9

/-- java/lang/Appendable -/
def k14 : Class := { plain "java/lang/Appendable" (some 0) with
  accessFlags := 1537
  interfaces := #[]
  cf := some (fileOf pool14 1 #[] #[] 1537 3 #[] #[])
  fields := #[]
  methods := #[]
  instanceTypes := #[]
  staticTypes := #[]
  resolved := Array.replicate 14 none
  statics := none }

def pool15 : Array CpInfo := pool [(1, .class_ 2), (0, u "java/lang/String"), (0, .methodref 4 5), (0, .class_ 6), (0, .nameAndType 7 8), (0, u "java/lang/Object"), (0, u "<init>"), (0, u "()V"), (1, .class_ 12), (1, u "java/lang/AbstractStringBuilder"), (0, u "EMPTYVALUE"), (0, u "[B"), (0, .fieldref 10 16), (0, .nameAndType 17 14), (0, u "value"), (0, .fieldref 1 19), (0, .nameAndType 20 21), (0, u "COMPACT_STRINGS"), (0, u "Z"), (0, .fieldref 10 23), (0, .nameAndType 24 25), (0, u "coder"), (0, u "B"), (6, .methodref 1 33), (0, .nameAndType 34 35), (0, u "length"), (0, u "()I"), (4, .methodref 1 41), (0, .nameAndType 24 42), (0, u "()B"), (2, u "append"), (0, u "(Ljava/lang/String;)Ljava/lang/AbstractStringBuilder;"), (1, .class_ 49), (0, u "java/lang/CharSequence"), (19, u "(Ljava/lang/String;)V"), (5, u "maybeLatin1"), (3, .fieldref 10 80), (0, .nameAndType 81 82), (0, u "count"), (0, u "I"), (2, u "isLatin1"), (0, u "()Z"), (13, .methodref 10 101), (0, .nameAndType 102 103), (0, u "ensureCapacityInternal"), (0, u "(I)V"), (104, .methodref 10 209), (0, .nameAndType 210 211), (0, u "putStringAt"), (0, u "(ILjava/lang/String;)V"), (5, u "inflateIfNeededFor"), (2, .nameAndType 221 222), (0, u "getBytes"), (0, u "([BIB)V"), (174, .methodref 10 398), (0, .nameAndType 217 69), (0, .methodref 1 220), (3, u "()[B"), (40, .class_ 445), (0, u "java/lang/Appendable"), (106, u "getValue")] 56

def k15m0 : Method := { name := "<init>", desc := "()V", sig := { parameters := [], returnType := none }, accessFlags := 0, code := none }
def k15c1 : Code := { maxStack := 2, maxLocals := 2, code := jdk_68_method_2_code, exceptionTable := #[], attributes := #[] }
def k15m1 : Method := { name := "<init>", desc := "(I)V", sig := { parameters := [.int], returnType := none }, accessFlags := 0, code := some k15c1 }
def k15c2 : Code := { maxStack := 1, maxLocals := 1, code := jdk_68_method_6_code, exceptionTable := #[], attributes := #[] }
def k15m2 : Method := { name := "length", desc := "()I", sig := { parameters := [], returnType := some .int }, accessFlags := 1, code := some k15c2 }
def k15c3 : Code := { maxStack := 4, maxLocals := 3, code := jdk_68_method_9_code, exceptionTable := #[], attributes := #[] }
def k15m3 : Method := { name := "ensureCapacityInternal", desc := "(I)V", sig := { parameters := [.int], returnType := none }, accessFlags := 2, code := some k15c3 }
def k15c4 : Code := { maxStack := 3, maxLocals := 3, code := jdk_68_method_22_code, exceptionTable := #[], attributes := #[] }
def k15m4 : Method := { name := "append", desc := "(Ljava/lang/String;)Ljava/lang/AbstractStringBuilder;", sig := { parameters := [(.object "java/lang/String")], returnType := some (.object "java/lang/AbstractStringBuilder") }, accessFlags := 1, code := some k15c4 }
def k15c5 : Code := { maxStack := 1, maxLocals := 1, code := jdk_68_method_64_code, exceptionTable := #[], attributes := #[] }
def k15m5 : Method := { name := "getValue", desc := "()[B", sig := { parameters := [], returnType := some (.array .byte) }, accessFlags := 16, code := some k15c5 }
def k15c6 : Code := { maxStack := 1, maxLocals := 1, code := jdk_68_method_68_code, exceptionTable := #[], attributes := #[] }
def k15m6 : Method := { name := "isLatin1", desc := "()Z", sig := { parameters := [], returnType := some .boolean }, accessFlags := 16, code := some k15c6 }
def k15c7 : Code := { maxStack := 2, maxLocals := 2, code := jdk_68_method_71_code, exceptionTable := #[], attributes := #[] }
def k15m7 : Method := { name := "inflateIfNeededFor", desc := "(Ljava/lang/String;)V", sig := { parameters := [(.object "java/lang/String")], returnType := none }, accessFlags := 2, code := some k15c7 }
def k15c8 : Code := { maxStack := 4, maxLocals := 3, code := jdk_68_method_73_code, exceptionTable := #[], attributes := #[] }
def k15m8 : Method := { name := "putStringAt", desc := "(ILjava/lang/String;)V", sig := { parameters := [.int, (.object "java/lang/String")], returnType := none }, accessFlags := 2, code := some k15c8 }
/-- java/lang/AbstractStringBuilder -/
def k15 : Class := { plain "java/lang/AbstractStringBuilder" (some 0) with
  accessFlags := 1056
  interfaces := #[14, 4]
  cf := some (fileOf pool15 10 #[] #[{ accessFlags := 0, nameIndex := 7, descriptorIndex := 8, attributes := #[] }, { accessFlags := 0, nameIndex := 7, descriptorIndex := 103, attributes := #[] }, { accessFlags := 1, nameIndex := 34, descriptorIndex := 35, attributes := #[] }, { accessFlags := 2, nameIndex := 102, descriptorIndex := 103, attributes := #[] }, { accessFlags := 1, nameIndex := 45, descriptorIndex := 46, attributes := #[] }, { accessFlags := 16, nameIndex := 552, descriptorIndex := 403, attributes := #[] }, { accessFlags := 16, nameIndex := 85, descriptorIndex := 86, attributes := #[] }, { accessFlags := 2, nameIndex := 217, descriptorIndex := 69, attributes := #[] }, { accessFlags := 2, nameIndex := 210, descriptorIndex := 211, attributes := #[] }] 1056 4 #[444, 48] #[{ accessFlags := 0, nameIndex := 17, descriptorIndex := 14, attributes := #[] }, { accessFlags := 0, nameIndex := 24, descriptorIndex := 25, attributes := #[] }, { accessFlags := 0, nameIndex := 75, descriptorIndex := 21, attributes := #[] }, { accessFlags := 0, nameIndex := 81, descriptorIndex := 82, attributes := #[] }, { accessFlags := 26, nameIndex := 13, descriptorIndex := 14, attributes := #[] }])
  fields := #[{ name := "value", type := (.array .byte), accessFlags := 0, slot := 0, constantValue := 0 }, { name := "coder", type := .byte, accessFlags := 0, slot := 1, constantValue := 0 }, { name := "maybeLatin1", type := .boolean, accessFlags := 0, slot := 2, constantValue := 0 }, { name := "count", type := .int, accessFlags := 0, slot := 3, constantValue := 0 }, { name := "EMPTYVALUE", type := (.array .byte), accessFlags := 26, slot := 0, constantValue := 0 }]
  methods := #[k15m0, k15m1, k15m2, k15m3, k15m4, k15m5, k15m6, k15m7, k15m8]
  instanceTypes := #[(.array .byte), .byte, .boolean, .int]
  staticTypes := #[(.array .byte)]
  resolved := Array.replicate 609 none
  statics := none }

def pool16 : Array CpInfo := pool [(1, .methodref 2 3), (0, .class_ 4), (0, .nameAndType 5 6), (0, u "java/lang/AbstractStringBuilder"), (0, u "<init>"), (0, u "(I)V"), (11, .class_ 20), (1, u "java/lang/String"), (3, .class_ 26), (1, u "java/lang/StringBuilder"), (0, u "append"), (0, u "(Ljava/lang/String;)Ljava/lang/StringBuilder;"), (0, .methodref 2 30), (0, .nameAndType 27 31), (0, u "(Ljava/lang/String;)Ljava/lang/AbstractStringBuilder;"), (105, .methodref 18 138), (0, .nameAndType 5 139), (0, u "(Ljava/lang/StringBuilder;)V"), (5, u "()V"), (10, u "()I"), (186, .methodref 2 344), (0, .nameAndType 345 156), (0, u "length"), (3, .class_ 350), (0, u "java/lang/Appendable"), (0, .class_ 352), (0, u "java/io/Serializable"), (0, .class_ 354), (0, u "java/lang/Comparable"), (0, .class_ 356), (0, u "java/lang/CharSequence"), (0, u "serialVersionUID"), (0, u "J"), (40, u "toString"), (0, u "()Ljava/lang/String;")] 21

def k16c0 : Code := { maxStack := 2, maxLocals := 1, code := jdk_67_method_1_code, exceptionTable := #[], attributes := #[] }
def k16m0 : Method := { name := "<init>", desc := "()V", sig := { parameters := [], returnType := none }, accessFlags := 1, code := some k16c0 }
def k16c1 : Code := { maxStack := 2, maxLocals := 2, code := jdk_67_method_7_code, exceptionTable := #[], attributes := #[] }
def k16m1 : Method := { name := "append", desc := "(Ljava/lang/String;)Ljava/lang/StringBuilder;", sig := { parameters := [(.object "java/lang/String")], returnType := some (.object "java/lang/StringBuilder") }, accessFlags := 1, code := some k16c1 }
def k16c2 : Code := { maxStack := 3, maxLocals := 1, code := jdk_67_method_42_code, exceptionTable := #[], attributes := #[] }
def k16m2 : Method := { name := "toString", desc := "()Ljava/lang/String;", sig := { parameters := [], returnType := some (.object "java/lang/String") }, accessFlags := 1, code := some k16c2 }
def k16c3 : Code := { maxStack := 1, maxLocals := 1, code := jdk_67_method_93_code, exceptionTable := #[], attributes := #[] }
def k16m3 : Method := { name := "length", desc := "()I", sig := { parameters := [], returnType := some .int }, accessFlags := 4161, code := some k16c3 }
/-- java/lang/StringBuilder -/
def k16 : Class := { plain "java/lang/StringBuilder" (some 15) with
  accessFlags := 49
  interfaces := #[14, 2, 3, 4]
  cf := some (fileOf pool16 24 #[] #[{ accessFlags := 1, nameIndex := 5, descriptorIndex := 145, attributes := #[] }, { accessFlags := 1, nameIndex := 27, descriptorIndex := 28, attributes := #[] }, { accessFlags := 1, nameIndex := 399, descriptorIndex := 400, attributes := #[] }, { accessFlags := 4161, nameIndex := 345, descriptorIndex := 156, attributes := #[] }] 49 2 #[349, 351, 353, 355] #[{ accessFlags := 24, nameIndex := 357, descriptorIndex := 358, attributes := #[] }])
  fields := #[{ name := "serialVersionUID", type := .long, accessFlags := 24, slot := 0, constantValue := 0 }]
  methods := #[k16m0, k16m1, k16m2, k16m3]
  instanceTypes := #[(.array .byte), .byte, .boolean, .int]
  staticTypes := #[.long]
  resolved := Array.replicate 422 none
  statics := none }

def pool17 : Array CpInfo := pool [(2, .class_ 4), (1, u "java/lang/Object"), (0, u "<init>"), (0, u "()V"), (1, .class_ 10), (1, u "java/lang/System"), (0, u "allowSecurityManager"), (0, u "I"), (16, u "cons"), (0, u "Ljava/io/Console;"), (77, .class_ 110), (1, u "java/lang/System$CallersHolder"), (43, u "initialErrStream"), (0, u "Ljava/io/PrintStream;"), (19, u "security"), (0, u "Ljava/lang/SecurityManager;"), (31, .class_ 209), (0, u "java/lang/System$1"), (7, u "props"), (0, u "Ljava/util/Properties;"), (2, u "lineSeparator"), (0, u "Ljava/lang/String;"), (96, .class_ 321), (1, u "java/lang/System$LoggerFinder"), (5, .class_ 328), (0, u "java/lang/System$Logger"), (67, u "err"), (2, u "out"), (91, u "notSupportedJnuEncoding"), (15, u "in"), (17, u "initialIn"), (0, u "Ljava/io/InputStream;"), (35, u "bootLayer"), (0, u "Ljava/lang/ModuleLayer;"), (99, .class_ 664), (0, u "java/lang/System$2"), (9, u "NEVER"), (2, u "MAYBE"), (49, u "arraycopy"), (0, u "(Ljava/lang/Object;ILjava/lang/Object;II)V"), (72, .class_ 802), (0, u "java/lang/System$Logger$Level")] 31

def k17m0 : Method := { name := "<init>", desc := "()V", sig := { parameters := [], returnType := none }, accessFlags := 2, code := none }
def k17m1 : Method := { name := "arraycopy", desc := "(Ljava/lang/Object;ILjava/lang/Object;II)V", sig := { parameters := [(.object "java/lang/Object"), .int, (.object "java/lang/Object"), .int, .int], returnType := none }, accessFlags := 265, code := none }
/-- java/lang/System -/
def k17 : Class := { plain "java/lang/System" (some 0) with
  accessFlags := 49
  interfaces := #[]
  cf := some (fileOf pool17 8 #[.nestMembers #[319, 327, 801, 108, 663, 208]] #[{ accessFlags := 2, nameIndex := 5, descriptorIndex := 6, attributes := #[] }, { accessFlags := 265, nameIndex := 727, descriptorIndex := 728, attributes := #[] }] 49 2 #[] #[{ accessFlags := 25, nameIndex := 507, descriptorIndex := 526, attributes := #[] }, { accessFlags := 25, nameIndex := 399, descriptorIndex := 155, attributes := #[] }, { accessFlags := 25, nameIndex := 396, descriptorIndex := 155, attributes := #[] }, { accessFlags := 10, nameIndex := 525, descriptorIndex := 526, attributes := #[] }, { accessFlags := 26, nameIndex := 674, descriptorIndex := 12, attributes := #[] }, { accessFlags := 26, nameIndex := 677, descriptorIndex := 12, attributes := #[] }, { accessFlags := 10, nameIndex := 11, descriptorIndex := 12, attributes := #[] }, { accessFlags := 74, nameIndex := 175, descriptorIndex := 176, attributes := #[] }, { accessFlags := 10, nameIndex := 491, descriptorIndex := 222, attributes := #[] }, { accessFlags := 74, nameIndex := 29, descriptorIndex := 30, attributes := #[] }, { accessFlags := 74, nameIndex := 154, descriptorIndex := 155, attributes := #[] }, { accessFlags := 10, nameIndex := 217, descriptorIndex := 218, attributes := #[] }, { accessFlags := 10, nameIndex := 221, descriptorIndex := 222, attributes := #[] }, { accessFlags := 8, nameIndex := 562, descriptorIndex := 563, attributes := #[] }])
  fields := #[{ name := "in", type := (.object "java/io/InputStream"), accessFlags := 25, slot := 0, constantValue := 0 }, { name := "out", type := (.object "java/io/PrintStream"), accessFlags := 25, slot := 1, constantValue := 0 }, { name := "err", type := (.object "java/io/PrintStream"), accessFlags := 25, slot := 2, constantValue := 0 }, { name := "initialIn", type := (.object "java/io/InputStream"), accessFlags := 10, slot := 3, constantValue := 0 }, { name := "NEVER", type := .int, accessFlags := 26, slot := 4, constantValue := 0 }, { name := "MAYBE", type := .int, accessFlags := 26, slot := 5, constantValue := 0 }, { name := "allowSecurityManager", type := .int, accessFlags := 10, slot := 6, constantValue := 0 }, { name := "security", type := (.object "java/lang/SecurityManager"), accessFlags := 74, slot := 7, constantValue := 0 }, { name := "notSupportedJnuEncoding", type := (.object "java/lang/String"), accessFlags := 10, slot := 8, constantValue := 0 }, { name := "cons", type := (.object "java/io/Console"), accessFlags := 74, slot := 9, constantValue := 0 }, { name := "initialErrStream", type := (.object "java/io/PrintStream"), accessFlags := 74, slot := 10, constantValue := 0 }, { name := "props", type := (.object "java/util/Properties"), accessFlags := 10, slot := 11, constantValue := 0 }, { name := "lineSeparator", type := (.object "java/lang/String"), accessFlags := 10, slot := 12, constantValue := 0 }, { name := "bootLayer", type := (.object "java/lang/ModuleLayer"), accessFlags := 8, slot := 13, constantValue := 0 }]
  methods := #[k17m0, k17m1]
  instanceTypes := #[]
  staticTypes := #[(.object "java/io/InputStream"), (.object "java/io/PrintStream"), (.object "java/io/PrintStream"), (.object "java/io/InputStream"), .int, .int, .int, (.object "java/lang/SecurityManager"), (.object "java/lang/String"), (.object "java/io/Console"), (.object "java/io/PrintStream"), (.object "java/util/Properties"), (.object "java/lang/String"), (.object "java/lang/ModuleLayer")]
  resolved := Array.replicate 834 none
  statics := none }

def pool18 : Array CpInfo := pool [(2, .class_ 4), (1, u "java/lang/Object"), (0, u "<init>"), (0, u "()V"), (7, .class_ 16), (1, u "java/util/Arrays"), (57, .class_ 76), (1, u "java/util/Arrays$NaturalOrder"), (36, .class_ 115), (1, u "java/util/Arrays$LegacyMergeSort"), (1, u "Z"), (21, u "copyOfRange"), (10, .methodref 151 152), (0, .class_ 153), (0, .nameAndType 154 155), (0, u "java/lang/System"), (0, u "arraycopy"), (0, u "(Ljava/lang/Object;ILjava/lang/Object;II)V"), (148, .methodref 305 306), (0, .class_ 307), (0, .nameAndType 308 309), (0, u "java/lang/Math"), (0, u "min"), (0, u "(II)I"), (29, .methodref 14 340), (0, .nameAndType 341 342), (0, u "copyOfRangeByte"), (0, u "([BII)[B"), (0, .methodref 14 344), (0, .nameAndType 345 346), (0, u "checkLength"), (0, u "(II)V"), (28, .class_ 376), (0, u "java/util/Arrays$ArrayList"), (68, u "$assertionsDisabled"), (269, u "MIN_ARRAY_SORT_GRAN"), (0, u "I"), (2, u "INSERTIONSORT_THRESHOLD"), (255, .class_ 976), (0, u "java/util/Arrays$ArrayItr")] 52

def k18m0 : Method := { name := "<init>", desc := "()V", sig := { parameters := [], returnType := none }, accessFlags := 2, code := none }
def k18c1 : Code := { maxStack := 4, maxLocals := 2, code := jdk_65_method_131_code, exceptionTable := #[], attributes := #[] }
def k18m1 : Method := { name := "checkLength", desc := "(II)V", sig := { parameters := [.int, .int], returnType := none }, accessFlags := 10, code := some k18c1 }
def k18c2 : Code := { maxStack := 3, maxLocals := 3, code := jdk_65_method_132_code, exceptionTable := #[], attributes := #[] }
def k18m2 : Method := { name := "copyOfRange", desc := "([BII)[B", sig := { parameters := [(.array .byte), .int, .int], returnType := some (.array .byte) }, accessFlags := 9, code := some k18c2 }
def k18c3 : Code := { maxStack := 6, maxLocals := 5, code := jdk_65_method_133_code, exceptionTable := #[], attributes := #[] }
def k18m3 : Method := { name := "copyOfRangeByte", desc := "([BII)[B", sig := { parameters := [(.array .byte), .int, .int], returnType := some (.array .byte) }, accessFlags := 10, code := some k18c3 }
/-- java/util/Arrays -/
def k18 : Class := { plain "java/util/Arrays" (some 0) with
  accessFlags := 49
  interfaces := #[]
  cf := some (fileOf pool18 14 #[.nestMembers #[975, 375, 113, 74]] #[{ accessFlags := 2, nameIndex := 5, descriptorIndex := 6, attributes := #[] }, { accessFlags := 10, nameIndex := 345, descriptorIndex := 346, attributes := #[] }, { accessFlags := 9, nameIndex := 139, descriptorIndex := 342, attributes := #[] }, { accessFlags := 10, nameIndex := 341, descriptorIndex := 342, attributes := #[] }] 49 2 #[] #[{ accessFlags := 26, nameIndex := 715, descriptorIndex := 716, attributes := #[] }, { accessFlags := 26, nameIndex := 719, descriptorIndex := 716, attributes := #[] }, { accessFlags := 4120, nameIndex := 445, descriptorIndex := 117, attributes := #[] }])
  fields := #[{ name := "MIN_ARRAY_SORT_GRAN", type := .int, accessFlags := 26, slot := 0, constantValue := 0 }, { name := "INSERTIONSORT_THRESHOLD", type := .int, accessFlags := 26, slot := 1, constantValue := 0 }, { name := "$assertionsDisabled", type := .boolean, accessFlags := 4120, slot := 2, constantValue := 0 }]
  methods := #[k18m0, k18m1, k18m2, k18m3]
  instanceTypes := #[]
  staticTypes := #[.int, .int, .boolean]
  resolved := Array.replicate 1029 none
  statics := none }

def pool19 : Array CpInfo := pool [(1, .class_ 2), (0, u "java/lang/Math"), (1, .class_ 6), (1, u "java/lang/Object"), (0, u "<init>"), (0, u "()V"), (89, .class_ 100), (1, u "java/lang/Math$RandomNumberGeneratorHolder"), (71, u "negativeZeroFloatBits"), (0, u "J"), (2, u "negativeZeroDoubleBits"), (24, u "min"), (43, u "$assertionsDisabled"), (0, u "Z"), (88, u "(II)I"), (2, u "twoToTheDoubleScaleDown"), (0, u "D"), (4, u "twoToTheDoubleScaleUp"), (9, u "E"), (3, u "PI"), (2, u "TAU"), (2, u "DEGREES_TO_RADIANS"), (0, u "RADIANS_TO_DEGREES")] 94

def k19m0 : Method := { name := "<init>", desc := "()V", sig := { parameters := [], returnType := none }, accessFlags := 2, code := none }
def k19c1 : Code := { maxStack := 2, maxLocals := 2, code := jdk_29_method_69_code, exceptionTable := #[], attributes := #[] }
def k19m1 : Method := { name := "min", desc := "(II)I", sig := { parameters := [.int, .int], returnType := some .int }, accessFlags := 9, code := some k19c1 }
/-- java/lang/Math -/
def k19 : Class := { plain "java/lang/Math" (some 0) with
  accessFlags := 49
  interfaces := #[]
  cf := some (fileOf pool19 1 #[.nestMembers #[98]] #[{ accessFlags := 2, nameIndex := 7, descriptorIndex := 8, attributes := #[] }, { accessFlags := 9, nameIndex := 201, descriptorIndex := 335, attributes := #[] }] 49 4 #[] #[{ accessFlags := 25, nameIndex := 354, descriptorIndex := 339, attributes := #[] }, { accessFlags := 25, nameIndex := 358, descriptorIndex := 339, attributes := #[] }, { accessFlags := 25, nameIndex := 361, descriptorIndex := 339, attributes := #[] }, { accessFlags := 26, nameIndex := 364, descriptorIndex := 339, attributes := #[] }, { accessFlags := 26, nameIndex := 365, descriptorIndex := 339, attributes := #[] }, { accessFlags := 26, nameIndex := 172, descriptorIndex := 173, attributes := #[] }, { accessFlags := 26, nameIndex := 176, descriptorIndex := 173, attributes := #[] }, { accessFlags := 8, nameIndex := 344, descriptorIndex := 339, attributes := #[] }, { accessFlags := 8, nameIndex := 338, descriptorIndex := 339, attributes := #[] }, { accessFlags := 4120, nameIndex := 245, descriptorIndex := 246, attributes := #[] }])
  fields := #[{ name := "E", type := .double, accessFlags := 25, slot := 0, constantValue := 0 }, { name := "PI", type := .double, accessFlags := 25, slot := 1, constantValue := 0 }, { name := "TAU", type := .double, accessFlags := 25, slot := 2, constantValue := 0 }, { name := "DEGREES_TO_RADIANS", type := .double, accessFlags := 26, slot := 3, constantValue := 0 }, { name := "RADIANS_TO_DEGREES", type := .double, accessFlags := 26, slot := 4, constantValue := 0 }, { name := "negativeZeroFloatBits", type := .long, accessFlags := 26, slot := 5, constantValue := 0 }, { name := "negativeZeroDoubleBits", type := .long, accessFlags := 26, slot := 6, constantValue := 0 }, { name := "twoToTheDoubleScaleUp", type := .double, accessFlags := 8, slot := 7, constantValue := 0 }, { name := "twoToTheDoubleScaleDown", type := .double, accessFlags := 8, slot := 8, constantValue := 0 }, { name := "$assertionsDisabled", type := .boolean, accessFlags := 4120, slot := 9, constantValue := 0 }]
  methods := #[k19m0, k19m1]
  instanceTypes := #[]
  staticTypes := #[.double, .double, .double, .double, .double, .long, .long, .double, .double, .boolean]
  resolved := Array.replicate 460 none
  statics := none }

def pool20 : Array CpInfo := pool [(2, .class_ 4), (1, u "java/lang/Object"), (0, u "<init>"), (0, u "()V"), (17, .class_ 26), (1, u "jdk/internal/util/Preconditions"), (6, u "checkIndex"), (21, .class_ 56), (0, u "jdk/internal/util/Preconditions$4"), (57, .class_ 115), (0, u "jdk/internal/util/Preconditions$1"), (7, u "SIOOBE_FORMATTER"), (0, u "Ljava/util/function/BiFunction;"), (0, .class_ 126), (0, u "jdk/internal/util/Preconditions$2"), (3, u "AIOOBE_FORMATTER"), (0, .class_ 132), (0, u "jdk/internal/util/Preconditions$3"), (3, u "IOOBE_FORMATTER"), (41, u "(IILjava/util/function/BiFunction;)I")] 15

def k20m0 : Method := { name := "<init>", desc := "()V", sig := { parameters := [], returnType := none }, accessFlags := 1, code := none }
def k20c1 : Code := { maxStack := 3, maxLocals := 3, code := jdk_41_method_11_code, exceptionTable := #[], attributes := #[] }
def k20m1 : Method := { name := "checkIndex", desc := "(IILjava/util/function/BiFunction;)I", sig := { parameters := [.int, .int, (.object "java/util/function/BiFunction")], returnType := some .int }, accessFlags := 9, code := some k20c1 }
/-- jdk/internal/util/Preconditions -/
def k20 : Class := { plain "jdk/internal/util/Preconditions" (some 0) with
  accessFlags := 33
  interfaces := #[]
  cf := some (fileOf pool20 24 #[.nestMembers #[55, 131, 125, 114]] #[{ accessFlags := 1, nameIndex := 5, descriptorIndex := 6, attributes := #[] }, { accessFlags := 9, nameIndex := 33, descriptorIndex := 178, attributes := #[] }] 33 2 #[] #[{ accessFlags := 25, nameIndex := 123, descriptorIndex := 124, attributes := #[] }, { accessFlags := 25, nameIndex := 130, descriptorIndex := 124, attributes := #[] }, { accessFlags := 25, nameIndex := 136, descriptorIndex := 124, attributes := #[] }])
  fields := #[{ name := "SIOOBE_FORMATTER", type := (.object "java/util/function/BiFunction"), accessFlags := 25, slot := 0, constantValue := 0 }, { name := "AIOOBE_FORMATTER", type := (.object "java/util/function/BiFunction"), accessFlags := 25, slot := 1, constantValue := 0 }, { name := "IOOBE_FORMATTER", type := (.object "java/util/function/BiFunction"), accessFlags := 25, slot := 2, constantValue := 0 }]
  methods := #[k20m0, k20m1]
  instanceTypes := #[]
  staticTypes := #[(.object "java/util/function/BiFunction"), (.object "java/util/function/BiFunction"), (.object "java/util/function/BiFunction")]
  resolved := Array.replicate 194 none
  statics := some 1 }

def pool21 : Array CpInfo := pool [(9, u "<init>"), (6, .class_ 18), (1, u "java/lang/Object"), (0, u "()V"), (1, .class_ 23), (1, u "jdk/internal/util/ArraysSupport"), (0, u "LOG2_ARRAY_LONG_INDEX_SCALE"), (0, u "I"), (2, u "U"), (0, u "Ljdk/internal/misc/Unsafe;"), (8, u "BIG_ENDIAN"), (0, u "Z"), (8, u "LOG2_BYTE_BIT_SIZE"), (4, u "LOG2_ARRAY_INT_INDEX_SCALE"), (54, u "JLA"), (0, u "Ljdk/internal/access/JavaLangAccess;"), (11, u "LOG2_ARRAY_BOOLEAN_INDEX_SCALE"), (9, u "LOG2_ARRAY_BYTE_INDEX_SCALE"), (5, u "LOG2_ARRAY_CHAR_INDEX_SCALE"), (5, u "LOG2_ARRAY_SHORT_INDEX_SCALE"), (18, u "LOG2_ARRAY_FLOAT_INDEX_SCALE"), (24, u "LOG2_ARRAY_DOUBLE_INDEX_SCALE"), (89, u "T_BOOLEAN"), (2, u "T_CHAR"), (1, u "T_FLOAT"), (1, u "T_DOUBLE"), (1, u "T_BYTE"), (1, u "T_SHORT"), (1, u "T_INT"), (1, u "T_LONG"), (1, u "SOFT_MAX_ARRAY_LENGTH")] 83

def k21m0 : Method := { name := "<init>", desc := "()V", sig := { parameters := [], returnType := none }, accessFlags := 2, code := none }
/-- jdk/internal/util/ArraysSupport -/
def k21 : Class := { plain "jdk/internal/util/ArraysSupport" (some 0) with
  accessFlags := 33
  interfaces := #[]
  cf := some (fileOf pool21 21 #[] #[{ accessFlags := 2, nameIndex := 9, descriptorIndex := 19, attributes := #[] }] 33 16 #[] #[{ accessFlags := 24, nameIndex := 28, descriptorIndex := 29, attributes := #[] }, { accessFlags := 26, nameIndex := 38, descriptorIndex := 39, attributes := #[] }, { accessFlags := 25, nameIndex := 121, descriptorIndex := 25, attributes := #[] }, { accessFlags := 25, nameIndex := 131, descriptorIndex := 25, attributes := #[] }, { accessFlags := 25, nameIndex := 137, descriptorIndex := 25, attributes := #[] }, { accessFlags := 25, nameIndex := 143, descriptorIndex := 25, attributes := #[] }, { accessFlags := 25, nameIndex := 53, descriptorIndex := 25, attributes := #[] }, { accessFlags := 25, nameIndex := 24, descriptorIndex := 25, attributes := #[] }, { accessFlags := 25, nameIndex := 162, descriptorIndex := 25, attributes := #[] }, { accessFlags := 25, nameIndex := 187, descriptorIndex := 25, attributes := #[] }, { accessFlags := 26, nameIndex := 48, descriptorIndex := 25, attributes := #[] }, { accessFlags := 25, nameIndex := 277, descriptorIndex := 25, attributes := #[] }, { accessFlags := 25, nameIndex := 280, descriptorIndex := 25, attributes := #[] }, { accessFlags := 25, nameIndex := 282, descriptorIndex := 25, attributes := #[] }, { accessFlags := 25, nameIndex := 284, descriptorIndex := 25, attributes := #[] }, { accessFlags := 25, nameIndex := 286, descriptorIndex := 25, attributes := #[] }, { accessFlags := 25, nameIndex := 288, descriptorIndex := 25, attributes := #[] }, { accessFlags := 25, nameIndex := 290, descriptorIndex := 25, attributes := #[] }, { accessFlags := 25, nameIndex := 292, descriptorIndex := 25, attributes := #[] }, { accessFlags := 26, nameIndex := 108, descriptorIndex := 109, attributes := #[] }, { accessFlags := 25, nameIndex := 294, descriptorIndex := 25, attributes := #[] }])
  fields := #[{ name := "U", type := (.object "jdk/internal/misc/Unsafe"), accessFlags := 24, slot := 0, constantValue := 0 }, { name := "BIG_ENDIAN", type := .boolean, accessFlags := 26, slot := 1, constantValue := 0 }, { name := "LOG2_ARRAY_BOOLEAN_INDEX_SCALE", type := .int, accessFlags := 25, slot := 2, constantValue := 0 }, { name := "LOG2_ARRAY_BYTE_INDEX_SCALE", type := .int, accessFlags := 25, slot := 3, constantValue := 0 }, { name := "LOG2_ARRAY_CHAR_INDEX_SCALE", type := .int, accessFlags := 25, slot := 4, constantValue := 0 }, { name := "LOG2_ARRAY_SHORT_INDEX_SCALE", type := .int, accessFlags := 25, slot := 5, constantValue := 0 }, { name := "LOG2_ARRAY_INT_INDEX_SCALE", type := .int, accessFlags := 25, slot := 6, constantValue := 0 }, { name := "LOG2_ARRAY_LONG_INDEX_SCALE", type := .int, accessFlags := 25, slot := 7, constantValue := 0 }, { name := "LOG2_ARRAY_FLOAT_INDEX_SCALE", type := .int, accessFlags := 25, slot := 8, constantValue := 0 }, { name := "LOG2_ARRAY_DOUBLE_INDEX_SCALE", type := .int, accessFlags := 25, slot := 9, constantValue := 0 }, { name := "LOG2_BYTE_BIT_SIZE", type := .int, accessFlags := 26, slot := 10, constantValue := 0 }, { name := "T_BOOLEAN", type := .int, accessFlags := 25, slot := 11, constantValue := 0 }, { name := "T_CHAR", type := .int, accessFlags := 25, slot := 12, constantValue := 0 }, { name := "T_FLOAT", type := .int, accessFlags := 25, slot := 13, constantValue := 0 }, { name := "T_DOUBLE", type := .int, accessFlags := 25, slot := 14, constantValue := 0 }, { name := "T_BYTE", type := .int, accessFlags := 25, slot := 15, constantValue := 0 }, { name := "T_SHORT", type := .int, accessFlags := 25, slot := 16, constantValue := 0 }, { name := "T_INT", type := .int, accessFlags := 25, slot := 17, constantValue := 0 }, { name := "T_LONG", type := .int, accessFlags := 25, slot := 18, constantValue := 0 }, { name := "JLA", type := (.object "jdk/internal/access/JavaLangAccess"), accessFlags := 26, slot := 19, constantValue := 0 }, { name := "SOFT_MAX_ARRAY_LENGTH", type := .int, accessFlags := 25, slot := 20, constantValue := 0 }]
  methods := #[k21m0]
  instanceTypes := #[]
  staticTypes := #[(.object "jdk/internal/misc/Unsafe"), .boolean, .int, .int, .int, .int, .int, .int, .int, .int, .int, .int, .int, .int, .int, .int, .int, .int, .int, (.object "jdk/internal/access/JavaLangAccess"), .int]
  resolved := Array.replicate 378 none
  statics := none }

def pool22 : Array CpInfo := pool [(1, u "java/lang/Cloneable"), (0, .class_ 1), (0, u "java/lang/Object"), (0, .class_ 3)] 3

/-- java/lang/Cloneable -/
def k22 : Class := { plain "java/lang/Cloneable" (some 0) with
  accessFlags := 1537
  interfaces := #[]
  cf := some (fileOf pool22 2 #[] #[] 1537 4 #[] #[])
  fields := #[]
  methods := #[]
  instanceTypes := #[]
  staticTypes := #[]
  resolved := Array.replicate 8 none
  statics := none }

/-- the primitive byte -/
def k23 : Class := { plain "byte" none with kind := .primitive 'B', accessFlags := 0x411 }
/-- [B -/
def k24 : Class := { plain "[B" (some 0) with kind := .array 23 .byte, interfaces := #[22, 2], accessFlags := 1041 }

/-- the primitive char -/
def k25 : Class := { plain "char" none with kind := .primitive 'C', accessFlags := 0x411 }
/-- [C -/
def k26 : Class := { plain "[C" (some 0) with kind := .array 25 .char, interfaces := #[22, 2], accessFlags := 1041 }

/-- the primitive int -/
def k27 : Class := { plain "int" none with kind := .primitive 'I', accessFlags := 0x411 }
/-- [I -/
def k28 : Class := { plain "[I" (some 0) with kind := .array 27 .int, interfaces := #[22, 2], accessFlags := 1041 }

def heap : Heap := #[{ cls := 7, slots := #[.long 0, .int 1, .null, .int 0, .null, .int 0, .int 0], vm := .statics 7 },
  { cls := 20, slots := #[.null, .null, .null], vm := .statics 20 }]
def classes : Array Class := #[k0, k1, k2, k3, k4, k5, k6, k7, k8, k9, k10, k11, k12, k13, k14, k15, k16, k17, k18, k19, k20, k21, k22, k23, k24, k25, k26, k27, k28]
def interned : List (Array UInt16 × Addr) := []
def slotsUsed : Nat := 10
def theMethod : MethodId := ⟨1, 1⟩
def args0 : Array Value := #[.int 5, .int 3, .int 7, .long 8, .long 9]
def aboutOver (below : List Frame) : State where
  vm := { classes := classes, interned := interned.toArray }
  heap := heap
  slotsUsed := slotsUsed
  threads := #[{ frames := .invoking theMethod args0 :: below }]
def below0 : List Frame := [.native { method := ⟨0, 0⟩, args := #[] }]
def about1 : State := aboutOver below0
def p0 : Program := .bare "" "" ""
def e0 : Env := launch0.env 0 0 0
theorem w_frames : about1.frames = Frame.invoking theMethod args0 :: below0 := rfl
set_option maxRecDepth 65536 in
theorem w_args : argsFit about1.vm theMethod args0 = true := by decide +kernel
set_option maxRecDepth 65536 in
theorem w_heap : heapFits about1 = true := by decide +kernel
set_option maxRecDepth 65536 in
theorem w_runnable : about1.curStatus? = some .runnable := by decide +kernel
set_option maxRecDepth 65536 in
theorem w_alone : about1.alone = true := by decide +kernel
set_option maxRecDepth 65536 in
theorem w_named : about1.methodNamed? x = some theMethod := by decide +kernel
set_option maxRecDepth 65536 in
theorem w_hears : about1.hears theMethod below0 = true := by decide +kernel
set_option maxRecDepth 65536 in
theorem w_ripe : about1.ripe theMethod args0 below0 = true := by decide +kernel
theorem w_running : about1.status = .running := rfl
set_option maxRecDepth 65536 in
theorem w_room : about1.hasRoom e0.platform room_1 = true :=
  launch0.hasRoom_least _ room_1 (by decide +kernel) (by decide +kernel) (by decide +kernel) (by decide +kernel) (by decide +kernel) (by decide +kernel)
theorem allAtoms_all (ts : List Jvm.Cond) (a : Array Jvm.Value) (st : Jvm.State) : (allAtoms ts).before a st = ts.all (fun c => c.before a st) := by
  induction ts with
  | nil => rfl
  | cons c t ih =>
    show (Jvm.Cond.and c (allAtoms t)).before a st = _
    rw [Jvm.Cond.before_and, ih, List.all_cons]
def words1 : List Jvm.Cond := Jvm.Cond.code x code maxLocals ret :: tables_1
/-- a 'code' word, met by the world's own term for the bytes: nothing is compared byte by byte -/
theorem code_word {y : MethodName} {bytes : ByteArray} {mx : Nat} {rt : Option FieldType} {a : Array Value} {s : State} {m : MethodId} {meth : Method} {c : Code} (h1 : s.methodNamed? y = some m) (h2 : s.vm.method? m = some meth) (h3 : meth.code = some c) (h4 : c.code = bytes)
    (h5 : (c.maxLocals == mx && c.exceptionTable.isEmpty && decide (c.maxStack ≤ mostOperands) && decide (meth.sig.returnType = rt) && !meth.locks && decide (parseMethodDescriptor y.desc = some meth.sig)) = true) : (Jvm.Cond.code y bytes mx rt).before a s = true := by
  simp only [Bool.and_eq_true, beq_iff_eq, Bool.not_eq_true', decide_eq_true_eq] at h5
  obtain ⟨⟨⟨⟨⟨g1, g2⟩, g3⟩, g4⟩, g5⟩, g6⟩ := h5
  simp [Cond.before, Cond.holds, Cond.value, h1, h2, h3, h4, g1, g2, g3, g4, g5, g6]
def isCode : Jvm.Cond → Bool
  | .code _ _ _ _ => true
  | _ => false
theorem all_split {L : List Jvm.Cond} {P : Jvm.Cond → Bool} (h1 : L.all (fun c => isCode c || P c) = true) (h2 : ∀ c ∈ L.filter isCode, P c = true) : L.all P = true := by
  refine List.all_eq_true.mpr fun c hc => ?_
  have h := List.all_eq_true.mp h1 c hc
  rcases Bool.eq_false_or_eq_true (isCode c) with hi | hi
  · exact h2 c (List.mem_filter.mpr ⟨hc, hi⟩)
  · simpa [hi] using h
set_option maxRecDepth 65536 in
theorem w_c0 : (Jvm.Cond.code x code maxLocals ret).before args0 about1 = true := code_word (m := ⟨1, 1⟩) (meth := k1m1) (c := k1c1) (by decide +kernel) rfl rfl rfl (by decide +kernel)
set_option maxRecDepth 65536 in
theorem w_c1 : (Jvm.Cond.code ({ cls := "com/example/cellwise/cellwise/CellNamePinLaw", name := "str", desc := "(ICC)Ljava/lang/String;" } : Jvm.MethodName) method_3_code (3 : Nat) (Option.some (Jvm.ClassFile.FieldType.object "java/lang/String"))).before args0 about1 = true := code_word (m := ⟨1, 2⟩) (meth := k1m2) (c := k1c2) (by decide +kernel) rfl rfl rfl (by decide +kernel)
set_option maxRecDepth 65536 in
theorem w_c2 : (Jvm.Cond.code ({ cls := "java/lang/String", name := "<init>", desc := "([C)V" } : Jvm.MethodName) jdk_42_method_3_code (2 : Nat) (Option.none : Option Jvm.ClassFile.FieldType)).before args0 about1 = true := code_word (m := ⟨7, 1⟩) (meth := k7m1) (c := k7c1) (by decide +kernel) rfl rfl rfl (by decide +kernel)
set_option maxRecDepth 65536 in
theorem w_c3 : (Jvm.Cond.code ({ cls := "java/lang/String", name := "<init>", desc := "([CIILjava/lang/Void;)V" } : Jvm.MethodName) jdk_42_method_149_code (6 : Nat) (Option.none : Option Jvm.ClassFile.FieldType)).before args0 about1 = true := code_word (m := ⟨7, 7⟩) (meth := k7m7) (c := k7c7) (by decide +kernel) rfl rfl rfl (by decide +kernel)
set_option maxRecDepth 65536 in
theorem w_c4 : (Jvm.Cond.code ({ cls := "java/lang/Object", name := "<init>", desc := "()V" } : Jvm.MethodName) object_method_1_code (1 : Nat) (Option.none : Option Jvm.ClassFile.FieldType)).before args0 about1 = true := code_word (m := ⟨0, 0⟩) (meth := k0m0) (c := k0c0) (by decide +kernel) rfl rfl rfl (by decide +kernel)
set_option maxRecDepth 65536 in
theorem w_c5 : (Jvm.Cond.code ({ cls := "java/lang/StringUTF16", name := "compress", desc := "([CII)[B" } : Jvm.MethodName) jdk_52_method_16_code (6 : Nat) (Option.some (Jvm.ClassFile.FieldType.array Jvm.ClassFile.FieldType.byte))).before args0 about1 = true := code_word (m := ⟨8, 2⟩) (meth := k8m2) (c := k8c2) (by decide +kernel) rfl rfl rfl (by decide +kernel)
set_option maxRecDepth 65536 in
theorem w_c6 : (Jvm.Cond.code ({ cls := "java/lang/StringUTF16", name := "compress", desc := "([CI[BII)I" } : Jvm.MethodName) jdk_52_method_21_code (7 : Nat) (Option.some Jvm.ClassFile.FieldType.int)).before args0 about1 = true := code_word (m := ⟨8, 3⟩) (meth := k8m3) (c := k8c3) (by decide +kernel) rfl rfl rfl (by decide +kernel)
set_option maxRecDepth 65536 in
theorem w_c7 : (Jvm.Cond.code ({ cls := "java/lang/StringUTF16", name := "coderFromArrayLen", desc := "([BI)B" } : Jvm.MethodName) jdk_52_method_15_code (2 : Nat) (Option.some Jvm.ClassFile.FieldType.byte)).before args0 about1 = true := code_word (m := ⟨8, 1⟩) (meth := k8m1) (c := k8c1) (by decide +kernel) rfl rfl rfl (by decide +kernel)
set_option maxRecDepth 65536 in
theorem w_c8 : (Jvm.Cond.code ({ cls := "java/lang/String", name := "valueOf", desc := "(C)Ljava/lang/String;" } : Jvm.MethodName) jdk_42_method_139_code (1 : Nat) (Option.some (Jvm.ClassFile.FieldType.object "java/lang/String"))).before args0 about1 = true := code_word (m := ⟨7, 5⟩) (meth := k7m5) (c := k7c5) (by decide +kernel) rfl rfl rfl (by decide +kernel)
set_option maxRecDepth 65536 in
theorem w_c9 : (Jvm.Cond.code ({ cls := "java/lang/StringLatin1", name := "canEncode", desc := "(C)Z" } : Jvm.MethodName) jdk_43_method_3_code (1 : Nat) (Option.some Jvm.ClassFile.FieldType.boolean)).before args0 about1 = true := code_word (m := ⟨11, 2⟩) (meth := k11m2) (c := k11c2) (by decide +kernel) rfl rfl rfl (by decide +kernel)
set_option maxRecDepth 65536 in
theorem w_c10 : (Jvm.Cond.code ({ cls := "java/lang/StringLatin1", name := "toBytes", desc := "(C)[B" } : Jvm.MethodName) jdk_43_method_46_code (1 : Nat) (Option.some (Jvm.ClassFile.FieldType.array Jvm.ClassFile.FieldType.byte))).before args0 about1 = true := code_word (m := ⟨11, 3⟩) (meth := k11m3) (c := k11c3) (by decide +kernel) rfl rfl rfl (by decide +kernel)
set_option maxRecDepth 65536 in
theorem w_c11 : (Jvm.Cond.code ({ cls := "java/lang/String", name := "<init>", desc := "([BB)V" } : Jvm.MethodName) jdk_42_method_151_code (3 : Nat) (Option.none : Option Jvm.ClassFile.FieldType)).before args0 about1 = true := code_word (m := ⟨7, 9⟩) (meth := k7m9) (c := k7c9) (by decide +kernel) rfl rfl rfl (by decide +kernel)
set_option maxRecDepth 65536 in
theorem w_c12 : (Jvm.Cond.code ({ cls := "com/example/cellwise/cellwise/Matrix$Competency", name := "<init>", desc := "(JLjava/lang/String;Ljava/lang/String;)V" } : Jvm.MethodName) prog_16_method_1_code (5 : Nat) (Option.none : Option Jvm.ClassFile.FieldType)).before args0 about1 = true := code_word (m := ⟨10, 0⟩) (meth := k10m0) (c := k10c0) (by decide +kernel) rfl rfl rfl (by decide +kernel)
set_option maxRecDepth 65536 in
theorem w_c13 : (Jvm.Cond.code ({ cls := "java/lang/Record", name := "<init>", desc := "()V" } : Jvm.MethodName) jdk_30_method_1_code (1 : Nat) (Option.none : Option Jvm.ClassFile.FieldType)).before args0 about1 = true := code_word (m := ⟨9, 0⟩) (meth := k9m0) (c := k9c0) (by decide +kernel) rfl rfl rfl (by decide +kernel)
set_option maxRecDepth 65536 in
theorem w_c14 : (Jvm.Cond.code ({ cls := "com/example/cellwise/cellwise/Matrix$Training", name := "<init>", desc := "(JLjava/lang/String;)V" } : Jvm.MethodName) prog_18_method_1_code (4 : Nat) (Option.none : Option Jvm.ClassFile.FieldType)).before args0 about1 = true := code_word (m := ⟨12, 0⟩) (meth := k12m0) (c := k12c0) (by decide +kernel) rfl rfl rfl (by decide +kernel)
set_option maxRecDepth 65536 in
theorem w_c15 : (Jvm.Cond.code ({ cls := "com/example/cellwise/cellwise/Matrix$Cell", name := "<init>", desc := "(Lcom/example/cellwise/cellwise/Matrix$Competency;Lcom/example/cellwise/cellwise/Matrix$Training;)V" } : Jvm.MethodName) prog_15_method_1_code (3 : Nat) (Option.none : Option Jvm.ClassFile.FieldType)).before args0 about1 = true := code_word (m := ⟨13, 0⟩) (meth := k13m0) (c := k13c0) (by decide +kernel) rfl rfl rfl (by decide +kernel)
set_option maxRecDepth 65536 in
theorem w_c16 : (Jvm.Cond.code ({ cls := "com/example/cellwise/cellwise/Matrix$Cell", name := "name", desc := "()Ljava/lang/String;" } : Jvm.MethodName) prog_15_method_2_code (1 : Nat) (Option.some (Jvm.ClassFile.FieldType.object "java/lang/String"))).before args0 about1 = true := code_word (m := ⟨13, 1⟩) (meth := k13m1) (c := k13c1) (by decide +kernel) rfl rfl rfl (by decide +kernel)
set_option maxRecDepth 65536 in
theorem w_c17 : (Jvm.Cond.code ({ cls := "java/lang/StringBuilder", name := "<init>", desc := "()V" } : Jvm.MethodName) jdk_67_method_1_code (1 : Nat) (Option.none : Option Jvm.ClassFile.FieldType)).before args0 about1 = true := code_word (m := ⟨16, 0⟩) (meth := k16m0) (c := k16c0) (by decide +kernel) rfl rfl rfl (by decide +kernel)
set_option maxRecDepth 65536 in
theorem w_c18 : (Jvm.Cond.code ({ cls := "java/lang/AbstractStringBuilder", name := "<init>", desc := "(I)V" } : Jvm.MethodName) jdk_68_method_2_code (2 : Nat) (Option.none : Option Jvm.ClassFile.FieldType)).before args0 about1 = true := code_word (m := ⟨15, 1⟩) (meth := k15m1) (c := k15c1) (by decide +kernel) rfl rfl rfl (by decide +kernel)
set_option maxRecDepth 65536 in
theorem w_c19 : (Jvm.Cond.code ({ cls := "com/example/cellwise/cellwise/Matrix$Competency", name := "heading", desc := "()Ljava/lang/String;" } : Jvm.MethodName) prog_16_method_6_code (1 : Nat) (Option.some (Jvm.ClassFile.FieldType.object "java/lang/String"))).before args0 about1 = true := code_word (m := ⟨10, 1⟩) (meth := k10m1) (c := k10c1) (by decide +kernel) rfl rfl rfl (by decide +kernel)
set_option maxRecDepth 65536 in
theorem w_c20 : (Jvm.Cond.code ({ cls := "java/lang/StringBuilder", name := "append", desc := "(Ljava/lang/String;)Ljava/lang/StringBuilder;" } : Jvm.MethodName) jdk_67_method_7_code (2 : Nat) (Option.some (Jvm.ClassFile.FieldType.object "java/lang/StringBuilder"))).before args0 about1 = true := code_word (m := ⟨16, 1⟩) (meth := k16m1) (c := k16c1) (by decide +kernel) rfl rfl rfl (by decide +kernel)
set_option maxRecDepth 65536 in
theorem w_c21 : (Jvm.Cond.code ({ cls := "java/lang/AbstractStringBuilder", name := "append", desc := "(Ljava/lang/String;)Ljava/lang/AbstractStringBuilder;" } : Jvm.MethodName) jdk_68_method_22_code (3 : Nat) (Option.some (Jvm.ClassFile.FieldType.object "java/lang/AbstractStringBuilder"))).before args0 about1 = true := code_word (m := ⟨15, 4⟩) (meth := k15m4) (c := k15c4) (by decide +kernel) rfl rfl rfl (by decide +kernel)
set_option maxRecDepth 65536 in
theorem w_c22 : (Jvm.Cond.code ({ cls := "java/lang/String", name := "length", desc := "()I" } : Jvm.MethodName) jdk_42_method_54_code (1 : Nat) (Option.some Jvm.ClassFile.FieldType.int)).before args0 about1 = true := code_word (m := ⟨7, 3⟩) (meth := k7m3) (c := k7c3) (by decide +kernel) rfl rfl rfl (by decide +kernel)
set_option maxRecDepth 65536 in
theorem w_c23 : (Jvm.Cond.code ({ cls := "java/lang/String", name := "coder", desc := "()B" } : Jvm.MethodName) jdk_42_method_152_code (1 : Nat) (Option.some Jvm.ClassFile.FieldType.byte)).before args0 about1 = true := code_word (m := ⟨7, 10⟩) (meth := k7m10) (c := k7c10) (by decide +kernel) rfl rfl rfl (by decide +kernel)
set_option maxRecDepth 65536 in
theorem w_c24 : (Jvm.Cond.code ({ cls := "java/lang/AbstractStringBuilder", name := "ensureCapacityInternal", desc := "(I)V" } : Jvm.MethodName) jdk_68_method_9_code (3 : Nat) (Option.none : Option Jvm.ClassFile.FieldType)).before args0 about1 = true := code_word (m := ⟨15, 3⟩) (meth := k15m3) (c := k15c3) (by decide +kernel) rfl rfl rfl (by decide +kernel)
set_option maxRecDepth 65536 in
theorem w_c25 : (Jvm.Cond.code ({ cls := "java/lang/AbstractStringBuilder", name := "putStringAt", desc := "(ILjava/lang/String;)V" } : Jvm.MethodName) jdk_68_method_73_code (3 : Nat) (Option.none : Option Jvm.ClassFile.FieldType)).before args0 about1 = true := code_word (m := ⟨15, 8⟩) (meth := k15m8) (c := k15c8) (by decide +kernel) rfl rfl rfl (by decide +kernel)
set_option maxRecDepth 65536 in
theorem w_c26 : (Jvm.Cond.code ({ cls := "java/lang/AbstractStringBuilder", name := "inflateIfNeededFor", desc := "(Ljava/lang/String;)V" } : Jvm.MethodName) jdk_68_method_71_code (2 : Nat) (Option.none : Option Jvm.ClassFile.FieldType)).before args0 about1 = true := code_word (m := ⟨15, 7⟩) (meth := k15m7) (c := k15c7) (by decide +kernel) rfl rfl rfl (by decide +kernel)
set_option maxRecDepth 65536 in
theorem w_c27 : (Jvm.Cond.code ({ cls := "java/lang/String", name := "getBytes", desc := "([BIB)V" } : Jvm.MethodName) jdk_42_method_147_code (4 : Nat) (Option.none : Option Jvm.ClassFile.FieldType)).before args0 about1 = true := code_word (m := ⟨7, 6⟩) (meth := k7m6) (c := k7c6) (by decide +kernel) rfl rfl rfl (by decide +kernel)
set_option maxRecDepth 65536 in
theorem w_c28 : (Jvm.Cond.code ({ cls := "com/example/cellwise/cellwise/Matrix$Training", name := "name", desc := "()Ljava/lang/String;" } : Jvm.MethodName) prog_18_method_6_code (1 : Nat) (Option.some (Jvm.ClassFile.FieldType.object "java/lang/String"))).before args0 about1 = true := code_word (m := ⟨12, 1⟩) (meth := k12m1) (c := k12c1) (by decide +kernel) rfl rfl rfl (by decide +kernel)
set_option maxRecDepth 65536 in
theorem w_c29 : (Jvm.Cond.code ({ cls := "java/lang/StringBuilder", name := "toString", desc := "()Ljava/lang/String;" } : Jvm.MethodName) jdk_67_method_42_code (1 : Nat) (Option.some (Jvm.ClassFile.FieldType.object "java/lang/String"))).before args0 about1 = true := code_word (m := ⟨16, 2⟩) (meth := k16m2) (c := k16c2) (by decide +kernel) rfl rfl rfl (by decide +kernel)
set_option maxRecDepth 65536 in
theorem w_c30 : (Jvm.Cond.code ({ cls := "java/lang/String", name := "<init>", desc := "(Ljava/lang/StringBuilder;)V" } : Jvm.MethodName) jdk_42_method_53_code (2 : Nat) (Option.none : Option Jvm.ClassFile.FieldType)).before args0 about1 = true := code_word (m := ⟨7, 2⟩) (meth := k7m2) (c := k7c2) (by decide +kernel) rfl rfl rfl (by decide +kernel)
set_option maxRecDepth 65536 in
theorem w_c31 : (Jvm.Cond.code ({ cls := "java/lang/String", name := "<init>", desc := "(Ljava/lang/AbstractStringBuilder;Ljava/lang/Void;)V" } : Jvm.MethodName) jdk_42_method_150_code (5 : Nat) (Option.none : Option Jvm.ClassFile.FieldType)).before args0 about1 = true := code_word (m := ⟨7, 8⟩) (meth := k7m8) (c := k7c8) (by decide +kernel) rfl rfl rfl (by decide +kernel)
set_option maxRecDepth 65536 in
theorem w_c32 : (Jvm.Cond.code ({ cls := "java/lang/AbstractStringBuilder", name := "getValue", desc := "()[B" } : Jvm.MethodName) jdk_68_method_64_code (1 : Nat) (Option.some (Jvm.ClassFile.FieldType.array Jvm.ClassFile.FieldType.byte))).before args0 about1 = true := code_word (m := ⟨15, 5⟩) (meth := k15m5) (c := k15c5) (by decide +kernel) rfl rfl rfl (by decide +kernel)
set_option maxRecDepth 65536 in
theorem w_c33 : (Jvm.Cond.code ({ cls := "java/lang/StringBuilder", name := "length", desc := "()I" } : Jvm.MethodName) jdk_67_method_93_code (1 : Nat) (Option.some Jvm.ClassFile.FieldType.int)).before args0 about1 = true := code_word (m := ⟨16, 3⟩) (meth := k16m3) (c := k16c3) (by decide +kernel) rfl rfl rfl (by decide +kernel)
set_option maxRecDepth 65536 in
theorem w_c34 : (Jvm.Cond.code ({ cls := "java/lang/AbstractStringBuilder", name := "length", desc := "()I" } : Jvm.MethodName) jdk_68_method_6_code (1 : Nat) (Option.some Jvm.ClassFile.FieldType.int)).before args0 about1 = true := code_word (m := ⟨15, 2⟩) (meth := k15m2) (c := k15c2) (by decide +kernel) rfl rfl rfl (by decide +kernel)
set_option maxRecDepth 65536 in
theorem w_c35 : (Jvm.Cond.code ({ cls := "java/lang/AbstractStringBuilder", name := "isLatin1", desc := "()Z" } : Jvm.MethodName) jdk_68_method_68_code (1 : Nat) (Option.some Jvm.ClassFile.FieldType.boolean)).before args0 about1 = true := code_word (m := ⟨15, 6⟩) (meth := k15m6) (c := k15c6) (by decide +kernel) rfl rfl rfl (by decide +kernel)
set_option maxRecDepth 65536 in
theorem w_c36 : (Jvm.Cond.code ({ cls := "java/util/Arrays", name := "copyOfRange", desc := "([BII)[B" } : Jvm.MethodName) jdk_65_method_132_code (3 : Nat) (Option.some (Jvm.ClassFile.FieldType.array Jvm.ClassFile.FieldType.byte))).before args0 about1 = true := code_word (m := ⟨18, 2⟩) (meth := k18m2) (c := k18c2) (by decide +kernel) rfl rfl rfl (by decide +kernel)
set_option maxRecDepth 65536 in
theorem w_c37 : (Jvm.Cond.code ({ cls := "java/util/Arrays", name := "copyOfRangeByte", desc := "([BII)[B" } : Jvm.MethodName) jdk_65_method_133_code (5 : Nat) (Option.some (Jvm.ClassFile.FieldType.array Jvm.ClassFile.FieldType.byte))).before args0 about1 = true := code_word (m := ⟨18, 3⟩) (meth := k18m3) (c := k18c3) (by decide +kernel) rfl rfl rfl (by decide +kernel)
set_option maxRecDepth 65536 in
theorem w_c38 : (Jvm.Cond.code ({ cls := "java/util/Arrays", name := "checkLength", desc := "(II)V" } : Jvm.MethodName) jdk_65_method_131_code (2 : Nat) (Option.none : Option Jvm.ClassFile.FieldType)).before args0 about1 = true := code_word (m := ⟨18, 1⟩) (meth := k18m1) (c := k18c1) (by decide +kernel) rfl rfl rfl (by decide +kernel)
set_option maxRecDepth 65536 in
theorem w_c39 : (Jvm.Cond.code ({ cls := "java/lang/Math", name := "min", desc := "(II)I" } : Jvm.MethodName) jdk_29_method_69_code (2 : Nat) (Option.some Jvm.ClassFile.FieldType.int)).before args0 about1 = true := code_word (m := ⟨19, 1⟩) (meth := k19m1) (c := k19c1) (by decide +kernel) rfl rfl rfl (by decide +kernel)
set_option maxRecDepth 65536 in
theorem w_c40 : (Jvm.Cond.code ({ cls := "com/example/cellwise/cellwise/CellNamePinLaw", name := "at", desc := "(Ljava/lang/String;IIICCCC)Z" } : Jvm.MethodName) method_5_code (8 : Nat) (Option.some Jvm.ClassFile.FieldType.boolean)).before args0 about1 = true := code_word (m := ⟨1, 4⟩) (meth := k1m4) (c := k1c4) (by decide +kernel) rfl rfl rfl (by decide +kernel)
set_option maxRecDepth 65536 in
theorem w_c41 : (Jvm.Cond.code ({ cls := "java/lang/String", name := "charAt", desc := "(I)C" } : Jvm.MethodName) jdk_42_method_56_code (2 : Nat) (Option.some Jvm.ClassFile.FieldType.char)).before args0 about1 = true := code_word (m := ⟨7, 4⟩) (meth := k7m4) (c := k7c4) (by decide +kernel) rfl rfl rfl (by decide +kernel)
set_option maxRecDepth 65536 in
theorem w_c42 : (Jvm.Cond.code ({ cls := "java/lang/String", name := "isLatin1", desc := "()Z" } : Jvm.MethodName) jdk_42_method_154_code (1 : Nat) (Option.some Jvm.ClassFile.FieldType.boolean)).before args0 about1 = true := code_word (m := ⟨7, 11⟩) (meth := k7m11) (c := k7c11) (by decide +kernel) rfl rfl rfl (by decide +kernel)
set_option maxRecDepth 65536 in
theorem w_c43 : (Jvm.Cond.code ({ cls := "java/lang/StringLatin1", name := "charAt", desc := "([BI)C" } : Jvm.MethodName) jdk_43_method_2_code (2 : Nat) (Option.some Jvm.ClassFile.FieldType.char)).before args0 about1 = true := code_word (m := ⟨11, 1⟩) (meth := k11m1) (c := k11c1) (by decide +kernel) rfl rfl rfl (by decide +kernel)
set_option maxRecDepth 65536 in
theorem w_c44 : (Jvm.Cond.code ({ cls := "java/lang/String", name := "checkIndex", desc := "(II)V" } : Jvm.MethodName) jdk_42_method_155_code (2 : Nat) (Option.none : Option Jvm.ClassFile.FieldType)).before args0 about1 = true := code_word (m := ⟨7, 12⟩) (meth := k7m12) (c := k7c12) (by decide +kernel) rfl rfl rfl (by decide +kernel)
set_option maxRecDepth 65536 in
theorem w_c45 : (Jvm.Cond.code ({ cls := "jdk/internal/util/Preconditions", name := "checkIndex", desc := "(IILjava/util/function/BiFunction;)I" } : Jvm.MethodName) jdk_41_method_11_code (3 : Nat) (Option.some Jvm.ClassFile.FieldType.int)).before args0 about1 = true := code_word (m := ⟨20, 1⟩) (meth := k20m1) (c := k20c1) (by decide +kernel) rfl rfl rfl (by decide +kernel)
set_option maxRecDepth 65536 in
theorem w_c46 : (Jvm.Cond.code ({ cls := "com/example/cellwise/cellwise/CellNamePinLaw", name := "expect", desc := "(IICCCC)C" } : Jvm.MethodName) method_4_code (7 : Nat) (Option.some Jvm.ClassFile.FieldType.char)).before args0 about1 = true := code_word (m := ⟨1, 3⟩) (meth := k1m3) (c := k1c3) (by decide +kernel) rfl rfl rfl (by decide +kernel)
def codes1 : List Jvm.Cond := [Jvm.Cond.code x code maxLocals ret, Jvm.Cond.code ({ cls := "com/example/cellwise/cellwise/CellNamePinLaw", name := "str", desc := "(ICC)Ljava/lang/String;" } : Jvm.MethodName) method_3_code (3 : Nat) (Option.some (Jvm.ClassFile.FieldType.object "java/lang/String")), Jvm.Cond.code ({ cls := "java/lang/String", name := "<init>", desc := "([C)V" } : Jvm.MethodName) jdk_42_method_3_code (2 : Nat) (Option.none : Option Jvm.ClassFile.FieldType), Jvm.Cond.code ({ cls := "java/lang/String", name := "<init>", desc := "([CIILjava/lang/Void;)V" } : Jvm.MethodName) jdk_42_method_149_code (6 : Nat) (Option.none : Option Jvm.ClassFile.FieldType), Jvm.Cond.code ({ cls := "java/lang/Object", name := "<init>", desc := "()V" } : Jvm.MethodName) object_method_1_code (1 : Nat) (Option.none : Option Jvm.ClassFile.FieldType), Jvm.Cond.code ({ cls := "java/lang/StringUTF16", name := "compress", desc := "([CII)[B" } : Jvm.MethodName) jdk_52_method_16_code (6 : Nat) (Option.some (Jvm.ClassFile.FieldType.array Jvm.ClassFile.FieldType.byte)), Jvm.Cond.code ({ cls := "java/lang/StringUTF16", name := "compress", desc := "([CI[BII)I" } : Jvm.MethodName) jdk_52_method_21_code (7 : Nat) (Option.some Jvm.ClassFile.FieldType.int), Jvm.Cond.code ({ cls := "java/lang/StringUTF16", name := "coderFromArrayLen", desc := "([BI)B" } : Jvm.MethodName) jdk_52_method_15_code (2 : Nat) (Option.some Jvm.ClassFile.FieldType.byte), Jvm.Cond.code ({ cls := "java/lang/String", name := "valueOf", desc := "(C)Ljava/lang/String;" } : Jvm.MethodName) jdk_42_method_139_code (1 : Nat) (Option.some (Jvm.ClassFile.FieldType.object "java/lang/String")), Jvm.Cond.code ({ cls := "java/lang/StringLatin1", name := "canEncode", desc := "(C)Z" } : Jvm.MethodName) jdk_43_method_3_code (1 : Nat) (Option.some Jvm.ClassFile.FieldType.boolean), Jvm.Cond.code ({ cls := "java/lang/StringLatin1", name := "toBytes", desc := "(C)[B" } : Jvm.MethodName) jdk_43_method_46_code (1 : Nat) (Option.some (Jvm.ClassFile.FieldType.array Jvm.ClassFile.FieldType.byte)), Jvm.Cond.code ({ cls := "java/lang/String", name := "<init>", desc := "([BB)V" } : Jvm.MethodName) jdk_42_method_151_code (3 : Nat) (Option.none : Option Jvm.ClassFile.FieldType), Jvm.Cond.code ({ cls := "com/example/cellwise/cellwise/Matrix$Competency", name := "<init>", desc := "(JLjava/lang/String;Ljava/lang/String;)V" } : Jvm.MethodName) prog_16_method_1_code (5 : Nat) (Option.none : Option Jvm.ClassFile.FieldType), Jvm.Cond.code ({ cls := "java/lang/Record", name := "<init>", desc := "()V" } : Jvm.MethodName) jdk_30_method_1_code (1 : Nat) (Option.none : Option Jvm.ClassFile.FieldType), Jvm.Cond.code ({ cls := "com/example/cellwise/cellwise/Matrix$Training", name := "<init>", desc := "(JLjava/lang/String;)V" } : Jvm.MethodName) prog_18_method_1_code (4 : Nat) (Option.none : Option Jvm.ClassFile.FieldType), Jvm.Cond.code ({ cls := "com/example/cellwise/cellwise/Matrix$Cell", name := "<init>", desc := "(Lcom/example/cellwise/cellwise/Matrix$Competency;Lcom/example/cellwise/cellwise/Matrix$Training;)V" } : Jvm.MethodName) prog_15_method_1_code (3 : Nat) (Option.none : Option Jvm.ClassFile.FieldType), Jvm.Cond.code ({ cls := "com/example/cellwise/cellwise/Matrix$Cell", name := "name", desc := "()Ljava/lang/String;" } : Jvm.MethodName) prog_15_method_2_code (1 : Nat) (Option.some (Jvm.ClassFile.FieldType.object "java/lang/String")), Jvm.Cond.code ({ cls := "java/lang/StringBuilder", name := "<init>", desc := "()V" } : Jvm.MethodName) jdk_67_method_1_code (1 : Nat) (Option.none : Option Jvm.ClassFile.FieldType), Jvm.Cond.code ({ cls := "java/lang/AbstractStringBuilder", name := "<init>", desc := "(I)V" } : Jvm.MethodName) jdk_68_method_2_code (2 : Nat) (Option.none : Option Jvm.ClassFile.FieldType), Jvm.Cond.code ({ cls := "com/example/cellwise/cellwise/Matrix$Competency", name := "heading", desc := "()Ljava/lang/String;" } : Jvm.MethodName) prog_16_method_6_code (1 : Nat) (Option.some (Jvm.ClassFile.FieldType.object "java/lang/String")), Jvm.Cond.code ({ cls := "java/lang/StringBuilder", name := "append", desc := "(Ljava/lang/String;)Ljava/lang/StringBuilder;" } : Jvm.MethodName) jdk_67_method_7_code (2 : Nat) (Option.some (Jvm.ClassFile.FieldType.object "java/lang/StringBuilder")), Jvm.Cond.code ({ cls := "java/lang/AbstractStringBuilder", name := "append", desc := "(Ljava/lang/String;)Ljava/lang/AbstractStringBuilder;" } : Jvm.MethodName) jdk_68_method_22_code (3 : Nat) (Option.some (Jvm.ClassFile.FieldType.object "java/lang/AbstractStringBuilder")), Jvm.Cond.code ({ cls := "java/lang/String", name := "length", desc := "()I" } : Jvm.MethodName) jdk_42_method_54_code (1 : Nat) (Option.some Jvm.ClassFile.FieldType.int), Jvm.Cond.code ({ cls := "java/lang/String", name := "coder", desc := "()B" } : Jvm.MethodName) jdk_42_method_152_code (1 : Nat) (Option.some Jvm.ClassFile.FieldType.byte), Jvm.Cond.code ({ cls := "java/lang/AbstractStringBuilder", name := "ensureCapacityInternal", desc := "(I)V" } : Jvm.MethodName) jdk_68_method_9_code (3 : Nat) (Option.none : Option Jvm.ClassFile.FieldType), Jvm.Cond.code ({ cls := "java/lang/AbstractStringBuilder", name := "putStringAt", desc := "(ILjava/lang/String;)V" } : Jvm.MethodName) jdk_68_method_73_code (3 : Nat) (Option.none : Option Jvm.ClassFile.FieldType), Jvm.Cond.code ({ cls := "java/lang/AbstractStringBuilder", name := "inflateIfNeededFor", desc := "(Ljava/lang/String;)V" } : Jvm.MethodName) jdk_68_method_71_code (2 : Nat) (Option.none : Option Jvm.ClassFile.FieldType), Jvm.Cond.code ({ cls := "java/lang/String", name := "getBytes", desc := "([BIB)V" } : Jvm.MethodName) jdk_42_method_147_code (4 : Nat) (Option.none : Option Jvm.ClassFile.FieldType), Jvm.Cond.code ({ cls := "com/example/cellwise/cellwise/Matrix$Training", name := "name", desc := "()Ljava/lang/String;" } : Jvm.MethodName) prog_18_method_6_code (1 : Nat) (Option.some (Jvm.ClassFile.FieldType.object "java/lang/String")), Jvm.Cond.code ({ cls := "java/lang/StringBuilder", name := "toString", desc := "()Ljava/lang/String;" } : Jvm.MethodName) jdk_67_method_42_code (1 : Nat) (Option.some (Jvm.ClassFile.FieldType.object "java/lang/String")), Jvm.Cond.code ({ cls := "java/lang/String", name := "<init>", desc := "(Ljava/lang/StringBuilder;)V" } : Jvm.MethodName) jdk_42_method_53_code (2 : Nat) (Option.none : Option Jvm.ClassFile.FieldType), Jvm.Cond.code ({ cls := "java/lang/String", name := "<init>", desc := "(Ljava/lang/AbstractStringBuilder;Ljava/lang/Void;)V" } : Jvm.MethodName) jdk_42_method_150_code (5 : Nat) (Option.none : Option Jvm.ClassFile.FieldType), Jvm.Cond.code ({ cls := "java/lang/AbstractStringBuilder", name := "getValue", desc := "()[B" } : Jvm.MethodName) jdk_68_method_64_code (1 : Nat) (Option.some (Jvm.ClassFile.FieldType.array Jvm.ClassFile.FieldType.byte)), Jvm.Cond.code ({ cls := "java/lang/StringBuilder", name := "length", desc := "()I" } : Jvm.MethodName) jdk_67_method_93_code (1 : Nat) (Option.some Jvm.ClassFile.FieldType.int), Jvm.Cond.code ({ cls := "java/lang/AbstractStringBuilder", name := "length", desc := "()I" } : Jvm.MethodName) jdk_68_method_6_code (1 : Nat) (Option.some Jvm.ClassFile.FieldType.int), Jvm.Cond.code ({ cls := "java/lang/AbstractStringBuilder", name := "isLatin1", desc := "()Z" } : Jvm.MethodName) jdk_68_method_68_code (1 : Nat) (Option.some Jvm.ClassFile.FieldType.boolean), Jvm.Cond.code ({ cls := "java/util/Arrays", name := "copyOfRange", desc := "([BII)[B" } : Jvm.MethodName) jdk_65_method_132_code (3 : Nat) (Option.some (Jvm.ClassFile.FieldType.array Jvm.ClassFile.FieldType.byte)), Jvm.Cond.code ({ cls := "java/util/Arrays", name := "copyOfRangeByte", desc := "([BII)[B" } : Jvm.MethodName) jdk_65_method_133_code (5 : Nat) (Option.some (Jvm.ClassFile.FieldType.array Jvm.ClassFile.FieldType.byte)), Jvm.Cond.code ({ cls := "java/util/Arrays", name := "checkLength", desc := "(II)V" } : Jvm.MethodName) jdk_65_method_131_code (2 : Nat) (Option.none : Option Jvm.ClassFile.FieldType), Jvm.Cond.code ({ cls := "java/lang/Math", name := "min", desc := "(II)I" } : Jvm.MethodName) jdk_29_method_69_code (2 : Nat) (Option.some Jvm.ClassFile.FieldType.int), Jvm.Cond.code ({ cls := "com/example/cellwise/cellwise/CellNamePinLaw", name := "at", desc := "(Ljava/lang/String;IIICCCC)Z" } : Jvm.MethodName) method_5_code (8 : Nat) (Option.some Jvm.ClassFile.FieldType.boolean), Jvm.Cond.code ({ cls := "java/lang/String", name := "charAt", desc := "(I)C" } : Jvm.MethodName) jdk_42_method_56_code (2 : Nat) (Option.some Jvm.ClassFile.FieldType.char), Jvm.Cond.code ({ cls := "java/lang/String", name := "isLatin1", desc := "()Z" } : Jvm.MethodName) jdk_42_method_154_code (1 : Nat) (Option.some Jvm.ClassFile.FieldType.boolean), Jvm.Cond.code ({ cls := "java/lang/StringLatin1", name := "charAt", desc := "([BI)C" } : Jvm.MethodName) jdk_43_method_2_code (2 : Nat) (Option.some Jvm.ClassFile.FieldType.char), Jvm.Cond.code ({ cls := "java/lang/String", name := "checkIndex", desc := "(II)V" } : Jvm.MethodName) jdk_42_method_155_code (2 : Nat) (Option.none : Option Jvm.ClassFile.FieldType), Jvm.Cond.code ({ cls := "jdk/internal/util/Preconditions", name := "checkIndex", desc := "(IILjava/util/function/BiFunction;)I" } : Jvm.MethodName) jdk_41_method_11_code (3 : Nat) (Option.some Jvm.ClassFile.FieldType.int), Jvm.Cond.code ({ cls := "com/example/cellwise/cellwise/CellNamePinLaw", name := "expect", desc := "(IICCCC)C" } : Jvm.MethodName) method_4_code (7 : Nat) (Option.some Jvm.ClassFile.FieldType.char)]
set_option maxRecDepth 65536 in
theorem codes_eq : words1.filter isCode = codes1 := rfl
theorem w_codes : ∀ c ∈ words1.filter isCode, c.before args0 about1 = true := by
  rw [codes_eq]
  intro c hc
  simp only [codes1, List.mem_cons, List.not_mem_nil, or_false] at hc
  rcases hc with rfl | rfl | rfl | rfl | rfl | rfl | rfl | rfl | rfl | rfl | rfl | rfl | rfl | rfl | rfl | rfl | rfl | rfl | rfl | rfl | rfl | rfl | rfl | rfl | rfl | rfl | rfl | rfl | rfl | rfl | rfl | rfl | rfl | rfl | rfl | rfl | rfl | rfl | rfl | rfl | rfl | rfl | rfl | rfl | rfl | rfl | rfl
  · exact w_c0
  · exact w_c1
  · exact w_c2
  · exact w_c3
  · exact w_c4
  · exact w_c5
  · exact w_c6
  · exact w_c7
  · exact w_c8
  · exact w_c9
  · exact w_c10
  · exact w_c11
  · exact w_c12
  · exact w_c13
  · exact w_c14
  · exact w_c15
  · exact w_c16
  · exact w_c17
  · exact w_c18
  · exact w_c19
  · exact w_c20
  · exact w_c21
  · exact w_c22
  · exact w_c23
  · exact w_c24
  · exact w_c25
  · exact w_c26
  · exact w_c27
  · exact w_c28
  · exact w_c29
  · exact w_c30
  · exact w_c31
  · exact w_c32
  · exact w_c33
  · exact w_c34
  · exact w_c35
  · exact w_c36
  · exact w_c37
  · exact w_c38
  · exact w_c39
  · exact w_c40
  · exact w_c41
  · exact w_c42
  · exact w_c43
  · exact w_c44
  · exact w_c45
  · exact w_c46
set_option maxRecDepth 65536 in
theorem w_t1 : (words1.take 24).all (fun c => isCode c || c.before args0 about1) = true := by decide +kernel
set_option maxRecDepth 65536 in
theorem w_t2 : ((words1.drop 24).take 24).all (fun c => isCode c || c.before args0 about1) = true := by decide +kernel
set_option maxRecDepth 65536 in
theorem w_t3 : (((words1.drop 24).drop 24).take 24).all (fun c => isCode c || c.before args0 about1) = true := by decide +kernel
set_option maxRecDepth 65536 in
theorem w_t4 : ((((words1.drop 24).drop 24).drop 24).take 24).all (fun c => isCode c || c.before args0 about1) = true := by decide +kernel
set_option maxRecDepth 65536 in
theorem w_t5 : (((((words1.drop 24).drop 24).drop 24).drop 24).take 24).all (fun c => isCode c || c.before args0 about1) = true := by decide +kernel
set_option maxRecDepth 65536 in
theorem w_t6 : ((((((words1.drop 24).drop 24).drop 24).drop 24).drop 24).take 24).all (fun c => isCode c || c.before args0 about1) = true := by decide +kernel
set_option maxRecDepth 65536 in
theorem w_t7 : (((((((words1.drop 24).drop 24).drop 24).drop 24).drop 24).drop 24).take 24).all (fun c => isCode c || c.before args0 about1) = true := by decide +kernel
set_option maxRecDepth 65536 in
theorem w_t8 : ((((((((words1.drop 24).drop 24).drop 24).drop 24).drop 24).drop 24).drop 24).take 24).all (fun c => isCode c || c.before args0 about1) = true := by decide +kernel
set_option maxRecDepth 65536 in
theorem w_t9 : (((((((((words1.drop 24).drop 24).drop 24).drop 24).drop 24).drop 24).drop 24).drop 24).take 24).all (fun c => isCode c || c.before args0 about1) = true := by decide +kernel
set_option maxRecDepth 65536 in
theorem w_t10 : ((((((((((words1.drop 24).drop 24).drop 24).drop 24).drop 24).drop 24).drop 24).drop 24).drop 24).take 24).all (fun c => isCode c || c.before args0 about1) = true := by decide +kernel
set_option maxRecDepth 65536 in
theorem w_t11 : ((((((((((words1.drop 24).drop 24).drop 24).drop 24).drop 24).drop 24).drop 24).drop 24).drop 24).drop 24).all (fun c => isCode c || c.before args0 about1) = true := by decide +kernel
theorem w_tables : (allAtoms (Jvm.Cond.code x code maxLocals ret :: tables_1)).before args0 about1 = true := by
  rw [allAtoms_all]
  show words1.all (fun c => c.before args0 about1) = true
  refine all_split ?_ w_codes
  rw [← List.take_append_drop 24 words1, List.all_append, w_t1, ← List.take_append_drop 24 (words1.drop 24), List.all_append, w_t2, ← List.take_append_drop 24 ((words1.drop 24).drop 24), List.all_append, w_t3, ← List.take_append_drop 24 (((words1.drop 24).drop 24).drop 24), List.all_append, w_t4, ← List.take_append_drop 24 ((((words1.drop 24).drop 24).drop 24).drop 24), List.all_append, w_t5, ← List.take_append_drop 24 (((((words1.drop 24).drop 24).drop 24).drop 24).drop 24), List.all_append, w_t6, ← List.take_append_drop 24 ((((((words1.drop 24).drop 24).drop 24).drop 24).drop 24).drop 24), List.all_append, w_t7, ← List.take_append_drop 24 (((((((words1.drop 24).drop 24).drop 24).drop 24).drop 24).drop 24).drop 24), List.all_append, w_t8, ← List.take_append_drop 24 ((((((((words1.drop 24).drop 24).drop 24).drop 24).drop 24).drop 24).drop 24).drop 24), List.all_append, w_t9, ← List.take_append_drop 24 (((((((((words1.drop 24).drop 24).drop 24).drop 24).drop 24).drop 24).drop 24).drop 24).drop 24), List.all_append, w_t10, w_t11]
  rfl
set_option maxRecDepth 65536 in
theorem w_rest : rest_1_c.before args0 about1 = true := by decide +kernel
set_option maxRecDepth 65536 in
theorem w_case : (Jvm.Cond.and given_1 narrow_1).before args0 about1 = true := by decide +kernel
set_option maxRecDepth 65536 in
theorem w_consts : constsHeld consts_1 about1 := Jvm.Lit.constsHeldB_iff.mp (by decide +kernel)
theorem w_applies : (headSpec (Jvm.Cond.code x code maxLocals ret :: tables_1) room_1).applies x e0.platform about1 = true :=
  (Spec.applies_iff w_frames).mpr ⟨w_running, w_runnable, w_alone, w_named, w_hears, w_ripe, w_room, w_tables⟩
theorem atStart : AtStart classFile x code maxLocals ret World_1 tables_1 room_1 Calls_1 rest_1 Pre_1 launch0 p0 e0 about1 theMethod args0 below0 :=
  ⟨lists_1, trivial, launch0.admits_env _ _ _, launch0.least_env, fairChoices_fair.cas, fairChoices_fair.clock, w_frames, w_args, w_heap, w_applies, ⟨w_consts, trivial⟩, w_rest, w_case⟩
end start1
theorem witness_1 : WitnessClaimed_1 := ⟨start1.p0, start1.e0, start1.about1, start1.theMethod, start1.args0, start1.below0, start1.atStart⟩
end Jvm.Pilot.@@N@@
