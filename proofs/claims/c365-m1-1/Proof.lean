import JvmDerived
import JvmDerived.Pilot.@@N@@Statement
import JvmDerived.Pilot.@@N@@Code
set_option linter.unusedVariables false
set_option linter.unusedSimpArgs false
namespace Jvm.RoadKit
open Sem ClassFile Op Lib Jvm.Stand Jvm.Free Jvm.LawKit
section New
variable {p : Program} {l : Launch} {e : Env} {R : Room} {s : State} {m : MethodId} {args : Array Value} {below : List Frame} {meth : Method} {c : Code} {T : State} {locs : List Loc} {cells slots : Nat}
theorem retI (X : Stand p l e R s m args below meth c T locs cells slots) (hx : p.tables.exec = Jvm.exec) {pc : Nat} {Ls : Array Slot} {z : Int32} {rest : List Value} (hret : meth.sig.returnType = some .int) (hd : decode c.code pc = .ok (.ireturn, 1)) {fs : List Frame}
    (hl : ∀ (f : JFrame) (acts : List Action), f.method = m → f.locked = none → f.entered = [] → (doReturn e (T.setTop f) acts (some (.int z))).1 = T.setFrames fs) : Steps p.tables e below (T.setTop (mkF m pc Ls (.int z :: rest))) (T.setFrames fs) := by
  have hm' : T.vm.method? m = some meth := X.method'
  have hn : narrow .int (.int z) = .int z := rfl
  show Steps p.tables e below (T.setTop { method := m, pc := pc, locals := Ls, stack := _ :: rest, locked := none }) _
  jvm_step X.here [X.here.top, hx, hd, hm', hret, hn]
  first | (intro acts; rw [hl _ acts rfl rfl rfl]) | rw [hl _ _ rfl rfl rfl]
  exact Steps.refl _
end New
end Jvm.RoadKit
/- laws to paste: Road.backV, Road.eqW, Road.codOf (cut by pick.py; bodies as the Statement names them) -/
namespace Jvm.Pilot.@@N@@
namespace StrChars
open Jvm Sem ClassFile Op Lib Jvm.Stand Jvm.Free.XT Jvm.Free.ALB Jvm.Free.JM Jvm.Free
open Jvm.Lib.Cold (StaticIs)
/-- a char array whose places are chars -/
def Ch (a : Addr) (A : Cell) (U : State) : Prop := Arr .char a A U ∧ Typed .char A
theorem Ch.mv {a : Addr} {A : Cell} {U U' : State} (h : Ch a A U) (hal : U.vm.Alike U'.vm) (hh : U'.heap = U.heap) : Ch a A U' := ⟨h.1.mv hal hh, h.2⟩
theorem Ch.keep {a : Addr} {A : Cell} {U U' : State} (h : Ch a A U) (hal : U.vm.Alike U'.vm) (hk : U'.heap[a]? = some A) : Ch a A U' := ⟨h.1.keep hal hk, h.2⟩
/-- what place i of a char[]'s cell holds -/
def cv (A : Cell) (i : Nat) : Int32 := match A.slots[i]? with | some (.int x) => x | _ => 0
theorem Ch.get {a : Addr} {A : Cell} {U : State} (h : Ch a A U) {i : Nat} (hi : i < A.slots.size) : A.slots[i]? = some (.int (cv A i)) := by
  have e := Array.getElem?_eq_getElem hi
  have f := h.2 i _ e
  unfold cv; rw [e]
  generalize A.slots[i] = v at f
  cases v <;> simp [fits] at f ⊢
/-- the byte that i2b leaves of a char -/
def lo8 (x : Int32) : Int32 := x.toInt8.toInt32
theorem fits_lo8 (y : Int32) : fits .byte (.int (lo8 y)) = true := by
  have h1 := y.toInt8.le_toInt
  have h2 := y.toInt8.toInt_lt
  simp only [lo8, fits, Bool.and_eq_true, decide_eq_true_eq, Int32.le_iff_toInt_le, Int8.toInt_toInt32, show (-128 : Int32).toInt = -128 from by decide, show (127 : Int32).toInt = 127 from by decide]
  omega
/-- A' is A but that each place j of lo .. hi - 1 holds f j -/
def Laid (A A' : Cell) (lo hi : Nat) (f : Nat → Value) : Prop := A'.cls = A.cls ∧ A'.vm = A.vm ∧ A'.slots.size = A.slots.size ∧ ∀ i, A'.slots[i]? = if lo ≤ i ∧ i < hi then some (f i) else A.slots[i]?
theorem Laid.zero (A : Cell) (lo : Nat) (f : Nat → Value) : Laid A A lo (lo + 0) f := ⟨rfl, rfl, rfl, fun i => by rw [if_neg (by omega)]⟩
theorem Laid.step {A Ak : Cell} {lo k : Nat} {f : Nat → Value} {v : Value} (h : Laid A Ak lo k f) (hlo : lo ≤ k) (hk : k < Ak.slots.size) (hv : v = f k) : Laid A (Ak.setSlot k v) lo (k + 1) f := by
  refine ⟨h.1, h.2.1, by simpa [Cell.setSlot] using h.2.2.1, fun i => ?_⟩
  by_cases e : k = i
  · subst e; rw [Cell.slots_setSlot_self v hk, if_pos (by omega), hv]
  · rw [Cell.slots_setSlot_ne v e, h.2.2.2 i]
    by_cases q : lo ≤ i ∧ i < k
    · rw [if_pos q, if_pos (by omega)]
    · rw [if_neg q, if_neg (by omega)]
def U16 : String := "java/lang/StringUTF16"
namespace Cmp5
def yN : MethodName := ⟨"java/lang/StringUTF16", "compress", "([CI[BII)I"⟩
abbrev yB : ByteArray := jdk_52_method_21_code
theorem d0 : decode yB 0 = .ok (.iconst 0, 1) := by decide +kernel
theorem d1 : decode yB 1 = .ok (.istore 5, 2) := by decide +kernel
theorem d3 : decode yB 3 = .ok (.iload 5, 2) := by decide +kernel
theorem d5 : decode yB 5 = .ok (.iload 4, 2) := by decide +kernel
theorem d7 : decode yB 7 = .ok (.if_icmp (.ge) 37, 3) := by decide +kernel
theorem d10 : decode yB 10 = .ok (.aload_n 0, 1) := by decide +kernel
theorem d11 : decode yB 11 = .ok (.iload_n 1, 1) := by decide +kernel
theorem d12 : decode yB 12 = .ok (.caload, 1) := by decide +kernel
theorem d13 : decode yB 13 = .ok (.istore 6, 2) := by decide +kernel
theorem d15 : decode yB 15 = .ok (.iload 6, 2) := by decide +kernel
theorem d17 : decode yB 17 = .ok (.sipush 255, 3) := by decide +kernel
theorem d20 : decode yB 20 = .ok (.if_icmp (.le) 6, 3) := by decide +kernel
theorem d26 : decode yB 26 = .ok (.aload_n 2, 1) := by decide +kernel
theorem d27 : decode yB 27 = .ok (.iload_n 3, 1) := by decide +kernel
theorem d28 : decode yB 28 = .ok (.iload 6, 2) := by decide +kernel
theorem d30 : decode yB 30 = .ok (.i2b, 1) := by decide +kernel
theorem d31 : decode yB 31 = .ok (.bastore, 1) := by decide +kernel
theorem d32 : decode yB 32 = .ok (.iinc 1 1, 3) := by decide +kernel
theorem d35 : decode yB 35 = .ok (.iinc 3 1, 3) := by decide +kernel
theorem d38 : decode yB 38 = .ok (.iinc 5 1, 3) := by decide +kernel
theorem d41 : decode yB 41 = .ok (.goto (-38), 3) := by decide +kernel
theorem d44 : decode yB 44 = .ok (.iload 4, 2) := by decide +kernel
theorem d46 : decode yB 46 = .ok (.ireturn, 1) := by decide +kernel
def site : List Cond := []
def tab : Cond := tabOf yN yB 7 (some .int) site
def P (b : Addr) (A : Cell) (d : Addr) (B : Cell) (o q len : Nat) (args : Array Value) (s : State) : Prop := args = #[.ref b, .int (Int32.ofNat o), .ref d, .int (Int32.ofNat q), .int (Int32.ofNat len)] ∧ Ch b A s ∧ Arr .byte d B s ∧ b ≠ d ∧ o + len ≤ A.slots.size ∧ q + len ≤ B.slots.size ∧ ∀ i, i < len → ¬ 255 < cv A (o + i)
def E (b : Addr) (A : Cell) (d : Addr) (B : Cell) (o q len : Nat) (r : Option Value) (s u : State) : Prop := r = some (.int (Int32.ofNat len)) ∧ ∃ B', Put d B' s u ∧ Laid B B' q (q + len) (fun j => Value.int (lo8 (cv A (o + (j - q)))))
/-- no char of the range above 255: len; the places written hold each char's low byte -/
theorem law (l : Launch) (b : Addr) (A : Cell) (d : Addr) (B : Cell) (o q len : Nat) : Law l yN 5 5 0 0 yB 7 (some .int) site (P b A d B o q len) (E b A d B o q len) (copyLocs d q len) 0 0 := by
  refine Law.of_walk (plainFor_of_name (by decide +kernel)) (by decide +kernel) (by decide +kernel) (by decide) (fun _ _ h => by rw [h.1]; rfl) (fun _ U U' hal hh h => ⟨h.1, h.2.1.mv hal hh, h.2.2.1.mv hal hh, h.2.2.2⟩) (fun r U U' V V' h1 hal h2 h => ⟨h.1, h.2.elim fun B' q => ⟨B', q.1.mv h1 h2, q.2⟩⟩) ?_
  intro p e s m args below meth c s₁ X0 hexec hbytes hml hret hlk hnm hown hh0 W hP
  obtain ⟨rfl, hA, hB, hne, l1, l2, hp⟩ := hP
  have c1 : Steps p.tables e below (s₁.setTop (entryFrame m #[.ref b, .int (Int32.ofNat o), .ref d, .int (Int32.ofNat q), .int (Int32.ofNat len)] 7)) (s₁.setTop (mkF m 0 #[.val (.ref b), .val (.int (Int32.ofNat o)), .val (.ref d), .val (.int (Int32.ofNat q)), .val (.int (Int32.ofNat len)), .unset, .unset] [])) := entry rfl
  have hA0 := hA.1.mv X0.warmed.alike hh0
  have hB0 := hB.mv X0.warmed.alike hh0
  have a31 := hA.1.2.2.2
  have c2 : Steps p.tables e below (s₁.setTop (entryFrame m #[.ref b, .int (Int32.ofNat o), .ref d, .int (Int32.ofNat q), .int (Int32.ofNat len)] 7)) (s₁.setTop (mkF m 3 #[.val (.ref b), .val (.int (Int32.ofNat o)), .val (.ref d), .val (.int (Int32.ofNat q)), .val (.int (Int32.ofNat len)), .val (.int 0), .unset] [])) := c1.trans (by
    refine iconstV X0.here hexec rfl 0 (hb hbytes d0) (by decide) ?_
    refine XS.istore X0.here hexec rfl (hb hbytes d1) rfl rfl ?_
    exact Steps.refl _)
  have loop : ∀ (r i : Nat), i + r = len → ∀ (z : Slot), (z = .unset ∨ ∃ w, z = .val w ∧ w.category = 1) → ∀ (Tl : State) (Bk : Cell), Stand p l e { frames := 0, locals := 0, cells := 0, slots := 0 } s m #[.ref b, .int (Int32.ofNat o), .ref d, .int (Int32.ofNat q), .int (Int32.ofNat len)] below meth c Tl ([] ++ copyLocs d q i) 0 0 → Put d Bk s₁ Tl → Laid B Bk q (q + i) (fun j => Value.int (lo8 (cv A (o + (j - q))))) →
      Steps p.tables e below (s₁.setTop (entryFrame m #[.ref b, .int (Int32.ofNat o), .ref d, .int (Int32.ofNat q), .int (Int32.ofNat len)] 7)) (Tl.setTop (mkF m 3 #[.val (.ref b), .val (.int (Int32.ofNat (o + i))), .val (.ref d), .val (.int (Int32.ofNat (q + i))), .val (.int (Int32.ofNat len)), .val (.int (Int32.ofNat i)), z] [])) → ∃ (T' : State) (B' : Cell) (z' : Slot), Stand p l e { frames := 0, locals := 0, cells := 0, slots := 0 } s m #[.ref b, .int (Int32.ofNat o), .ref d, .int (Int32.ofNat q), .int (Int32.ofNat len)] below meth c T' ([] ++ copyLocs d q len) 0 0 ∧ Put d B' s₁ T' ∧ Laid B B' q (q + len) (fun j => Value.int (lo8 (cv A (o + (j - q))))) ∧
      Steps p.tables e below (s₁.setTop (entryFrame m #[.ref b, .int (Int32.ofNat o), .ref d, .int (Int32.ofNat q), .int (Int32.ofNat len)] 7)) (T'.setTop (mkF m 3 #[.val (.ref b), .val (.int (Int32.ofNat (o + len))), .val (.ref d), .val (.int (Int32.ofNat (q + len))), .val (.int (Int32.ofNat len)), .val (.int (Int32.ofNat len)), z'] [])) := by
    intro r
    induction r with
    | zero =>
      intro i hi z hz Tl Bk Xl pl fl cl
      have hil : i = len := by omega
      rw [hil] at Xl fl cl
      exact ⟨Tl, Bk, z, Xl, pl, fl, cl⟩
    | succ r ih =>
      intro i hi z hz Tl Bk Xl pl fl cl
      have all := X0.warmed.alike.symm.trans Xl.warmed.alike
      have hAl := hA0.keep all (pl.other hne hA0.1)
      have hBk := hB0.like all pl.1 fl.1 fl.2.1 fl.2.2.1
      have hlt : q + i < Bk.slots.size := by rw [fl.2.2.1]; omega
      have c3 : Steps p.tables e below (s₁.setTop (entryFrame m #[.ref b, .int (Int32.ofNat o), .ref d, .int (Int32.ofNat q), .int (Int32.ofNat len)] 7)) (Tl.setTop (mkF m 12 #[.val (.ref b), .val (.int (Int32.ofNat (o + i))), .val (.ref d), .val (.int (Int32.ofNat (q + i))), .val (.int (Int32.ofNat len)), .val (.int (Int32.ofNat i)), z] [.int (Int32.ofNat (o + i)), .ref b])) := cl.trans (by
        refine XS.iload Xl.here hexec rfl (hb hbytes d3) rfl ?_
        refine XS.iload Xl.here hexec rfl (hb hbytes d5) rfl ?_
        refine XS.icmpNo Xl.here hexec rfl (hb hbytes d7) rfl (ii_ge_f (lt32 (by omega) (by omega))) ?_
        refine XS.aloadN Xl.here hexec rfl (hb hbytes d10) rfl rfl ?_
        refine XS.iloadN Xl.here hexec rfl (hb hbytes d11) rfl ?_
        exact Steps.refl _)
      have c4 : Steps p.tables e below (s₁.setTop (entryFrame m #[.ref b, .int (Int32.ofNat o), .ref d, .int (Int32.ofNat q), .int (Int32.ofNat len)] 7)) (Tl.setTop (mkF m 13 #[.val (.ref b), .val (.int (Int32.ofNat (o + i))), .val (.ref d), .val (.int (Int32.ofNat (q + i))), .val (.int (Int32.ofNat len)), .val (.int (Int32.ofNat i)), z] [.int (cv A (o + i))])) := c3.trans (by
        refine Xl.aget hexec hAl rfl (hA.get (i := o + i) (by omega)) rfl rfl (hb hbytes d12) ?_
        exact Steps.refl _)
      have c5 : Steps p.tables e below (s₁.setTop (entryFrame m #[.ref b, .int (Int32.ofNat o), .ref d, .int (Int32.ofNat q), .int (Int32.ofNat len)] 7)) (Tl.setTop (mkF m 15 #[.val (.ref b), .val (.int (Int32.ofNat (o + i))), .val (.ref d), .val (.int (Int32.ofNat (q + i))), .val (.int (Int32.ofNat len)), .val (.int (Int32.ofNat i)), .val (.int (cv A (o + i)))] [])) := c4.trans (by
        refine XS.istoreS Xl.here hexec rfl (hb hbytes d13) rfl rfl hz ?_
        exact Steps.refl _)
      have c6 : Steps p.tables e below (s₁.setTop (entryFrame m #[.ref b, .int (Int32.ofNat o), .ref d, .int (Int32.ofNat q), .int (Int32.ofNat len)] 7)) (Tl.setTop (mkF m 31 #[.val (.ref b), .val (.int (Int32.ofNat (o + i))), .val (.ref d), .val (.int (Int32.ofNat (q + i))), .val (.int (Int32.ofNat len)), .val (.int (Int32.ofNat i)), .val (.int (cv A (o + i)))] [.int (lo8 (cv A (o + i))), .int (Int32.ofNat (q + i)), .ref d])) := c5.trans (by
        refine XS.iload Xl.here hexec rfl (hb hbytes d15) rfl ?_
        refine sipushV Xl.here hexec rfl 255 (hb hbytes d17) (by decide) ?_
        refine XS.icmpYes Xl.here hexec rfl (pc0 := 20) rfl (hb hbytes d20) rfl (ii_le_t (hp i (by omega))) (by decide) rfl ?_
        refine XS.aloadN Xl.here hexec rfl (hb hbytes d26) rfl rfl ?_
        refine XS.iloadN Xl.here hexec rfl (hb hbytes d27) rfl ?_
        refine XS.iload Xl.here hexec rfl (hb hbytes d28) rfl ?_
        refine i2b Xl.here hexec rfl (hb hbytes d30) rfl ?_
        exact Steps.refl _)
      obtain ⟨T7, X7, p7, st7⟩ := Xl.aput hexec hBk rfl hlt rfl (fits_lo8 (cv A (o + i))) (g := (mkF m 31 #[.val (.ref b), .val (.int (Int32.ofNat (o + i))), .val (.ref d), .val (.int (Int32.ofNat (q + i))), .val (.int (Int32.ofNat len)), .val (.int (Int32.ofNat i)), .val (.int (cv A (o + i)))] [.int (lo8 (cv A (o + i))), .int (Int32.ofNat (q + i)), .ref d])) rfl (rest := []) rfl (hb hbytes d31)
      have c8 : Steps p.tables e below (s₁.setTop (entryFrame m #[.ref b, .int (Int32.ofNat o), .ref d, .int (Int32.ofNat q), .int (Int32.ofNat len)] 7)) (T7.setTop (mkF m 32 #[.val (.ref b), .val (.int (Int32.ofNat (o + i))), .val (.ref d), .val (.int (Int32.ofNat (q + i))), .val (.int (Int32.ofNat len)), .val (.int (Int32.ofNat i)), .val (.int (cv A (o + i)))] [])) := c6.trans (st7 _ (Steps.refl _))
      have c9 : Steps p.tables e below (s₁.setTop (entryFrame m #[.ref b, .int (Int32.ofNat o), .ref d, .int (Int32.ofNat q), .int (Int32.ofNat len)] 7)) (T7.setTop (mkF m 3 #[.val (.ref b), .val (.int (Int32.ofNat (o + i) + 1)), .val (.ref d), .val (.int (Int32.ofNat (q + i) + 1)), .val (.int (Int32.ofNat len)), .val (.int (Int32.ofNat i + 1)), .val (.int (cv A (o + i)))] [])) := c8.trans (by
        refine iincV X7.here hexec rfl 1 (hb hbytes d32) (by decide) rfl rfl ?_
        refine iincV X7.here hexec rfl 1 (hb hbytes d35) (by decide) rfl rfl ?_
        refine iincV X7.here hexec rfl 1 (hb hbytes d38) (by decide) rfl rfl ?_
        refine XS.goto X7.here hexec rfl (pc0 := 41) rfl (hb hbytes d41) (by decide) rfl ?_
        exact Steps.refl _)
      have c10 : Steps p.tables e below (s₁.setTop (entryFrame m #[.ref b, .int (Int32.ofNat o), .ref d, .int (Int32.ofNat q), .int (Int32.ofNat len)] 7)) (T7.setTop (mkF m 3 #[.val (.ref b), .val (.int (Int32.ofNat (o + (i + 1)))), .val (.ref d), .val (.int (Int32.ofNat (q + (i + 1)))), .val (.int (Int32.ofNat len)), .val (.int (Int32.ofNat (i + 1))), .val (.int (cv A (o + i)))] [])) := by
        have := c9
        rw [succ32, succ32, succ32] at this
        exact this
      exact ih (i + 1) (by omega) _ (Or.inr ⟨_, rfl, rfl⟩) T7 _ (by rw [copyLocs_step, ← List.append_assoc]; exact X7) (pl.trans p7) (fl.step (by omega) hlt (by simp)) c10
  obtain ⟨T9, B9, z9, X9, p9, f9, g9⟩ := loop len 0 (by omega) .unset (Or.inl rfl) s₁ B (by simpa [copyLocs] using X0) ⟨hB0.1, fun _ _ => rfl, rfl⟩ (Laid.zero _ _ _) c2
  have c11 : Steps p.tables e below (s₁.setTop (entryFrame m #[.ref b, .int (Int32.ofNat o), .ref d, .int (Int32.ofNat q), .int (Int32.ofNat len)] 7)) (T9.setTop (mkF m 46 #[.val (.ref b), .val (.int (Int32.ofNat (o + len))), .val (.ref d), .val (.int (Int32.ofNat (q + len))), .val (.int (Int32.ofNat len)), .val (.int (Int32.ofNat len)), z9] [.int (Int32.ofNat len)])) := g9.trans (by
    refine XS.iload X9.here hexec rfl (hb hbytes d3) rfl ?_
    refine XS.iload X9.here hexec rfl (hb hbytes d5) rfl ?_
    refine XS.icmpYes X9.here hexec rfl (pc0 := 7) rfl (hb hbytes d7) rfl (ii_ge_t (nlt32 (by omega) (Nat.le_refl _))) (by decide) rfl ?_
    refine XS.iload X9.here hexec rfl (hb hbytes d44) rfl ?_
    exact Steps.refl _)
  exact ⟨T9, some (.int (Int32.ofNat len)), _, _, _, X9, by simp, rfl, rfl, (fun h => by cases h), ⟨rfl, B9, p9.from hh0, f9⟩, fun fs hl => c11.trans (X9.ireturnOut hexec hret rfl (Or.inl rfl) (hb hbytes d46) hl)⟩
end Cmp5
namespace Cmp3
def yN : MethodName := ⟨"java/lang/StringUTF16", "compress", "([CII)[B"⟩
abbrev yB : ByteArray := jdk_52_method_16_code
theorem d0 : decode yB 0 = .ok (.iload_n 2, 1) := by decide +kernel
theorem d1 : decode yB 1 = .ok (.newarray .byte, 2) := by decide +kernel
theorem d3 : decode yB 3 = .ok (.astore_n 3, 1) := by decide +kernel
theorem d4 : decode yB 4 = .ok (.aload_n 0, 1) := by decide +kernel
theorem d5 : decode yB 5 = .ok (.iload_n 1, 1) := by decide +kernel
theorem d6 : decode yB 6 = .ok (.aload_n 3, 1) := by decide +kernel
theorem d7 : decode yB 7 = .ok (.iconst 0, 1) := by decide +kernel
theorem d8 : decode yB 8 = .ok (.iload_n 2, 1) := by decide +kernel
theorem d9 : decode yB 9 = .ok (.invokestatic 115, 3) := by decide +kernel
theorem d12 : decode yB 12 = .ok (.istore 4, 2) := by decide +kernel
theorem d14 : decode yB 14 = .ok (.iload 4, 2) := by decide +kernel
theorem d16 : decode yB 16 = .ok (.iload_n 2, 1) := by decide +kernel
theorem d17 : decode yB 17 = .ok (.if_icmp (.eq) 40, 3) := by decide +kernel
theorem d57 : decode yB 57 = .ok (.aload_n 3, 1) := by decide +kernel
theorem d58 : decode yB 58 = .ok (.areturn, 1) := by decide +kernel
def site : List Cond := [.arrayClass .byte, Cmp5.tab] ++ staticW U16 115 Cmp5.yN
def tab : Cond := tabOf yN yB 6 (some (.array .byte)) site
def P (b : Addr) (A : Cell) (o len : Nat) (args : Array Value) (s : State) : Prop := args = #[.ref b, .int (Int32.ofNat o), .int (Int32.ofNat len)] ∧ Ch b A s ∧ o + len ≤ A.slots.size ∧ len ≤ 536870912 ∧ ∀ i, i < len → ¬ 255 < cv A (o + i)
def E (b : Addr) (A : Cell) (o len : Nat) (r : Option Value) (s u : State) : Prop := NewArr .byte "[B" len (fun j => .int (lo8 (cv A (o + j)))) r s u ∧ u.heap.size = s.heap.size + 1
/-- no char of the range above 255: a new byte[] of their low bytes -/
theorem law (l : Launch) (b : Addr) (A : Cell) (o len : Nat) : Law l yN 3 3 1 18 yB 6 (some (.array .byte)) site (P b A o len) (E b A o len) [] 1 len := by
  refine Law.of_walk (plainFor_of_name (by decide +kernel)) (by decide +kernel) (by decide +kernel) (by decide) (fun _ _ h => by rw [h.1]; rfl) (fun _ U U' hal hh h => ⟨h.1, h.2.1.mv hal hh, h.2.2⟩) (fun r U U' V V' h1 hal h2 h => ⟨NewArr.mv r U U' V V' h1 hal h2 h.1, by rw [h1, h2]; exact h.2⟩) ?_
  intro p e s m args below meth c s₁ X0 hexec hbytes hml hret hlk hnm hown hh0 W hP
  obtain ⟨rfl, hA, l1, l2, hp⟩ := hP
  have a31 := hA.1.2.2.2
  have c1 : Steps p.tables e below (s₁.setTop (entryFrame m #[.ref b, .int (Int32.ofNat o), .int (Int32.ofNat len)] 6)) (s₁.setTop (mkF m 0 #[.val (.ref b), .val (.int (Int32.ofNat o)), .val (.int (Int32.ofNat len)), .unset, .unset, .unset] [])) := entry rfl
  have c2 : Steps p.tables e below (s₁.setTop (entryFrame m #[.ref b, .int (Int32.ofNat o), .int (Int32.ofNat len)] 6)) (s₁.setTop (mkF m 1 #[.val (.ref b), .val (.int (Int32.ofNat o)), .val (.int (Int32.ofNat len)), .unset, .unset, .unset] [.int (Int32.ofNat len)])) := c1.trans (by
    refine XS.iloadN X0.here hexec rfl (hb hbytes d0) rfl ?_
    exact Steps.refl _)
  obtain ⟨T3, B3, X3, ba3, bs3, bv3, bh3, bf3, st3⟩ := X0.anew hexec (atype := .byte) (wk W (.arrayClass .byte)) rfl (by show len * 1 ≤ _; omega) (by omega) (g := (mkF m 1 #[.val (.ref b), .val (.int (Int32.ofNat o)), .val (.int (Int32.ofNat len)), .unset, .unset, .unset] [.int (Int32.ofNat len)])) rfl (hb hbytes d1) (rest := []) rfl (Nat.le_refl _) (by show 0 + len ≤ len; omega)
  rw [hh0] at ba3 st3
  have kp3 : XT.Kept s T3 := (XT.Kept.of_eq hh0).push bh3
  have hA3 := hA.keep X3.warmed.alike (kp3 _ _ hA.1.1)
  have hne : b ≠ s.heap.size := hA.1.ne
  have c4 : Steps p.tables e below (s₁.setTop (entryFrame m #[.ref b, .int (Int32.ofNat o), .int (Int32.ofNat len)] 6)) (T3.setTop (mkF m 3 #[.val (.ref b), .val (.int (Int32.ofNat o)), .val (.int (Int32.ofNat len)), .unset, .unset, .unset] [.ref s.heap.size])) := c2.trans (st3 _ (Steps.refl _))
  have c5 : Steps p.tables e below (s₁.setTop (entryFrame m #[.ref b, .int (Int32.ofNat o), .int (Int32.ofNat len)] 6)) (T3.setTop (mkF m 9 #[.val (.ref b), .val (.int (Int32.ofNat o)), .val (.int (Int32.ofNat len)), .val (.ref s.heap.size), .unset, .unset] [.int (Int32.ofNat len), .int 0, .ref s.heap.size, .int (Int32.ofNat o), .ref b])) := c4.trans (by
    refine XS.astoreN X3.here hexec rfl (hb hbytes d3) rfl rfl rfl ?_
    refine XS.aloadN X3.here hexec rfl (hb hbytes d4) rfl rfl ?_
    refine XS.iloadN X3.here hexec rfl (hb hbytes d5) rfl ?_
    refine XS.aloadN X3.here hexec rfl (hb hbytes d6) rfl rfl ?_
    refine iconstV X3.here hexec rfl 0 (hb hbytes d7) (by decide) ?_
    refine XS.iloadN X3.here hexec rfl (hb hbytes d8) rfl ?_
    exact Steps.refl _)
  obtain ⟨v6, T6, X6, E6, g6⟩ := X3.callS hexec (Cmp5.law l b A s.heap.size B3 o 0 len) hown (wks W (staticW U16 115 Cmp5.yN)) (wk W Cmp5.tab) (W := 0) (Nat.le_of_ble_eq_true rfl) (Nat.le_of_ble_eq_true rfl) (Nat.le_refl _) (by show 0 + len + 0 ≤ len; omega) (g := (mkF m 9 #[.val (.ref b), .val (.int (Int32.ofNat o)), .val (.int (Int32.ofNat len)), .val (.ref s.heap.size), .unset, .unset] [.int (Int32.ofNat len), .int (Int32.ofNat 0), .ref s.heap.size, .int (Int32.ofNat o), .ref b])) rfl (by rw [hml]; rfl) c5 (argsL := [.ref b, .int (Int32.ofNat o), .ref s.heap.size, .int (Int32.ofNat 0), .int (Int32.ofNat len)]) (rest := []) rfl rfl (by show 2 * 0 + 0 ≤ _; decide) (hb hbytes d9) (⟨rfl, hA3, ba3, hne, l1, by rw [bs3]; simp, hp⟩)
  obtain ⟨rfl, B6, p6, f6⟩ := E6
  have c7 : Steps p.tables e below (s₁.setTop (entryFrame m #[.ref b, .int (Int32.ofNat o), .int (Int32.ofNat len)] 6)) (T6.setTop (mkF m 12 #[.val (.ref b), .val (.int (Int32.ofNat o)), .val (.int (Int32.ofNat len)), .val (.ref s.heap.size), .unset, .unset] [.int (Int32.ofNat len)])) := g6
  have c8 : Steps p.tables e below (s₁.setTop (entryFrame m #[.ref b, .int (Int32.ofNat o), .int (Int32.ofNat len)] 6)) (T6.setTop (mkF m 58 #[.val (.ref b), .val (.int (Int32.ofNat o)), .val (.int (Int32.ofNat len)), .val (.ref s.heap.size), .val (.int (Int32.ofNat len)), .unset] [.ref s.heap.size])) := c7.trans (by
    refine XS.istore X6.here hexec rfl (hb hbytes d12) rfl rfl ?_
    refine XS.iload X6.here hexec rfl (hb hbytes d14) rfl ?_
    refine XS.iloadN X6.here hexec rfl (hb hbytes d16) rfl ?_
    refine XS.icmpYes X6.here hexec rfl (pc0 := 17) rfl (hb hbytes d17) rfl (ii_eq_t rfl) (by decide) rfl ?_
    refine XS.aloadN X6.here hexec rfl (hb hbytes d57) rfl rfl ?_
    exact Steps.refl _)
  have X8 := X6.wide (L' := []) (cells' := 1) (slots' := len) (fun x hx hlt => by
    simp only [List.nil_append, copyLocs, List.mem_map, List.mem_range] at hx
    obtain ⟨i, -, rfl⟩ := hx
    exact absurd hlt (Nat.lt_irrefl _)) (Nat.le_refl _) (by omega)
  exact ⟨T6, some (.ref s.heap.size), _, _, _, X8, rfl, rfl, rfl, (fun h => by cases h), ⟨⟨rfl, B6, ba3.like (X3.warmed.alike.symm.trans X6.warmed.alike) p6.1 f6.1 f6.2.1 f6.2.2.1, f6.2.1.trans bv3, by rw [X6.warmed.alike.findClass, f6.1]; exact bf3, by rw [f6.2.2.1, bs3]; simp, fun j hj => by rw [f6.2.2.2 j, if_pos (by omega)]; rfl, kp3.put p6 (Nat.le_refl _)⟩, by rw [p6.2.2, bh3, hh0]; simp⟩, fun fs hl => c8.trans (X8.areturnOut hexec rfl hret rfl (hb hbytes d58) hl)⟩
end Cmp3
namespace CodL
def yN : MethodName := ⟨"java/lang/StringUTF16", "coderFromArrayLen", "([BI)B"⟩
abbrev yB : ByteArray := jdk_52_method_15_code
theorem d0 : decode yB 0 = .ok (.iload_n 1, 1) := by decide +kernel
theorem d1 : decode yB 1 = .ok (.aload_n 0, 1) := by decide +kernel
theorem d2 : decode yB 2 = .ok (.arraylength, 1) := by decide +kernel
theorem d3 : decode yB 3 = .ok (.isub, 1) := by decide +kernel
theorem d4 : decode yB 4 = .ok (.bipush 31, 2) := by decide +kernel
theorem d6 : decode yB 6 = .ok (.iushr, 1) := by decide +kernel
theorem d7 : decode yB 7 = .ok (.i2b, 1) := by decide +kernel
theorem d8 : decode yB 8 = .ok (.ireturn, 1) := by decide +kernel
def site : List Cond := []
def tab : Cond := tabOf yN yB 2 (some .byte) site
def P (d : Addr) (B : Cell) (args : Array Value) (s : State) : Prop := args = #[.ref d, .int (Int32.ofNat B.slots.size)] ∧ Arr .byte d B s
def E (r : Option Value) (s u : State) : Prop := XT.PureE (some (.int 0)) r s u
/-- an array as long as the number of chars: LATIN1 -/
theorem law (l : Launch) (d : Addr) (B : Cell) : Law l yN 2 2 0 0 yB 2 (some .byte) site (P d B) E [] 0 0 := by
  refine Law.of_walk (plainFor_of_name (by decide +kernel)) (by decide +kernel) (by decide +kernel) (by decide) (fun _ _ h => by rw [h.1]; rfl) (fun _ U U' hal hh h => ⟨h.1, h.2.mv hal hh⟩) (fun r U U' V V' h1 hal h2 h => XT.PureE.mv r U U' V V' h1 hal h2 h) ?_
  intro p e s m args below meth c s₁ X0 hexec hbytes hml hret hlk hnm hown hh0 W hP
  obtain ⟨rfl, hB⟩ := hP
  have hB0 := hB.mv X0.warmed.alike hh0
  have c1 : Steps p.tables e below (s₁.setTop (entryFrame m #[.ref d, .int (Int32.ofNat B.slots.size)] 2)) (s₁.setTop (mkF m 0 #[.val (.ref d), .val (.int (Int32.ofNat B.slots.size))] [])) := entry rfl
  have c2 : Steps p.tables e below (s₁.setTop (entryFrame m #[.ref d, .int (Int32.ofNat B.slots.size)] 2)) (s₁.setTop (mkF m 2 #[.val (.ref d), .val (.int (Int32.ofNat B.slots.size))] [.ref d, .int (Int32.ofNat B.slots.size)])) := c1.trans (by
    refine XS.iloadN X0.here hexec rfl (hb hbytes d0) rfl ?_
    refine XS.aloadN X0.here hexec rfl (hb hbytes d1) rfl rfl ?_
    exact Steps.refl _)
  have c3 : Steps p.tables e below (s₁.setTop (entryFrame m #[.ref d, .int (Int32.ofNat B.slots.size)] 2)) (s₁.setTop (mkF m 8 #[.val (.ref d), .val (.int (Int32.ofNat B.slots.size))] [.int (lo8 (ushr (Int32.ofNat B.slots.size - Int32.ofNat B.slots.size) 31))])) := c2.trans (by
    refine X0.alen hexec hB0 rfl rfl (hb hbytes d2) ?_
    refine XS.isub X0.here hexec rfl (hb hbytes d3) rfl ?_
    refine bipushV X0.here hexec rfl 31 (hb hbytes d4) (by decide) ?_
    refine iushr X0.here hexec rfl (hb hbytes d6) rfl ?_
    refine i2b X0.here hexec rfl (hb hbytes d7) rfl ?_
    exact Steps.refl _)
  have e0 : lo8 (ushr (Int32.ofNat B.slots.size - Int32.ofNat B.slots.size) 31) = 0 := by rw [Int32.sub_self]; decide
  rw [e0] at c3
  exact ⟨s₁, some (.int 0), _, _, _, X0, rfl, rfl, rfl, (fun h => by cases h), ⟨rfl, hh0⟩, fun fs hl => c3.trans (X0.ireturnOut hexec hret rfl (Or.inr (Or.inr (Or.inl rfl))) (hb hbytes d8) hl)⟩
end CodL
/-- the String at a is Latin-1 over a new byte[] (the heap's one new cell): the low bytes of the len chars of A from o on; every cell but a is kept -/
def Got (a : Addr) (D : Cell) (fV fC : Field) (A : Cell) (o len : Nat) (r : Option Value) (s u : State) : Prop := r = none ∧ ∃ D' V : Cell, Blank "java/lang/String" a D' u ∧ Same D D' [fV.slot, fC.slot] ∧ D'.slots[fV.slot]? = some (.ref s.heap.size) ∧ D'.slots[fC.slot]? = some (.int 0) ∧ Arr .byte s.heap.size V u ∧ V.vm = .none ∧ u.vm.findClass "[B" = some V.cls ∧ V.slots.size = len ∧ (∀ j, j < len → V.slots[j]? = some (.int (lo8 (cv A (o + j))))) ∧ (∀ (y : Addr) (c : Cell), y ≠ a → s.heap[y]? = some c → u.heap[y]? = some c) ∧ u.heap.size = s.heap.size + 1
theorem Got.mv {a : Addr} {D A : Cell} {fV fC : Field} {o len : Nat} : ∀ r (U U' V V' : State), U'.heap = U.heap → V.vm.Alike V'.vm → V'.heap = V.heap → Got a D fV fC A o len r U V → Got a D fV fC A o len r U' V' :=
  fun r U U' V V' h1 hal h2 ⟨e0, D', X, a1, a2, a3, a4, a5, a6, a7, a8, a9, a10, a11⟩ => ⟨e0, D', X, a1.mv hal h2, a2, by rw [h1]; exact a3, a4, by rw [h1]; exact a5.mv hal h2, a6, by rw [hal.findClass]; exact a7, a8, a9, by rw [h1, h2]; exact a10, by rw [h1, h2]; exact a11⟩
namespace New4
def yN : MethodName := ⟨"java/lang/String", "<init>", "([CIILjava/lang/Void;)V"⟩
abbrev yB : ByteArray := jdk_42_method_149_code
theorem d0 : decode yB 0 = .ok (.aload_n 0, 1) := by decide +kernel
theorem d1 : decode yB 1 = .ok (.invokespecial 1, 3) := by decide +kernel
theorem d4 : decode yB 4 = .ok (.iload_n 3, 1) := by decide +kernel
theorem d5 : decode yB 5 = .ok (.ifCond (.ne) 22, 3) := by decide +kernel
theorem d27 : decode yB 27 = .ok (.getstatic 38, 3) := by decide +kernel
theorem d30 : decode yB 30 = .ok (.ifCond (.eq) 28, 3) := by decide +kernel
theorem d33 : decode yB 33 = .ok (.aload_n 1, 1) := by decide +kernel
theorem d34 : decode yB 34 = .ok (.iload_n 2, 1) := by decide +kernel
theorem d35 : decode yB 35 = .ok (.iload_n 3, 1) := by decide +kernel
theorem d36 : decode yB 36 = .ok (.invokestatic 177, 3) := by decide +kernel
theorem d39 : decode yB 39 = .ok (.astore 5, 2) := by decide +kernel
theorem d41 : decode yB 41 = .ok (.aload_n 0, 1) := by decide +kernel
theorem d42 : decode yB 42 = .ok (.aload 5, 2) := by decide +kernel
theorem d44 : decode yB 44 = .ok (.iload_n 3, 1) := by decide +kernel
theorem d45 : decode yB 45 = .ok (.invokestatic 47, 3) := by decide +kernel
theorem d48 : decode yB 48 = .ok (.putfield 15, 3) := by decide +kernel
theorem d51 : decode yB 51 = .ok (.aload_n 0, 1) := by decide +kernel
theorem d52 : decode yB 52 = .ok (.aload 5, 2) := by decide +kernel
theorem d54 : decode yB 54 = .ok (.putfield 9, 3) := by decide +kernel
theorem d57 : decode yB 57 = .ok (.return_, 1) := by decide +kernel
def site : List Cond := [.fieldLink "java/lang/String" 38 "java/lang/String" "COMPACT_STRINGS" "Z", Cmp3.tab, CodL.tab, .laysFinal "java/lang/String" "java/lang/String" "value" "[B", .fieldLink "java/lang/String" 9 "java/lang/String" "value" "[B", .laysFinal "java/lang/String" "java/lang/String" "coder" "B", .fieldLink "java/lang/String" 15 "java/lang/String" "coder" "B"] ++ objW "java/lang/String" 1 ++ staticW "java/lang/String" 177 Cmp3.yN ++ staticW "java/lang/String" 47 CodL.yN
def tab : Cond := tabOf yN yB 6 none site
def P (a : Addr) (D : Cell) (fV fC : Field) (b : Addr) (A : Cell) (z : Int32) (o len : Nat) (args : Array Value) (s : State) : Prop := args = #[.ref a, .ref b, .int (Int32.ofNat o), .int (Int32.ofNat len), .null] ∧ Blank "java/lang/String" a D s ∧ Found "java/lang/String" "value" "[B" fV s ∧ Found "java/lang/String" "coder" "B" fC s ∧ Ch b A s ∧ StaticIs s "java/lang/String" "COMPACT_STRINGS" "Z" (.int z) ∧ ¬ z = 0 ∧ 0 < len ∧ o + len ≤ A.slots.size ∧ len ≤ 536870912 ∧ ∀ i, i < len → ¬ 255 < cv A (o + i)
def E (a : Addr) (D : Cell) (fV fC : Field) (A : Cell) (o len : Nat) (r : Option Value) (s u : State) : Prop := Got a D fV fC A o len r s u
/-- len > 0, no char of the range above 255: a Latin-1 String of their low bytes -/
theorem law (l : Launch) (a : Addr) (D : Cell) (fV fC : Field) (b : Addr) (A : Cell) (z : Int32) (o len : Nat) : Law l yN 5 4 2 35 yB 6 none site (P a D fV fC b A z o len) (E a D fV fC A o len) [⟨a, fC.slot⟩, ⟨a, fV.slot⟩] 1 len := by
  refine Law.of_walk (plainFor_of_name (by decide +kernel)) (by decide +kernel) (by decide +kernel) (by decide) (fun _ _ h => by rw [h.1]; rfl) (fun _ U U' hal hh h => ⟨h.1, h.2.1.mv hal hh, h.2.2.1.al hal, h.2.2.2.1.al hal, h.2.2.2.2.1.mv hal hh, h.2.2.2.2.2.1.there hal hh, h.2.2.2.2.2.2⟩) (fun r U U' V V' h1 hal h2 h => Got.mv r U U' V V' h1 hal h2 h) ?_
  intro p e s m args below meth c s₁ X0 hexec hbytes hml hret hlk hnm hown hh0 W hP
  obtain ⟨rfl, hB, f1, f2, hA, s1, hz, l0, l1, l2, hp⟩ := hP
  have a31 := hA.1.2.2.2
  have c1 : Steps p.tables e below (s₁.setTop (entryFrame m #[.ref a, .ref b, .int (Int32.ofNat o), .int (Int32.ofNat len), .null] 6)) (s₁.setTop (mkF m 0 #[.val (.ref a), .val (.ref b), .val (.int (Int32.ofNat o)), .val (.int (Int32.ofNat len)), .val .null, .unset] [])) := entry rfl
  have c2 : Steps p.tables e below (s₁.setTop (entryFrame m #[.ref a, .ref b, .int (Int32.ofNat o), .int (Int32.ofNat len), .null] 6)) (s₁.setTop (mkF m 1 #[.val (.ref a), .val (.ref b), .val (.int (Int32.ofNat o)), .val (.int (Int32.ofNat len)), .val .null, .unset] [.ref a])) := c1.trans (by
    refine XS.aloadN X0.here hexec rfl (hb hbytes d0) rfl rfl ?_
    exact Steps.refl _)
  obtain ⟨T3, X3, q3, st3⟩ := X0.oinit hexec hown (wks W (objW "java/lang/String" 1)) (g := (mkF m 1 #[.val (.ref a), .val (.ref b), .val (.int (Int32.ofNat o)), .val (.int (Int32.ofNat len)), .val .null, .unset] [.ref a])) rfl (by rw [hml]; rfl) (rest := []) rfl (hb hbytes d1) (W := 0) (by show 2 * 0 + 0 ≤ _; decide) (Nat.le_of_ble_eq_true rfl) (Nat.le_of_ble_eq_true rfl)
  have hh3 := q3.trans hh0
  have c4 : Steps p.tables e below (s₁.setTop (entryFrame m #[.ref a, .ref b, .int (Int32.ofNat o), .int (Int32.ofNat len), .null] 6)) (T3.setTop (mkF m 27 #[.val (.ref a), .val (.ref b), .val (.int (Int32.ofNat o)), .val (.int (Int32.ofNat len)), .val .null, .unset] [])) := (c2.trans (st3 _ (Steps.refl _))).trans (by
    refine XS.iloadN X3.here hexec rfl (hb hbytes d4) rfl ?_
    refine XS.ifYes X3.here hexec rfl (pc0 := 5) rfl (hb hbytes d5) rfl (i0_ne_t (nz32 (by omega) l0)) (by decide) rfl ?_
    exact Steps.refl _)
  obtain ⟨T5, X5, q5, st5⟩ := X3.sget hexec hown (wk W (.fieldLink "java/lang/String" 38 "java/lang/String" "COMPACT_STRINGS" "Z")) s1 (fun _ _ h => by rw [hh3]; exact h) (g := (mkF m 27 #[.val (.ref a), .val (.ref b), .val (.int (Int32.ofNat o)), .val (.int (Int32.ofNat len)), .val .null, .unset] [])) rfl (hb hbytes d27)
  have hh5 := q5.trans hh3
  have c6 : Steps p.tables e below (s₁.setTop (entryFrame m #[.ref a, .ref b, .int (Int32.ofNat o), .int (Int32.ofNat len), .null] 6)) (T5.setTop (mkF m 30 #[.val (.ref a), .val (.ref b), .val (.int (Int32.ofNat o)), .val (.int (Int32.ofNat len)), .val .null, .unset] [.int z])) := c4.trans (st5 _ (Steps.refl _))
  have c7 : Steps p.tables e below (s₁.setTop (entryFrame m #[.ref a, .ref b, .int (Int32.ofNat o), .int (Int32.ofNat len), .null] 6)) (T5.setTop (mkF m 36 #[.val (.ref a), .val (.ref b), .val (.int (Int32.ofNat o)), .val (.int (Int32.ofNat len)), .val .null, .unset] [.int (Int32.ofNat len), .int (Int32.ofNat o), .ref b])) := c6.trans (by
    refine XS.ifNo X5.here hexec rfl (hb hbytes d30) rfl (i0_eq_f hz) ?_
    refine XS.aloadN X5.here hexec rfl (hb hbytes d33) rfl rfl ?_
    refine XS.iloadN X5.here hexec rfl (hb hbytes d34) rfl ?_
    refine XS.iloadN X5.here hexec rfl (hb hbytes d35) rfl ?_
    exact Steps.refl _)
  obtain ⟨v8, T8, X8, E8, g8⟩ := X5.callS hexec (Cmp3.law l b A o len) hown (wks W (staticW "java/lang/String" 177 Cmp3.yN)) (wk W Cmp3.tab) (W := 0) (Nat.le_of_ble_eq_true rfl) (Nat.le_of_ble_eq_true rfl) (Nat.le_refl _) (by show 0 + len ≤ len; omega) (g := (mkF m 36 #[.val (.ref a), .val (.ref b), .val (.int (Int32.ofNat o)), .val (.int (Int32.ofNat len)), .val .null, .unset] [.int (Int32.ofNat len), .int (Int32.ofNat o), .ref b])) rfl (by rw [hml]; rfl) c7 (argsL := [.ref b, .int (Int32.ofNat o), .int (Int32.ofNat len)]) (rest := []) rfl rfl (by show 2 * 0 + 0 ≤ _; decide) (hb hbytes d36) (⟨rfl, hA.mv X5.warmed.alike hh5, l1, l2, hp⟩)
  obtain ⟨e8, z8⟩ := E8
  obtain ⟨rfl, N, n1, n2, n3, n4, n5, n6⟩ := NewArr.mv _ T5 s _ _ hh5.symm (Vm.Alike.refl _) rfl e8
  rw [hh5] at z8
  have hB1 := hB.keep X8.warmed.alike (n6 _ _ hB.1)
  have hne : s.heap.size ≠ a := (Nat.ne_of_lt (Array.getElem?_eq_some_iff.mp hB.1).1).symm
  have c9 : Steps p.tables e below (s₁.setTop (entryFrame m #[.ref a, .ref b, .int (Int32.ofNat o), .int (Int32.ofNat len), .null] 6)) (T8.setTop (mkF m 39 #[.val (.ref a), .val (.ref b), .val (.int (Int32.ofNat o)), .val (.int (Int32.ofNat len)), .val .null, .unset] [.ref s.heap.size])) := g8
  have c10 : Steps p.tables e below (s₁.setTop (entryFrame m #[.ref a, .ref b, .int (Int32.ofNat o), .int (Int32.ofNat len), .null] 6)) (T8.setTop (mkF m 45 #[.val (.ref a), .val (.ref b), .val (.int (Int32.ofNat o)), .val (.int (Int32.ofNat len)), .val .null, .val (.ref s.heap.size)] [.int (Int32.ofNat N.slots.size), .ref s.heap.size, .ref a])) := by
    have hc : Steps p.tables e below (s₁.setTop (entryFrame m #[.ref a, .ref b, .int (Int32.ofNat o), .int (Int32.ofNat len), .null] 6)) (T8.setTop (mkF m 45 #[.val (.ref a), .val (.ref b), .val (.int (Int32.ofNat o)), .val (.int (Int32.ofNat len)), .val .null, .val (.ref s.heap.size)] [.int (Int32.ofNat len), .ref s.heap.size, .ref a])) := c9.trans (by
      refine XS.astore X8.here hexec rfl (hb hbytes d39) rfl rfl rfl ?_
      refine XS.aloadN X8.here hexec rfl (hb hbytes d41) rfl rfl ?_
      refine XS.aload X8.here hexec rfl (hb hbytes d42) rfl rfl ?_
      refine XS.iloadN X8.here hexec rfl (hb hbytes d44) rfl ?_
      exact Steps.refl _)
    rw [n4]; exact hc
  obtain ⟨v11, T11, X11, E11, g11⟩ := X8.callS hexec (CodL.law l s.heap.size N) hown (wks W (staticW "java/lang/String" 47 CodL.yN)) (wk W CodL.tab) (W := 1) (Nat.le_of_ble_eq_true rfl) (Nat.le_of_ble_eq_true rfl) (Nat.le_refl _) (by show 0 + len + 0 ≤ len; omega) (g := (mkF m 45 #[.val (.ref a), .val (.ref b), .val (.int (Int32.ofNat o)), .val (.int (Int32.ofNat len)), .val .null, .val (.ref s.heap.size)] [.int (Int32.ofNat N.slots.size), .ref s.heap.size, .ref a])) rfl (by rw [hml]; rfl) c10 (argsL := [.ref s.heap.size, .int (Int32.ofNat N.slots.size)]) (rest := [.ref a]) rfl rfl (by show 2 * 0 + (1 + 0) ≤ _; decide) (hb hbytes d45) (⟨rfl, n1⟩)
  obtain ⟨rfl, q11⟩ := E11
  have hB11 := hB1.mv (X8.warmed.alike.symm.trans X11.warmed.alike) q11
  have c12 : Steps p.tables e below (s₁.setTop (entryFrame m #[.ref a, .ref b, .int (Int32.ofNat o), .int (Int32.ofNat len), .null] 6)) (T11.setTop (mkF m 48 #[.val (.ref a), .val (.ref b), .val (.int (Int32.ofNat o)), .val (.int (Int32.ofNat len)), .val .null, .val (.ref s.heap.size)] [.int 0, .ref a])) := g11
  obtain ⟨T13, X13, p13, bl13, sl13, st13⟩ := X11.finit hexec hown (wk W (.fieldLink "java/lang/String" 15 "java/lang/String" "coder" "B")) (Or.inr ⟨_, (wk W (.laysFinal "java/lang/String" "java/lang/String" "coder" "B"))⟩) (Or.inl ⟨rfl, hnm⟩) f2 (Or.inl rfl) hB11 (t := .byte) (by decide +kernel) rfl (g := (mkF m 48 #[.val (.ref a), .val (.ref b), .val (.int (Int32.ofNat o)), .val (.int (Int32.ofNat len)), .val .null, .val (.ref s.heap.size)] [.int 0, .ref a])) rfl (rest := []) rfl (hb hbytes d48)
  have c14 : Steps p.tables e below (s₁.setTop (entryFrame m #[.ref a, .ref b, .int (Int32.ofNat o), .int (Int32.ofNat len), .null] 6)) (T13.setTop (mkF m 54 #[.val (.ref a), .val (.ref b), .val (.int (Int32.ofNat o)), .val (.int (Int32.ofNat len)), .val .null, .val (.ref s.heap.size)] [.ref s.heap.size, .ref a])) := (c12.trans (st13 _ (Steps.refl _))).trans (by
    refine XS.aloadN X13.here hexec rfl (hb hbytes d51) rfl rfl ?_
    refine XS.aload X13.here hexec rfl (hb hbytes d52) rfl rfl ?_
    exact Steps.refl _)
  obtain ⟨T15, X15, p15, bl15, sl15, st15⟩ := X13.finit hexec hown (wk W (.fieldLink "java/lang/String" 9 "java/lang/String" "value" "[B")) (Or.inr ⟨_, (wk W (.laysFinal "java/lang/String" "java/lang/String" "value" "[B"))⟩) (Or.inl ⟨rfl, hnm⟩) f1 (Or.inl rfl) bl13 (t := (.array .byte)) (by decide +kernel) rfl (g := (mkF m 54 #[.val (.ref a), .val (.ref b), .val (.int (Int32.ofNat o)), .val (.int (Int32.ofNat len)), .val .null, .val (.ref s.heap.size)] [.ref s.heap.size, .ref a])) rfl (rest := []) rfl (hb hbytes d54)
  have c16 : Steps p.tables e below (s₁.setTop (entryFrame m #[.ref a, .ref b, .int (Int32.ofNat o), .int (Int32.ofNat len), .null] 6)) (T15.setTop (mkF m 57 #[.val (.ref a), .val (.ref b), .val (.int (Int32.ofNat o)), .val (.int (Int32.ofNat len)), .val .null, .val (.ref s.heap.size)] [])) := c14.trans (st15 _ (Steps.refl _))
  have ap := apart (Or.inr ⟨_, (wk W (.laysFinal "java/lang/String" "java/lang/String" "value" "[B"))⟩) (Or.inr ⟨_, (wk W (.laysFinal "java/lang/String" "java/lang/String" "coder" "B"))⟩) f1 f2 (t₁ := .array .byte) (t₂ := .byte) (by decide +kernel) (by decide +kernel) (by decide)
  have al := X8.warmed.alike.symm.trans X15.warmed.alike
  have n7 : T11.heap[s.heap.size]? = some N := by rw [q11]; exact n1.1
  exact ⟨T15, none, _, _, _, X15, by simp, rfl, by omega, (fun _ => rfl), ⟨rfl, _, N, bl15, ((Same.refl D _).set _ (by simp)).set _ (by simp), sl15, (Cell.slots_setSlot_ne _ ap).trans sl13, n1.keep al (p15.other hne (p13.other hne n7)), n2, by rw [al.findClass]; exact n3, n4, n5, fun y c h1 h2 => p15.other h1 (p13.other h1 (by rw [q11]; exact n6 y c h2)), by rw [p15.2.2, p13.2.2, q11]; exact z8⟩, fun fs hl => c16.trans (X15.returnOut hexec hret (hb hbytes d57) hl)⟩
end New4
namespace New1
def yN : MethodName := ⟨"java/lang/String", "<init>", "([C)V"⟩
abbrev yB : ByteArray := jdk_42_method_3_code
theorem d0 : decode yB 0 = .ok (.aload_n 0, 1) := by decide +kernel
theorem d1 : decode yB 1 = .ok (.aload_n 1, 1) := by decide +kernel
theorem d2 : decode yB 2 = .ok (.iconst 0, 1) := by decide +kernel
theorem d3 : decode yB 3 = .ok (.aload_n 1, 1) := by decide +kernel
theorem d4 : decode yB 4 = .ok (.arraylength, 1) := by decide +kernel
theorem d5 : decode yB 5 = .ok (.aconst_null, 1) := by decide +kernel
theorem d6 : decode yB 6 = .ok (.invokespecial 27, 3) := by decide +kernel
theorem d9 : decode yB 9 = .ok (.return_, 1) := by decide +kernel
def site : List Cond := [New4.tab] ++ initW "java/lang/String" 27 New4.yN
def tab : Cond := tabOf yN yB 2 none site
def P (a : Addr) (D : Cell) (fV fC : Field) (b : Addr) (A : Cell) (z : Int32) (args : Array Value) (s : State) : Prop := args = #[.ref a, .ref b] ∧ Blank "java/lang/String" a D s ∧ Found "java/lang/String" "value" "[B" fV s ∧ Found "java/lang/String" "coder" "B" fC s ∧ Ch b A s ∧ StaticIs s "java/lang/String" "COMPACT_STRINGS" "Z" (.int z) ∧ ¬ z = 0 ∧ 0 < A.slots.size ∧ A.slots.size ≤ 536870912 ∧ ∀ i, i < A.slots.size → ¬ 255 < cv A i
def E (a : Addr) (D : Cell) (fV fC : Field) (A : Cell) (r : Option Value) (s u : State) : Prop := Got a D fV fC A 0 A.slots.size r s u
/-- new String(chars), not empty, no char above 255: a Latin-1 String of their low bytes -/
theorem law (l : Launch) (a : Addr) (D : Cell) (fV fC : Field) (b : Addr) (A : Cell) (z : Int32) : Law l yN 2 1 3 52 yB 2 none site (P a D fV fC b A z) (E a D fV fC A) [⟨a, fC.slot⟩, ⟨a, fV.slot⟩] 1 A.slots.size := by
  refine Law.of_walk (plainFor_of_name (by decide +kernel)) (by decide +kernel) (by decide +kernel) (by decide) (fun _ _ h => by rw [h.1]; rfl) (fun _ U U' hal hh h => ⟨h.1, h.2.1.mv hal hh, h.2.2.1.al hal, h.2.2.2.1.al hal, h.2.2.2.2.1.mv hal hh, h.2.2.2.2.2.1.there hal hh, h.2.2.2.2.2.2⟩) (fun r U U' V V' h1 hal h2 h => Got.mv r U U' V V' h1 hal h2 h) ?_
  intro p e s m args below meth c s₁ X0 hexec hbytes hml hret hlk hnm hown hh0 W hP
  obtain ⟨rfl, hB, f1, f2, hA, s1, hz, l0, l2, hp⟩ := hP
  have c1 : Steps p.tables e below (s₁.setTop (entryFrame m #[.ref a, .ref b] 2)) (s₁.setTop (mkF m 0 #[.val (.ref a), .val (.ref b)] [])) := entry rfl
  have c2 : Steps p.tables e below (s₁.setTop (entryFrame m #[.ref a, .ref b] 2)) (s₁.setTop (mkF m 6 #[.val (.ref a), .val (.ref b)] [.null, .int (Int32.ofNat A.slots.size), .int 0, .ref b, .ref a])) := c1.trans (by
    refine XS.aloadN X0.here hexec rfl (hb hbytes d0) rfl rfl ?_
    refine XS.aloadN X0.here hexec rfl (hb hbytes d1) rfl rfl ?_
    refine iconstV X0.here hexec rfl 0 (hb hbytes d2) (by decide) ?_
    refine XS.aloadN X0.here hexec rfl (hb hbytes d3) rfl rfl ?_
    refine X0.alen hexec (hA.1.mv X0.warmed.alike hh0) rfl rfl (hb hbytes d4) ?_
    refine XS.aconstNull X0.here hexec rfl (hb hbytes d5) ?_
    exact Steps.refl _)
  obtain ⟨v3, T3, X3, E3, g3⟩ := X0.callN hexec (New4.law l a D fV fC b A z 0 A.slots.size) rfl hown (wks W (initW "java/lang/String" 27 New4.yN)) (W New4.tab (by simp only [site, List.mem_cons, List.mem_append, true_or, or_true])) (W := 0) (Nat.le_of_ble_eq_true rfl) (Nat.le_of_ble_eq_true rfl) (Nat.le_refl _) (by show 0 + A.slots.size ≤ A.slots.size; omega) (g := (mkF m 6 #[.val (.ref a), .val (.ref b)] [.null, .int (Int32.ofNat A.slots.size), .int (Int32.ofNat 0), .ref b, .ref a])) rfl (by rw [hml]; rfl) c2 (argsL := [.ref b, .int (Int32.ofNat 0), .int (Int32.ofNat A.slots.size), .null]) (rest := []) rfl rfl (by show 2 * 0 + 0 ≤ _; decide) (hb hbytes d6) (⟨rfl, hB.mv X0.warmed.alike hh0, f1.al X0.warmed.alike, f2.al X0.warmed.alike, hA.mv X0.warmed.alike hh0, s1.there X0.warmed.alike hh0, hz, l0, by omega, l2, fun i hi => by rw [Nat.zero_add]; exact hp i hi⟩)
  have e0 := Got.mv _ s₁ s _ _ hh0.symm (Vm.Alike.refl _) rfl E3
  obtain rfl := e0.1
  have c4 : Steps p.tables e below (s₁.setTop (entryFrame m #[.ref a, .ref b] 2)) (T3.setTop (mkF m 9 #[.val (.ref a), .val (.ref b)] [])) := g3
  exact ⟨T3, none, _, _, _, X3, by simp, rfl, by omega, (fun _ => rfl), e0, fun fs hl => c4.trans (X3.returnOut hexec hret (hb hbytes d9) hl)⟩
theorem pays {l : Launch} {R : Room} {p : Program} {e : Env} {below : List Frame} {s : State} {sargs : Array Value} {len W : Nat} (a : Addr) (D : Cell) (fV fC : Field) (b : Addr) (A : Cell) (z : Int32) (htab : tab.before sargs s = true) (hfr : 4 ≤ R.frames) (hlo : W + 65 ≤ R.locals) :
    Back l R p e below s sargs yN len W (fun A₁ a₁ => A₁.cells + 1 ≤ R.cells ∧ A₁.slots + A.slots.size ≤ R.slots ∧ P a D fV fC b A z a₁ A₁.U) (fun A₁ _ v₁ B₁ => E a D fV fC A v₁ A₁.U B₁.U ∧ B₁.locs = A₁.locs ++ [⟨a, fC.slot⟩, ⟨a, fV.slot⟩] ∧ B₁.cells = A₁.cells + 1 ∧ B₁.slots = A₁.slots + A.slots.size) :=
  (law l a D fV fC b A z).pays htab hfr (by omega)
end New1
/-- the byte, read back as charAt reads it, is the char -/
theorem lo8_mask {x : Int32} (h0 : ¬ x < 0) (h1 : ¬ 255 < x) : lo8 x &&& 255 = x := by
  have t : ∀ k : Fin 256, lo8 (Int32.ofNat k.val) &&& 255 = Int32.ofNat k.val := by decide +kernel
  rw [Int32.lt_iff_toInt_lt] at h0 h1
  have e0 : (0 : Int32).toInt = 0 := rfl
  have e1 : (255 : Int32).toInt = 255 := rfl
  obtain ⟨k, hk⟩ : ∃ k : Nat, x.toInt = k := ⟨x.toInt.toNat, by omega⟩
  have hx : x = Int32.ofNat k := Int32.toInt_inj.mp (by rw [hk, Int32.toInt_ofNat_small (by omega)])
  rw [hx]
  exact t ⟨k, by omega⟩
end StrChars
namespace StrChars.Road
open Jvm Sem ClassFile Op Lib Jvm.Stand Jvm.Free Jvm.Free.XT
open Jvm.Lib.Cold (StaticIs)
abbrev ST : String := "java/lang/String"
/-- every table word that New1's law asks, flat -/
abbrev words : List Jvm.Cond := [.code New1.yN New1.yB 2 none, .initialized ST, .methodLink ST 27 New4.yN, .instanceMethod New4.yN,
  .code New4.yN New4.yB 6 none, .fieldLink ST 38 ST "COMPACT_STRINGS" "Z", .laysFinal ST ST "value" "[B", .fieldLink ST 9 ST "value" "[B", .laysFinal ST ST "coder" "B", .fieldLink ST 15 ST "coder" "B",
  .methodLink ST 1 Lib.objectInit, .instanceMethod Lib.objectInit, .code Lib.objectInit ⟨#[0xb1]⟩ 1 none, .methodLink ST 177 Cmp3.yN, .static Cmp3.yN, .methodLink ST 47 CodL.yN, .static CodL.yN,
  .code Cmp3.yN Cmp3.yB 6 (some (.array .byte)), .initialized U16, .arrayClass .byte, .methodLink U16 115 Cmp5.yN, .static Cmp5.yN, .code Cmp5.yN Cmp5.yB 7 (some .int), .code CodL.yN CodL.yB 2 (some .byte)]
theorem tab_of {a : Array Value} {s : State} (h : ∀ w ∈ words, w.before a s = true) : New1.tab.before a s = true := by
  have h5 : Cmp5.tab.before a s = true := unparts (wk h (.code Cmp5.yN Cmp5.yB 7 (some .int))) (wks h (.initialized Cmp5.yN.cls :: Cmp5.site))
  have hc : CodL.tab.before a s = true := unparts (wk h (.code CodL.yN CodL.yB 2 (some .byte))) (wks h (.initialized CodL.yN.cls :: CodL.site))
  have q5 : ∀ w ∈ Cmp5.tab :: words, w.before a s = true := fun w hw => (List.mem_cons.mp hw).elim (fun e => e ▸ h5) (h w)
  have h3 : Cmp3.tab.before a s = true := unparts (wk q5 (.code Cmp3.yN Cmp3.yB 6 (some (.array .byte)))) (wks q5 (.initialized Cmp3.yN.cls :: Cmp3.site))
  have q3 : ∀ w ∈ Cmp3.tab :: CodL.tab :: words, w.before a s = true := fun w hw => (List.mem_cons.mp hw).elim (fun e => e ▸ h3) fun hw => (List.mem_cons.mp hw).elim (fun e => e ▸ hc) (h w)
  have h4 : New4.tab.before a s = true := unparts (wk q3 (.code New4.yN New4.yB 6 none)) (wks q3 (.initialized New4.yN.cls :: New4.site))
  have q4 : ∀ w ∈ New4.tab :: words, w.before a s = true := fun w hw => (List.mem_cons.mp hw).elim (fun e => e ▸ h4) (h w)
  exact unparts (wk q4 (.code New1.yN New1.yB 2 none)) (wks q4 (.initialized New1.yN.cls :: New1.site))
/-- the words ride from the start Z to the walk's own state -/
theorem moved {Z s : State} {a0 args : Array Value} (hZ : Z.Warmed39 s.vm) (hw : ∀ d ∈ words, d.before a0 Z = true) : ∀ d ∈ words, d.before args s = true := fun d hd => by
  have q := hw d hd
  have t : ∀ d ∈ words, d = .arrayClass .byte ∨ (d.onTables && d.keepsFace) = true := by decide +kernel
  rcases t d hd with rfl | t
  · exact RoadKit.mvA hZ q
  · exact RoadKit.mv hZ q t
/-- WHAT COMES BACK, over the tables of the start Z: h the heap at the call, h' behind it -/
def Q (Z : State) (x : Addr) (A : Cell) (h : Heap) (v : Option Value) (h' : Heap) (L : List Loc) : Prop := v = none ∧ (∀ y ∈ L, y.base = x) ∧ RoadKit.Keep h h' [x] ∧ h'.size = h.size + 1 ∧ RoadKit.Exa Z h' x ST ∧ RoadKit.Fld Z h' x ST "value" "[B" (.ref h.size) ∧ RoadKit.Fld Z h' x ST "coder" "B" (.int 0) ∧
  (∃ V : Cell, RoadKit.Arr Z h' h.size V .byte ∧ V.vm = .none ∧ Z.vm.findClass "[B" = some V.cls ∧ V.slots.size = A.slots.size ∧ ∀ j, j < A.slots.size → V.slots[j]? = some (.int (lo8 (cv A j)))) ∧
  ∀ (O n d : String) (w : Value), RoadKit.Fld Z h x O n d w → RoadKit.slotOf Z O n d ≠ RoadKit.slotOf Z ST "value" "[B" → RoadKit.slotOf Z O n d ≠ RoadKit.slotOf Z ST "coder" "B" → RoadKit.Fld Z h' x O n d w
/-- **new String(chars) AT A CALL, IN THE ROAD'S FORM**: for specialBack behind newO: x the fresh String, b the char[] with the cell A -/
theorem back {p : Program} {l : Launch} {e : Env} {R : Room} {s : State} {args : Array Value} {below : List Frame} {len W : Nat} {Z : State} {a0 : Array Value} {h : Heap} (hZ : Z.Warmed39 s.vm) (hw : ∀ d ∈ words, d.before a0 Z = true) {kI : Nat} (wi : (Jvm.Cond.instantiable ST kI).before a0 Z = true)
    {x b : Addr} {A : Cell} {z : Int32} {v0 c0 : Value} (E : RoadKit.Exa Z h x ST) (V : RoadKit.Fld Z h x ST "value" "[B" v0) (C : RoadKit.Fld Z h x ST "coder" "B" c0) (K : RoadKit.Arr Z h b A .char) (hty : Typed .char A) (S : RoadKit.Sta Z h ST "COMPACT_STRINGS" "Z" (.int z)) (hz : ¬ z = 0)
    (l0 : 0 < A.slots.size) (l2 : A.slots.size ≤ 536870912) (hp : ∀ i, i < A.slots.size → ¬ 255 < cv A i) (hfr : 4 ≤ R.frames) (hlo : W + 65 ≤ R.locals) :
    Back l R p e below s args New1.yN len W (fun P a => a = #[.ref x, .ref b] ∧ P.U.heap = h ∧ P.cells + 1 ≤ R.cells ∧ P.slots + A.slots.size ≤ R.slots)
      (fun P _ v B => ∃ L, Q Z x A h v B.U.heap L ∧ B.locs = P.locs ++ L ∧ B.cells = P.cells + 1 ∧ B.slots = P.slots + A.slots.size) := by
  intro m meth c P g ig mk a X hg hsize hdg hW hn hp'
  obtain ⟨rfl, rfl, r1, r2⟩ := hp'
  have al : Z.vm.Alike P.U.vm := hZ.alike.trans X.warmed.alike
  obtain ⟨D, cfV, kV, iV, fV, hD, gV, stV, knV, obV, asV, slV⟩ := id V
  obtain ⟨D', cfC, kC, iC, fC, hD', gC, stC, -, -, asC, slC⟩ := id C
  cases hD.symm.trans hD'
  obtain ⟨D2, kD, e1, e2, e3, e4, e5⟩ := id E
  cases hD.symm.trans e1
  obtain ⟨c2, k2, i1, i2, i3, -⟩ := Cond.instantiable_spec wi
  cases e2.symm.trans i1
  cases e3.symm.trans i2
  obtain ⟨kU, u1, u2⟩ := al.2.2 _ _ e3
  have hB : Blank ST x D P.U := ⟨hD, ⟨knV, fun q hq => by rw [hq] at obV; cases obV⟩, by rw [al.findClass]; exact e2, kU, u1, by rw [u2]; exact i3, by rw [u2]; exact e5 i3⟩
  have F1 : Found ST "value" "[B" fV P.U := ⟨SBG.found_only al ⟨cfV, kV, iV, gV⟩, stV⟩
  have F2 : Found ST "coder" "B" fC P.U := ⟨SBG.found_only al ⟨cfC, kC, iC, gC⟩, stC⟩
  have hA : Ch b A P.U := ⟨⟨K.1, State.isArrayOf_alike al K.2.1, K.2.2, by omega⟩, hty⟩
  have hS : StaticIs P.U ST "COMPACT_STRINGS" "Z" (.int z) := by
    obtain ⟨cfS, iS, kS, fS, st, cS, t1, t2, t3, t4, t5, t6, t7⟩ := S
    exact StaticIs.there (s := { Z with heap := P.U.heap }) ⟨cfS, iS, kS, fS, st, cS, t1, t2, t3, t4, t5, (fun q => by rw [q] at t6; cases t6), t7⟩ al rfl
  obtain ⟨v, B, X', ⟨⟨hv, E', V', q1, q2, q3, q4, q5, q6, q7, q8, q9, q10, q11⟩, hl, hc, hs⟩, st⟩ := New1.pays x D fV fC b A z (tab_of (moved hZ hw)) hfr hlo m meth c P g ig mk _ X hg hsize hdg hW hn ⟨r1, r2, rfl, hB, F1, F2, hA, hS, hz, l0, l2, hp⟩
  have al' : Z.vm.Alike B.U.vm := hZ.alike.trans X'.warmed.alike
  have hsz : E'.slots.size = D.slots.size := by
    obtain ⟨-, -, -, kB, w1, w2, w3⟩ := q1
    obtain ⟨kB', y1, y2⟩ := al'.2.2 _ _ e3
    rw [q2.2.1] at w1
    cases w1.symm.trans y1
    rw [w3, e5 i3, y2]
  refine ⟨v, B, X', ⟨_, ⟨hv, ?_, ⟨by omega, fun y cy hy hn' => q10 y cy (by simpa using hn') hy, fun y cy hy => ?_⟩, q11, ⟨E', _, q1.1, by rw [q2.2.1]; exact e2, by rw [q2.2.1]; exact e3, by rw [q2.1]; exact obV, fun _ => by rw [hsz]; exact e5 i3⟩,
    ⟨E', cfV, kV, iV, fV, q1.1, gV, stV, by rw [q2.1]; exact knV, by rw [q2.1]; exact obV, by rw [q2.2.1]; exact asV, q3⟩, ⟨E', cfC, kC, iC, fC, q1.1, gC, stC, by rw [q2.1]; exact knV, by rw [q2.1]; exact obV, by rw [q2.2.1]; exact asC, q4⟩,
    ⟨V', ⟨q5.1, State.isArrayOf_alike al'.symm q5.2.1, q5.2.2.1⟩, q6, by rw [← al'.findClass]; exact q7, q8, fun j hj => by have := q9 j hj; rwa [Nat.zero_add] at this⟩, fun O n d w F n1 n2 => ?_⟩, hl, hc, hs⟩, st⟩
  · intro y hy
    simp only [List.mem_cons, List.not_mem_nil, or_false] at hy
    rcases hy with rfl | rfl <;> rfl
  · by_cases q : y = x
    · subst q
      cases hD.symm.trans hy
      exact ⟨E', q1.1, q2.2.1, q2.1, hsz⟩
    · exact ⟨cy, q10 y cy q hy, rfl, rfl, rfl⟩
  · obtain ⟨D3, cf, k, i, f, g1, g2, g3, g4, g5, g6, g7⟩ := F
    cases hD.symm.trans g1
    simp only [RoadKit.slotOf, g2, gV, gC, Option.map_some, Option.getD_some] at n1 n2
    exact ⟨E', cf, k, i, f, q1.1, g2, g3, by rw [q2.1]; exact g4, by rw [q2.1]; exact g5, by rw [q2.2.1]; exact g6, by rw [q2.2.2 f.slot (by simp [n1, n2])]; exact g7⟩
end StrChars.Road
namespace StrChars.Road
open Jvm Sem ClassFile Op Lib Jvm.Stand Jvm.Free Jvm.Free.XT
/-- WHAT COMES BACK, the byte[] as a list of values -/
def QA (Z : State) (x : Addr) (zn : Int32) (cs : List Int32) (h : Heap) (v : Option Value) (h' : Heap) (L : List Loc) : Prop := v = none ∧ (∀ y ∈ L, y.base = x) ∧ RoadKit.Keep h h' [x] ∧ h'.size = h.size + 1 ∧ RoadKit.Exa Z h' x ST ∧ RoadKit.Fld Z h' x ST "value" "[B" (.ref h.size) ∧ RoadKit.Fld Z h' x ST "coder" "B" (.int 0) ∧
  (∃ kb, Z.vm.findClass "[B" = some kb ∧ RoadKit.Arv Z h' h.size kb .byte zn (cs.map fun c => .int (lo8 c)) (.int 0)) ∧
  ∀ (O n d : String) (w : Value), RoadKit.Fld Z h x O n d w → RoadKit.slotOf Z O n d ≠ RoadKit.slotOf Z ST "value" "[B" → RoadKit.slotOf Z O n d ≠ RoadKit.slotOf Z ST "coder" "B" → RoadKit.Fld Z h' x O n d w
/-- **new String(chars) AT A CALL, THE ARRAYS AS LISTS**: the char[] at b holds cs, not empty, no char above 255 -/
theorem backArv {p : Program} {l : Launch} {e : Env} {R : Room} {s : State} {args : Array Value} {below : List Frame} {len W : Nat} {Z : State} {a0 : Array Value} {h : Heap} (hZ : Z.Warmed39 s.vm) (hw : ∀ d ∈ words, d.before a0 Z = true) {kI : Nat} (wi : (Jvm.Cond.instantiable ST kI).before a0 Z = true)
    {x b : Addr} {k : ClassId} {zn z : Int32} {cs : List Int32} {dv v0 c0 : Value} (E : RoadKit.Exa Z h x ST) (V : RoadKit.Fld Z h x ST "value" "[B" v0) (C : RoadKit.Fld Z h x ST "coder" "B" c0) (K : RoadKit.Arv Z h b k .char zn (cs.map Value.int) dv) (S : RoadKit.Sta Z h ST "COMPACT_STRINGS" "Z" (.int z)) (hz : ¬ z = 0)
    (hlen : zn.toNatClampNeg = cs.length) (h0 : 0 < cs.length) (hbig : cs.length ≤ 536870912) (hall : ∀ c ∈ cs, ¬ 255 < c) (hfr : 4 ≤ R.frames) (hlo : W + 65 ≤ R.locals) :
    Back l R p e below s args New1.yN len W (fun P a => a = #[.ref x, .ref b] ∧ P.U.heap = h ∧ P.cells + 1 ≤ R.cells ∧ P.slots + cs.length ≤ R.slots)
      (fun P _ v B => ∃ L, QA Z x zn cs h v B.U.heap L ∧ B.locs = P.locs ++ L ∧ B.cells = P.cells + 1 ∧ B.slots = P.slots + cs.length) := by
  obtain ⟨A, K1, K2, K3, K4, K5, K6⟩ := K
  have e : A.slots.size = cs.length := K3.trans hlen
  have hat : ∀ (i : Nat) (hi : i < cs.length), A.slots[i]? = some (.int cs[i]) := fun i hi => by rw [K5 i (by omega)]; simp [List.getD_eq_getElem?_getD, hi]
  have hcv : ∀ (i : Nat) (hi : i < cs.length), cv A i = cs[i] := fun i hi => by unfold cv; rw [hat i hi]
  have hty : Typed .char A := fun i v hv => by
    have hi : i < A.slots.size := (Array.getElem?_eq_some_iff.mp hv).1
    have q := K5 i hi
    rw [hv] at q
    rw [Option.some.inj q]
    exact K6 i hi
  refine Back.mono (back hZ hw wi E V C K1 hty S hz (by omega) (by omega) (fun i hi => by rw [hcv i (by omega)]; exact hall _ (List.getElem_mem _)) hfr hlo) (fun P a hp => ⟨hp.1, hp.2.1, hp.2.2.1, by rw [e]; exact hp.2.2.2⟩) (fun P a v B hp hq => ?_)
  obtain ⟨L, ⟨q1, q2, q3, q4, q5, q6, q7, ⟨V', v1, v2, v3, v4, v5⟩, q9⟩, hl, hc, hs⟩ := hq
  refine ⟨L, ⟨q1, q2, q3, q4, q5, q6, q7, ⟨V'.cls, v3, V', v1, rfl, by rw [v4, e, hlen], K4, fun i hi => ?_, fun i hi => ?_⟩, q9⟩, hl, hc, by rw [hs, e]⟩
  · have hi' : i < cs.length := by omega
    rw [v5 i (by omega), hcv i hi']; simp [List.getD_eq_getElem?_getD, hi']
  · have hi' : i < cs.length := by omega
    simp only [List.getD_eq_getElem?_getD, List.getElem?_map, List.getElem?_eq_getElem hi', Option.map_some, Option.getD_some]
    exact fits_lo8 _
end StrChars.Road
namespace StrChars.Road
open Jvm Sem ClassFile Op Lib Jvm.Stand Jvm.Free Jvm.Free.XT
/-- WHAT COMES BACK, in the writer's own shape -/
def QV (Z : State) (x : Addr) (N : Int32) (bs : List Int32) (h : Heap) (n0 : Nat) (v : Option Value) (h' : Heap) (L : List Loc) : Prop := v = none ∧ RoadKit.Fr n0 L ∧ RoadKit.Keep h h' [x] ∧ RoadKit.Exa Z h' x ST ∧ RoadKit.Fld Z h' x ST "coder" "B" (.int 0) ∧
  ∃ (t : Addr) (kb : ClassId), n0 ≤ t ∧ h.size ≤ t ∧ ¬ t = x ∧ RoadKit.Fld Z h' x ST "value" "[B" (.ref t) ∧ RoadKit.Arv Z h' t kb .byte N (bs.map Value.int) (.int 0)
/-- **new String(chars) AT A CALL, FOR THE WRITER**: a char[] of n known ints, each 0 to 255 -/
theorem backV {p : Program} {l : Launch} {e : Env} {R : Room} {s : State} {args : Array Value} {below : List Frame} {len W : Nat} {Z : State} {a0 : Array Value} {h : Heap} (hZ : Z.Warmed39 s.vm) (hw : ∀ d ∈ words, d.before a0 Z = true) {kI : Nat} (wi : (Jvm.Cond.instantiable ST kI).before a0 Z = true)
    {x b : Addr} {kC : ClassId} {cs bs : List Int32} {d v0 c0 : Value} {z N : Int32} {n n0 : Nat} (hx0 : n0 ≤ x) (hh0 : n0 ≤ h.size) (E : RoadKit.Exa Z h x ST) (V : RoadKit.Fld Z h x ST "value" "[B" v0) (C : RoadKit.Fld Z h x ST "coder" "B" c0) (K : RoadKit.Arv Z h b kC .char N (cs.map Value.int) d) (S : RoadKit.Sta Z h ST "COMPACT_STRINGS" "Z" (.int z)) (hz : ¬ z = 0)
    (hn : cs.length = n) (hN : N = Int32.ofNat n) (l0 : 0 < n) (l2 : n ≤ 4000) (hp : ∀ c ∈ cs, ¬ c < 0 ∧ ¬ (255 : Int32) < c) (hb : bs = cs.map (fun c => c.toInt8.toInt32)) (hfr : 4 ≤ R.frames) (hlo : W + 65 ≤ R.locals) :
    Back l R p e below s args (⟨"java/lang/String", "<init>", "([C)V"⟩ : MethodName) len W (fun P a => a = #[.ref x, .ref b] ∧ P.U.heap = h ∧ P.cells + 1 ≤ R.cells ∧ P.slots + n ≤ R.slots)
      (fun P _ v B => ∃ L, QV Z x N bs h n0 v B.U.heap L ∧ B.locs = P.locs ++ L ∧ B.cells = P.cells + 1 ∧ B.slots = P.slots + n) := by
  subst hn hN hb
  refine Back.mono (backArv hZ hw wi E V C K S hz (n32 (by omega)) l0 (by omega) (fun c hc => (hp c hc).2) hfr hlo) (fun P a hp => hp) (fun P a v B hp hq => ?_)
  obtain ⟨L, ⟨q1, q2, q3, q4, q5, q6, q7, ⟨kb, v1, v2⟩, q9⟩, hl, hc, hs⟩ := hq
  exact ⟨L, ⟨q1, fun y hy => by rw [q2 y hy]; exact hx0, q3, q5, q7, h.size, kb, hh0, Nat.le_refl _, Nat.ne_of_gt E.lt, q6, by rw [List.map_map]; exact v2⟩, hl, hc, hs⟩
end StrChars.Road
namespace StrChars
open Jvm Sem ClassFile Op Lib Jvm.Stand Jvm.Free.XT Jvm.Free.ALB Jvm.Free.JM Jvm.Free
open Jvm.Lib.Cold (StaticIs)
def hi8 (x : Int32) : Int32 := lo8 (x >>> ((8 : Int32) &&& 31))
/-- what StringUTF16.getChar makes of two bytes -/
def pairCh (u v : Int32) : Int32 := (((u &&& 255) <<< ((0 : Int32) &&& 31)) ||| ((v &&& 255) <<< ((8 : Int32) &&& 31))).toUInt32.toUInt16.toUInt32.toInt32
theorem lo8_and (x : Int32) : (lo8 x &&& 255).toBitVec.toNat = x.toBitVec.toNat % 256 := by
  have h : (lo8 x).toBitVec = (x.toBitVec.signExtend 8).signExtend 32 := by rw [lo8, Int8.toBitVec_toInt32, Int32.toBitVec_toInt8]
  rw [Int32.toBitVec_and, BitVec.toNat_and, h]
  have e : ((x.toBitVec.signExtend 8).signExtend 32).toNat % 256 = x.toBitVec.toNat % 256 := by
    rw [BitVec.toNat_signExtend]
    have hlt := x.toBitVec.isLt
    simp only [BitVec.toNat_setWidth, BitVec.toNat_signExtend]
    split <;> split <;> omega
  rw [← e]
  exact Nat.and_two_pow_sub_one_eq_mod _ 8
theorem pair_says {c : Int32} (h0 : ¬ c < 0) (h1 : ¬ 65535 < c) : pairCh (lo8 c) (hi8 c) = c := by
  rw [Int32.lt_iff_toInt_lt] at h0 h1
  have e0 : (0 : Int32).toInt = 0 := rfl
  have e1 : (65535 : Int32).toInt = 65535 := rfl
  have hc : c.toInt = c.toBitVec.toNat := by
    have := c.toBitVec.isLt
    have e : c.toInt = c.toBitVec.toInt := rfl
    rw [e] at h0 h1
    rw [e]
    rw [BitVec.toInt_eq_toNat_cond] at h0 h1 ⊢
    split at h0 <;> split <;> omega
  have hn : c.toBitVec.toNat < 65536 := by omega
  have a1 := lo8_and c
  have a2 : (hi8 c &&& 255).toBitVec.toNat = c.toBitVec.toNat / 256 := by
    rw [hi8, lo8_and]
    have e : ((8 : Int32) &&& 31) = 8 := by decide
    rw [e, Int32.toBitVec_shiftRight]
    have e2 : ((8 : Int32).toBitVec.smod 32) = 8#32 := by decide
    rw [e2, BitVec.sshiftRight_eq', BitVec.toNat_sshiftRight_of_msb_false (by rw [BitVec.msb_eq_false_iff_two_mul_lt]; omega)]
    show c.toBitVec.toNat >>> 8 % 256 = _
    rw [Nat.shiftRight_eq_div_pow]
    omega
  unfold pairCh
  apply Int32.toBitVec_inj.mp
  apply BitVec.eq_of_toNat_eq
  have f0 : ((0 : Int32) &&& 31) = 0 := by decide
  have f8 : ((8 : Int32) &&& 31) = 8 := by decide
  rw [f0, f8]
  have g : (((lo8 c &&& 255) <<< (0 : Int32)) ||| ((hi8 c &&& 255) <<< (8 : Int32))).toBitVec.toNat = c.toBitVec.toNat := by
    rw [Int32.toBitVec_or, Int32.toBitVec_shiftLeft, Int32.toBitVec_shiftLeft]
    have s0 : ((0 : Int32).toBitVec.smod 32) = 0#32 := by decide
    have s8 : ((8 : Int32).toBitVec.smod 32) = 8#32 := by decide
    rw [s0, s8, BitVec.toNat_or]
    simp only [BitVec.shiftLeft_eq', BitVec.toNat_shiftLeft, a1, a2]
    show (c.toBitVec.toNat % 256) <<< 0 % 2 ^ 32 ||| (c.toBitVec.toNat / 256) <<< 8 % 2 ^ 32 = _
    rw [Nat.shiftLeft_zero, Nat.mod_eq_of_lt (show c.toBitVec.toNat % 256 < 2 ^ 32 by omega), Nat.mod_eq_of_lt (show (c.toBitVec.toNat / 256) <<< 8 < 2 ^ 32 by rw [Nat.shiftLeft_eq]; omega), Nat.or_comm, ← Nat.shiftLeft_add_eq_or_of_lt (by omega), Nat.shiftLeft_eq]
    omega
  show BitVec.toNat (((((lo8 c &&& 255) <<< (0 : Int32)) ||| ((hi8 c &&& 255) <<< (8 : Int32))).toBitVec.setWidth 16).setWidth 32) = _
  rw [BitVec.toNat_setWidth, BitVec.toNat_setWidth, g]
  omega
end StrChars
namespace StrChars
open Jvm Sem ClassFile Op Lib Jvm.Stand Jvm.Free.XT Jvm.Free.ALB Jvm.Free.JM Jvm.Free
open Jvm.Lib.Cold (StaticIs)
/-- the array's cell V codes the n chars f 0 .. f (n - 1) by the coder cd, as the JDK does: coder 1 just where some char is above 255 -/
def Cod (cd : Int32) (n : Nat) (f : Nat → Int32) (V : Cell) : Prop := (cd = 0 ∧ V.slots.size = n ∧ ∀ j, j < n → V.slots[j]? = some (.int (lo8 (f j))) ∧ ¬ 255 < f j) ∨ (cd = 1 ∧ V.slots.size = 2 * n ∧ (∀ j, j < n → V.slots[2 * j]? = some (.int (lo8 (f j))) ∧ V.slots[2 * j + 1]? = some (.int (hi8 (f j)))) ∧ ∃ j, j < n ∧ 255 < f j)
/-- **x is a String of the n chars f 0 .. f (n - 1)**, Latin-1 or UTF-16; its array at t has the cell V -/
def Txt (x t : Addr) (V : Cell) (cd : Int32) (n : Nat) (f : Nat → Int32) (U : State) : Prop := Exact "java/lang/String" x U ∧ Has x "java/lang/String" "value" "[B" (.ref t) U ∧ Has x "java/lang/String" "coder" "B" (.int cd) U ∧ XT.Arr .byte t V U ∧ Cod cd n f V ∧ ∀ j, j < n → ¬ f j < 0 ∧ ¬ 65535 < f j
theorem Txt.mv {x t : Addr} {V : Cell} {cd : Int32} {n : Nat} {f : Nat → Int32} {U U' : State} (h : Txt x t V cd n f U) (hal : U.vm.Alike U'.vm) (hh : U'.heap = U.heap) : Txt x t V cd n f U' := ⟨h.1.mv hal hh, h.2.1.mv hal hh, h.2.2.1.mv hal hh, h.2.2.2.1.mv hal hh, h.2.2.2.2⟩
end StrChars
namespace StrChars.Road
open Jvm Sem ClassFile Op Lib Jvm.Stand Jvm.Free Jvm.Free.XT
open Jvm.Lib.Cold (StaticIs)
theorem consq {a : Array Value} {s : State} {c : Jvm.Cond} {L : List Jvm.Cond} (h0 : c.before a s = true) (h : ∀ w ∈ L, w.before a s = true) : ∀ w ∈ c :: L, w.before a s = true := fun w hw => (List.mem_cons.mp hw).elim (fun e => e ▸ h0) (h w)
/-- the bytes of the chars cs, low before high -/
def wideBytes : List Int32 → List Value
  | [] => []
  | c :: cs => .int (lo8 c) :: .int (hi8 c) :: wideBytes cs
theorem wide_lo (d : Value) : ∀ (cs : List Int32) (j : Nat), j < cs.length → (wideBytes cs).getD (2 * j) d = .int (lo8 (cs.getD j 0))
  | [], j, h => absurd h (Nat.not_lt_zero j)
  | c :: cs, 0, _ => rfl
  | c :: cs, j + 1, h => by
    have q := wide_lo d cs j (by simpa using h)
    rw [show 2 * (j + 1) = 2 * j + 1 + 1 from by omega]
    simpa [wideBytes] using q
theorem wide_hi (d : Value) : ∀ (cs : List Int32) (j : Nat), j < cs.length → (wideBytes cs).getD (2 * j + 1) d = .int (hi8 (cs.getD j 0))
  | [], j, h => absurd h (Nat.not_lt_zero j)
  | c :: cs, 0, _ => rfl
  | c :: cs, j + 1, h => by
    have q := wide_hi d cs j (by simpa using h)
    rw [show 2 * (j + 1) + 1 = 2 * j + 1 + 1 + 1 from by omega]
    simpa [wideBytes] using q
theorem low_at (d : Value) (cs : List Int32) (j : Nat) (h : j < cs.length) : (cs.map fun c => Value.int (lo8 c)).getD j d = .int (lo8 (cs.getD j 0)) := by
  simp [List.getD_eq_getElem?_getD, h]
/-- an array of N2 bytes vs codes the chars cs by the coder cd -/
def CodA (cs : List Int32) (cd N2 : Int32) (vs : List Value) : Prop := (cd = 0 ∧ N2 = Int32.ofNat cs.length ∧ vs = (cs.map fun c => Value.int (lo8 c)) ∧ ∀ c ∈ cs, ¬ 255 < c) ∨ (cd = 1 ∧ N2 = Int32.ofNat (2 * cs.length) ∧ vs = wideBytes cs ∧ ∃ c ∈ cs, 255 < c)
theorem CodA.cod {cs : List Int32} {cd N2 : Int32} {vs : List Value} {V : Cell} (h : CodA cs cd N2 vs) (hn : 2 * cs.length < 2 ^ 31) (hs : V.slots.size = N2.toNatClampNeg) (hv : RoadKit.Has V vs (.int 0)) : Cod cd cs.length (fun j => cs.getD j 0) V := by
  rcases h with ⟨rfl, rfl, rfl, h⟩ | ⟨rfl, rfl, rfl, c, hc, hw⟩
  · rw [n32 (by omega)] at hs
    exact Or.inl ⟨rfl, hs, fun j hj => ⟨by rw [hv j (by omega), low_at _ _ _ hj], by
      have e : cs.getD j 0 = cs[j] := by simp [List.getD_eq_getElem?_getD, hj]
      show ¬ 255 < cs.getD j 0
      rw [e]; exact h _ (List.getElem_mem _)⟩⟩
  · rw [n32 (by omega)] at hs
    obtain ⟨j, hj, rfl⟩ := List.getElem_of_mem hc
    exact Or.inr ⟨rfl, hs, fun j hj => ⟨by rw [hv _ (by omega), wide_lo _ _ _ hj], by rw [hv _ (by omega), wide_hi _ _ _ hj]⟩, j, hj, by
      have e : cs.getD j 0 = cs[j] := by simp [List.getD_eq_getElem?_getD, hj]
      show 255 < cs.getD j 0
      rw [e]; exact hw⟩
/-- an object of exactly java/lang/String, its two fields found: as the laws ask it -/
theorem strObj {Z U : State} {a0 : Array Value} {kI : Nat} (wi : (Jvm.Cond.instantiable ST kI).before a0 Z = true) (al : Z.vm.Alike U.vm) {x : Addr} {v0 c0 : Value} (E : RoadKit.Exa Z U.heap x ST) (V : RoadKit.Fld Z U.heap x ST "value" "[B" v0) (C : RoadKit.Fld Z U.heap x ST "coder" "B" c0) :
    ∃ (D : Cell) (fV fC : Field), Blank ST x D U ∧ Found ST "value" "[B" fV U ∧ Found ST "coder" "B" fC U ∧ D.slots[fV.slot]? = some v0 ∧ D.slots[fC.slot]? = some c0 ∧ RoadKit.slotOf Z ST "value" "[B" = fV.slot ∧ RoadKit.slotOf Z ST "coder" "B" = fC.slot := by
  obtain ⟨D, cfV, kV, iV, fV, hD, gV, stV, knV, obV, asV, slV⟩ := V
  obtain ⟨D', cfC, kC, iC, fC, hD', gC, stC, -, -, asC, slC⟩ := C
  cases hD.symm.trans hD'
  obtain ⟨D2, kD, e1, e2, e3, e4, e5⟩ := E
  cases hD.symm.trans e1
  obtain ⟨c2, k2, i1, i2, i3, -⟩ := Cond.instantiable_spec wi
  cases e2.symm.trans i1
  cases e3.symm.trans i2
  obtain ⟨kU, u1, u2⟩ := al.2.2 _ _ e3
  exact ⟨D, fV, fC, ⟨hD, ⟨knV, fun q hq => by rw [hq] at obV; cases obV⟩, by rw [al.findClass]; exact e2, kU, u1, by rw [u2]; exact i3, by rw [u2]; exact e5 i3⟩, ⟨SBG.found_only al ⟨cfV, kV, iV, gV⟩, stV⟩, ⟨SBG.found_only al ⟨cfC, kC, iC, gC⟩, stC⟩, slV, slC, by simp [RoadKit.slotOf, gV], by simp [RoadKit.slotOf, gC]⟩
theorem sta_is {Z U : State} (al : Z.vm.Alike U.vm) {C n d : String} {v : Value} (S : RoadKit.Sta Z U.heap C n d v) : StaticIs U C n d v := by
  obtain ⟨cfS, iS, kS, fS, st, cS, t1, t2, t3, t4, t5, t6, t7⟩ := S
  exact StaticIs.there (s := { Z with heap := U.heap }) ⟨cfS, iS, kS, fS, st, cS, t1, t2, t3, t4, t5, (fun q => by rw [q] at t6; cases t6), t7⟩ al rfl
end StrChars.Road
namespace StrChars
open Jvm Sem ClassFile Op Lib Jvm.Stand Jvm.Free.XT Jvm.Free.ALB Jvm.Free.JM Jvm.Free
open Jvm.Lib.Cold (StaticIs)
/-- what place i of a byte[]'s cell holds -/
def yv (A : Cell) (i : Nat) : Int32 := match A.slots[i]? with | some (.int x) => x | _ => 0
theorem yv_get {a : Addr} {A : Cell} {U : State} (h : XT.Arr .byte a A U) (ht : Typed .byte A) {i : Nat} (hi : i < A.slots.size) : A.slots[i]? = some (.int (yv A i)) := by
  have e := Array.getElem?_eq_getElem hi
  have f := ht i _ e
  unfold yv; rw [e]
  generalize A.slots[i] = v at f
  cases v <;> simp [fits] at f ⊢
/-- the two arrays are equal, place for place -/
def EqC (A B : Cell) : Prop := A.slots.size = B.slots.size ∧ ∀ i, i < A.slots.size → yv A i = yv B i
/-- a boolean that says whether p -/
def Says01 (q : Prop) (r : Option Value) (s u : State) : Prop := ∃ v : Int32, r = some (.int v) ∧ u.heap = s.heap ∧ ((v = 1 ∧ q) ∨ (v = 0 ∧ ¬ q))
theorem Says01.mv {q : Prop} : ∀ r (U U' V V' : State), U'.heap = U.heap → V.vm.Alike V'.vm → V'.heap = V.heap → Says01 q r U V → Says01 q r U' V' :=
  fun r U U' V V' h1 _ h2 ⟨v, a, b, c⟩ => ⟨v, a, by rw [h1, h2]; exact b, c⟩
namespace LEq
def yN : MethodName := ⟨"java/lang/StringLatin1", "equals", "([B[B)Z"⟩
abbrev yB : ByteArray := jdk_43_method_13_code
theorem d0 : decode yB 0 = .ok (.aload_n 0, 1) := by decide +kernel
theorem d1 : decode yB 1 = .ok (.arraylength, 1) := by decide +kernel
theorem d2 : decode yB 2 = .ok (.aload_n 1, 1) := by decide +kernel
theorem d3 : decode yB 3 = .ok (.arraylength, 1) := by decide +kernel
theorem d4 : decode yB 4 = .ok (.if_icmp (.ne) 30, 3) := by decide +kernel
theorem d7 : decode yB 7 = .ok (.iconst 0, 1) := by decide +kernel
theorem d8 : decode yB 8 = .ok (.istore_n 2, 1) := by decide +kernel
theorem d9 : decode yB 9 = .ok (.iload_n 2, 1) := by decide +kernel
theorem d10 : decode yB 10 = .ok (.aload_n 0, 1) := by decide +kernel
theorem d11 : decode yB 11 = .ok (.arraylength, 1) := by decide +kernel
theorem d12 : decode yB 12 = .ok (.if_icmp (.ge) 20, 3) := by decide +kernel
theorem d15 : decode yB 15 = .ok (.aload_n 0, 1) := by decide +kernel
theorem d16 : decode yB 16 = .ok (.iload_n 2, 1) := by decide +kernel
theorem d17 : decode yB 17 = .ok (.baload, 1) := by decide +kernel
theorem d18 : decode yB 18 = .ok (.aload_n 1, 1) := by decide +kernel
theorem d19 : decode yB 19 = .ok (.iload_n 2, 1) := by decide +kernel
theorem d20 : decode yB 20 = .ok (.baload, 1) := by decide +kernel
theorem d21 : decode yB 21 = .ok (.if_icmp (.eq) 5, 3) := by decide +kernel
theorem d24 : decode yB 24 = .ok (.iconst 0, 1) := by decide +kernel
theorem d25 : decode yB 25 = .ok (.ireturn, 1) := by decide +kernel
theorem d26 : decode yB 26 = .ok (.iinc 2 1, 3) := by decide +kernel
theorem d29 : decode yB 29 = .ok (.goto (-20), 3) := by decide +kernel
theorem d32 : decode yB 32 = .ok (.iconst 1, 1) := by decide +kernel
theorem d33 : decode yB 33 = .ok (.ireturn, 1) := by decide +kernel
theorem d34 : decode yB 34 = .ok (.iconst 0, 1) := by decide +kernel
theorem d35 : decode yB 35 = .ok (.ireturn, 1) := by decide +kernel
def site : List Cond := []
def tab : Cond := tabOf yN yB 3 (some .boolean) site
def P (a : Addr) (A : Cell) (b : Addr) (B : Cell) (args : Array Value) (s : State) : Prop := args = #[.ref a, .ref b] ∧ XT.Arr .byte a A s ∧ Typed .byte A ∧ XT.Arr .byte b B s ∧ Typed .byte B
/-- whether two byte[] are equal, place for place -/
theorem law (l : Launch) (a : Addr) (A : Cell) (b : Addr) (B : Cell) : Law l yN 2 2 0 0 yB 3 (some .boolean) site (P a A b B) (Says01 (EqC A B)) [] 0 0 := by
  refine Law.of_walk (plainFor_of_name (by decide +kernel)) (by decide +kernel) (by decide +kernel) (by decide) (fun _ _ h => by rw [h.1]; rfl) (fun _ U U' hal hh h => ⟨h.1, h.2.1.mv hal hh, h.2.2.1, h.2.2.2.1.mv hal hh, h.2.2.2.2⟩) (fun r U U' V V' h1 hal h2 h => Says01.mv r U U' V V' h1 hal h2 h) ?_
  intro p e s m args below meth c s₁ X0 hexec hbytes hml hret hlk hnm hown hh0 W hP
  obtain ⟨rfl, hA, tA, hB, tB⟩ := hP
  have a31 := hA.2.2.2
  have b31 := hB.2.2.2
  have hA0 := hA.mv X0.warmed.alike hh0
  have hB0 := hB.mv X0.warmed.alike hh0
  have c1 : Steps p.tables e below (s₁.setTop (entryFrame m #[.ref a, .ref b] 3)) (s₁.setTop (mkF m 0 #[.val (.ref a), .val (.ref b), .unset] [])) := entry rfl
  have c2 : Steps p.tables e below (s₁.setTop (entryFrame m #[.ref a, .ref b] 3)) (s₁.setTop (mkF m 4 #[.val (.ref a), .val (.ref b), .unset] [.int (Int32.ofNat B.slots.size), .int (Int32.ofNat A.slots.size)])) := c1.trans (by
    refine XS.aloadN X0.here hexec rfl (hb hbytes d0) rfl rfl ?_
    refine X0.alen hexec hA0 rfl rfl (hb hbytes d1) ?_
    refine XS.aloadN X0.here hexec rfl (hb hbytes d2) rfl rfl ?_
    refine X0.alen hexec hB0 rfl rfl (hb hbytes d3) ?_
    exact Steps.refl _)
  by_cases hs : A.slots.size = B.slots.size
  · have c3 : Steps p.tables e below (s₁.setTop (entryFrame m #[.ref a, .ref b] 3)) (s₁.setTop (mkF m 9 #[.val (.ref a), .val (.ref b), .val (.int 0)] [])) := c2.trans (by
      refine XS.icmpNo X0.here hexec rfl (hb hbytes d4) rfl (ii_ne_f (by rw [hs])) ?_
      refine iconstV X0.here hexec rfl 0 (hb hbytes d7) (by decide) ?_
      refine XS.istoreN X0.here hexec rfl (hb hbytes d8) rfl rfl ?_
      exact Steps.refl _)
    have loop : ∀ (r i : Nat), i + r = A.slots.size → (∀ j, j < i → yv A j = yv B j) → Steps p.tables e below (s₁.setTop (entryFrame m #[.ref a, .ref b] 3)) (s₁.setTop (mkF m 9 #[.val (.ref a), .val (.ref b), .val (.int (Int32.ofNat i))] [])) → ∃ (pc : Nat) (Ls : Array Slot) (v : Int32), (pc = 25 ∨ pc = 33) ∧ ((v = 1 ∧ EqC A B) ∨ (v = 0 ∧ ¬ EqC A B)) ∧ Steps p.tables e below (s₁.setTop (entryFrame m #[.ref a, .ref b] 3)) (s₁.setTop (mkF m pc Ls [.int v])) := by
      intro r
      induction r with
      | zero =>
        intro i hi he cl
        exact ⟨33, _, 1, Or.inr rfl, Or.inl ⟨rfl, hs, fun j hj => he j (by omega)⟩, cl.trans (by
          refine XS.iloadN X0.here hexec rfl (hb hbytes d9) rfl ?_
          refine XS.aloadN X0.here hexec rfl (hb hbytes d10) rfl rfl ?_
          refine X0.alen hexec hA0 rfl rfl (hb hbytes d11) ?_
          refine XS.icmpYes X0.here hexec rfl (pc0 := 12) rfl (hb hbytes d12) rfl (ii_ge_t (nlt32 (by omega) (by omega))) (by decide) rfl ?_
          refine iconstV X0.here hexec rfl 1 (hb hbytes d32) (by decide) ?_
          exact Steps.refl _)⟩
      | succ r ih =>
        intro i hi he cl
        have c4 : Steps p.tables e below (s₁.setTop (entryFrame m #[.ref a, .ref b] 3)) (s₁.setTop (mkF m 21 #[.val (.ref a), .val (.ref b), .val (.int (Int32.ofNat i))] [.int (yv B i), .int (yv A i)])) := cl.trans (by
          refine XS.iloadN X0.here hexec rfl (hb hbytes d9) rfl ?_
          refine XS.aloadN X0.here hexec rfl (hb hbytes d10) rfl rfl ?_
          refine X0.alen hexec hA0 rfl rfl (hb hbytes d11) ?_
          refine XS.icmpNo X0.here hexec rfl (hb hbytes d12) rfl (ii_ge_f (lt32 (by omega) (by omega))) ?_
          refine XS.aloadN X0.here hexec rfl (hb hbytes d15) rfl rfl ?_
          refine XS.iloadN X0.here hexec rfl (hb hbytes d16) rfl ?_
          refine X0.aget hexec hA0 rfl (yv_get hA tA (i := i) (by omega)) rfl rfl (hb hbytes d17) ?_
          refine XS.aloadN X0.here hexec rfl (hb hbytes d18) rfl rfl ?_
          refine XS.iloadN X0.here hexec rfl (hb hbytes d19) rfl ?_
          refine X0.aget hexec hB0 rfl (yv_get hB tB (i := i) (by omega)) rfl rfl (hb hbytes d20) ?_
          exact Steps.refl _)
        by_cases hv : yv A i = yv B i
        · have c5 : Steps p.tables e below (s₁.setTop (entryFrame m #[.ref a, .ref b] 3)) (s₁.setTop (mkF m 9 #[.val (.ref a), .val (.ref b), .val (.int (Int32.ofNat i + 1))] [])) := c4.trans (by
            refine XS.icmpYes X0.here hexec rfl (pc0 := 21) rfl (hb hbytes d21) rfl (ii_eq_t hv) (by decide) rfl ?_
            refine iincV X0.here hexec rfl 1 (hb hbytes d26) (by decide) rfl rfl ?_
            refine XS.goto X0.here hexec rfl (pc0 := 29) rfl (hb hbytes d29) (by decide) rfl ?_
            exact Steps.refl _)
          rw [succ32] at c5
          exact ih (i + 1) (by omega) (fun j hj => by
            by_cases e : j = i
            · rw [e]; exact hv
            · exact he j (by omega)) c5
        · exact ⟨25, _, 0, Or.inl rfl, Or.inr ⟨rfl, fun q => hv (q.2 i (by omega))⟩, c4.trans (by
            refine XS.icmpNo X0.here hexec rfl (hb hbytes d21) rfl (ii_eq_f hv) ?_
            refine iconstV X0.here hexec rfl 0 (hb hbytes d24) (by decide) ?_
            exact Steps.refl _)⟩
    obtain ⟨pc, Ls, v, hpc, hv, cz⟩ := loop A.slots.size 0 (by omega) (fun j hj => absurd hj (Nat.not_lt_zero j)) c3
    have nv : narrow .boolean (.int v) = .int v := by rcases hv with ⟨rfl, -⟩ | ⟨rfl, -⟩ <;> rfl
    rcases hpc with rfl | rfl
    · exact ⟨s₁, some (.int v), _, _, _, X0, rfl, rfl, rfl, (fun h => by cases h), ⟨v, rfl, hh0, hv⟩, fun fs hl => cz.trans (X0.ireturnOut hexec hret nv (Or.inr (Or.inl rfl)) (hb hbytes d25) hl)⟩
    · exact ⟨s₁, some (.int v), _, _, _, X0, rfl, rfl, rfl, (fun h => by cases h), ⟨v, rfl, hh0, hv⟩, fun fs hl => cz.trans (X0.ireturnOut hexec hret nv (Or.inr (Or.inl rfl)) (hb hbytes d33) hl)⟩
  · have c3 : Steps p.tables e below (s₁.setTop (entryFrame m #[.ref a, .ref b] 3)) (s₁.setTop (mkF m 35 #[.val (.ref a), .val (.ref b), .unset] [.int 0])) := c2.trans (by
      refine XS.icmpYes X0.here hexec rfl (pc0 := 4) rfl (hb hbytes d4) rfl (ii_ne_t (ne32 a31 b31 hs)) (by decide) rfl ?_
      refine iconstV X0.here hexec rfl 0 (hb hbytes d34) (by decide) ?_
      exact Steps.refl _)
    exact ⟨s₁, some (.int 0), _, _, _, X0, rfl, rfl, rfl, (fun h => by cases h), ⟨0, rfl, hh0, Or.inr ⟨rfl, fun q => hs q.1⟩⟩, fun fs hl => c3.trans (X0.ireturnOut hexec hret rfl (Or.inr (Or.inl rfl)) (hb hbytes d35) hl)⟩
end LEq
theorem Cod.ty {cd : Int32} {n : Nat} {f : Nat → Int32} {V : Cell} (h : Cod cd n f V) : Typed .byte V := fun i v hv => by
  have hi : i < V.slots.size := (Array.getElem?_eq_some_iff.mp hv).1
  rcases h with ⟨-, k1, k2⟩ | ⟨-, k1, k2, -⟩
  · rw [(k2 i (by omega)).1] at hv; cases hv; exact fits_lo8 _
  · rcases Nat.mod_two_eq_zero_or_one i with e | e
    · obtain ⟨j, rfl⟩ : ∃ j, i = 2 * j := ⟨i / 2, by omega⟩
      rw [(k2 j (by omega)).1] at hv; cases hv; exact fits_lo8 _
    · obtain ⟨j, rfl⟩ : ∃ j, i = 2 * j + 1 := ⟨i / 2, by omega⟩
      rw [(k2 j (by omega)).2] at hv; cases hv; exact fits_lo8 _
/-- the same text -/
def SameT (n : Nat) (f : Nat → Int32) (k : Nat) (g : Nat → Int32) : Prop := n = k ∧ ∀ j, j < n → f j = g j
theorem lo8_inj {x y : Int32} (h0 : ¬ x < 0) (h1 : ¬ 255 < x) (k0 : ¬ y < 0) (k1 : ¬ 255 < y) (h : lo8 x = lo8 y) : x = y := by
  rw [← lo8_mask h0 h1, ← lo8_mask k0 k1, h]
/-- arrays coded by one coder are equal just where the texts are -/
theorem Cod.eqv {cd : Int32} {n k : Nat} {f g : Nat → Int32} {V V' : Cell} (h : Cod cd n f V) (h' : Cod cd k g V') (hf : ∀ j, j < n → ¬ f j < 0 ∧ ¬ 65535 < f j) (hg : ∀ j, j < k → ¬ g j < 0 ∧ ¬ 65535 < g j) : EqC V V' ↔ SameT n f k g := by
  have yvv : ∀ {W : Cell} {i : Nat} {x : Int32}, W.slots[i]? = some (.int x) → yv W i = x := fun q => by unfold yv; rw [q]
  rcases h with ⟨rfl, k1, k2⟩ | ⟨rfl, k1, k2, -⟩
  · rcases h' with ⟨-, m1, m2⟩ | ⟨e, -⟩
    · constructor
      · rintro ⟨e1, e2⟩
        refine ⟨by omega, fun j hj => ?_⟩
        have q := e2 j (by omega)
        rw [yvv (k2 j hj).1, yvv (m2 j (by omega)).1] at q
        exact lo8_inj (hf j hj).1 (k2 j hj).2 (hg j (by omega)).1 (m2 j (by omega)).2 q
      · rintro ⟨rfl, e2⟩
        refine ⟨by omega, fun j hj => ?_⟩
        rw [yvv (k2 j (by omega)).1, yvv (m2 j (by omega)).1, e2 j (by omega)]
    · exact absurd e (by decide)
  · rcases h' with ⟨e, -⟩ | ⟨-, m1, m2, -⟩
    · exact absurd e (by decide)
    · constructor
      · rintro ⟨e1, e2⟩
        refine ⟨by omega, fun j hj => ?_⟩
        have q1 := e2 (2 * j) (by omega)
        have q2 := e2 (2 * j + 1) (by omega)
        rw [yvv (k2 j hj).1, yvv (m2 j (by omega)).1] at q1
        rw [yvv (k2 j hj).2, yvv (m2 j (by omega)).2] at q2
        rw [← pair_says (hf j hj).1 (hf j hj).2, ← pair_says (hg j (by omega)).1 (hg j (by omega)).2, q1, q2]
      · rintro ⟨rfl, e2⟩
        refine ⟨by omega, fun i hi => ?_⟩
        rcases Nat.mod_two_eq_zero_or_one i with e | e
        · obtain ⟨j, rfl⟩ : ∃ j, i = 2 * j := ⟨i / 2, by omega⟩
          rw [yvv (k2 j (by omega)).1, yvv (m2 j (by omega)).1, e2 j (by omega)]
        · obtain ⟨j, rfl⟩ : ∃ j, i = 2 * j + 1 := ⟨i / 2, by omega⟩
          rw [yvv (k2 j (by omega)).2, yvv (m2 j (by omega)).2, e2 j (by omega)]
/-- two codings differ: so do the texts -/
theorem Cod.dif {cd cd' : Int32} {n k : Nat} {f g : Nat → Int32} {V V' : Cell} (h : Cod cd n f V) (h' : Cod cd' k g V') (hne : ¬ cd = cd') : ¬ SameT n f k g := by
  rintro ⟨rfl, e⟩
  rcases h with ⟨rfl, -, k2⟩ | ⟨rfl, -, -, j, hj, hw⟩
  · rcases h' with ⟨rfl, -⟩ | ⟨-, -, -, j, hj, hw⟩
    · exact hne rfl
    · exact (k2 j hj).2 (by rw [e j hj]; exact hw)
  · rcases h' with ⟨-, -, m2⟩ | ⟨rfl, -⟩
    · exact (m2 j hj).2 (by rw [← e j hj]; exact hw)
    · exact hne rfl
/-- an object of exactly C is an instance of C -/
theorem cinst {p : Program} {l : Launch} {e : Env} {R : Room} {s : State} {m : MethodId} {args : Array Value} {below : List Frame} {meth : Method} {c : Code} {T : State} {locs : List Loc} {cells slots : Nat} (X : Stand p l e R s m args below meth c T locs cells slots) (hexec : p.tables.exec = Jvm.exec) {own C : String} {index : Nat} (hown : s.vm.findClass own = some m.cls) (hlink : (Cond.classLink own index C).before args s = true) {a : Addr} (hE : Exact C a T)
    {g : JFrame} (hg : g.method = m) {rest : List Value} (hstack : g.stack = .ref a :: rest) (hdg : decode c.code g.pc = .ok (.instanceof index, 3)) :
    ∃ T', Stand p l e R s m args below meth c T' locs cells slots ∧ T'.heap = T.heap ∧ ∀ target, Steps p.tables e below (T'.setTop { g with pc := g.pc + 3, stack := .int 1 :: rest }) target → Steps p.tables e below (T.setTop g) target := by
  obtain ⟨cB, h1, D, h2, h3, h4⟩ := hE
  have h1' : s.vm.findClass C = some cB := by rw [← X.warmed.alike.findClass]; exact h1
  obtain ⟨vm', X', st⟩ := X.instanceofYes hexec hown hlink h2 h4 h1' (by rw [h3]; exact Jvm.Free.SB.assignable_self _ _) hg hstack hdg
  exact ⟨_, X', rfl, st⟩
theorem cself {p : Program} {l : Launch} {e : Env} {R : Room} {s : State} {m : MethodId} {args : Array Value} {below : List Frame} {meth : Method} {c : Code} {T : State} {locs : List Loc} {cells slots : Nat} (X : Stand p l e R s m args below meth c T locs cells slots) (hexec : p.tables.exec = Jvm.exec) {own C : String} {index : Nat} (hown : s.vm.findClass own = some m.cls) (hlink : (Cond.classLink own index C).before args s = true) {a : Addr} (hE : Exact C a T)
    {g : JFrame} (hg : g.method = m) {rest : List Value} (hstack : g.stack = .ref a :: rest) (hdg : decode c.code g.pc = .ok (.checkcast index, 3)) :
    ∃ T', Stand p l e R s m args below meth c T' locs cells slots ∧ T'.heap = T.heap ∧ ∀ target, Steps p.tables e below (T'.setTop { g with pc := g.pc + 3, stack := .ref a :: rest }) target → Steps p.tables e below (T.setTop g) target := by
  obtain ⟨cB, h1, D, h2, h3, h4⟩ := hE
  have h1' : s.vm.findClass C = some cB := by rw [← X.warmed.alike.findClass]; exact h1
  obtain ⟨vm', X', st⟩ := X.checkcastYes hexec hown hlink h2 h4 h1' (by rw [h3]; exact Jvm.Free.SB.assignable_self _ _) hg hstack hdg
  exact ⟨_, X', rfl, fun t h => st t (by rw [← hstack] at h; exact h)⟩
namespace SEq
def yN : MethodName := ⟨"java/lang/String", "equals", "(Ljava/lang/Object;)Z"⟩
abbrev yB : ByteArray := jdk_42_method_66_code
theorem d0 : decode yB 0 = .ok (.aload_n 0, 1) := by decide +kernel
theorem d1 : decode yB 1 = .ok (.aload_n 1, 1) := by decide +kernel
theorem d2 : decode yB 2 = .ok (.if_acmp (.ne) 5, 3) := by decide +kernel
theorem d5 : decode yB 5 = .ok (.iconst 1, 1) := by decide +kernel
theorem d6 : decode yB 6 = .ok (.ireturn, 1) := by decide +kernel
theorem d7 : decode yB 7 = .ok (.aload_n 1, 1) := by decide +kernel
theorem d8 : decode yB 8 = .ok (.instanceof 10, 3) := by decide +kernel
theorem d11 : decode yB 11 = .ok (.ifCond (.eq) 43, 3) := by decide +kernel
theorem d14 : decode yB 14 = .ok (.aload_n 1, 1) := by decide +kernel
theorem d15 : decode yB 15 = .ok (.checkcast 10, 3) := by decide +kernel
theorem d18 : decode yB 18 = .ok (.astore_n 2, 1) := by decide +kernel
theorem d19 : decode yB 19 = .ok (.getstatic 38, 3) := by decide +kernel
theorem d22 : decode yB 22 = .ok (.ifCond (.eq) 14, 3) := by decide +kernel
theorem d25 : decode yB 25 = .ok (.aload_n 0, 1) := by decide +kernel
theorem d26 : decode yB 26 = .ok (.getfield 15, 3) := by decide +kernel
theorem d29 : decode yB 29 = .ok (.aload_n 2, 1) := by decide +kernel
theorem d30 : decode yB 30 = .ok (.getfield 15, 3) := by decide +kernel
theorem d33 : decode yB 33 = .ok (.if_icmp (.ne) 21, 3) := by decide +kernel
theorem d36 : decode yB 36 = .ok (.aload_n 0, 1) := by decide +kernel
theorem d37 : decode yB 37 = .ok (.getfield 9, 3) := by decide +kernel
theorem d40 : decode yB 40 = .ok (.aload_n 2, 1) := by decide +kernel
theorem d41 : decode yB 41 = .ok (.getfield 9, 3) := by decide +kernel
theorem d44 : decode yB 44 = .ok (.invokestatic 541, 3) := by decide +kernel
theorem d47 : decode yB 47 = .ok (.ifCond (.eq) 7, 3) := by decide +kernel
theorem d50 : decode yB 50 = .ok (.iconst 1, 1) := by decide +kernel
theorem d51 : decode yB 51 = .ok (.goto 4, 3) := by decide +kernel
theorem d54 : decode yB 54 = .ok (.iconst 0, 1) := by decide +kernel
theorem d55 : decode yB 55 = .ok (.ireturn, 1) := by decide +kernel
def site : List Cond := [.classLink "java/lang/String" 10 "java/lang/String", .fieldLink "java/lang/String" 38 "java/lang/String" "COMPACT_STRINGS" "Z", .fieldLink "java/lang/String" 15 "java/lang/String" "coder" "B", .fieldLink "java/lang/String" 9 "java/lang/String" "value" "[B", LEq.tab] ++ staticW "java/lang/String" 541 LEq.yN
def tab : Cond := tabOf yN yB 3 (some .boolean) site
def P (x t : Addr) (V : Cell) (cd : Int32) (n : Nat) (f : Nat → Int32) (y t' : Addr) (V' : Cell) (cd' : Int32) (k : Nat) (g : Nat → Int32) (z : Int32) (args : Array Value) (s : State) : Prop := args = #[.ref x, .ref y] ∧ Txt x t V cd n f s ∧ Txt y t' V' cd' k g s ∧ StaticIs s "java/lang/String" "COMPACT_STRINGS" "Z" (.int z) ∧ ¬ z = 0
/-- equals(Object) of two Strings: whether the texts are the same -/
theorem law (l : Launch) (x t : Addr) (V : Cell) (cd : Int32) (n : Nat) (f : Nat → Int32) (y t' : Addr) (V' : Cell) (cd' : Int32) (k : Nat) (g : Nat → Int32) (z : Int32) : Law l yN 2 1 1 14 yB 3 (some .boolean) site (P x t V cd n f y t' V' cd' k g z) (Says01 (SameT n f k g)) [] 0 0 := by
  refine Law.of_walk (plainFor_of_name (by decide +kernel)) (by decide +kernel) (by decide +kernel) (by decide) (fun _ _ h => by rw [h.1]; rfl) (fun _ U U' hal hh h => ⟨h.1, h.2.1.mv hal hh, h.2.2.1.mv hal hh, h.2.2.2.1.there hal hh, h.2.2.2.2⟩) (fun r U U' V V' h1 hal h2 h => Says01.mv r U U' V V' h1 hal h2 h) ?_
  intro p e s m args below meth c s₁ X0 hexec hbytes hml hret hlk hnm hown hh0 W hP
  obtain ⟨rfl, hx, hy, s1, hz⟩ := hP
  have c1 : Steps p.tables e below (s₁.setTop (entryFrame m #[.ref x, .ref y] 3)) (s₁.setTop (mkF m 2 #[.val (.ref x), .val (.ref y), .unset] [.ref y, .ref x])) := Steps.trans (entry rfl) (by
    show Steps p.tables e below (s₁.setTop (mkF m 0 #[.val (.ref x), .val (.ref y), .unset] [])) _
    refine XS.aloadN X0.here hexec rfl (hb hbytes d0) rfl rfl ?_
    refine XS.aloadN X0.here hexec rfl (hb hbytes d1) rfl rfl ?_
    exact Steps.refl _)
  by_cases hxy : x = y
  · have c2 : Steps p.tables e below (s₁.setTop (entryFrame m #[.ref x, .ref y] 3)) (s₁.setTop (mkF m 6 #[.val (.ref x), .val (.ref y), .unset] [.int 1])) := c1.trans (by
      refine acmpNo X0.here hexec rfl (hb hbytes d2) rfl rfl rfl (by simp [acmp, hxy]) ?_
      refine iconstV X0.here hexec rfl 1 (hb hbytes d5) (by decide) ?_
      exact Steps.refl _)
    subst hxy
    have ec : cd = cd' := by
      obtain ⟨D, fd, a1, a2, a3⟩ := hx.2.2.1
      obtain ⟨D', fd', b1, b2, b3⟩ := hy.2.2.1
      cases a1.symm.trans b1
      obtain ⟨q1, q2, q3, q4⟩ := a2.1
      obtain ⟨r1, r2, r3, r4⟩ := b2.1
      cases q4.symm.trans r4
      cases a3.symm.trans b3; rfl
    have et : t = t' := by
      obtain ⟨D, fd, a1, a2, a3⟩ := hx.2.1
      obtain ⟨D', fd', b1, b2, b3⟩ := hy.2.1
      cases a1.symm.trans b1
      obtain ⟨q1, q2, q3, q4⟩ := a2.1
      obtain ⟨r1, r2, r3, r4⟩ := b2.1
      cases q4.symm.trans r4
      cases a3.symm.trans b3; rfl
    subst ec et
    have ev : V = V' := by cases hx.2.2.2.1.1.symm.trans hy.2.2.2.1.1; rfl
    subst ev
    have hs : SameT n f k g := (Cod.eqv hx.2.2.2.2.1 hy.2.2.2.2.1 hx.2.2.2.2.2 hy.2.2.2.2.2).mp ⟨rfl, fun _ _ => rfl⟩
    exact ⟨s₁, some (.int 1), _, _, _, X0, rfl, rfl, rfl, (fun h => by cases h), ⟨1, rfl, hh0, Or.inl ⟨rfl, hs⟩⟩, fun fs hl => c2.trans (X0.ireturnOut hexec hret rfl (Or.inr (Or.inl rfl)) (hb hbytes d6) hl)⟩
  · have c2 : Steps p.tables e below (s₁.setTop (entryFrame m #[.ref x, .ref y] 3)) (s₁.setTop (mkF m 8 #[.val (.ref x), .val (.ref y), .unset] [.ref y])) := c1.trans (by
      refine acmpYes X0.here hexec rfl (pc0 := 2) rfl (hb hbytes d2) rfl rfl rfl (by simp [acmp, hxy]) (by decide) rfl ?_
      refine XS.aloadN X0.here hexec rfl (hb hbytes d7) rfl rfl ?_
      exact Steps.refl _)
    obtain ⟨T3, X3, q3, st3⟩ := cinst X0 hexec hown (wk W (.classLink "java/lang/String" 10 "java/lang/String")) (hy.mv X0.warmed.alike hh0).1 (g := (mkF m 8 #[.val (.ref x), .val (.ref y), .unset] [.ref y])) rfl (rest := []) rfl (hb hbytes d8)
    have hh3 := q3.trans hh0
    have c4 : Steps p.tables e below (s₁.setTop (entryFrame m #[.ref x, .ref y] 3)) (T3.setTop (mkF m 15 #[.val (.ref x), .val (.ref y), .unset] [.ref y])) := (c2.trans (st3 _ (Steps.refl _))).trans (by
      refine XS.ifNo X3.here hexec rfl (hb hbytes d11) rfl (i0_eq_f (by decide)) ?_
      refine XS.aloadN X3.here hexec rfl (hb hbytes d14) rfl rfl ?_
      exact Steps.refl _)
    obtain ⟨T5, X5, q5, st5⟩ := cself X3 hexec hown (wk W (.classLink "java/lang/String" 10 "java/lang/String")) (hy.mv X3.warmed.alike hh3).1 (g := (mkF m 15 #[.val (.ref x), .val (.ref y), .unset] [.ref y])) rfl (rest := []) rfl (hb hbytes d15)
    have hh5 := q5.trans hh3
    have c6 : Steps p.tables e below (s₁.setTop (entryFrame m #[.ref x, .ref y] 3)) (T5.setTop (mkF m 19 #[.val (.ref x), .val (.ref y), .val (.ref y)] [])) := (c4.trans (st5 _ (Steps.refl _))).trans (by
      refine XS.astoreN X5.here hexec rfl (hb hbytes d18) rfl rfl rfl ?_
      exact Steps.refl _)
    obtain ⟨T7, X7, q7, st7⟩ := X5.sget hexec hown (wk W (.fieldLink "java/lang/String" 38 "java/lang/String" "COMPACT_STRINGS" "Z")) s1 (fun _ _ h => by rw [hh5]; exact h) (g := (mkF m 19 #[.val (.ref x), .val (.ref y), .val (.ref y)] [])) rfl (hb hbytes d19)
    have hh7 := q7.trans hh5
    have c8 : Steps p.tables e below (s₁.setTop (entryFrame m #[.ref x, .ref y] 3)) (T7.setTop (mkF m 26 #[.val (.ref x), .val (.ref y), .val (.ref y)] [.ref x])) := (c6.trans (st7 _ (Steps.refl _))).trans (by
      refine XS.ifNo X7.here hexec rfl (hb hbytes d22) rfl (i0_eq_f hz) ?_
      refine XS.aloadN X7.here hexec rfl (hb hbytes d25) rfl rfl ?_
      exact Steps.refl _)
    obtain ⟨T9, X9, q9, st9⟩ := X7.hget hexec hown (wk W (.fieldLink "java/lang/String" 15 "java/lang/String" "coder" "B")) (hx.mv X7.warmed.alike hh7).2.2.1 (g := (mkF m 26 #[.val (.ref x), .val (.ref y), .val (.ref y)] [.ref x])) rfl (rest := []) rfl (hb hbytes d26)
    have hh9 := q9.trans hh7
    have c10 : Steps p.tables e below (s₁.setTop (entryFrame m #[.ref x, .ref y] 3)) (T9.setTop (mkF m 30 #[.val (.ref x), .val (.ref y), .val (.ref y)] [.ref y, .int cd])) := (c8.trans (st9 _ (Steps.refl _))).trans (by
      refine XS.aloadN X9.here hexec rfl (hb hbytes d29) rfl rfl ?_
      exact Steps.refl _)
    obtain ⟨T11, X11, q11, st11⟩ := X9.hget hexec hown (wk W (.fieldLink "java/lang/String" 15 "java/lang/String" "coder" "B")) (hy.mv X9.warmed.alike hh9).2.2.1 (g := (mkF m 30 #[.val (.ref x), .val (.ref y), .val (.ref y)] [.ref y, .int cd])) rfl (rest := [.int cd]) rfl (hb hbytes d30)
    have hh11 := q11.trans hh9
    have c12 : Steps p.tables e below (s₁.setTop (entryFrame m #[.ref x, .ref y] 3)) (T11.setTop (mkF m 33 #[.val (.ref x), .val (.ref y), .val (.ref y)] [.int cd', .int cd])) := c10.trans (st11 _ (Steps.refl _))
    by_cases hcd : cd = cd'
    · subst hcd
      have c13 : Steps p.tables e below (s₁.setTop (entryFrame m #[.ref x, .ref y] 3)) (T11.setTop (mkF m 37 #[.val (.ref x), .val (.ref y), .val (.ref y)] [.ref x])) := c12.trans (by
        refine XS.icmpNo X11.here hexec rfl (hb hbytes d33) rfl (ii_ne_f rfl) ?_
        refine XS.aloadN X11.here hexec rfl (hb hbytes d36) rfl rfl ?_
        exact Steps.refl _)
      obtain ⟨T14, X14, q14, st14⟩ := X11.hget hexec hown (wk W (.fieldLink "java/lang/String" 9 "java/lang/String" "value" "[B")) (hx.mv X11.warmed.alike hh11).2.1 (g := (mkF m 37 #[.val (.ref x), .val (.ref y), .val (.ref y)] [.ref x])) rfl (rest := []) rfl (hb hbytes d37)
      have hh14 := q14.trans hh11
      have c15 : Steps p.tables e below (s₁.setTop (entryFrame m #[.ref x, .ref y] 3)) (T14.setTop (mkF m 41 #[.val (.ref x), .val (.ref y), .val (.ref y)] [.ref y, .ref t])) := (c13.trans (st14 _ (Steps.refl _))).trans (by
        refine XS.aloadN X14.here hexec rfl (hb hbytes d40) rfl rfl ?_
        exact Steps.refl _)
      obtain ⟨T16, X16, q16, st16⟩ := X14.hget hexec hown (wk W (.fieldLink "java/lang/String" 9 "java/lang/String" "value" "[B")) (hy.mv X14.warmed.alike hh14).2.1 (g := (mkF m 41 #[.val (.ref x), .val (.ref y), .val (.ref y)] [.ref y, .ref t])) rfl (rest := [.ref t]) rfl (hb hbytes d41)
      have hh16 := q16.trans hh14
      have c17 : Steps p.tables e below (s₁.setTop (entryFrame m #[.ref x, .ref y] 3)) (T16.setTop (mkF m 44 #[.val (.ref x), .val (.ref y), .val (.ref y)] [.ref t', .ref t])) := c15.trans (st16 _ (Steps.refl _))
      obtain ⟨v18, T18, X18, E18, g18⟩ := X16.callS hexec (LEq.law l t V t' V') hown (wks W (staticW "java/lang/String" 541 LEq.yN)) (wk W LEq.tab) (W := 0) (Nat.le_of_ble_eq_true rfl) (Nat.le_of_ble_eq_true rfl) (Nat.le_refl _) (Nat.le_refl _) (g := (mkF m 44 #[.val (.ref x), .val (.ref y), .val (.ref y)] [.ref t', .ref t])) rfl (by rw [hml]; rfl) c17 (argsL := [.ref t, .ref t']) (rest := []) rfl rfl (by show 2 * 0 + 0 ≤ _; decide) (hb hbytes d44) (⟨rfl, hx.2.2.2.1.mv X16.warmed.alike hh16, hx.2.2.2.2.1.ty, hy.2.2.2.1.mv X16.warmed.alike hh16, hy.2.2.2.2.1.ty⟩)
      obtain ⟨v, rfl, q18, hv⟩ := E18
      have iff := Cod.eqv hx.2.2.2.2.1 hy.2.2.2.2.1 hx.2.2.2.2.2 hy.2.2.2.2.2
      rcases hv with ⟨rfl, he⟩ | ⟨rfl, he⟩
      · have c19 : Steps p.tables e below (s₁.setTop (entryFrame m #[.ref x, .ref y] 3)) (T18.setTop (mkF m 55 #[.val (.ref x), .val (.ref y), .val (.ref y)] [.int 1])) := Steps.trans g18 (by
          refine XS.ifNo X18.here hexec rfl (hb hbytes d47) rfl (i0_eq_f (by decide)) ?_
          refine iconstV X18.here hexec rfl 1 (hb hbytes d50) (by decide) ?_
          refine XS.goto X18.here hexec rfl (pc0 := 51) rfl (hb hbytes d51) (by decide) rfl ?_
          exact Steps.refl _)
        exact ⟨T18, some (.int 1), _, _, _, X18, rfl, rfl, rfl, (fun h => by cases h), ⟨1, rfl, q18.trans hh16, Or.inl ⟨rfl, iff.mp he⟩⟩, fun fs hl => c19.trans (X18.ireturnOut hexec hret rfl (Or.inr (Or.inl rfl)) (hb hbytes d55) hl)⟩
      · have c19 : Steps p.tables e below (s₁.setTop (entryFrame m #[.ref x, .ref y] 3)) (T18.setTop (mkF m 55 #[.val (.ref x), .val (.ref y), .val (.ref y)] [.int 0])) := Steps.trans g18 (by
          refine XS.ifYes X18.here hexec rfl (pc0 := 47) rfl (hb hbytes d47) rfl (i0_eq_t rfl) (by decide) rfl ?_
          refine iconstV X18.here hexec rfl 0 (hb hbytes d54) (by decide) ?_
          exact Steps.refl _)
        exact ⟨T18, some (.int 0), _, _, _, X18, rfl, rfl, rfl, (fun h => by cases h), ⟨0, rfl, q18.trans hh16, Or.inr ⟨rfl, fun q => he (iff.mpr q)⟩⟩, fun fs hl => c19.trans (X18.ireturnOut hexec hret rfl (Or.inr (Or.inl rfl)) (hb hbytes d55) hl)⟩
    · have c13 : Steps p.tables e below (s₁.setTop (entryFrame m #[.ref x, .ref y] 3)) (T11.setTop (mkF m 55 #[.val (.ref x), .val (.ref y), .val (.ref y)] [.int 0])) := c12.trans (by
        refine XS.icmpYes X11.here hexec rfl (pc0 := 33) rfl (hb hbytes d33) rfl (ii_ne_t hcd) (by decide) rfl ?_
        refine iconstV X11.here hexec rfl 0 (hb hbytes d54) (by decide) ?_
        exact Steps.refl _)
      exact ⟨T11, some (.int 0), _, _, _, X11, rfl, rfl, rfl, (fun h => by cases h), ⟨0, rfl, hh11, Or.inr ⟨rfl, Cod.dif hx.2.2.2.2.1 hy.2.2.2.2.1 hcd⟩⟩, fun fs hl => c13.trans (X11.ireturnOut hexec hret rfl (Or.inr (Or.inl rfl)) (hb hbytes d55) hl)⟩
theorem pays {l : Launch} {R : Room} {p : Program} {e : Env} {below : List Frame} {s : State} {sargs : Array Value} {len W : Nat} (x t : Addr) (V : Cell) (cd : Int32) (n : Nat) (f : Nat → Int32) (y t' : Addr) (V' : Cell) (cd' : Int32) (k : Nat) (g : Nat → Int32) (z : Int32) (htab : tab.before sargs s = true) (hfr : 2 ≤ R.frames) (hlo : W + 28 ≤ R.locals) :
    Back l R p e below s sargs yN len W (fun A₁ a₁ => A₁.cells + 0 ≤ R.cells ∧ A₁.slots + 0 ≤ R.slots ∧ P x t V cd n f y t' V' cd' k g z a₁ A₁.U) (fun A₁ _ v₁ B₁ => Says01 (SameT n f k g) v₁ A₁.U B₁.U ∧ B₁.locs = A₁.locs ++ [] ∧ B₁.cells = A₁.cells + 0 ∧ B₁.slots = A₁.slots + 0) :=
  (law l x t V cd n f y t' V' cd' k g z).pays htab hfr (by omega)
end SEq
end StrChars
namespace StrChars.Road
open Jvm Sem ClassFile Op Lib Jvm.Stand Jvm.Free Jvm.Free.XT
open Jvm.Lib.Cold (StaticIs)
/-- the words of String.equals(Object) -/
abbrev wordsEq : List Jvm.Cond := [.code SEq.yN SEq.yB 3 (some .boolean), .initialized ST, .classLink ST 10 ST, .fieldLink ST 38 ST "COMPACT_STRINGS" "Z", .fieldLink ST 15 ST "coder" "B", .fieldLink ST 9 ST "value" "[B", .methodLink ST 541 LEq.yN, .static LEq.yN, .code LEq.yN LEq.yB 3 (some .boolean), .initialized "java/lang/StringLatin1"]
theorem tabEq_of {a : Array Value} {s : State} (h : ∀ w ∈ wordsEq, w.before a s = true) : SEq.tab.before a s = true := by
  have hl : LEq.tab.before a s = true := unparts (wk h (.code LEq.yN LEq.yB 3 (some .boolean))) (wks h (.initialized LEq.yN.cls :: LEq.site))
  have q := consq hl h
  exact unparts (wk q (.code SEq.yN SEq.yB 3 (some .boolean))) (wks q (.initialized SEq.yN.cls :: SEq.site))
theorem movedEq {Z s : State} {a0 args : Array Value} (hZ : Z.Warmed39 s.vm) (hw : ∀ d ∈ wordsEq, d.before a0 Z = true) : ∀ d ∈ wordsEq, d.before args s = true := fun d hd => by
  have t : ∀ d ∈ wordsEq, (d.onTables && d.keepsFace) = true := by decide +kernel
  exact RoadKit.mv hZ (hw d hd) (t d hd)
/-- the road's facts of a String, as the laws ask it -/
theorem txt_of {Z U : State} {a0 : Array Value} {kI : Nat} (wi : (Jvm.Cond.instantiable ST kI).before a0 Z = true) (al : Z.vm.Alike U.vm) {x t : Addr} {kb : ClassId} {cs : List Int32} {cd N2 : Int32} {vs : List Value} (E : RoadKit.Exa Z U.heap x ST) (V : RoadKit.Fld Z U.heap x ST "value" "[B" (.ref t)) (C : RoadKit.Fld Z U.heap x ST "coder" "B" (.int cd)) (K : RoadKit.Arv Z U.heap t kb .byte N2 vs (.int 0)) (hc : CodA cs cd N2 vs) (hb : ∀ c ∈ cs, ¬ c < 0 ∧ ¬ (65535 : Int32) < c) (l2 : cs.length ≤ 4000) :
    ∃ A, Txt x t A cd cs.length (fun j => cs.getD j 0) U := by
  obtain ⟨A, K1, K2, K3, K4, K5, K6⟩ := K
  have hcod := hc.cod (by omega) K3 K5
  obtain ⟨D, fV, fC, hB, F1, F2, g1, g2, -, -⟩ := strObj wi al E V C
  exact ⟨A, ⟨_, hB.2.2.1, D, hB.1, rfl, by cases q : D.vm <;> first | rfl | exact absurd q (hB.2.1.2 _)⟩, Has.of hB F1 g1, Has.of hB F2 g2, ⟨K1.1, State.isArrayOf_alike al K1.2.1, K1.2.2, by rcases hcod with ⟨-, q, -⟩ | ⟨-, q, -⟩ <;> omega⟩, hcod, fun j hj => by
    have e : cs.getD j 0 = cs[j] := by simp [List.getD_eq_getElem?_getD, hj]
    show ¬ cs.getD j 0 < 0 ∧ ¬ 65535 < cs.getD j 0
    rw [e]; exact hb _ (List.getElem_mem _)⟩
theorem same_list (cs ds : List Int32) : SameT cs.length (fun j => cs.getD j 0) ds.length (fun j => ds.getD j 0) ↔ cs = ds := by
  constructor
  · rintro ⟨e, q⟩
    refine List.ext_getElem e fun j h1 h2 => ?_
    have := q j h1
    simpa [List.getD_eq_getElem?_getD, h1, h2] using this
  · rintro rfl
    exact ⟨rfl, fun _ _ => rfl⟩
/-- **equals(Object) OF TWO SUCH STRINGS**: 1 just where the chars are the same -/
theorem eqW {p : Program} {l : Launch} {e : Env} {R : Room} {s : State} {args : Array Value} {below : List Frame} {len W : Nat} {Z : State} {a0 : Array Value} {h : Heap} (hZ : Z.Warmed39 s.vm) (hw : ∀ d ∈ wordsEq, d.before a0 Z = true) {kI : Nat} (wi : (Jvm.Cond.instantiable ST kI).before a0 Z = true)
    {x t : Addr} {kb : ClassId} {cs : List Int32} {cd N2 : Int32} {vs : List Value} (E : RoadKit.Exa Z h x ST) (V : RoadKit.Fld Z h x ST "value" "[B" (.ref t)) (C : RoadKit.Fld Z h x ST "coder" "B" (.int cd)) (K : RoadKit.Arv Z h t kb .byte N2 vs (.int 0)) (hc : CodA cs cd N2 vs) (hb : ∀ c ∈ cs, ¬ c < 0 ∧ ¬ (65535 : Int32) < c) (l2 : cs.length ≤ 4000)
    {y t' : Addr} {kb' : ClassId} {ds : List Int32} {cd' N2' : Int32} {vs' : List Value} (E' : RoadKit.Exa Z h y ST) (V' : RoadKit.Fld Z h y ST "value" "[B" (.ref t')) (C' : RoadKit.Fld Z h y ST "coder" "B" (.int cd')) (K' : RoadKit.Arv Z h t' kb' .byte N2' vs' (.int 0)) (hc' : CodA ds cd' N2' vs') (hb' : ∀ c ∈ ds, ¬ c < 0 ∧ ¬ (65535 : Int32) < c) (l2' : ds.length ≤ 4000)
    {z : Int32} (S : RoadKit.Sta Z h ST "COMPACT_STRINGS" "Z" (.int z)) (hz : ¬ z = 0) (hfr : 2 ≤ R.frames) (hlo : W + 28 ≤ R.locals) :
    Back l R p e below s args (⟨"java/lang/String", "equals", "(Ljava/lang/Object;)Z"⟩ : MethodName) len W (fun P a => a = #[.ref x, .ref y] ∧ P.U.heap = h ∧ P.cells + 0 ≤ R.cells ∧ P.slots + 0 ≤ R.slots)
      (fun P _ v B => ∃ L, (((v = some (.int 1) ∧ cs = ds) ∨ (v = some (.int 0) ∧ ¬ cs = ds)) ∧ L = [] ∧ B.U.heap = h) ∧ B.locs = P.locs ++ L ∧ B.cells = P.cells + 0 ∧ B.slots = P.slots + 0) := by
  intro m meth c P g ig mk a X hg hsize hdg hW hn hp'
  obtain ⟨rfl, rfl, r1, r2⟩ := hp'
  have al : Z.vm.Alike P.U.vm := hZ.alike.trans X.warmed.alike
  obtain ⟨A, hx⟩ := txt_of wi al E V C K hc hb l2
  obtain ⟨A', hy⟩ := txt_of wi al E' V' C' K' hc' hb' l2'
  obtain ⟨v, B, X', ⟨⟨w, hv, hh, hq⟩, hl, hk, hs⟩, st⟩ := SEq.pays x t A cd cs.length (fun j => cs.getD j 0) y t' A' cd' ds.length (fun j => ds.getD j 0) z (tabEq_of (movedEq hZ hw)) hfr hlo m meth c P g ig mk _ X hg hsize hdg hW hn ⟨r1, r2, rfl, hx, hy, sta_is al S, hz⟩
  refine ⟨v, B, X', ⟨[], ⟨?_, rfl, hh⟩, hl, hk, hs⟩, st⟩
  rcases hq with ⟨rfl, q⟩ | ⟨rfl, q⟩
  · exact Or.inl ⟨hv, (same_list cs ds).mp q⟩
  · exact Or.inr ⟨hv, fun e => q ((same_list cs ds).mpr e)⟩
end StrChars.Road
namespace StrChars.Road
open Jvm Sem ClassFile Op Lib Jvm.Stand Jvm.Free Jvm.Free.XT
open Jvm.Lib.Cold (StaticIs)
/-- what backV says of its String, as the contracts of this text ask it: cs's low bytes, coder 0 -/
theorem codOf {cs : List Int32} {n : Nat} (hn : cs.length = n) (hb : ∀ c ∈ cs, ¬ 255 < c) : CodA cs 0 (Int32.ofNat n) ((cs.map lo8).map Value.int) := Or.inl ⟨rfl, by rw [hn], by simp [List.map_map, Function.comp_def], hb⟩
end StrChars.Road
end Jvm.Pilot.@@N@@

namespace Jvm.Pilot.@@N@@
open Jvm Jvm.ClassFile Sem Op Lib Jvm.Free Jvm.Stand Jvm.LawKit Jvm.RoadKit Bundle Jvm.Pilot.@@N@@.Jvm.D
theorem own_mi {α : Type} {l : List α} {a : α} (i : Nat) (h : l[i]? = some a) : a ∈ l := List.mem_of_getElem? h
def own_Rn (p : Program) (e : Env) (below : List Frame) (P : Outcome → State → Prop) (S : State) : Prop := ∃ U o, Steps p.tables e below S U ∧ U.status = .running ∧ Ended U below o ∧ P o U
theorem own_go {p : Program} {e : Env} {below : List Frame} {P : Outcome → State → Prop} {S S' : State} (k : ∀ t, Steps p.tables e below S' t → Steps p.tables e below S t) (h : own_Rn p e below P S') : own_Rn p e below P S := by
  obtain ⟨U, o, h1, h2⟩ := h
  exact ⟨U, o, k U h1, h2⟩
theorem own_ret {p : Program} {l : Launch} {e : Env} {R : Room} {s : State} {m : MethodId} {args : Array Value} {below : List Frame} {meth : Method} {c : Code} {T : State} {locs : List Loc} {cells slots : Nat} (X : Stand p l e R s m args below meth c T locs cells slots)
    {v : Option Value} (hv : meth.sig.returnType = none → v = none) {S : State} {Q : Option Value → Heap → List Loc → Prop} {C N : Nat}
    (k : ∀ fs, (∀ (f : JFrame) (acts : List Action), f.method = m → f.locked = none → f.entered = [] → (doReturn e (T.setTop f) acts v).1 = T.setFrames fs) → Steps p.tables e below S (T.setFrames fs)) (hq : Q v T.heap locs) (hc : cells ≤ C) (hs : slots ≤ N)
    (hlocks : meth.locks = false := by first | assumption | exact BodyLoose.notSynchronized (by assumption) | exact Body.notSynchronized (by assumption)) :
    own_Rn p e below (fun o U' => ∃ v L, o = .returned v ∧ Q v U'.heap L ∧ FrameEnd s o U' L C N) S := by
  obtain ⟨fs, hr, hrun, hended, hW, hsame⟩ := X.leave hv hlocks
  exact ⟨_, _, k fs hr, hrun, hended, _, _, rfl, hq, ⟨_, rfl⟩, hW, hsame.mono hc hs⟩
theorem own_nea {a b : Addr} (h : @LT.lt Nat _ a b ∨ @LT.lt Nat _ b a) : a ≠ b := by
  intro e
  have e' : @Eq Nat a b := e
  omega
theorem own_fits_byte (x : Int32) : fits .byte (.int (nar .byte x)) = true := by
  have h := c_i2b x
  have h1 : (-128 : Int32) ≤ x.toInt8.toInt32 := by rw [Int32.le_iff_toInt_le]; exact h.2.1
  have h2 : x.toInt8.toInt32 ≤ (127 : Int32) := by rw [Int32.le_iff_toInt_le]; exact Int.le_of_lt_add_one h.2.2
  simp only [fits, Bool.and_eq_true]
  exact ⟨decide_eq_true h1, decide_eq_true h2⟩
theorem own_fitsB (x : Int32) : fits .byte (.int x.toInt8.toInt32) = true := own_fits_byte x
theorem own_retS {p : Program} {l : Launch} {e : Env} {R : Room} {s : State} {m : MethodId} {args : Array Value} {below : List Frame} {meth : Method} {c : Code} {T : State} {locs : List Loc} {cells slots : Nat} {vm₁ : Vm} (X : Stand p l e R (s.setVm vm₁) m args below meth c T locs cells slots) {n : Nat} (hS : s.Since vm₁ n) (hn : n ≤ T.heap.size)
    {v : Option Value} (hv : meth.sig.returnType = none → v = none) {S : State} {Z : State} {EL : List (String × Nat)} {Q : Option Value → Heap → List Loc → Prop} {C N : Nat}
    (k : ∀ fs, (∀ (f : JFrame) (acts : List Action), f.method = m → f.locked = none → f.entered = [] → (doReturn e (T.setTop f) acts v).1 = T.setFrames fs) → Steps p.tables e below S (T.setFrames fs)) (hq : Q v T.heap locs) (hR : CHr Z EL s.vm s.heap T.vm T.heap) (hc : cells ≤ C) (hs : slots ≤ N)
    (hlocks : meth.locks = false := by first | assumption | exact BodyLoose.notSynchronized (by assumption) | exact Body.notSynchronized (by assumption)) :
    own_Rn p e below (fun o U' => ∃ v L, o = .returned v ∧ Q v U'.heap L ∧ CHr Z EL s.vm s.heap U'.vm U'.heap ∧ ReturnedEndW s o U' L C N) S := by
  obtain ⟨fs, hr, hrun, hended, h1, h2, h3, h4⟩ := X.leaveW hS hn hv hlocks
  exact ⟨_, _, k fs hr, hrun, hended, _, _, rfl, hq, hR, h1, h2, h3, h4.mono hc hs⟩
theorem own_safeAt {Z : State} {EL : List (String × Nat)} {vm vm1 : Vm} {h : Heap} {x : Addr} (A : CHr Z EL vm h vm1 h) (S : Safe Z EL vm h x) : Safe Z EL vm1 h x := by
  rcases Nat.lt_or_ge x h.size with hx | hx
  · exact A.safe hx S
  · exact Safe.new hx
theorem own_backSH {p : Program} {l : Launch} {e : Env} {R : Room} {s : State} {args : Array Value} {below : List Frame} {Z : State} {a0 : Array Value} {EL : List (String × Nat)} {h : Heap} {vm0 : Vm} {sf : List Addr}
    {y : MethodName} {bytes : ByteArray} {maxL : Nat} {ret : Option FieldType} {rm : Room} {len W : Nat} {as' : Array Value} {Q : Option Value → Heap → List Loc → Prop}
    (hM : MetFree l y (head1 [Cond.code y bytes maxL ret] rm) (fun a U => a = as' ∧ Z.Warmed39 U.vm ∧ U.heap = h ∧ CHv Z EL U.vm h ∧ ∀ x ∈ sf, Safe Z EL U.vm h x) (fun _ _ _ _ _ => True) (fun _ U o U' => ∃ v L, o = .returned v ∧ Q v U'.heap L ∧ CHr Z EL U.vm U.heap U'.vm U'.heap ∧ ReturnedEndW U o U' L rm.cells rm.slots))
    (hZ : Z.Warmed39 vm0) (wc : (Cond.code y bytes maxL ret).before a0 Z = true) (wz : (Cond.initialized y.cls).before a0 Z = true) (hf : rm.frames + 1 ≤ R.frames) (hl : W + (maxL + 11) + rm.locals ≤ R.locals) (hEL : EW Z a0 EL) (H : CHv Z EL vm0 h) (hsf : ∀ x ∈ sf, Safe Z EL vm0 h x) :
    BackS l R p e below (s.setVm vm0) args y len W (fun A a => a = as' ∧ A.U.heap = h ∧ A.cells + rm.cells ≤ R.cells ∧ A.slots + rm.slots ≤ R.slots)
      (fun A _ v B => ∃ L, Q v B.U.heap L ∧ B.locs = A.locs ++ L ∧ B.cells = A.cells + rm.cells ∧ B.slots = A.slots + rm.slots ∧ CHr Z EL vm0 h B.U.vm B.U.heap) :=
  BackS.of_freeW (bytes := bytes) (maxL := maxL) (ret := ret) (E := fun _ first o t L k n => k = rm.cells ∧ n = rm.slots ∧ (∃ v, o = .returned v ∧ Q v t.heap L) ∧ CHr Z EL first.vm first.heap t.vm t.heap) hM hf hl
    (fun m meth c A a Y hp => have hU : Z.Warmed39 A.U.vm := wtrans (s := s.setVm vm0) hZ Y.warmed
      ⟨by show (Cond.and _ .tt).before a A.U = true; rw [Cond.before_and, mv hU wc]; rfl, mv hU wc, mv hU wz, hp.2.2.1, hp.2.2.2⟩)
    (fun m meth c A a g mk Y hp => ⟨hp.1, wtrans (s := s.setVm vm0) hZ Y.warmed, hp.2.1, (CHv.at Y hZ hEL H).1, fun x hx => show Safe Z EL A.U.vm h x from own_safeAt (CHv.at Y hZ hEL H) (hsf x hx)⟩) (fun _ _ _ _ _ _ _ _ _ => trivial)
    (fun _ _ _ _ ⟨v, L, h1, h2, h3, h4⟩ => ⟨L, _, _, h4, rfl, rfl, ⟨v, h1, h2⟩, h3⟩)
    (fun m meth c A a g mk v t L k n Y hp _ _ ⟨e1, e2, ⟨v', e3, e4⟩, e5⟩ => by
      cases e3; subst e1 e2
      refine ⟨L, e4, rfl, rfl, rfl, (CHv.at Y hZ hEL H).trans ?_⟩
      rw [← hp.2.1]; exact e5)
section OwnSteps
variable {p : Program} {l : Launch} {e : Env} {R : Room} {s : State} {m : MethodId} {args : Array Value} {below : List Frame} {meth : Method} {c : Code} {T : State} {locs : List Loc} {cells slots : Nat} {P : Outcome → State → Prop} {pc : Nat} {L : Array Slot} {S : List Value}
theorem own_il (X : Stand p l e R s m args below meth c T locs cells slots) (hx : p.tables.exec = Jvm.exec) {k : Nat} {v : Int32} (pc' : Nat) (hd : decode c.code pc = .ok (.iload k, 2)) (hp : pc + 2 = pc') (hl : L[k]? = some (.val (.int v))) (h : own_Rn p e below P (T.setTop (mkF m pc' L (.int v :: S)))) : own_Rn p e below P (T.setTop (mkF m pc L S)) := by
  subst hp; exact own_go (fun t k => XS.iload X.here hx rfl hd hl k) h
theorem own_iln (X : Stand p l e R s m args below meth c T locs cells slots) (hx : p.tables.exec = Jvm.exec) {k : Fin 4} {v : Int32} (pc' : Nat) (hd : decode c.code pc = .ok (.iload_n k, 1)) (hp : pc + 1 = pc') (hl : L[k.val]? = some (.val (.int v))) (h : own_Rn p e below P (T.setTop (mkF m pc' L (.int v :: S)))) : own_Rn p e below P (T.setTop (mkF m pc L S)) := by
  subst hp; exact own_go (fun t k => XS.iloadN X.here hx rfl hd hl k) h
theorem own_al (X : Stand p l e R s m args below meth c T locs cells slots) (hx : p.tables.exec = Jvm.exec) {k : Nat} {v : Value} (pc' : Nat) (hd : decode c.code pc = .ok (.aload k, 2)) (hp : pc + 2 = pc') (hl : L[k]? = some (.val v)) (hv : v.isRef = true) (h : own_Rn p e below P (T.setTop (mkF m pc' L (v :: S)))) : own_Rn p e below P (T.setTop (mkF m pc L S)) := by
  subst hp; exact own_go (fun t k => XS.aload X.here hx rfl hd hl hv k) h
theorem own_aln (X : Stand p l e R s m args below meth c T locs cells slots) (hx : p.tables.exec = Jvm.exec) {k : Fin 4} {v : Value} (pc' : Nat) (hd : decode c.code pc = .ok (.aload_n k, 1)) (hp : pc + 1 = pc') (hl : L[k.val]? = some (.val v)) (hv : v.isRef = true) (h : own_Rn p e below P (T.setTop (mkF m pc' L (v :: S)))) : own_Rn p e below P (T.setTop (mkF m pc L S)) := by
  subst hp; exact own_go (fun t k => XS.aloadN X.here hx rfl hd hl hv k) h
theorem own_is (X : Stand p l e R s m args below meth c T locs cells slots) (hx : p.tables.exec = Jvm.exec) {k : Nat} {x : Int32} (L' : Array Slot) (pc' : Nat) (hd : decode c.code pc = .ok (.istore k, 2)) (hp : pc + 2 = pc') (hl : storeLocals L k (.int x) = some L') (h : own_Rn p e below P (T.setTop (mkF m pc' L' S))) : own_Rn p e below P (T.setTop (mkF m pc L (.int x :: S))) := by
  subst hp; exact own_go (fun t k => XS.istore X.here hx rfl hd rfl hl k) h
theorem own_isn (X : Stand p l e R s m args below meth c T locs cells slots) (hx : p.tables.exec = Jvm.exec) {k : Fin 4} {x : Int32} (L' : Array Slot) (pc' : Nat) (hd : decode c.code pc = .ok (.istore_n k, 1)) (hp : pc + 1 = pc') (hl : storeLocals L k.val (.int x) = some L') (h : own_Rn p e below P (T.setTop (mkF m pc' L' S))) : own_Rn p e below P (T.setTop (mkF m pc L (.int x :: S))) := by
  subst hp; exact own_go (fun t k => XS.istoreN X.here hx rfl hd rfl hl k) h
theorem own_as (X : Stand p l e R s m args below meth c T locs cells slots) (hx : p.tables.exec = Jvm.exec) {k : Nat} {x : Value} (L' : Array Slot) (pc' : Nat) (hd : decode c.code pc = .ok (.astore k, 2)) (hp : pc + 2 = pc') (hv : x.isRef = true) (hl : storeLocals L k x = some L') (h : own_Rn p e below P (T.setTop (mkF m pc' L' S))) : own_Rn p e below P (T.setTop (mkF m pc L (x :: S))) := by
  subst hp; exact own_go (fun t k => XS.astore X.here hx rfl hd rfl hv hl k) h
theorem own_asn (X : Stand p l e R s m args below meth c T locs cells slots) (hx : p.tables.exec = Jvm.exec) {k : Fin 4} {x : Value} (L' : Array Slot) (pc' : Nat) (hd : decode c.code pc = .ok (.astore_n k, 1)) (hp : pc + 1 = pc') (hv : x.isRef = true) (hl : storeLocals L k.val x = some L') (h : own_Rn p e below P (T.setTop (mkF m pc' L' S))) : own_Rn p e below P (T.setTop (mkF m pc L (x :: S))) := by
  subst hp; exact own_go (fun t k => XS.astoreN X.here hx rfl hd rfl hv hl k) h
theorem own_ic (X : Stand p l e R s m args below meth c T locs cells slots) (hx : p.tables.exec = Jvm.exec) {i : Int} (v : Int32) (pc' : Nat) (hd : decode c.code pc = .ok (.iconst i, 1)) (hp : pc + 1 = pc') (hv : Int32.ofInt i = v) (h : own_Rn p e below P (T.setTop (mkF m pc' L (.int v :: S)))) : own_Rn p e below P (T.setTop (mkF m pc L S)) := by
  subst hp hv; exact own_go (fun t k => XS.iconst X.here hx rfl hd k) h
theorem own_bp (X : Stand p l e R s m args below meth c T locs cells slots) (hx : p.tables.exec = Jvm.exec) {i : Int} (v : Int32) (pc' : Nat) (hd : decode c.code pc = .ok (.bipush i, 2)) (hp : pc + 2 = pc') (hv : (Int8.ofInt i).toInt32 = v) (h : own_Rn p e below P (T.setTop (mkF m pc' L (.int v :: S)))) : own_Rn p e below P (T.setTop (mkF m pc L S)) := by
  subst hp hv; exact own_go (fun t k => XS.bipush X.here hx rfl hd k) h
theorem own_sp (X : Stand p l e R s m args below meth c T locs cells slots) (hx : p.tables.exec = Jvm.exec) {i : Int} (v : Int32) (pc' : Nat) (hd : decode c.code pc = .ok (.sipush i, 3)) (hp : pc + 3 = pc') (hv : (Int16.ofInt i).toInt32 = v) (h : own_Rn p e below P (T.setTop (mkF m pc' L (.int v :: S)))) : own_Rn p e below P (T.setTop (mkF m pc L S)) := by
  subst hp hv; exact own_go (fun t k => XS.sipush X.here hx rfl hd k) h
theorem own_iadd (X : Stand p l e R s m args below meth c T locs cells slots) (hx : p.tables.exec = Jvm.exec) {x y : Int32} (pc' : Nat) (hd : decode c.code pc = .ok (.iadd, 1)) (hp : pc + 1 = pc')  (h : own_Rn p e below P (T.setTop (mkF m pc' L (.int (x + y) :: S)))) : own_Rn p e below P (T.setTop (mkF m pc L (.int y :: .int x :: S))) := by
  subst hp; exact own_go (fun t k => XS.iadd X.here hx rfl hd rfl k) h
theorem own_isub (X : Stand p l e R s m args below meth c T locs cells slots) (hx : p.tables.exec = Jvm.exec) {x y : Int32} (pc' : Nat) (hd : decode c.code pc = .ok (.isub, 1)) (hp : pc + 1 = pc')  (h : own_Rn p e below P (T.setTop (mkF m pc' L (.int (x - y) :: S)))) : own_Rn p e below P (T.setTop (mkF m pc L (.int y :: .int x :: S))) := by
  subst hp; exact own_go (fun t k => XS.isub X.here hx rfl hd rfl k) h
theorem own_imul (X : Stand p l e R s m args below meth c T locs cells slots) (hx : p.tables.exec = Jvm.exec) {x y : Int32} (pc' : Nat) (hd : decode c.code pc = .ok (.imul, 1)) (hp : pc + 1 = pc')  (h : own_Rn p e below P (T.setTop (mkF m pc' L (.int (x * y) :: S)))) : own_Rn p e below P (T.setTop (mkF m pc L (.int y :: .int x :: S))) := by
  subst hp; exact own_go (fun t k => XS.imul X.here hx rfl hd rfl k) h
theorem own_iand (X : Stand p l e R s m args below meth c T locs cells slots) (hx : p.tables.exec = Jvm.exec) {x y : Int32} (pc' : Nat) (hd : decode c.code pc = .ok (.iand, 1)) (hp : pc + 1 = pc')  (h : own_Rn p e below P (T.setTop (mkF m pc' L (.int (x &&& y) :: S)))) : own_Rn p e below P (T.setTop (mkF m pc L (.int y :: .int x :: S))) := by
  subst hp; exact own_go (fun t k => XS.iand X.here hx rfl hd rfl k) h
theorem own_ior (X : Stand p l e R s m args below meth c T locs cells slots) (hx : p.tables.exec = Jvm.exec) {x y : Int32} (pc' : Nat) (hd : decode c.code pc = .ok (.ior, 1)) (hp : pc + 1 = pc')  (h : own_Rn p e below P (T.setTop (mkF m pc' L (.int (x ||| y) :: S)))) : own_Rn p e below P (T.setTop (mkF m pc L (.int y :: .int x :: S))) := by
  subst hp; exact own_go (fun t k => XS.ior X.here hx rfl hd rfl k) h
theorem own_ixor (X : Stand p l e R s m args below meth c T locs cells slots) (hx : p.tables.exec = Jvm.exec) {x y : Int32} (pc' : Nat) (hd : decode c.code pc = .ok (.ixor, 1)) (hp : pc + 1 = pc')  (h : own_Rn p e below P (T.setTop (mkF m pc' L (.int (x ^^^ y) :: S)))) : own_Rn p e below P (T.setTop (mkF m pc L (.int y :: .int x :: S))) := by
  subst hp; exact own_go (fun t k => XS.ixor X.here hx rfl hd rfl k) h
theorem own_dp (X : Stand p l e R s m args below meth c T locs cells slots) (hx : p.tables.exec = Jvm.exec) {x : Value} (pc' : Nat) (hd : decode c.code pc = .ok (.dup, 1)) (hp : pc + 1 = pc') (hc : x.category = 1) (h : own_Rn p e below P (T.setTop (mkF m pc' L (x :: x :: S)))) : own_Rn p e below P (T.setTop (mkF m pc L (x :: S))) := by
  subst hp; exact own_go (fun t k => XS.dup X.here hx rfl hd rfl hc k) h
theorem own_ii (X : Stand p l e R s m args below meth c T locs cells slots) (hx : p.tables.exec = Jvm.exec) {k : Nat} {cst : Int} {x : Int32} (L' : Array Slot) (pc' : Nat) (hd : decode c.code pc = .ok (.iinc k cst, 3)) (hp : pc + 3 = pc') (hl : L[k]? = some (.val (.int x))) (hl' : storeLocals L k (.int (x + Int32.ofInt cst)) = some L') (h : own_Rn p e below P (T.setTop (mkF m pc' L' S))) : own_Rn p e below P (T.setTop (mkF m pc L S)) := by
  subst hp; exact own_go (fun t k => XS.iinc X.here hx rfl hd hl hl' k) h
theorem own_gt (X : Stand p l e R s m args below meth c T locs cells slots) (hx : p.tables.exec = Jvm.exec) {o : Int} (pc' : Nat) (hd : decode c.code pc = .ok (.goto o, 3)) (ho : 0 ≤ (pc : Int) + o) (hp : ((pc : Int) + o).toNat = pc') (h : own_Rn p e below P (T.setTop (mkF m pc' L S))) : own_Rn p e below P (T.setTop (mkF m pc L S)) := own_go (fun t k => XS.goto X.here hx rfl rfl hd ho hp k) h
theorem own_ifY (X : Stand p l e R s m args below meth c T locs cells slots) (hx : p.tables.exec = Jvm.exec) {cd : ClassFile.Cond} {x : Int32} {o : Int} (pc' : Nat) (hd : decode c.code pc = .ok (.ifCond cd o, 3)) (hc : ifCond.holds cd x = true) (ho : 0 ≤ (pc : Int) + o) (hp : ((pc : Int) + o).toNat = pc') (h : own_Rn p e below P (T.setTop (mkF m pc' L S))) : own_Rn p e below P (T.setTop (mkF m pc L (.int x :: S))) := own_go (fun t k => XS.ifYes X.here hx rfl rfl hd rfl hc ho hp k) h
theorem own_icY (X : Stand p l e R s m args below meth c T locs cells slots) (hx : p.tables.exec = Jvm.exec) {cd : ClassFile.Cond} {x y : Int32} {o : Int} (pc' : Nat) (hd : decode c.code pc = .ok (.if_icmp cd o, 3)) (hc : if_icmp.holds cd x y = true) (ho : 0 ≤ (pc : Int) + o) (hp : ((pc : Int) + o).toNat = pc') (h : own_Rn p e below P (T.setTop (mkF m pc' L S))) : own_Rn p e below P (T.setTop (mkF m pc L (.int y :: .int x :: S))) := own_go (fun t k => XS.icmpYes X.here hx rfl rfl hd rfl hc ho hp k) h
theorem own_ifN (X : Stand p l e R s m args below meth c T locs cells slots) (hx : p.tables.exec = Jvm.exec) {cd : ClassFile.Cond} {o : Int} {x : Int32} (pc' : Nat) (hd : decode c.code pc = .ok (.ifCond cd o, 3)) (hp : pc + 3 = pc') (hc : ifCond.holds cd x = false) (h : own_Rn p e below P (T.setTop (mkF m pc' L S))) : own_Rn p e below P (T.setTop (mkF m pc L (.int x :: S))) := by
  subst hp; exact own_go (fun t k => XS.ifNo X.here hx rfl hd rfl hc k) h
theorem own_icN (X : Stand p l e R s m args below meth c T locs cells slots) (hx : p.tables.exec = Jvm.exec) {cd : ClassFile.Cond} {o : Int} {x y : Int32} (pc' : Nat) (hd : decode c.code pc = .ok (.if_icmp cd o, 3)) (hp : pc + 3 = pc') (hc : if_icmp.holds cd x y = false) (h : own_Rn p e below P (T.setTop (mkF m pc' L S))) : own_Rn p e below P (T.setTop (mkF m pc L (.int y :: .int x :: S))) := by
  subst hp; exact own_go (fun t k => XS.icmpNo X.here hx rfl hd rfl hc k) h
theorem own_ishl (X : Stand p l e R s m args below meth c T locs cells slots) (hx : p.tables.exec = Jvm.exec) {x y : Int32} (pc' : Nat) (hd : decode c.code pc = .ok (.ishl, 1)) (hp : pc + 1 = pc')  (h : own_Rn p e below P (T.setTop (mkF m pc' L (.int (x <<< (y &&& 31)) :: S)))) : own_Rn p e below P (T.setTop (mkF m pc L (.int y :: .int x :: S))) := by
  subst hp; exact own_go (fun t k => XS.ishl X.here hx rfl hd rfl k) h
theorem own_ishr (X : Stand p l e R s m args below meth c T locs cells slots) (hx : p.tables.exec = Jvm.exec) {x y : Int32} (pc' : Nat) (hd : decode c.code pc = .ok (.ishr, 1)) (hp : pc + 1 = pc')  (h : own_Rn p e below P (T.setTop (mkF m pc' L (.int (x >>> (y &&& 31)) :: S)))) : own_Rn p e below P (T.setTop (mkF m pc L (.int y :: .int x :: S))) := by
  subst hp; exact own_go (fun t k => XS.ishr X.here hx rfl hd rfl k) h
theorem own_iushr (X : Stand p l e R s m args below meth c T locs cells slots) (hx : p.tables.exec = Jvm.exec) {x y : Int32} (pc' : Nat) (hd : decode c.code pc = .ok (.iushr, 1)) (hp : pc + 1 = pc')  (h : own_Rn p e below P (T.setTop (mkF m pc' L (.int ((x.toUInt32 >>> (y &&& 31).toUInt32).toInt32) :: S)))) : own_Rn p e below P (T.setTop (mkF m pc L (.int y :: .int x :: S))) := by
  subst hp; exact own_go (fun t k => XS.iushr X.here hx rfl hd rfl k) h
theorem own_i2b (X : Stand p l e R s m args below meth c T locs cells slots) (hx : p.tables.exec = Jvm.exec) {x : Int32} (pc' : Nat) (hd : decode c.code pc = .ok (.i2b, 1)) (hp : pc + 1 = pc')  (h : own_Rn p e below P (T.setTop (mkF m pc' L (.int (x.toInt8.toInt32) :: S)))) : own_Rn p e below P (T.setTop (mkF m pc L (.int x :: S))) := by
  subst hp; exact own_go (fun t k => XS.i2b X.here hx rfl hd rfl k) h
theorem own_i2c (X : Stand p l e R s m args below meth c T locs cells slots) (hx : p.tables.exec = Jvm.exec) {x : Int32} (pc' : Nat) (hd : decode c.code pc = .ok (.i2c, 1)) (hp : pc + 1 = pc')  (h : own_Rn p e below P (T.setTop (mkF m pc' L (.int (x.toUInt32.toUInt16.toUInt32.toInt32) :: S)))) : own_Rn p e below P (T.setTop (mkF m pc L (.int x :: S))) := by
  subst hp; exact own_go (fun t k => XS.i2c X.here hx rfl hd rfl k) h
theorem own_idiv (X : Stand p l e R s m args below meth c T locs cells slots) (hx : p.tables.exec = Jvm.exec) {x y : Int32} (pc' : Nat) (hd : decode c.code pc = .ok (.idiv, 1)) (hp : pc + 1 = pc') (hy : y ≠ 0) (h : own_Rn p e below P (T.setTop (mkF m pc' L (.int (x / y) :: S)))) : own_Rn p e below P (T.setTop (mkF m pc L (.int y :: .int x :: S))) := by
  subst hp; exact own_go (fun t k => XS.idiv X.here hx rfl hd rfl hy k) h
theorem own_bal (X : Stand p l e R s m args below meth c T locs cells slots) (hx : p.tables.exec = Jvm.exec) {Z : State} {hh : Heap} (hZ : Z.Warmed39 s.vm) (eT : T.heap = hh) {a : Addr} {kc : ClassId} {n j : Int32} {vs : List Value} {d : Value} (A : Arv Z hh a kc .byte n vs d) (v : Int32) (pc' : Nat) (hd : decode c.code pc = .ok (.baload, 1)) (hp : pc + 1 = pc') (inb : ¬ j < 0 ∧ j < n) (at' : vs.getD j.toNatClampNeg d = .int v) (h : own_Rn p e below P (T.setTop (mkF m pc' L (.int v :: S)))) : own_Rn p e below P (T.setTop (mkF m pc L (.int j :: .ref a :: S))) := by
  subst hp
  obtain ⟨cl, Ar, q, Sz, Nn, Hs, G⟩ := A
  have i' := inb_of (j := j) Sz inb
  exact own_go (fun t k => X.baloadBytes hx (j := j) (v := .int v) (by rw [eT]; exact Ar.1) (State.isArrayOf_alike hZ.alike Ar.2.1) Ar.2.2 i' (Hs.at i' at') (g := mkF m pc L (.int j :: .ref a :: S)) rfl rfl hd t k) h
theorem own_cal (X : Stand p l e R s m args below meth c T locs cells slots) (hx : p.tables.exec = Jvm.exec) {Z : State} {hh : Heap} (hZ : Z.Warmed39 s.vm) (eT : T.heap = hh) {a : Addr} {kc : ClassId} {n j : Int32} {vs : List Value} {d : Value} (A : Arv Z hh a kc .char n vs d) (v : Int32) (pc' : Nat) (hd : decode c.code pc = .ok (.caload, 1)) (hp : pc + 1 = pc') (inb : ¬ j < 0 ∧ j < n) (at' : vs.getD j.toNatClampNeg d = .int v) (h : own_Rn p e below P (T.setTop (mkF m pc' L (.int v :: S)))) : own_Rn p e below P (T.setTop (mkF m pc L (.int j :: .ref a :: S))) := by
  subst hp
  obtain ⟨cl, Ar, q, Sz, Nn, Hs, G⟩ := A
  have i' := inb_of (j := j) Sz inb
  exact own_go (fun t k => X.caload hx (j := j) (v := .int v) (by rw [eT]; exact Ar.1) (State.isArrayOf_alike hZ.alike Ar.2.1) Ar.2.2 i' (Hs.at i' at') (g := mkF m pc L (.int j :: .ref a :: S)) rfl rfl hd t k) h
theorem own_ial (X : Stand p l e R s m args below meth c T locs cells slots) (hx : p.tables.exec = Jvm.exec) {Z : State} {hh : Heap} (hZ : Z.Warmed39 s.vm) (eT : T.heap = hh) {a : Addr} {kc : ClassId} {n j : Int32} {vs : List Value} {d : Value} (A : Arv Z hh a kc .int n vs d) (v : Int32) (pc' : Nat) (hd : decode c.code pc = .ok (.iaload, 1)) (hp : pc + 1 = pc') (inb : ¬ j < 0 ∧ j < n) (at' : vs.getD j.toNatClampNeg d = .int v) (h : own_Rn p e below P (T.setTop (mkF m pc' L (.int v :: S)))) : own_Rn p e below P (T.setTop (mkF m pc L (.int j :: .ref a :: S))) := by
  subst hp
  obtain ⟨cl, Ar, q, Sz, Nn, Hs, G⟩ := A
  have i' := inb_of (j := j) Sz inb
  exact own_go (fun t k => X.iaload hx (j := j) (v := .int v) (by rw [eT]; exact Ar.1) (State.isArrayOf_alike hZ.alike Ar.2.1) Ar.2.2 i' (Hs.at i' at') (g := mkF m pc L (.int j :: .ref a :: S)) rfl rfl hd t k) h
theorem own_alen (X : Stand p l e R s m args below meth c T locs cells slots) (hx : p.tables.exec = Jvm.exec) {Z : State} {hh : Heap} (hZ : Z.Warmed39 s.vm) (eT : T.heap = hh) {a : Addr} {kc : ClassId} {n : Int32} {ty : FieldType} {vs : List Value} {d : Value} (A : Arv Z hh a kc ty n vs d) (pc' : Nat) (hd : decode c.code pc = .ok (.arraylength, 1)) (hp : pc + 1 = pc') (h : own_Rn p e below P (T.setTop (mkF m pc' L (.int n :: S)))) : own_Rn p e below P (T.setTop (mkF m pc L (.ref a :: S))) := by
  subst hp
  obtain ⟨cl, Ar, q, Sz, Nn, Hs, G⟩ := A
  rw [← len_of Sz Nn] at h
  exact own_go (fun t k => X.arraylength hx (cell := cl) (by rw [eT]; exact Ar.1) (State.isArrayOf_alike hZ.alike Ar.2.1) (g := mkF m pc L (.ref a :: S)) rfl rfl hd t k) h
theorem own_gF (X : Stand p l e R s m args below meth c T locs cells slots) (hx : p.tables.exec = Jvm.exec) {Z : State} {a0 : Array Value} {hh : Heap} (hZ : Z.Warmed39 s.vm) {own R0 O n d host : String} {index : Nat} (hown : s.vm.findClass own = some m.cls) (w : (Cond.fieldLink own index R0 n d).before a0 Z = true ∨ (Cond.fieldLinkNest own index R0 n d host).before a0 Z = true) (via : Via Z R0 O n d) (eT : T.heap = hh) {a : Addr} {v : Value} (F : Fld Z hh a O n d v) (pc' : Nat) (hd : decode c.code pc = .ok (.getfield index, 3)) (hp : pc + 3 = pc') (h : ∀ T', Stand p l e R s m args below meth c T' locs cells slots → T'.heap = hh → own_Rn p e below P (T'.setTop (mkF m pc' L (v :: S)))) : own_Rn p e below P (T.setTop (mkF m pc L (.ref a :: S))) := by
  subst hp
  obtain ⟨T', X', e', st⟩ := getF X hx hZ hown w via eT F (g := mkF m pc L (.ref a :: S)) rfl rfl hd
  exact own_go st (h T' X' e')
theorem own_gS (X : Stand p l e R s m args below meth c T locs cells slots) (hx : p.tables.exec = Jvm.exec) {Z : State} {a0 : Array Value} {hh : Heap} (hZ : Z.Warmed39 s.vm) {own R0 O n d host : String} {index : Nat} (hown : s.vm.findClass own = some m.cls) (w : (Cond.fieldLink own index R0 n d).before a0 Z = true ∨ (Cond.fieldLinkNest own index R0 n d host).before a0 Z = true) (via : Via Z R0 O n d) (eT : T.heap = hh) {v : Value} (F : Sta Z hh O n d v) (pc' : Nat) (hd : decode c.code pc = .ok (.getstatic index, 3)) (hp : pc + 3 = pc') (h : ∀ T', Stand p l e R s m args below meth c T' locs cells slots → T'.heap = hh → own_Rn p e below P (T'.setTop (mkF m pc' L (v :: S)))) : own_Rn p e below P (T.setTop (mkF m pc L S)) := by
  subst hp
  obtain ⟨T', X', e', st⟩ := getS2 X hx hZ hown w via eT F (g := mkF m pc L S) rfl hd
  exact own_go st (h T' X' e')
end OwnSteps
section OwnCalls
variable {p : Program} {l : Launch} {e : Env} {R : Room} {s : State} {m : MethodId} {args : Array Value} {below : List Frame} {meth : Method} {c : Code} {T : State} {locs : List Loc} {cells slots : Nat} {P : Outcome → State → Prop} {pc : Nat} {L : Array Slot} {S : List Value} {Z : State} {a0 : Array Value} {hh : Heap} {own : String} {index : Nat} {y z : MethodName} {bytes : ByteArray} {maxL : Nat} {ret : Option FieldType} {hands : List (Nat × Nat × Nat × Nat)} {rm : Room} {as' : Array Value} {Q : Option Value → Heap → List Loc → Prop}
theorem own_cS (X : Stand p l e R s m args below meth c T locs cells slots) (hx : p.tables.exec = Jvm.exec) (hZ : Z.Warmed39 s.vm) (hown : s.vm.findClass own = some m.cls) (w1 : (Cond.methodLink own index y).before a0 Z = true) (w2 : (Cond.static y).before a0 Z = true) (w3 : (Cond.initialized y.cls).before a0 Z = true) (w4 : (Cond.code y bytes maxL ret).before a0 Z = true) (hy : y.cls ≠ "java/lang/invoke/MethodHandle" ∧ y.cls ≠ "java/lang/invoke/VarHandle") (hM : MetFree l y (head1 [Cond.code y bytes maxL ret] rm) (fun a U => a = as' ∧ Z.Warmed39 U.vm ∧ U.heap = hh) (fun _ _ _ _ _ => True) (fun _ U o U' => ∃ v L, o = .returned v ∧ Q v U'.heap L ∧ FrameEnd U o U' L rm.cells rm.slots)) (eT : T.heap = hh) (argsL rest : List Value) (has : argsL.toArray = as') (hsz : L.size = c.maxLocals) (hlen : ∀ sig, parseMethodDescriptor y.desc = some sig → argsL.length = sig.parameters.length) (hst : S = argsL.reverse ++ rest) (W : Nat) (hW : (rest.map fun v => v.category).sum ≤ W) (hf : rm.frames + 1 ≤ R.frames) (hl : W + (maxL + 11) + rm.locals ≤ R.locals) (hc : cells + rm.cells ≤ R.cells) (hs : slots + rm.slots ≤ R.slots) (pc' : Nat) (hd : decode c.code pc = .ok (.invokestatic index, 3)) (hp : pc + 3 = pc') (C N : Nat) (hC : cells + rm.cells = C) (hN : slots + rm.slots = N)
    (h : ∀ v T' L', Stand p l e R s m args below meth c T' (locs ++ L') C N → Q v T'.heap L' → own_Rn p e below P (T'.setTop (mkF m pc' L (v.toList ++ rest)))) : own_Rn p e below P (T.setTop (mkF m pc L S)) := by
  subst hp hC hN has hst
  obtain ⟨v, _, ⟨T1, L1, k1, n1⟩, -, X1, ⟨Lc, hQ, q1, q2, q3⟩, st⟩ := Jvm.LawKit.callS X hx hown (mvT hZ w1) (mvT hZ w2) (mvT hZ w3) (mvT hZ w4) hy (backOf (W := W) hM hZ w4 w3 hf hl) (g := mkF m pc L (argsL.reverse ++ rest)) rfl hsz hlen rfl (by show 2 * 0 + _ ≤ W; rw [Nat.mul_zero, Nat.zero_add]; exact hW) hd (fun _ _ => ⟨rfl, eT, hc, hs⟩)
  dsimp only [Pt.U, Pt.locs, Pt.cells, Pt.slots] at X1 q1 q2 q3 st hQ
  subst q1 q2 q3
  exact own_go st (h v T1 Lc X1 hQ)
theorem own_cSW (X : Stand p l e R s m args below meth c T locs cells slots) (hx : p.tables.exec = Jvm.exec) (hZ : Z.Warmed39 s.vm) (hown : s.vm.findClass own = some m.cls) (w1 : (Cond.methodLink own index y).before a0 Z = true) (w2 : (Cond.static y).before a0 Z = true) (w3 : (Cond.initialized y.cls).before a0 Z = true) (w4 : (Cond.codeWith y bytes maxL ret hands).before a0 Z = true) (hy : y.cls ≠ "java/lang/invoke/MethodHandle" ∧ y.cls ≠ "java/lang/invoke/VarHandle") (hM : MetFree l y (head1 [Cond.codeWith y bytes maxL ret hands] rm) (fun a U => a = as' ∧ Z.Warmed39 U.vm ∧ U.heap = hh) (fun _ _ _ _ _ => True) (fun _ U o U' => ∃ v L, o = .returned v ∧ Q v U'.heap L ∧ FrameEnd U o U' L rm.cells rm.slots)) (eT : T.heap = hh) (argsL rest : List Value) (has : argsL.toArray = as') (hsz : L.size = c.maxLocals) (hlen : ∀ sig, parseMethodDescriptor y.desc = some sig → argsL.length = sig.parameters.length) (hst : S = argsL.reverse ++ rest) (W : Nat) (hW : (rest.map fun v => v.category).sum ≤ W) (hf : rm.frames + 1 ≤ R.frames) (hl : W + (maxL + 11) + rm.locals ≤ R.locals) (hc : cells + rm.cells ≤ R.cells) (hs : slots + rm.slots ≤ R.slots) (pc' : Nat) (hd : decode c.code pc = .ok (.invokestatic index, 3)) (hp : pc + 3 = pc') (C N : Nat) (hC : cells + rm.cells = C) (hN : slots + rm.slots = N)
    (h : ∀ v T' L', Stand p l e R s m args below meth c T' (locs ++ L') C N → Q v T'.heap L' → own_Rn p e below P (T'.setTop (mkF m pc' L (v.toList ++ rest)))) : own_Rn p e below P (T.setTop (mkF m pc L S)) := by
  subst hp hC hN has hst
  obtain ⟨v, _, ⟨T1, L1, k1, n1⟩, -, X1, ⟨Lc, hQ, q1, q2, q3⟩, st⟩ := Jvm.RoadKit.callSH X hx hown (mvT hZ w1) (mvT hZ w2) (mvT hZ w3) (mvT hZ w4) hy (backOfWith (W := W) hM hZ w4 w3 hf hl) (g := mkF m pc L (argsL.reverse ++ rest)) rfl hsz hlen rfl (by show 2 * 0 + _ ≤ W; rw [Nat.mul_zero, Nat.zero_add]; exact hW) hd (fun _ _ => ⟨rfl, eT, hc, hs⟩)
  dsimp only [Pt.U, Pt.locs, Pt.cells, Pt.slots] at X1 q1 q2 q3 st hQ
  subst q1 q2 q3
  exact own_go st (h v T1 Lc X1 hQ)
theorem own_cI (X : Stand p l e R s m args below meth c T locs cells slots) (hx : p.tables.exec = Jvm.exec) (hZ : Z.Warmed39 s.vm) (hy1 : y.name = "<init>") (hown : s.vm.findClass own = some m.cls) (w1 : (Cond.methodLink own index y).before a0 Z = true) (w2 : (Cond.instanceMethod y).before a0 Z = true) (w4 : (Cond.code y bytes maxL none).before a0 Z = true) (w3 : (Cond.initialized y.cls).before a0 Z = true) (hy : y.cls ≠ "java/lang/invoke/MethodHandle" ∧ y.cls ≠ "java/lang/invoke/VarHandle") (hM : MetFree l y (head1 [Cond.code y bytes maxL none] rm) (fun a U => a = as' ∧ Z.Warmed39 U.vm ∧ U.heap = hh) (fun _ _ _ _ _ => True) (fun _ U o U' => ∃ v L, o = .returned v ∧ Q v U'.heap L ∧ FrameEnd U o U' L rm.cells rm.slots)) {a : Addr} (eT : T.heap = hh) (argsL rest : List Value) (has : (.ref a :: argsL).toArray = as') (hsz : L.size = c.maxLocals) (hlen : ∀ sig, parseMethodDescriptor y.desc = some sig → argsL.length = sig.parameters.length) (hst : S = argsL.reverse ++ .ref a :: rest) (W : Nat) (hW : (rest.map fun v => v.category).sum ≤ W) (hf : rm.frames + 1 ≤ R.frames) (hl : W + (maxL + 11) + rm.locals ≤ R.locals) (hc : cells + rm.cells ≤ R.cells) (hs : slots + rm.slots ≤ R.slots) (pc' : Nat) (hd : decode c.code pc = .ok (.invokespecial index, 3)) (hp : pc + 3 = pc') (C N : Nat) (hC : cells + rm.cells = C) (hN : slots + rm.slots = N)
    (h : ∀ v T' L', Stand p l e R s m args below meth c T' (locs ++ L') C N → Q v T'.heap L' → own_Rn p e below P (T'.setTop (mkF m pc' L (v.toList ++ rest)))) : own_Rn p e below P (T.setTop (mkF m pc L S)) := by
  subst hp hC hN has hst
  obtain ⟨v, _, ⟨T1, L1, k1, n1⟩, -, X1, ⟨Lc, hQ, q1, q2, q3⟩, st⟩ := X.specialBack hx hy1 hown (mvT hZ w1) (mvT hZ w2) (mvT hZ w4) hy (backOf (W := W) hM hZ w4 w3 hf hl) (g := mkF m pc L (argsL.reverse ++ .ref a :: rest)) rfl hsz (Steps.refl _) (a := a) hlen rfl (by show 2 * 0 + _ ≤ W; rw [Nat.mul_zero, Nat.zero_add]; exact hW) hd (fun _ _ => ⟨rfl, eT, hc, hs⟩)
  dsimp only [Pt.U, Pt.locs, Pt.cells, Pt.slots] at X1 q1 q2 q3 st hQ
  subst q1 q2 q3
  exact own_go (fun t k => st.trans k) (h v T1 Lc X1 hQ)
theorem own_cV (X : Stand p l e R s m args below meth c T locs cells slots) (hx : p.tables.exec = Jvm.exec) (hZ : Z.Warmed39 s.vm) {CN : String} (hown : s.vm.findClass own = some m.cls) (w1 : (Cond.methodLink own index y).before a0 Z = true) (w2 : (Cond.declares y).before a0 Z = true) (hnf : NotFace s y) (w5 : (Cond.selects CN y z).before a0 Z = true) (w6 : (Cond.instanceMethod z).before a0 Z = true) (w4 : (Cond.code z bytes maxL ret).before a0 Z = true) (w3 : (Cond.initialized z.cls).before a0 Z = true) (hy : y.cls ≠ "java/lang/invoke/MethodHandle" ∧ y.cls ≠ "java/lang/invoke/VarHandle") (hM : MetFree l z (head1 [Cond.code z bytes maxL ret] rm) (fun a U => a = as' ∧ Z.Warmed39 U.vm ∧ U.heap = hh) (fun _ _ _ _ _ => True) (fun _ U o U' => ∃ v L, o = .returned v ∧ Q v U'.heap L ∧ FrameEnd U o U' L rm.cells rm.slots)) {a : Addr} (Ex : Exa Z hh a CN) (eT : T.heap = hh) (argsL rest : List Value) (has : (.ref a :: argsL).toArray = as') (hsz : L.size = c.maxLocals) (hlen : ∀ sig, parseMethodDescriptor y.desc = some sig → argsL.length = sig.parameters.length) (hst : S = argsL.reverse ++ .ref a :: rest) (W : Nat) (hW : (rest.map fun v => v.category).sum ≤ W) (hf : rm.frames + 1 ≤ R.frames) (hl : W + (maxL + 11) + rm.locals ≤ R.locals) (hc : cells + rm.cells ≤ R.cells) (hs : slots + rm.slots ≤ R.slots) (pc' : Nat) (hd : decode c.code pc = .ok (.invokevirtual index, 3)) (hp : pc + 3 = pc') (C N : Nat) (hC : cells + rm.cells = C) (hN : slots + rm.slots = N)
    (h : ∀ v T' L', Stand p l e R s m args below meth c T' (locs ++ L') C N → Q v T'.heap L' → own_Rn p e below P (T'.setTop (mkF m pc' L (v.toList ++ rest)))) : own_Rn p e below P (T.setTop (mkF m pc L S)) := by
  subst hp hC hN has hst
  obtain ⟨cB, kB, a1, a2, a3⟩ := isOf hZ eT Ex
  obtain ⟨v, _, ⟨T1, L1, k1, n1⟩, -, X1, ⟨Lc, hQ, q1, q2, q3⟩, st⟩ := X.virtualBack hx (y := y) (z := z) hown (mvT hZ w1) (mvT hZ w2) hnf (mvT hZ w5) (mvT hZ w6) hy (backOf (W := W) hM hZ w4 w3 hf hl) a1 a3 (g := mkF m pc L (argsL.reverse ++ .ref a :: rest)) rfl hsz (Steps.refl _) hlen rfl (by show 2 * 0 + _ ≤ W; rw [Nat.mul_zero, Nat.zero_add]; exact hW) hd (fun _ _ => ⟨rfl, eT, hc, hs⟩)
  dsimp only [Pt.U, Pt.locs, Pt.cells, Pt.slots] at X1 q1 q2 q3 st hQ
  subst q1 q2 q3
  exact own_go (fun t k => st.trans k) (h v T1 Lc X1 hQ)
theorem own_cVW (X : Stand p l e R s m args below meth c T locs cells slots) (hx : p.tables.exec = Jvm.exec) (hZ : Z.Warmed39 s.vm) {CN : String} (hown : s.vm.findClass own = some m.cls) (w1 : (Cond.methodLink own index y).before a0 Z = true) (w2 : (Cond.declares y).before a0 Z = true) (hnf : NotFace s y) (w5 : (Cond.selects CN y z).before a0 Z = true) (w6 : (Cond.instanceMethod z).before a0 Z = true) (w4 : (Cond.codeWith z bytes maxL ret hands).before a0 Z = true) (w3 : (Cond.initialized z.cls).before a0 Z = true) (hy : y.cls ≠ "java/lang/invoke/MethodHandle" ∧ y.cls ≠ "java/lang/invoke/VarHandle") (hM : MetFree l z (head1 [Cond.codeWith z bytes maxL ret hands] rm) (fun a U => a = as' ∧ Z.Warmed39 U.vm ∧ U.heap = hh) (fun _ _ _ _ _ => True) (fun _ U o U' => ∃ v L, o = .returned v ∧ Q v U'.heap L ∧ FrameEnd U o U' L rm.cells rm.slots)) {a : Addr} (Ex : Exa Z hh a CN) (eT : T.heap = hh) (argsL rest : List Value) (has : (.ref a :: argsL).toArray = as') (hsz : L.size = c.maxLocals) (hlen : ∀ sig, parseMethodDescriptor y.desc = some sig → argsL.length = sig.parameters.length) (hst : S = argsL.reverse ++ .ref a :: rest) (W : Nat) (hW : (rest.map fun v => v.category).sum ≤ W) (hf : rm.frames + 1 ≤ R.frames) (hl : W + (maxL + 11) + rm.locals ≤ R.locals) (hc : cells + rm.cells ≤ R.cells) (hs : slots + rm.slots ≤ R.slots) (pc' : Nat) (hd : decode c.code pc = .ok (.invokevirtual index, 3)) (hp : pc + 3 = pc') (C N : Nat) (hC : cells + rm.cells = C) (hN : slots + rm.slots = N)
    (h : ∀ v T' L', Stand p l e R s m args below meth c T' (locs ++ L') C N → Q v T'.heap L' → own_Rn p e below P (T'.setTop (mkF m pc' L (v.toList ++ rest)))) : own_Rn p e below P (T.setTop (mkF m pc L S)) := by
  subst hp hC hN has hst
  obtain ⟨cB, kB, a1, a2, a3⟩ := isOf hZ eT Ex
  obtain ⟨v, _, ⟨T1, L1, k1, n1⟩, -, X1, ⟨Lc, hQ, q1, q2, q3⟩, st⟩ := X.virtualBack hx (y := y) (z := z) hown (mvT hZ w1) (mvT hZ w2) hnf (mvT hZ w5) (mvT hZ w6) hy (backOfWith (W := W) hM hZ w4 w3 hf hl) a1 a3 (g := mkF m pc L (argsL.reverse ++ .ref a :: rest)) rfl hsz (Steps.refl _) hlen rfl (by show 2 * 0 + _ ≤ W; rw [Nat.mul_zero, Nat.zero_add]; exact hW) hd (fun _ _ => ⟨rfl, eT, hc, hs⟩)
  dsimp only [Pt.U, Pt.locs, Pt.cells, Pt.slots] at X1 q1 q2 q3 st hQ
  subst q1 q2 q3
  exact own_go (fun t k => st.trans k) (h v T1 Lc X1 hQ)
theorem own_cP (X : Stand p l e R s m args below meth c T locs cells slots) (hx : p.tables.exec = Jvm.exec) (hZ : Z.Warmed39 s.vm) {CN : String} (hown : s.vm.findClass own = some m.cls) (w1 : (Cond.methodLink own index y).before a0 Z = true) (w6 : (Cond.instanceMethod y).before a0 Z = true) (w5 : (Cond.selects y.cls y y).before a0 Z = true) (w7 : (Cond.privateMethod y).before a0 Z = true) (w4 : (Cond.code y bytes maxL ret).before a0 Z = true) (w3 : (Cond.initialized y.cls).before a0 Z = true) (hy : y.cls ≠ "java/lang/invoke/MethodHandle" ∧ y.cls ≠ "java/lang/invoke/VarHandle") (hM : MetFree l y (head1 [Cond.code y bytes maxL ret] rm) (fun a U => a = as' ∧ Z.Warmed39 U.vm ∧ U.heap = hh) (fun _ _ _ _ _ => True) (fun _ U o U' => ∃ v L, o = .returned v ∧ Q v U'.heap L ∧ FrameEnd U o U' L rm.cells rm.slots)) {a : Addr} (Ex : Exa Z hh a CN) (eT : T.heap = hh) (argsL rest : List Value) (has : (.ref a :: argsL).toArray = as') (hsz : L.size = c.maxLocals) (hlen : ∀ sig, parseMethodDescriptor y.desc = some sig → argsL.length = sig.parameters.length) (hst : S = argsL.reverse ++ .ref a :: rest) (W : Nat) (hW : (rest.map fun v => v.category).sum ≤ W) (hf : rm.frames + 1 ≤ R.frames) (hl : W + (maxL + 11) + rm.locals ≤ R.locals) (hc : cells + rm.cells ≤ R.cells) (hs : slots + rm.slots ≤ R.slots) (pc' : Nat) (hd : decode c.code pc = .ok (.invokevirtual index, 3)) (hp : pc + 3 = pc') (C N : Nat) (hC : cells + rm.cells = C) (hN : slots + rm.slots = N)
    (h : ∀ v T' L', Stand p l e R s m args below meth c T' (locs ++ L') C N → Q v T'.heap L' → own_Rn p e below P (T'.setTop (mkF m pc' L (v.toList ++ rest)))) : own_Rn p e below P (T.setTop (mkF m pc L S)) := by
  subst hp hC hN has hst
  obtain ⟨cq, a1, a2⟩ := Ex.cell
  obtain ⟨v, _, ⟨T1, L1, k1, n1⟩, -, X1, ⟨Lc, hQ, q1, q2, q3⟩, st⟩ := X.privateBack hx (y := y) hown (mvT hZ w1) (mvT hZ w6) (mvT hZ w5) (Cond.privateMethod_at (mvP hZ w7 (args := #[]))) (mvT hZ w4) hy (backOf (W := W) hM hZ w4 w3 hf hl) (g := mkF m pc L (argsL.reverse ++ .ref a :: rest)) rfl hsz (Steps.refl _) (a := a) (by rw [eT]; exact a1) a2 hlen rfl (by show 2 * 0 + _ ≤ W; rw [Nat.mul_zero, Nat.zero_add]; exact hW) hd (fun _ _ => ⟨rfl, eT, hc, hs⟩)
  dsimp only [Pt.U, Pt.locs, Pt.cells, Pt.slots] at X1 q1 q2 q3 st hQ
  subst q1 q2 q3
  exact own_go (fun t k => st.trans k) (h v T1 Lc X1 hQ)
end OwnCalls
section OwnCallsS
variable {p : Program} {l : Launch} {e : Env} {R : Room} {s : State} {m : MethodId} {args : Array Value} {below : List Frame} {meth : Method} {c : Code} {T : State} {locs : List Loc} {cells slots : Nat} {P : Outcome → State → Prop} {pc : Nat} {L : Array Slot} {S : List Value} {Z : State} {a0 : Array Value} {hh : Heap} {own : String} {index : Nat} {y z : MethodName} {bytes : ByteArray} {maxL : Nat} {ret : Option FieldType} {rm : Room} {as' : Array Value} {Q : Option Value → Heap → List Loc → Prop} {EL : List (String × Nat)} {vm0 : Vm} {sf : List Addr}
theorem own_sS (X : Stand p l e R (s.setVm vm0) m args below meth c T locs cells slots) (hx : p.tables.exec = Jvm.exec) (hZ : Z.Warmed39 vm0) (hown : vm0.findClass own = some m.cls) (w1 : (Cond.methodLink own index y).before a0 Z = true) (w2 : (Cond.static y).before a0 Z = true) (w3 : (Cond.initialized y.cls).before a0 Z = true) (w4 : (Cond.code y bytes maxL ret).before a0 Z = true) (hy : y.cls ≠ "java/lang/invoke/MethodHandle" ∧ y.cls ≠ "java/lang/invoke/VarHandle") (hM : MetFree l y (head1 [Cond.code y bytes maxL ret] rm) (fun a U => a = as' ∧ Z.Warmed39 U.vm ∧ U.heap = hh ∧ CHv Z EL U.vm hh ∧ ∀ x ∈ sf, Safe Z EL U.vm hh x) (fun _ _ _ _ _ => True) (fun _ U o U' => ∃ v L, o = .returned v ∧ Q v U'.heap L ∧ CHr Z EL U.vm U.heap U'.vm U'.heap ∧ ReturnedEndW U o U' L rm.cells rm.slots)) (hEL : EW Z a0 EL) (H : CHv Z EL vm0 hh) (hsf : ∀ x ∈ sf, Safe Z EL vm0 hh x) (eT : T.heap = hh) (argsL rest : List Value) (has : argsL.toArray = as') (hsz : L.size = c.maxLocals) (hlen : ∀ sig, parseMethodDescriptor y.desc = some sig → argsL.length = sig.parameters.length) (hst : S = argsL.reverse ++ rest) (W : Nat) (hW : (rest.map fun v => v.category).sum ≤ W) (hf : rm.frames + 1 ≤ R.frames) (hl : W + (maxL + 11) + rm.locals ≤ R.locals) (hc : cells + rm.cells ≤ R.cells) (hs : slots + rm.slots ≤ R.slots) (pc' : Nat) (hd : decode c.code pc = .ok (.invokestatic index, 3)) (hp : pc + 3 = pc') (C N : Nat) (hC : cells + rm.cells = C) (hN : slots + rm.slots = N)
    (h : ∀ v T' L', Stand p l e R ((s.setVm vm0).setVm T'.vm) m args below meth c T' (locs ++ L') C N → (s.setVm vm0).Since T'.vm T'.heap.size → T.heap.size ≤ T'.heap.size → Q v T'.heap L' → CHr Z EL vm0 hh T'.vm T'.heap → own_Rn p e below P (T'.setTop (mkF m pc' L (v.toList ++ rest)))) : own_Rn p e below P (T.setTop (mkF m pc L S)) := by
  subst hp hC hN has hst
  obtain ⟨v, _, ⟨T1, L1, k1, n1⟩, -, X1, hS1, hG1, ⟨Lc, hQ, q1, q2, q3, q4⟩, st⟩ := Jvm.RoadKit.callSS X hx hown (mvT (s := s.setVm vm0) hZ w1) (mvT (s := s.setVm vm0) hZ w2) (mvT (s := s.setVm vm0) hZ w3) (mvT (s := s.setVm vm0) hZ w4) hy (own_backSH (W := W) hM hZ w4 w3 hf hl hEL H hsf) (g := mkF m pc L (argsL.reverse ++ rest)) rfl hsz hlen rfl (by show 2 * 0 + _ ≤ W; rw [Nat.mul_zero, Nat.zero_add]; exact hW) hd (fun _ _ => ⟨rfl, eT, hc, hs⟩)
  dsimp only [Pt.U, Pt.locs, Pt.cells, Pt.slots] at X1 q1 q2 q3 q4 st hQ hS1 hG1
  subst q1 q2 q3
  exact own_go (fun t k => st.trans k) (h v T1 Lc X1 hS1 hG1 hQ q4)
theorem own_sI (X : Stand p l e R (s.setVm vm0) m args below meth c T locs cells slots) (hx : p.tables.exec = Jvm.exec) (hZ : Z.Warmed39 vm0) (hy1 : y.name = "<init>") (hown : vm0.findClass own = some m.cls) (w1 : (Cond.methodLink own index y).before a0 Z = true) (w2 : (Cond.instanceMethod y).before a0 Z = true) (w4 : (Cond.code y bytes maxL none).before a0 Z = true) (w3 : (Cond.initialized y.cls).before a0 Z = true) (hy : y.cls ≠ "java/lang/invoke/MethodHandle" ∧ y.cls ≠ "java/lang/invoke/VarHandle") (hM : MetFree l y (head1 [Cond.code y bytes maxL none] rm) (fun a U => a = as' ∧ Z.Warmed39 U.vm ∧ U.heap = hh ∧ CHv Z EL U.vm hh ∧ ∀ x ∈ sf, Safe Z EL U.vm hh x) (fun _ _ _ _ _ => True) (fun _ U o U' => ∃ v L, o = .returned v ∧ Q v U'.heap L ∧ CHr Z EL U.vm U.heap U'.vm U'.heap ∧ ReturnedEndW U o U' L rm.cells rm.slots)) (hEL : EW Z a0 EL) (H : CHv Z EL vm0 hh) (hsf : ∀ x ∈ sf, Safe Z EL vm0 hh x) {a : Addr} (eT : T.heap = hh) (argsL rest : List Value) (has : (.ref a :: argsL).toArray = as') (hsz : L.size = c.maxLocals) (hlen : ∀ sig, parseMethodDescriptor y.desc = some sig → argsL.length = sig.parameters.length) (hst : S = argsL.reverse ++ .ref a :: rest) (W : Nat) (hW : (rest.map fun v => v.category).sum ≤ W) (hf : rm.frames + 1 ≤ R.frames) (hl : W + (maxL + 11) + rm.locals ≤ R.locals) (hc : cells + rm.cells ≤ R.cells) (hs : slots + rm.slots ≤ R.slots) (pc' : Nat) (hd : decode c.code pc = .ok (.invokespecial index, 3)) (hp : pc + 3 = pc') (C N : Nat) (hC : cells + rm.cells = C) (hN : slots + rm.slots = N)
    (h : ∀ v T' L', Stand p l e R ((s.setVm vm0).setVm T'.vm) m args below meth c T' (locs ++ L') C N → (s.setVm vm0).Since T'.vm T'.heap.size → T.heap.size ≤ T'.heap.size → Q v T'.heap L' → CHr Z EL vm0 hh T'.vm T'.heap → own_Rn p e below P (T'.setTop (mkF m pc' L (v.toList ++ rest)))) : own_Rn p e below P (T.setTop (mkF m pc L S)) := by
  subst hp hC hN has hst
  obtain ⟨v, _, ⟨T1, L1, k1, n1⟩, -, X1, hS1, hG1, ⟨Lc, hQ, q1, q2, q3, q4⟩, st⟩ := X.specialBackS hx hy1 hown (mvT (s := s.setVm vm0) hZ w1) (mvT (s := s.setVm vm0) hZ w2) (mvT (s := s.setVm vm0) hZ w4) hy (own_backSH (W := W) hM hZ w4 w3 hf hl hEL H hsf) (g := mkF m pc L (argsL.reverse ++ .ref a :: rest)) rfl hsz (Steps.refl _) (a := a) hlen rfl (by show 2 * 0 + _ ≤ W; rw [Nat.mul_zero, Nat.zero_add]; exact hW) hd (fun _ _ => ⟨rfl, eT, hc, hs⟩)
  dsimp only [Pt.U, Pt.locs, Pt.cells, Pt.slots] at X1 q1 q2 q3 q4 st hQ hS1 hG1
  subst q1 q2 q3
  exact own_go (fun t k => st.trans k) (h v T1 Lc X1 hS1 hG1 hQ q4)
theorem own_sV (X : Stand p l e R (s.setVm vm0) m args below meth c T locs cells slots) (hx : p.tables.exec = Jvm.exec) (hZ : Z.Warmed39 vm0) {CN : String} (hown : vm0.findClass own = some m.cls) (w1 : (Cond.methodLink own index y).before a0 Z = true) (w2 : (Cond.declares y).before a0 Z = true) (hnf : NotFace (s.setVm vm0) y) (w5 : (Cond.selects CN y z).before a0 Z = true) (w6 : (Cond.instanceMethod z).before a0 Z = true) (w4 : (Cond.code z bytes maxL ret).before a0 Z = true) (w3 : (Cond.initialized z.cls).before a0 Z = true) (hy : y.cls ≠ "java/lang/invoke/MethodHandle" ∧ y.cls ≠ "java/lang/invoke/VarHandle") (hM : MetFree l z (head1 [Cond.code z bytes maxL ret] rm) (fun a U => a = as' ∧ Z.Warmed39 U.vm ∧ U.heap = hh ∧ CHv Z EL U.vm hh ∧ ∀ x ∈ sf, Safe Z EL U.vm hh x) (fun _ _ _ _ _ => True) (fun _ U o U' => ∃ v L, o = .returned v ∧ Q v U'.heap L ∧ CHr Z EL U.vm U.heap U'.vm U'.heap ∧ ReturnedEndW U o U' L rm.cells rm.slots)) (hEL : EW Z a0 EL) (H : CHv Z EL vm0 hh) (hsf : ∀ x ∈ sf, Safe Z EL vm0 hh x) {a : Addr} (Ex : Exa Z hh a CN) (eT : T.heap = hh) (argsL rest : List Value) (has : (.ref a :: argsL).toArray = as') (hsz : L.size = c.maxLocals) (hlen : ∀ sig, parseMethodDescriptor y.desc = some sig → argsL.length = sig.parameters.length) (hst : S = argsL.reverse ++ .ref a :: rest) (W : Nat) (hW : (rest.map fun v => v.category).sum ≤ W) (hf : rm.frames + 1 ≤ R.frames) (hl : W + (maxL + 11) + rm.locals ≤ R.locals) (hc : cells + rm.cells ≤ R.cells) (hs : slots + rm.slots ≤ R.slots) (pc' : Nat) (hd : decode c.code pc = .ok (.invokevirtual index, 3)) (hp : pc + 3 = pc') (C N : Nat) (hC : cells + rm.cells = C) (hN : slots + rm.slots = N)
    (h : ∀ v T' L', Stand p l e R ((s.setVm vm0).setVm T'.vm) m args below meth c T' (locs ++ L') C N → (s.setVm vm0).Since T'.vm T'.heap.size → T.heap.size ≤ T'.heap.size → Q v T'.heap L' → CHr Z EL vm0 hh T'.vm T'.heap → own_Rn p e below P (T'.setTop (mkF m pc' L (v.toList ++ rest)))) : own_Rn p e below P (T.setTop (mkF m pc L S)) := by
  subst hp hC hN has hst
  obtain ⟨cB, kB, a1, a2, a3⟩ := isOf (s := s.setVm vm0) hZ eT Ex
  obtain ⟨v, _, ⟨T1, L1, k1, n1⟩, -, X1, hS1, hG1, ⟨Lc, hQ, q1, q2, q3, q4⟩, st⟩ := X.virtualBackS hx (y := y) (z := z) hown (mvT (s := s.setVm vm0) hZ w1) (mvT (s := s.setVm vm0) hZ w2) hnf (mvT (s := s.setVm vm0) hZ w5) (mvT (s := s.setVm vm0) hZ w6) hy (own_backSH (W := W) hM hZ w4 w3 hf hl hEL H hsf) a1 a3 (g := mkF m pc L (argsL.reverse ++ .ref a :: rest)) rfl hsz (Steps.refl _) hlen rfl (by show 2 * 0 + _ ≤ W; rw [Nat.mul_zero, Nat.zero_add]; exact hW) hd (fun _ _ => ⟨rfl, eT, hc, hs⟩)
  dsimp only [Pt.U, Pt.locs, Pt.cells, Pt.slots] at X1 q1 q2 q3 q4 st hQ hS1 hG1
  subst q1 q2 q3
  exact own_go (fun t k => st.trans k) (h v T1 Lc X1 hS1 hG1 hQ q4)
end OwnCallsS
theorem own_and255 (x : Int32) : ¬ (x &&& (255 : Int32)) < 0 ∧ ¬ (255 : Int32) < (x &&& (255 : Int32)) := by
  have h := c_and x 255 (by decide)
  have e2 : (255 : Int32).toInt = 255 := rfl
  rw [Int32.lt_iff_toInt_lt, Int32.lt_iff_toInt_lt]
  have e0 : (0 : Int32).toInt = 0 := rfl
  omega
theorem own_c16 (r : Int32) (h : ¬ r < 0 ∧ ¬ (65535 : Int32) < r) : r.toUInt32.toUInt16.toUInt32.toInt32 = r := by
  have h1 := c_i2c r
  rw [Int32.lt_iff_toInt_lt, Int32.lt_iff_toInt_lt] at h
  have e2 : (65535 : Int32).toInt = 65535 := rfl
  have e0 : (0 : Int32).toInt = 0 := rfl
  apply Int32.toInt_inj.mp
  omega
theorem own_up (r : Int32) (h : ¬ r < 0 ∧ ¬ (255 : Int32) < r) : ¬ r < 0 ∧ ¬ (65535 : Int32) < r := by
  rw [Int32.lt_iff_toInt_lt, Int32.lt_iff_toInt_lt] at *
  have e2 : (65535 : Int32).toInt = 65535 := rfl
  have e3 : (255 : Int32).toInt = 255 := rfl
  have e0 : (0 : Int32).toInt = 0 := rfl
  omega
theorem own_narC (r : Int32) (h : ¬ r < 0 ∧ ¬ (255 : Int32) < r) : nar .char r = r := own_c16 r (own_up r h)
theorem own_chr (x : Int32) : ((x &&& (255 : Int32)).toUInt32.toUInt16.toUInt32.toInt32) = x &&& 255 := own_c16 _ (own_up _ (own_and255 x))
theorem own_chr_rng (x : Int32) : ¬ ((x &&& (255 : Int32)).toUInt32.toUInt16.toUInt32.toInt32) < 0 ∧ ¬ (255 : Int32) < ((x &&& (255 : Int32)).toUInt32.toUInt16.toUInt32.toInt32) := by rw [own_chr]; exact own_and255 x
theorem own_narB (x : Int32) : nar .byte (x.toInt8.toInt32) = x.toInt8.toInt32 := by
  show (x.toInt8.toInt32).toInt8.toInt32 = x.toInt8.toInt32
  rw [Int8.toInt8_toInt32]
theorem own_shr0 (x : Int32) : x >>> ((0 : Int32) &&& 31) = x := by
  apply Int32.toInt_inj.mp
  rw [c_ishr x 0 0 rfl]; simp
theorem own_shl0 (x : Int32) : x <<< ((0 : Int32) &&& 31) = x := by
  show x <<< (0 : Int32) = x
  simp
abbrev own_bs (cs : List Int32) : List Value := (cs.map (fun c => c.toInt8.toInt32)).map Value.int
theorem own_bs_len (cs : List Int32) : (own_bs cs).length = cs.length := by simp [own_bs]
theorem own_bs_app (cs ds : List Int32) : own_bs (cs ++ ds) = own_bs cs ++ own_bs ds := by simp [own_bs]
theorem own_range_getD (vs : List Value) (d : Value) : (List.range vs.length).map (fun i => vs.getD (0 + i) d) = vs := by
  apply List.ext_getElem
  · simp
  · intro i h1 h2
    simp [List.getD_eq_getElem?_getD, h2]
theorem own_clampN {n : Nat} (h : n < 2147483648) : (Int32.ofNat n).toNatClampNeg = n := Int32.toNatClampNeg_ofNat_of_lt h
theorem own_nneg {n : Nat} (h : n < 2147483648) : ¬ Int32.ofNat n < 0 := by
  rw [Int32.lt_iff_toInt_lt, Int32.toInt_ofNat_small (by omega)]
  have e0 : (0 : Int32).toInt = 0 := rfl
  omega
theorem own_ofNat_add (a b : Nat) : Int32.ofNat (a + b) = Int32.ofNat a + Int32.ofNat b := Int32.ofNat_add a b
theorem own_le15 {n : Nat} (h : n ≤ 15) : ¬ (0 : Int32) < Int32.ofNat n - 16 := by
  have c := c_isub (Int32.ofNat n) 16
  rw [Int32.toInt_ofNat_small (by omega), show (16 : Int32).toInt = 16 from rfl] at c
  have r := rng32 (Int32.ofNat n - 16)
  rw [Int32.lt_iff_toInt_lt, show (0 : Int32).toInt = 0 from rfl]
  omega
theorem own_lt16 {n : Nat} (h : n ≤ 15) : Int32.ofNat n < (16 : Int32) := by
  rw [Int32.lt_iff_toInt_lt, Int32.toInt_ofNat_small (by omega), show (16 : Int32).toInt = 16 from rfl]; omega
theorem own_ne16 {n : Nat} (h : n ≤ 15) : ¬ Int32.ofNat n = (16 : Int32) := by
  intro e
  have := congrArg Int32.toInt e
  rw [Int32.toInt_ofNat_small (by omega), show (16 : Int32).toInt = 16 from rfl] at this
  omega
theorem own_us (ds : List Int32) (h : ds.length < 2147483648) : own_bs ds = (List.range (Int32.ofNat ds.length).toNatClampNeg).map fun i => (own_bs ds).getD ((0 : Int32).toNatClampNeg + i) (.int 0) := by
  rw [own_clampN h]
  have e : (0 : Int32).toNatClampNeg = 0 := rfl
  rw [e, ← own_bs_len ds, own_range_getD]
theorem own_cat {Z : State} {h : Heap} {b : Addr} {k : ClassId} {z : Int32} {cs ds es : List Int32} {dp nn : Int32} {m : Nat} (hes : es = cs ++ ds) (h16 : cs.length < 2147483648 ∧ ds.length < 2147483648) (hm : ds.length ≤ m) (hd : dp = Int32.ofNat cs.length) (hn : nn = Int32.ofNat ds.length)
    (F : Arv Z h b k .byte z ((own_bs cs ++ List.replicate m (Value.int 0)).take dp.toNatClampNeg ++ own_bs ds ++ (own_bs cs ++ List.replicate m (Value.int 0)).drop (dp.toNatClampNeg + nn.toNatClampNeg)) (.int 0)) : Arv Z h b k .byte z (own_bs es) (.int 0) := by
  subst hd hn
  rw [own_clampN h16.1, own_clampN h16.2] at F
  have e1 : (own_bs cs ++ List.replicate m (Value.int 0)).take cs.length = own_bs cs := by
    rw [← own_bs_len cs, List.take_left]
  have e2 : (own_bs cs ++ List.replicate m (Value.int 0)).drop (cs.length + ds.length) = List.replicate (m - ds.length) (.int 0) := by
    rw [← own_bs_len cs, List.drop_append, List.drop_replicate]
    simp
  rw [e1, e2, ← own_bs_app, ← hes] at F
  exact F.pad (fun i => (pad_rep (own_bs es) (.int 0) (m - ds.length) i).symm)
theorem own_notI {Z : State} {a0 : Array Value} {C : String} {x z : MethodName} (w : (Cond.selects C x z).before a0 Z = true) : ∃ c k, Z.vm.findClass z.cls = some c ∧ Z.vm.classes[c]? = some k ∧ k.isInterface = false := by
  obtain ⟨c, r, m, -, -, h3, -, k, h5, h6⟩ := Cond.selects_spec w
  exact ⟨m.cls, k, findClass_of_methodNamed h3, h5, h6⟩
theorem own_sameM {Z : State} {a0 : Array Value} {C : String} {x y z : MethodName} (w1 : (Cond.instanceMethod y).before a0 Z = true) (w : (Cond.selects C x z).before a0 Z = true) (e : z.cls = y.cls) (hy : y.cls ≠ "java/lang/invoke/MethodHandle" ∧ y.cls ≠ "java/lang/invoke/VarHandle") : (Cond.sameMethod y.cls y.cls y.name y.desc).before a0 Z = true := by
  obtain ⟨c, k, h1, h2, h3⟩ := own_notI w
  rw [e] at h1
  obtain ⟨mk, methM, hnamed, hmethM, -, -⟩ := Cond.instanceMethod_spec w1
  have hfound : Z.methodFound? y.cls y.name y.desc = some mk := State.methodFound?_of_named hnamed hy
  simp only [Cond.before, Cond.holds, Cond.value, h1, hfound, hnamed, h2]
  simp [h3]
theorem own_nf {s : State} {a0 : Array Value} {C : String} {x y z : MethodName} (w : (Cond.selects C x z).before a0 s = true) (e : z.cls = y.cls) : NotFace s y := by
  obtain ⟨c, k, h1, h2, h3⟩ := own_notI w
  intro r0 hr
  have := findClass_of_methodNamed hr
  rw [← e, h1] at this
  cases this
  exact ⟨k, h2, h3⟩
theorem own_selP {Z : State} {a0 : Array Value} {C : String} {y : MethodName} (w : (Cond.selects C y y).before a0 Z = true) (wp : (Cond.privateMethod y).before a0 Z = true) (wi : (Cond.instanceMethod y).before a0 Z = true) (hy : y.cls ≠ "java/lang/invoke/MethodHandle" ∧ y.cls ≠ "java/lang/invoke/VarHandle") : (Cond.selects y.cls y y).before a0 Z = true := by
  obtain ⟨c, k, h1, h2, h3⟩ := own_notI w
  exact Jvm.Stand.selects_self_of_private h1 h2 h3 (Cond.privateMethod_at wp) wi hy
theorem own_arvH {Z : State} {h : Heap} {a : Addr} {k : ClassId} {ty : FieldType} {z : Int32} {vs : List Value} {dv : Value} (F : Arh Z h a k ty z [] vs dv) : Arv Z h a k ty z vs dv := by
  obtain ⟨c, A, q, S, N, H, G⟩ := F
  exact ⟨c, A, q, S, N, H, G⟩
theorem own_hasL {c : Cell} : ∀ (vs : List Value) (i : Nat), (∀ j v, vs[j]? = some v → c.slots[i + j]? = some v) → HasL c i vs
  | [], _, _ => trivial
  | v :: r, i, h => ⟨h 0 v rfl, own_hasL r (i + 1) fun j w hj => by have := h (j + 1) w hj; rwa [show i + (j + 1) = i + 1 + j by omega] at this⟩
theorem own_arvZ {s : State} {args : Array Value} {t : Term} {a : Addr} {ty : FieldType} {n : Int32} {vs : List Value} {dv : Value} (hf : Fit s) (et : t.eval args s none [] s = some (.ref a)) (h3 : (Cond.arrayOf t ty).value args s none s [] = some true)
    (h4 : (Term.length t).eval args s none [] s = some (.int n)) (hz : ¬ n < 0) (hl : n.toNatClampNeg = vs.length) (hs : vs.length < 2147483648) (hel : ∀ (i : Nat) (v : Value), vs[i]? = some v → (Term.elem t (.int (Int32.ofNat i))).eval args s none [] s = some v) : ∃ k, Arv s s.heap a k ty n vs dv := by
  obtain ⟨c, A⟩ := Arr.start et h3
  obtain ⟨sd, SA, hev, harr, -⟩ := Term.length_spec h4
  cases hev.symm.trans et
  cases harr.symm.trans (Arr.fin (U := s) (Vm.Alike.refl _) A)
  have h31 := Jvm.Free.SBG.length_lt hev harr h4
  have e : c.slots.size.toInt32 = n := by
    have q := len_f hev harr h31
    rw [h4] at q
    exact (Value.int.inj (Option.some.inj q)).symm
  refine ⟨_, Arv.start hf A h31 e hz hl (own_hasL vs 0 fun j v hj => ?_)⟩
  have hj2 : j < vs.length := (List.getElem?_eq_some_iff.mp hj).1
  have q := (elem_in (hel j v hj) hev (Term.int_eval _) A.1).2
  rw [Int32.toNatClampNeg_ofNat_of_lt (by omega)] at q
  rwa [Nat.zero_add]
theorem own_strZ {s : State} {args : Array Value} {t : Term} {x : Addr} {n : Int32} {cs : List Int32} (hf : Fit s) (et : t.eval args s none [] s = some (.ref x)) (h1 : (Cond.exactly t "java/lang/String").value args s none s [] = some true) (h2 : (Cond.eq (.field t "java/lang/String" "coder" "B") (.int 0)).value args s none s [] = some true)
    (h3 : (Cond.arrayOf (.field t "java/lang/String" "value" "[B") .byte).value args s none s [] = some true) (h4 : (Cond.eq (.length (.field t "java/lang/String" "value" "[B")) (.int n)).value args s none s [] = some true) (hz : ¬ n < 0) (hl : n.toNatClampNeg = cs.length) (hs : cs.length < 2147483648)
    (hel : ∀ (i : Nat) (v : Value), (own_bs cs)[i]? = some v → (Term.elem (.field t "java/lang/String" "value" "[B") (.int (Int32.ofNat i))).eval args s none [] s = some v) :
    ∃ (tb : Addr) (kb : ClassId), Exa s s.heap x "java/lang/String" ∧ Fld s s.heap x "java/lang/String" "value" "[B" (.ref tb) ∧ Fld s s.heap x "java/lang/String" "coder" "B" (.int (0 : Int32)) ∧ Arv s s.heap tb kb .byte n (own_bs cs) (.int 0) := by
  obtain ⟨tb, ev⟩ := arr_v h3
  obtain ⟨kb, K⟩ := own_arvZ (dv := .int 0) hf ev h3 (eqv_i (Term.int_eval _) h4) hz (by rw [hl, own_bs_len]) (by rw [own_bs_len]; exact hs) hel
  refine ⟨tb, kb, Exa.start et h1, Fld.start ?_, Fld.start ?_, K⟩
  · rw [← fld_at et]; exact ev
  · have := eqv_i (Term.int_eval _) h2
    rw [fld_at et] at this; exact this
theorem own_eqR {Z : State} {args : Array Value} {X F : Term} {a : Addr} (hF : F.eval args Z none [] Z = some (.ref a)) (h : (Cond.eq X F).value args Z none Z [] = some true) : X.eval args Z none [] Z = some (.ref a) := by
  obtain ⟨x, y, e1, e2, k1, k2⟩ := cmp_v (Or.inl h)
  cases hF.symm.trans e2
  have hx : x.isRef = true := by
    cases x <;> first | rfl | exact k1.1 | (obtain ⟨z, hz⟩ := k1; cases hz)
  have q := gotT (eq_R e1 e2 hx rfl) h
  rw [e1, q]
def own_fv (ds : List Int32) (t0 t1 t2 : Addr) : Value := if ([115, 104, 97, 45, 50, 53, 54] : List Int32) = ds then .ref t0 else if ([115, 104, 97, 45, 51, 56, 52] : List Int32) = ds then .ref t1 else if ([115, 104, 97, 45, 53, 49, 50] : List Int32) = ds then .ref t2 else .null
theorem own_l7 {a0 a1 a2 a3 a4 a5 a6 b0 b1 b2 b3 b4 b5 b6 : Int32} (h : ([a0, a1, a2, a3, a4, a5, a6] : List Int32) = [b0, b1, b2, b3, b4, b5, b6]) : a0 = b0 ∧ a1 = b1 ∧ a2 = b2 ∧ a3 = b3 ∧ a4 = b4 ∧ a5 = b5 ∧ a6 = b6 := by
  simp only [List.cons.injEq, and_true] at h
  exact h
theorem own_m9 (x : Int32) : ∃ K : Nat, K < 9 ∧ ((x &&& (2147483647 : Int32)) % (9 : Int32)) = Int32.ofNat K := by
  have h := c_and x 2147483647 (by decide)
  have h2 := (c_irem (x &&& 2147483647) 9 9 rfl).1 h.1
  refine ⟨((x &&& (2147483647 : Int32)) % (9 : Int32)).toInt.toNat, by omega, ?_⟩
  apply Int32.toInt_inj.mp
  rw [Int32.toInt_ofNat_small (by omega)]
  omega

theorem own_ef_rmVals (m : MethodId) (va : Addr) (kv : ClassId) (t0 : Addr) (t1 : Addr) (t2 : Addr) : entryFrame m #[] 0 = mkF m 0 #[] [] := by first | (simp [entryFrame, mkF, argsToLocals, Value.category]; done) | rfl
theorem own_pn_com_example_cartiglio_cartiglio_core_HashAlgorithm : plainName "com/example/cartiglio/cartiglio/core/HashAlgorithm" = true := by first | (simp [plainName, overriddenIn]; done) | decide +kernel
theorem own_d7_0 : decode prog_5_method_1_code 0 = .ok (.getstatic 13, 3) := by decide +kernel
theorem own_d7_3 : decode prog_5_method_1_code 3 = .ok (.invokevirtual 17, 3) := by decide +kernel
theorem own_d7_6 : decode prog_5_method_1_code 6 = .ok (.checkcast 18, 3) := by decide +kernel
theorem own_d7_9 : decode prog_5_method_1_code 9 = .ok (.areturn, 1) := by decide +kernel
def Q_rmVals (Z : State) (va : Addr) (kv : ClassId) (t0 : Addr) (t1 : Addr) (t2 : Addr) (h0 : Heap) (n0 : Nat) (vq : Option Value) (hhq : Heap) (Lq : List Loc) : Prop := ∃ (v : Addr), vq = some (.ref v) ∧ Fr n0 Lq ∧ Keep h0 hhq [] ∧ Arv Z hhq v kv (.object "com/example/cartiglio/cartiglio/core/HashAlgorithm") (3 : Int32) [(.ref t0), (.ref t1), (.ref t2)] .null
set_option maxRecDepth 65536 in
set_option maxHeartbeats 40000000 in
theorem rmVals (l : Launch) (Z : State) (a0 : Array Value) (hw : ∀ d ∈ tables_1, d.before a0 Z = true) (ws : List Jvm.Cond) (va : Addr) (kv : ClassId) (t0 : Addr) (t1 : Addr) (t2 : Addr) (h0 : Heap) (n0 : Nat) (Z0 : n0 ≤ h0.size) (OV : Sta Z Z.heap "com/example/cartiglio/cartiglio/core/HashAlgorithm" "$VALUES" "[Lcom/example/cartiglio/cartiglio/core/HashAlgorithm;" (.ref va)) (EV : Exa Z Z.heap va "[Lcom/example/cartiglio/cartiglio/core/HashAlgorithm;") (AV : Arv Z Z.heap va kv (.object "com/example/cartiglio/cartiglio/core/HashAlgorithm") (3 : Int32) [(.ref t0), (.ref t1), (.ref t2)] .null) (X00 : Old Z n0 h0) :
    MetFree l (⟨"com/example/cartiglio/cartiglio/core/HashAlgorithm", "values", "()[Lcom/example/cartiglio/cartiglio/core/HashAlgorithm;"⟩ : MethodName) (head1 (Jvm.Cond.code (⟨"com/example/cartiglio/cartiglio/core/HashAlgorithm", "values", "()[Lcom/example/cartiglio/cartiglio/core/HashAlgorithm;"⟩ : MethodName) prog_5_method_1_code 0 (some (.array (.object "com/example/cartiglio/cartiglio/core/HashAlgorithm"))) :: ws) ({ frames := 1, cells := 1, slots := 3, locals := 14 } : Room)) (fun aq U => aq = #[] ∧ Z.Warmed39 U.vm ∧ U.heap = h0) (fun _ _ _ _ _ => True) (fun _ U oq U' => ∃ vq Lq, oq = .returned vq ∧ Q_rmVals Z va kv t0 t1 t2 h0 n0 vq U'.heap Lq ∧ FrameEnd U oq U' Lq ({ frames := 1, cells := 1, slots := 3, locals := 14 } : Room).cells ({ frames := 1, cells := 1, slots := 3, locals := 14 } : Room).slots) := by
  refine MetFree.of_bodySF (plainFor_of_name own_pn_com_example_cartiglio_cartiglio_core_HashAlgorithm) hisR ?_
  intro p e s m args below meth c s₁ Bd hml0 hP hK
  obtain ⟨rfl, hZ, hh⟩ := hP
  have hx := Bd.exec
  have hby := Bd.bytes
  have hml : c.maxLocals = 0 := hml0
  have hown : s.vm.findClass "com/example/cartiglio/cartiglio/core/HashAlgorithm" = some m.cls := findClass_of_methodNamed Bd.named
  have hnm := (name_of_methodNamed Bd.named Bd.method).1
  have X0 : Stand p l e ({ frames := 1, cells := 1, slots := 3, locals := 14 } : Room) s m #[] below meth c s₁ [] 0 0 := Stand.of_body Bd
  have e0 : s₁.heap = h0 := by rw [← hh, Bd.state]; rfl
  have N0 := Fr.nil n0
  have K0 : Keep h0 h0 [] := Keep.refl _ _
  refine own_go (S' := s₁.setTop (mkF m 0 #[] [])) (fun tq kq => castTop (own_ef_rmVals m va kv t0 t1 t2) kq) ?_
  refine own_gS X0 hx hZ hown (host := "") (Or.inl (hw _ (own_mi 38 rfl))) Via.refl e0 (OV.ext X00.2) 3 (hb hby own_d7_0) rfl ?_
  intro T1 X1 e1
  have F2 : Arv Z h0 va kv (.object "com/example/cartiglio/cartiglio/core/HashAlgorithm") (3 : Int32) [(.ref t0), (.ref t1), (.ref t2)] .null := AV.ext X00.2
  have F3 : Exa Z h0 va "[Lcom/example/cartiglio/cartiglio/core/HashAlgorithm;" := EV.ext X00.2
  obtain ⟨T4, h4, X4, e4, E4, R4, A4, st4⟩ := cloneH X1 hx hZ hown (hw _ (own_mi 40 rfl)) (hw _ (own_mi 41 rfl)) (hw _ (own_mi 45 rfl)) (hw _ (own_mi 43 rfl)) (hw _ (own_mi 44 rfl)) (hw _ (own_mi 46 rfl)) e1 F2.arh F3 (g := (mkF m 3 #[] [(.ref va)])) rfl (by rw [hml]; rfl) rfl (hb hby own_d7_3) (by decide) (W := 0) (cap := 3) (by show 2 * 0 + _ ≤ _; exact Nat.le_of_eq rfl) (by decide) (by decide) (by decide) (by decide)
  obtain ⟨b4, g4⟩ : ∃ z, z = h0.size := ⟨_, rfl⟩
  rw [← g4] at R4 A4 st4
  refine own_go st4 ?_
  have sz5 : h0.size ≤ h4.size := E4.1
  have K5 := K0.ext E4
  have gn4 : n0 ≤ b4 := (Nat.le_trans (Nat.le_trans Z0 (Nat.le_refl _)) (Nat.le_of_eq g4.symm))
  have V4 := own_arvH R4
  have lt6 : @LT.lt Nat _ b4 h4.size := A4.lt
  show own_Rn p e below _ (T4.setTop (mkF m 6 #[] [(.ref b4)]))
  obtain ⟨T7, X7, e7, st7⟩ := castY X4 hx hZ hown (hw _ (own_mi 51 rfl)) e4 (Ins.self A4) (g := (mkF m 6 #[] [(.ref b4)])) rfl rfl (hb hby own_d7_6)
  refine own_go st7 ?_
  show own_Rn p e below _ (T7.setTop (mkF m 9 #[] [(.ref b4)]))
  exact own_ret X7 (v := some (.ref b4)) (fun h => by rw [Bd.returns] at h; cases h) (fun fs hr => X7.areturnOut hx rfl Bd.returns rfl (hb hby own_d7_9) hr) (by rw [e7]; exact ⟨b4, rfl, N0, K5, V4⟩) (by decide) (by decide)
theorem own_ef_rmRNN (m : MethodId) (o : Addr) : entryFrame m #[(.ref o)] 1 = mkF m 0 #[.val (.ref o)] [] := by first | (simp [entryFrame, mkF, argsToLocals, Value.category]; done) | rfl
theorem own_pn_java_util_Objects : plainName "java/util/Objects" = true := by first | (simp [plainName, overriddenIn]; done) | decide +kernel
theorem own_d13_0 : decode jdk_31_method_10_code 0 = .ok (.aload_n 0, 1) := by decide +kernel
theorem own_d13_1 : decode jdk_31_method_10_code 1 = .ok (.ifnonnull 11, 3) := by decide +kernel
theorem own_d13_12 : decode jdk_31_method_10_code 12 = .ok (.aload_n 0, 1) := by decide +kernel
theorem own_d13_13 : decode jdk_31_method_10_code 13 = .ok (.areturn, 1) := by decide +kernel
def Q_rmRNN (Z : State) (o : Addr) (h0 : Heap) (n0 : Nat) (vq : Option Value) (hhq : Heap) (Lq : List Loc) : Prop := vq = some (.ref o) ∧ Fr n0 Lq ∧ hhq = h0
set_option maxRecDepth 65536 in
set_option maxHeartbeats 40000000 in
theorem rmRNN (l : Launch) (Z : State) (a0 : Array Value) (hw : ∀ d ∈ tables_1, d.before a0 Z = true) (ws : List Jvm.Cond) (o : Addr) (h0 : Heap) (n0 : Nat) (Z0 : n0 ≤ h0.size)  :
    MetFree l (⟨"java/util/Objects", "requireNonNull", "(Ljava/lang/Object;)Ljava/lang/Object;"⟩ : MethodName) (head1 (Jvm.Cond.code (⟨"java/util/Objects", "requireNonNull", "(Ljava/lang/Object;)Ljava/lang/Object;"⟩ : MethodName) jdk_31_method_10_code 1 (some (.object "java/lang/Object")) :: ws) ({ frames := 0, cells := 0, slots := 0, locals := 0 } : Room)) (fun aq U => aq = #[(.ref o)] ∧ Z.Warmed39 U.vm ∧ U.heap = h0) (fun _ _ _ _ _ => True) (fun _ U oq U' => ∃ vq Lq, oq = .returned vq ∧ Q_rmRNN Z o h0 n0 vq U'.heap Lq ∧ FrameEnd U oq U' Lq ({ frames := 0, cells := 0, slots := 0, locals := 0 } : Room).cells ({ frames := 0, cells := 0, slots := 0, locals := 0 } : Room).slots) := by
  refine MetFree.of_bodySF (plainFor_of_name own_pn_java_util_Objects) hisR ?_
  intro p e s m args below meth c s₁ Bd hml0 hP hK
  obtain ⟨rfl, hZ, hh⟩ := hP
  have hx := Bd.exec
  have hby := Bd.bytes
  have hml : c.maxLocals = 1 := hml0
  have hown : s.vm.findClass "java/util/Objects" = some m.cls := findClass_of_methodNamed Bd.named
  have hnm := (name_of_methodNamed Bd.named Bd.method).1
  have X0 : Stand p l e ({ frames := 0, cells := 0, slots := 0, locals := 0 } : Room) s m #[(.ref o)] below meth c s₁ [] 0 0 := Stand.of_body Bd
  have e0 : s₁.heap = h0 := by rw [← hh, Bd.state]; rfl
  have N0 := Fr.nil n0
  have K0 : Keep h0 h0 [] := Keep.refl _ _
  refine own_go (S' := s₁.setTop (mkF m 0 #[.val (.ref o)] [])) (fun tq kq => castTop (own_ef_rmRNN m o) kq) ?_
  refine own_aln X0 hx 1 (hb hby own_d13_0) rfl rfl rfl ?_
  refine own_go (fun tq kq => XS.ifnonnullYes X0.here hx rfl (pc0 := 1) (pc' := 12) rfl (hb hby own_d13_1) rfl (by decide) (by decide) kq) ?_
  show own_Rn p e below _ (s₁.setTop (mkF m 12 #[.val (.ref o)] []))
  refine own_aln X0 hx 13 (hb hby own_d13_12) rfl rfl rfl ?_
  exact own_ret X0 (v := some (.ref o)) (fun h => by rw [Bd.returns] at h; cases h) (fun fs hr => X0.areturnOut hx rfl Bd.returns rfl (hb hby own_d13_13) hr) (by rw [e0]; exact ⟨rfl, N0, rfl⟩) (by decide) (by decide)
theorem own_ef_rmOI (m : MethodId) (o : Addr) (v : Addr) : entryFrame m #[(.ref o), (.ref v)] 2 = mkF m 0 #[.val (.ref o), .val (.ref v)] [] := by first | (simp [entryFrame, mkF, argsToLocals, Value.category]; done) | rfl
theorem own_pn_java_util_Optional : plainName "java/util/Optional" = true := by first | (simp [plainName, overriddenIn]; done) | decide +kernel
theorem own_d14_0 : decode jdk_32_method_2_code 0 = .ok (.aload_n 0, 1) := by decide +kernel
theorem own_d14_1 : decode jdk_32_method_2_code 1 = .ok (.invokespecial 7, 3) := by decide +kernel
theorem own_d14_4 : decode jdk_32_method_2_code 4 = .ok (.aload_n 0, 1) := by decide +kernel
theorem own_d14_5 : decode jdk_32_method_2_code 5 = .ok (.aload_n 1, 1) := by decide +kernel
theorem own_d14_6 : decode jdk_32_method_2_code 6 = .ok (.putfield 13, 3) := by decide +kernel
theorem own_fd_Ljava2flang2fObject3b : parseFieldDescriptor "Ljava/lang/Object;" = some (.object "java/lang/Object") := by decide +kernel
theorem own_d14_9 : decode jdk_32_method_2_code 9 = .ok (.return_, 1) := by decide +kernel
def Q_rmOI (Z : State) (o : Addr) (v : Addr) (h0 : Heap) (n0 : Nat) (vq : Option Value) (hhq : Heap) (Lq : List Loc) : Prop := vq = none ∧ Fr n0 Lq ∧ Keep h0 hhq [o] ∧ Fld Z hhq o "java/util/Optional" "value" "Ljava/lang/Object;" (.ref v)
set_option maxRecDepth 65536 in
set_option maxHeartbeats 40000000 in
theorem rmOI (l : Launch) (Z : State) (a0 : Array Value) (hw : ∀ d ∈ tables_1, d.before a0 Z = true) (ws : List Jvm.Cond) (o : Addr) (v : Addr) (h0 : Heap) (n0 : Nat) (Z0 : n0 ≤ h0.size) (Pm0 : Exa Z h0 o "java/util/Optional") (Pm1 : n0 ≤ o) (Pm2 : Fld Z h0 o "java/util/Optional" "value" "Ljava/lang/Object;" .null) :
    MetFree l (⟨"java/util/Optional", "<init>", "(Ljava/lang/Object;)V"⟩ : MethodName) (head1 (Jvm.Cond.code (⟨"java/util/Optional", "<init>", "(Ljava/lang/Object;)V"⟩ : MethodName) jdk_32_method_2_code 2 none :: ws) ({ frames := 1, cells := 0, slots := 0, locals := 12 } : Room)) (fun aq U => aq = #[(.ref o), (.ref v)] ∧ Z.Warmed39 U.vm ∧ U.heap = h0) (fun _ _ _ _ _ => True) (fun _ U oq U' => ∃ vq Lq, oq = .returned vq ∧ Q_rmOI Z o v h0 n0 vq U'.heap Lq ∧ FrameEnd U oq U' Lq ({ frames := 1, cells := 0, slots := 0, locals := 12 } : Room).cells ({ frames := 1, cells := 0, slots := 0, locals := 12 } : Room).slots) := by
  refine MetFree.of_bodySF (plainFor_of_name own_pn_java_util_Optional) hisR ?_
  intro p e s m args below meth c s₁ Bd hml0 hP hK
  obtain ⟨rfl, hZ, hh⟩ := hP
  have hx := Bd.exec
  have hby := Bd.bytes
  have hml : c.maxLocals = 2 := hml0
  have hown : s.vm.findClass "java/util/Optional" = some m.cls := findClass_of_methodNamed Bd.named
  have hnm := (name_of_methodNamed Bd.named Bd.method).1
  have X0 : Stand p l e ({ frames := 1, cells := 0, slots := 0, locals := 12 } : Room) s m #[(.ref o), (.ref v)] below meth c s₁ [] 0 0 := Stand.of_body Bd
  have e0 : s₁.heap = h0 := by rw [← hh, Bd.state]; rfl
  have N0 := Fr.nil n0
  have K0 : Keep h0 h0 [o] := Keep.refl _ _
  refine own_go (S' := s₁.setTop (mkF m 0 #[.val (.ref o), .val (.ref v)] [])) (fun tq kq => castTop (own_ef_rmOI m o v) kq) ?_
  have lt1 : @LT.lt Nat _ o h0.size := Pm0.lt
  refine own_aln X0 hx 1 (hb hby own_d14_0) rfl rfl rfl ?_
  obtain ⟨T2, X2, e2, st2⟩ := initO X0 hx hZ hown (hw _ (own_mi 93 rfl)) (hw _ (own_mi 13 rfl)) (hw _ (own_mi 14 rfl)) e0 (g := (mkF m 1 #[.val (.ref o), .val (.ref v)] [(.ref o)])) rfl (by rw [hml]; rfl) rfl (hb hby own_d14_1) (by decide) (W := 0) (by show 2 * 0 + _ ≤ _; exact Nat.le_of_eq rfl) (by decide)
  refine own_go st2 ?_
  show own_Rn p e below _ (T2.setTop (mkF m 4 #[.val (.ref o), .val (.ref v)] []))
  refine own_aln X2 hx 5 (hb hby own_d14_4) rfl rfl rfl ?_
  refine own_aln X2 hx 6 (hb hby own_d14_5) rfl rfl rfl ?_
  obtain ⟨T3, h3, X3, e3, W3, st3⟩ := putF X2 hx hZ hown (host := "") (Or.inl (hw _ (own_mi 75 rfl))) Via.refl e2 Pm2 Pm0 (Or.inr ⟨(hw _ (own_mi 76 rfl)), rfl, hnm⟩) (hw _ (own_mi 84 rfl)) (ty := (.object "java/lang/Object")) own_fd_Ljava2flang2fObject3b rfl rfl (g := (mkF m 6 #[.val (.ref o), .val (.ref v)] [(.ref v), (.ref o)])) rfl rfl (hb hby own_d14_6)
  refine own_go st3 ?_
  have N3 := Fr.snoc X3 N0 Pm1
  have Fw3 := Pm2.same W3
  have sz4 : h0.size ≤ h3.size := Nat.le_of_eq (Wr.size W3).symm
  have K4 := K0.wr W3 (Or.inl (List.mem_of_getElem? (i := 0) rfl))
  show own_Rn p e below _ (T3.setTop (mkF m 9 #[.val (.ref o), .val (.ref v)] []))
  exact own_ret X3 (v := none) (fun _ => rfl) (fun fs hr => X3.returnOut hx Bd.returns (hb hby own_d14_9) hr) (by rw [e3]; exact ⟨rfl, N3, K4, Fw3⟩) (by decide) (by decide)
theorem own_ef_rmOf (m : MethodId) (v : Addr) : entryFrame m #[(.ref v)] 1 = mkF m 0 #[.val (.ref v)] [] := by first | (simp [entryFrame, mkF, argsToLocals, Value.category]; done) | rfl
theorem own_d12_0 : decode jdk_32_method_3_code 0 = .ok (.new 2, 3) := by decide +kernel
theorem own_d12_3 : decode jdk_32_method_3_code 3 = .ok (.dup, 1) := by decide +kernel
theorem own_d12_4 : decode jdk_32_method_3_code 4 = .ok (.aload_n 0, 1) := by decide +kernel
theorem own_d12_5 : decode jdk_32_method_3_code 5 = .ok (.invokestatic 17, 3) := by decide +kernel
theorem own_pd_28Ljava2flang2fObject3b29Ljava2flang2fObject3b : parseMethodDescriptor "(Ljava/lang/Object;)Ljava/lang/Object;" = some ⟨[(.object "java/lang/Object")], some (.object "java/lang/Object")⟩ := by decide +kernel
theorem own_d12_8 : decode jdk_32_method_3_code 8 = .ok (.invokespecial 23, 3) := by decide +kernel
theorem own_pd_28Ljava2flang2fObject3b29V : parseMethodDescriptor "(Ljava/lang/Object;)V" = some ⟨[(.object "java/lang/Object")], none⟩ := by decide +kernel
theorem own_d12_11 : decode jdk_32_method_3_code 11 = .ok (.areturn, 1) := by decide +kernel
def Q_rmOf (Z : State) (v : Addr) (h0 : Heap) (n0 : Nat) (vq : Option Value) (hhq : Heap) (Lq : List Loc) : Prop := ∃ (o : Addr), vq = some (.ref o) ∧ Fr n0 Lq ∧ Keep h0 hhq [] ∧ Exa Z hhq o "java/util/Optional" ∧ Fld Z hhq o "java/util/Optional" "value" "Ljava/lang/Object;" (.ref v)
set_option maxRecDepth 65536 in
set_option maxHeartbeats 40000000 in
theorem rmOf (l : Launch) (Z : State) (a0 : Array Value) (hw : ∀ d ∈ tables_1, d.before a0 Z = true) (ws : List Jvm.Cond) (v : Addr) (h0 : Heap) (n0 : Nat) (Z0 : n0 ≤ h0.size)  :
    MetFree l (⟨"java/util/Optional", "of", "(Ljava/lang/Object;)Ljava/util/Optional;"⟩ : MethodName) (head1 (Jvm.Cond.code (⟨"java/util/Optional", "of", "(Ljava/lang/Object;)Ljava/util/Optional;"⟩ : MethodName) jdk_32_method_3_code 1 (some (.object "java/util/Optional")) :: ws) ({ frames := 2, cells := 1, slots := 1, locals := 26 } : Room)) (fun aq U => aq = #[(.ref v)] ∧ Z.Warmed39 U.vm ∧ U.heap = h0) (fun _ _ _ _ _ => True) (fun _ U oq U' => ∃ vq Lq, oq = .returned vq ∧ Q_rmOf Z v h0 n0 vq U'.heap Lq ∧ FrameEnd U oq U' Lq ({ frames := 2, cells := 1, slots := 1, locals := 26 } : Room).cells ({ frames := 2, cells := 1, slots := 1, locals := 26 } : Room).slots) := by
  refine MetFree.of_bodySF (plainFor_of_name own_pn_java_util_Optional) hisR ?_
  intro p e s m args below meth c s₁ Bd hml0 hP hK
  obtain ⟨rfl, hZ, hh⟩ := hP
  have hx := Bd.exec
  have hby := Bd.bytes
  have hml : c.maxLocals = 1 := hml0
  have hown : s.vm.findClass "java/util/Optional" = some m.cls := findClass_of_methodNamed Bd.named
  have hnm := (name_of_methodNamed Bd.named Bd.method).1
  have X0 : Stand p l e ({ frames := 2, cells := 1, slots := 1, locals := 26 } : Room) s m #[(.ref v)] below meth c s₁ [] 0 0 := Stand.of_body Bd
  have e0 : s₁.heap = h0 := by rw [← hh, Bd.state]; rfl
  have N0 := Fr.nil n0
  have K0 : Keep h0 h0 [] := Keep.refl _ _
  refine own_go (S' := s₁.setTop (mkF m 0 #[.val (.ref v)] [])) (fun tq kq => castTop (own_ef_rmOf m v) kq) ?_
  obtain ⟨T1, h1, X1, e1, E1, A1, D1, -, st1⟩ := newO X0 hx hZ hown (hw _ (own_mi 83 rfl)) (hw _ (own_mi 84 rfl)) (hw _ (own_mi 67 rfl)) e0 (g := (mkF m 0 #[.val (.ref v)] [])) rfl (hb hby own_d12_0) (by decide) (by decide)
  obtain ⟨b1, g1⟩ : ∃ z, z = h0.size := ⟨_, rfl⟩
  rw [← g1] at A1 D1 st1
  refine own_go st1 ?_
  have sz2 : h0.size ≤ h1.size := E1.1
  have K2 := K0.ext E1
  have lt3 : @LT.lt Nat _ b1 h1.size := A1.lt
  have gn1 : n0 ≤ b1 := (Nat.le_trans (Nat.le_trans Z0 (Nat.le_refl _)) (Nat.le_of_eq g1.symm))
  have D1_value : Fld Z h1 b1 "java/util/Optional" "value" "Ljava/lang/Object;" .null := D1 (Or.inr (hw _ (own_mi 76 rfl))) (ty := (.object "java/lang/Object")) own_fd_Ljava2flang2fObject3b
  show own_Rn p e below _ (T1.setTop (mkF m 3 #[.val (.ref v)] [(.ref b1)]))
  refine own_dp X1 hx 4 (hb hby own_d12_3) rfl rfl ?_
  refine own_aln X1 hx 5 (hb hby own_d12_4) rfl rfl rfl ?_
  have Zn4 : n0 ≤ h1.size := (Nat.le_trans Z0 sz2)
  refine own_cS X1 hx hZ (y := (⟨"java/util/Objects", "requireNonNull", "(Ljava/lang/Object;)Ljava/lang/Object;"⟩ : MethodName)) hown (hw _ (own_mi 85 rfl)) (hw _ (own_mi 86 rfl)) (hw _ (own_mi 87 rfl)) (hw _ (own_mi 88 rfl)) (by decide) (rmRNN l Z a0 hw [] (v) h1 n0 Zn4 ) e1 [(.ref v)] [(.ref b1), (.ref b1)] rfl (by rw [hml]; rfl) (lenOf own_pd_28Ljava2flang2fObject3b29Ljava2flang2fObject3b rfl) rfl 2 (Nat.le_of_eq rfl) (by decide) (by decide) (by decide : 1 + 0 ≤ _) (by decide : 1 + 0 ≤ _) 8 (hb hby own_d12_5) rfl 1 1 rfl rfl ?_
  intro rv4 T4 Lc4 X4 hQ4
  obtain ⟨rfl, Nq4, eh4⟩ := hQ4
  have N4 := Fr.app N0 Nq4
  show own_Rn p e below _ (T4.setTop (mkF m 8 #[.val (.ref v)] [(.ref v), (.ref b1), (.ref b1)]))
  have Zn5 : n0 ≤ h1.size := (Nat.le_trans Z0 sz2)
  refine own_cI X4 hx hZ (y := (⟨"java/util/Optional", "<init>", "(Ljava/lang/Object;)V"⟩ : MethodName)) rfl hown (hw _ (own_mi 89 rfl)) (hw _ (own_mi 90 rfl)) (hw _ (own_mi 92 rfl)) (hw _ (own_mi 67 rfl)) (by decide) (rmOI l Z a0 hw [] (b1) (v) h1 n0 Zn5 A1 gn1 D1_value) eh4 [(.ref v)] [(.ref b1)] rfl (by rw [hml]; rfl) (lenOf own_pd_28Ljava2flang2fObject3b29V rfl) rfl 1 (Nat.le_of_eq rfl) (by decide) (by decide) (by decide : 1 + 0 ≤ _) (by decide : 1 + 0 ≤ _) 11 (hb hby own_d12_8) rfl 1 1 rfl rfl ?_
  intro rv5 T5 Lc5 X5 hQ5
  obtain ⟨rfl, Nq5, Kq5, G0_5⟩ := hQ5
  have N5 := Fr.app N4 Nq5
  have sz6 : h1.size ≤ T5.heap.size := Kq5.1
  have K6 := K2.trans Kq5 (allS (Or.inr (Nat.le_trans (Nat.le_refl _) (Nat.le_of_eq g1.symm))) all0)
  show own_Rn p e below _ (T5.setTop (mkF m 11 #[.val (.ref v)] [(.ref b1)]))
  have F7 : Exa Z T5.heap b1 "java/util/Optional" := (A1.keep Kq5)
  exact own_ret X5 (v := some (.ref b1)) (fun h => by rw [Bd.returns] at h; cases h) (fun fs hr => X5.areturnOut hx rfl Bd.returns rfl (hb hby own_d12_11) hr) (⟨b1, rfl, N5, K6, F7, G0_5⟩) (by decide) (by decide)
theorem own_ef_rmEm (m : MethodId) (oe : Addr) : entryFrame m #[] 1 = mkF m 0 #[.unset] [] := by first | (simp [entryFrame, mkF, argsToLocals, Value.category]; done) | rfl
theorem own_d10_0 : decode jdk_32_method_1_code 0 = .ok (.getstatic 1, 3) := by decide +kernel
theorem own_d10_3 : decode jdk_32_method_1_code 3 = .ok (.astore_n 0, 1) := by decide +kernel
theorem own_d10_4 : decode jdk_32_method_1_code 4 = .ok (.aload_n 0, 1) := by decide +kernel
theorem own_d10_5 : decode jdk_32_method_1_code 5 = .ok (.areturn, 1) := by decide +kernel
def Q_rmEm (Z : State) (oe : Addr) (h0 : Heap) (n0 : Nat) (vq : Option Value) (hhq : Heap) (Lq : List Loc) : Prop := vq = some (.ref oe) ∧ Fr n0 Lq ∧ hhq = h0
set_option maxRecDepth 65536 in
set_option maxHeartbeats 40000000 in
theorem rmEm (l : Launch) (Z : State) (a0 : Array Value) (hw : ∀ d ∈ tables_1, d.before a0 Z = true) (ws : List Jvm.Cond) (oe : Addr) (h0 : Heap) (n0 : Nat) (Z0 : n0 ≤ h0.size) (OE : Sta Z Z.heap "java/util/Optional" "EMPTY" "Ljava/util/Optional;" (.ref oe)) (X00 : Old Z n0 h0) :
    MetFree l (⟨"java/util/Optional", "empty", "()Ljava/util/Optional;"⟩ : MethodName) (head1 (Jvm.Cond.code (⟨"java/util/Optional", "empty", "()Ljava/util/Optional;"⟩ : MethodName) jdk_32_method_1_code 1 (some (.object "java/util/Optional")) :: ws) ({ frames := 0, cells := 0, slots := 0, locals := 0 } : Room)) (fun aq U => aq = #[] ∧ Z.Warmed39 U.vm ∧ U.heap = h0) (fun _ _ _ _ _ => True) (fun _ U oq U' => ∃ vq Lq, oq = .returned vq ∧ Q_rmEm Z oe h0 n0 vq U'.heap Lq ∧ FrameEnd U oq U' Lq ({ frames := 0, cells := 0, slots := 0, locals := 0 } : Room).cells ({ frames := 0, cells := 0, slots := 0, locals := 0 } : Room).slots) := by
  refine MetFree.of_bodySF (plainFor_of_name own_pn_java_util_Optional) hisR ?_
  intro p e s m args below meth c s₁ Bd hml0 hP hK
  obtain ⟨rfl, hZ, hh⟩ := hP
  have hx := Bd.exec
  have hby := Bd.bytes
  have hml : c.maxLocals = 1 := hml0
  have hown : s.vm.findClass "java/util/Optional" = some m.cls := findClass_of_methodNamed Bd.named
  have hnm := (name_of_methodNamed Bd.named Bd.method).1
  have X0 : Stand p l e ({ frames := 0, cells := 0, slots := 0, locals := 0 } : Room) s m #[] below meth c s₁ [] 0 0 := Stand.of_body Bd
  have e0 : s₁.heap = h0 := by rw [← hh, Bd.state]; rfl
  have N0 := Fr.nil n0
  have K0 : Keep h0 h0 [] := Keep.refl _ _
  refine own_go (S' := s₁.setTop (mkF m 0 #[.unset] [])) (fun tq kq => castTop (own_ef_rmEm m oe) kq) ?_
  refine own_gS X0 hx hZ hown (host := "") (Or.inl (hw _ (own_mi 69 rfl))) Via.refl e0 (OE.ext X00.2) 3 (hb hby own_d10_0) rfl ?_
  intro T1 X1 e1
  refine own_asn X1 hx #[.val (.ref oe)] 4 (hb hby own_d10_3) rfl rfl rfl ?_
  refine own_aln X1 hx 5 (hb hby own_d10_4) rfl rfl rfl ?_
  exact own_ret X1 (v := some (.ref oe)) (fun h => by rw [Bd.returns] at h; cases h) (fun fs hr => X1.areturnOut hx rfl Bd.returns rfl (hb hby own_d10_5) hr) (by rw [e1]; exact ⟨rfl, N0, rfl⟩) (by decide) (by decide)
theorem own_ef_rmFind (m : MethodId) (va : Addr) (kv : ClassId) (t0 : Addr) (t1 : Addr) (t2 : Addr) (x0 : Addr) (y0 : Addr) (kz0 : ClassId) (x1 : Addr) (y1 : Addr) (kz1 : ClassId) (x2 : Addr) (y2 : Addr) (kz2 : ClassId) (oe : Addr) (st : Addr) (tt : Addr) (kk : ClassId) (ds : List Int32) (G1 : Int32) : entryFrame m #[(.ref st)] 5 = mkF m 0 #[.val (.ref st), .unset, .unset, .unset, .unset] [] := by first | (simp [entryFrame, mkF, argsToLocals, Value.category]; done) | rfl
theorem own_d6_0 : decode prog_5_method_4_code 0 = .ok (.invokestatic 42, 3) := by decide +kernel
theorem own_pd_28295bLcom2fexample2fcartiglio2fcartiglio2fcore2fHashAlgorithm3b : parseMethodDescriptor "()[Lcom/example/cartiglio/cartiglio/core/HashAlgorithm;" = some ⟨[], some (.array (.object "com/example/cartiglio/cartiglio/core/HashAlgorithm"))⟩ := by decide +kernel
theorem own_d6_3 : decode prog_5_method_4_code 3 = .ok (.astore_n 1, 1) := by decide +kernel
theorem own_d6_4 : decode prog_5_method_4_code 4 = .ok (.aload_n 1, 1) := by decide +kernel
theorem own_d6_5 : decode prog_5_method_4_code 5 = .ok (.arraylength, 1) := by decide +kernel
theorem own_d6_6 : decode prog_5_method_4_code 6 = .ok (.istore_n 2, 1) := by decide +kernel
theorem own_d6_7 : decode prog_5_method_4_code 7 = .ok (.iconst 0, 1) := by decide +kernel
theorem own_d6_8 : decode prog_5_method_4_code 8 = .ok (.istore_n 3, 1) := by decide +kernel
theorem own_d6_9 : decode prog_5_method_4_code 9 = .ok (.iload_n 3, 1) := by decide +kernel
theorem own_d6_10 : decode prog_5_method_4_code 10 = .ok (.iload_n 2, 1) := by decide +kernel
theorem own_d6_11 : decode prog_5_method_4_code 11 = .ok (.if_icmp .ge 32, 3) := by decide +kernel
theorem own_d6_14 : decode prog_5_method_4_code 14 = .ok (.aload_n 1, 1) := by decide +kernel
theorem own_d6_15 : decode prog_5_method_4_code 15 = .ok (.iload_n 3, 1) := by decide +kernel
theorem own_d6_16 : decode prog_5_method_4_code 16 = .ok (.aaload, 1) := by decide +kernel
theorem own_d6_17 : decode prog_5_method_4_code 17 = .ok (.astore 4, 2) := by decide +kernel
theorem own_d6_19 : decode prog_5_method_4_code 19 = .ok (.aload 4, 2) := by decide +kernel
theorem own_d6_21 : decode prog_5_method_4_code 21 = .ok (.getfield 32, 3) := by decide +kernel
theorem own_d6_24 : decode prog_5_method_4_code 24 = .ok (.aload_n 0, 1) := by decide +kernel
theorem own_d6_25 : decode prog_5_method_4_code 25 = .ok (.invokevirtual 46, 3) := by decide +kernel
theorem own_pEq {p : Program} {l : Launch} {e : Env} {R : Room} {s : State} {m : MethodId} {args : Array Value} {below : List Frame} {meth : Method} {c : Code} {T : State} {locs : List Loc} {cells slots : Nat} {P : Outcome → State → Prop} {pc : Nat} {L : Array Slot} {S : List Value} {Z : State} {a0 : Array Value} {hh : Heap} {own : String} {index : Nat} (X : Stand p l e R s m args below meth c T locs cells slots) (hx : p.tables.exec = Jvm.exec) (hZ : Z.Warmed39 s.vm)
    (hown : s.vm.findClass own = some m.cls) (w1 : (Cond.methodLink own index (⟨"java/lang/String", "equals", "(Ljava/lang/Object;)Z"⟩ : MethodName)).before a0 Z = true) (w2 : (Cond.declares (⟨"java/lang/String", "equals", "(Ljava/lang/Object;)Z"⟩ : MethodName)).before a0 Z = true) (hnf : NotFace s (⟨"java/lang/String", "equals", "(Ljava/lang/Object;)Z"⟩ : MethodName)) (w5 : (Cond.selects "java/lang/String" (⟨"java/lang/String", "equals", "(Ljava/lang/Object;)Z"⟩ : MethodName) (⟨"java/lang/String", "equals", "(Ljava/lang/Object;)Z"⟩ : MethodName)).before a0 Z = true) (w6 : (Cond.instanceMethod (⟨"java/lang/String", "equals", "(Ljava/lang/Object;)Z"⟩ : MethodName)).before a0 Z = true)
    (hlen : ∀ sig, parseMethodDescriptor "(Ljava/lang/Object;)Z" = some sig → ([Value.null] : List Value).length = sig.parameters.length) (heq : ∀ d ∈ StrChars.Road.wordsEq, d.before a0 Z = true) {kI : Nat} (wi : (Cond.instantiable "java/lang/String" kI).before a0 Z = true)
    {x t : Addr} {kb : ClassId} {cs : List Int32} {cd N2 : Int32} {vs : List Value} (E : Exa Z hh x "java/lang/String") (V : Fld Z hh x "java/lang/String" "value" "[B" (.ref t)) (C : Fld Z hh x "java/lang/String" "coder" "B" (.int cd)) (K : Arv Z hh t kb .byte N2 vs (.int 0)) (hc : StrChars.Road.CodA cs cd N2 vs) (hb : ∀ c ∈ cs, ¬ c < 0 ∧ ¬ (65535 : Int32) < c) (l2 : cs.length ≤ 4000)
    {y t' : Addr} {kb' : ClassId} {ds : List Int32} {cd' N2' : Int32} {vs' : List Value} (E' : Exa Z hh y "java/lang/String") (V' : Fld Z hh y "java/lang/String" "value" "[B" (.ref t')) (C' : Fld Z hh y "java/lang/String" "coder" "B" (.int cd')) (K' : Arv Z hh t' kb' .byte N2' vs' (.int 0)) (hc' : StrChars.Road.CodA ds cd' N2' vs') (hb' : ∀ c ∈ ds, ¬ c < 0 ∧ ¬ (65535 : Int32) < c) (l2' : ds.length ≤ 4000)
    {z : Int32} (S0 : Sta Z hh "java/lang/String" "COMPACT_STRINGS" "Z" (.int z)) (hz : ¬ z = 0) (hfr : 2 ≤ R.frames) (W : Nat) (hlo : W + 28 ≤ R.locals) (eT : T.heap = hh) (rest : List Value) (hsz : L.size = c.maxLocals) (hst : S = .ref y :: .ref x :: rest) (hW : (rest.map fun v => v.category).sum ≤ W) (hc0 : cells + 0 ≤ R.cells) (hs0 : slots + 0 ≤ R.slots) (pc' : Nat) (hd : decode c.code pc = .ok (.invokevirtual index, 3)) (hp : pc + 3 = pc')
    (h : ∀ v T', Stand p l e R s m args below meth c T' locs cells slots → T'.heap = hh → ((v = some (.int 1) ∧ cs = ds) ∨ (v = some (.int 0) ∧ ¬ cs = ds)) → own_Rn p e below P (T'.setTop (mkF m pc' L (v.toList ++ rest)))) : own_Rn p e below P (T.setTop (mkF m pc L S)) := by
  subst hp hst
  obtain ⟨cB, kB, a1, a2, a3⟩ := isOf hZ eT E
  obtain ⟨v, _, ⟨T1, L1, k1, n1⟩, -, X1, ⟨Lc, ⟨hv, hL0, eh⟩, q1, q2, q3⟩, st⟩ := X.virtualBack hx (y := (⟨"java/lang/String", "equals", "(Ljava/lang/Object;)Z"⟩ : MethodName)) (z := (⟨"java/lang/String", "equals", "(Ljava/lang/Object;)Z"⟩ : MethodName)) hown (mvT hZ w1) (mvT hZ w2) hnf (mvT hZ w5) (mvT hZ w6) (by decide) (StrChars.Road.eqW (W := W) hZ heq wi E V C K hc hb l2 E' V' C' K' hc' hb' l2' S0 hz hfr hlo) a1 a3 (g := mkF m pc L (.ref y :: .ref x :: rest)) rfl hsz (Steps.refl _) (argsL := [.ref y]) (rest := rest) hlen rfl (by show 2 * 0 + _ ≤ W; rw [Nat.mul_zero, Nat.zero_add]; exact hW) hd (fun _ _ => ⟨rfl, eT, hc0, hs0⟩)
  dsimp only [Pt.U, Pt.locs, Pt.cells, Pt.slots] at X1 q1 q2 q3 st eh
  subst hL0
  simp only [List.append_nil, Nat.add_zero] at q1 q2 q3
  subst q1 q2 q3
  exact own_go (fun t k => st.trans k) (h v T1 X1 eh hv)
theorem own_pd_28Ljava2flang2fObject3b29Z : parseMethodDescriptor "(Ljava/lang/Object;)Z" = some ⟨[(.object "java/lang/Object")], some .boolean⟩ := by decide +kernel
theorem own_d6_28 : decode prog_5_method_4_code 28 = .ok (.ifCond .eq 9, 3) := by decide +kernel
theorem own_d6_31 : decode prog_5_method_4_code 31 = .ok (.aload 4, 2) := by decide +kernel
theorem own_d6_33 : decode prog_5_method_4_code 33 = .ok (.invokestatic 52, 3) := by decide +kernel
theorem own_pd_28Ljava2flang2fObject3b29Ljava2futil2fOptional3b : parseMethodDescriptor "(Ljava/lang/Object;)Ljava/util/Optional;" = some ⟨[(.object "java/lang/Object")], some (.object "java/util/Optional")⟩ := by decide +kernel
theorem own_d6_36 : decode prog_5_method_4_code 36 = .ok (.areturn, 1) := by decide +kernel
theorem own_d6_37 : decode prog_5_method_4_code 37 = .ok (.iinc 3 1, 3) := by decide +kernel
theorem own_d6_40 : decode prog_5_method_4_code 40 = .ok (.goto (-31), 3) := by decide +kernel
theorem own_d6_43 : decode prog_5_method_4_code 43 = .ok (.invokestatic 58, 3) := by decide +kernel
theorem own_pd_2829Ljava2futil2fOptional3b : parseMethodDescriptor "()Ljava/util/Optional;" = some ⟨[], some (.object "java/util/Optional")⟩ := by decide +kernel
theorem own_d6_46 : decode prog_5_method_4_code 46 = .ok (.areturn, 1) := by decide +kernel
def Q_rmFind (Z : State) (va : Addr) (kv : ClassId) (t0 : Addr) (t1 : Addr) (t2 : Addr) (x0 : Addr) (y0 : Addr) (kz0 : ClassId) (x1 : Addr) (y1 : Addr) (kz1 : ClassId) (x2 : Addr) (y2 : Addr) (kz2 : ClassId) (oe : Addr) (st : Addr) (tt : Addr) (kk : ClassId) (ds : List Int32) (G1 : Int32) (h0 : Heap) (n0 : Nat) (vq : Option Value) (hhq : Heap) (Lq : List Loc) : Prop := ∃ (o : Addr), vq = some (.ref o) ∧ Fr n0 Lq ∧ Keep h0 hhq [] ∧ Exa Z hhq o "java/util/Optional" ∧ Fld Z hhq o "java/util/Optional" "value" "Ljava/lang/Object;" (own_fv ds t0 t1 t2)
set_option maxRecDepth 65536 in
set_option maxHeartbeats 40000000 in
theorem rmFind (l : Launch) (Z : State) (a0 : Array Value) (hw : ∀ d ∈ tables_1, d.before a0 Z = true) (ws : List Jvm.Cond) (va : Addr) (kv : ClassId) (t0 : Addr) (t1 : Addr) (t2 : Addr) (x0 : Addr) (y0 : Addr) (kz0 : ClassId) (x1 : Addr) (y1 : Addr) (kz1 : ClassId) (x2 : Addr) (y2 : Addr) (kz2 : ClassId) (oe : Addr) (st : Addr) (tt : Addr) (kk : ClassId) (ds : List Int32) (G1 : Int32) (h0 : Heap) (n0 : Nat) (Z0 : n0 ≤ h0.size) (OV : Sta Z Z.heap "com/example/cartiglio/cartiglio/core/HashAlgorithm" "$VALUES" "[Lcom/example/cartiglio/cartiglio/core/HashAlgorithm;" (.ref va)) (EV : Exa Z Z.heap va "[Lcom/example/cartiglio/cartiglio/core/HashAlgorithm;") (AV : Arv Z Z.heap va kv (.object "com/example/cartiglio/cartiglio/core/HashAlgorithm") (3 : Int32) [(.ref t0), (.ref t1), (.ref t2)] .null) (OE : Sta Z Z.heap "java/util/Optional" "EMPTY" "Ljava/util/Optional;" (.ref oe)) (ZE : Exa Z Z.heap oe "java/util/Optional") (ZF : Fld Z Z.heap oe "java/util/Optional" "value" "Ljava/lang/Object;" .null) (ZT0 : Exa Z Z.heap t0 "com/example/cartiglio/cartiglio/core/HashAlgorithm") (ZN0 : Fld Z Z.heap t0 "com/example/cartiglio/cartiglio/core/HashAlgorithm" "ianaName" "Ljava/lang/String;" (.ref x0)) (ZX00 : Exa Z Z.heap x0 "java/lang/String") (ZX01 : Fld Z Z.heap x0 "java/lang/String" "value" "[B" (.ref y0)) (ZX02 : Fld Z Z.heap x0 "java/lang/String" "coder" "B" (.int (0 : Int32))) (ZX03 : Arv Z Z.heap y0 kz0 .byte (Int32.ofNat ([115, 104, 97, 45, 50, 53, 54] : List Int32).length) (own_bs ([115, 104, 97, 45, 50, 53, 54] : List Int32)) (.int 0)) (ZT1 : Exa Z Z.heap t1 "com/example/cartiglio/cartiglio/core/HashAlgorithm") (ZN1 : Fld Z Z.heap t1 "com/example/cartiglio/cartiglio/core/HashAlgorithm" "ianaName" "Ljava/lang/String;" (.ref x1)) (ZX10 : Exa Z Z.heap x1 "java/lang/String") (ZX11 : Fld Z Z.heap x1 "java/lang/String" "value" "[B" (.ref y1)) (ZX12 : Fld Z Z.heap x1 "java/lang/String" "coder" "B" (.int (0 : Int32))) (ZX13 : Arv Z Z.heap y1 kz1 .byte (Int32.ofNat ([115, 104, 97, 45, 51, 56, 52] : List Int32).length) (own_bs ([115, 104, 97, 45, 51, 56, 52] : List Int32)) (.int 0)) (ZT2 : Exa Z Z.heap t2 "com/example/cartiglio/cartiglio/core/HashAlgorithm") (ZN2 : Fld Z Z.heap t2 "com/example/cartiglio/cartiglio/core/HashAlgorithm" "ianaName" "Ljava/lang/String;" (.ref x2)) (ZX20 : Exa Z Z.heap x2 "java/lang/String") (ZX21 : Fld Z Z.heap x2 "java/lang/String" "value" "[B" (.ref y2)) (ZX22 : Fld Z Z.heap x2 "java/lang/String" "coder" "B" (.int (0 : Int32))) (ZX23 : Arv Z Z.heap y2 kz2 .byte (Int32.ofNat ([115, 104, 97, 45, 53, 49, 50] : List Int32).length) (own_bs ([115, 104, 97, 45, 53, 49, 50] : List Int32)) (.int 0)) (Pm24 : Exa Z h0 st "java/lang/String") (Pm25 : Fld Z h0 st "java/lang/String" "value" "[B" (.ref tt)) (Pm26 : Fld Z h0 st "java/lang/String" "coder" "B" (.int (0 : Int32))) (Pm27 : Arv Z h0 tt kk .byte (Int32.ofNat ds.length) (own_bs ds) (.int 0)) (hd : (∀ c ∈ ds, ¬ c < 0 ∧ ¬ (255 : Int32) < c)) (hl : (ds.length ≤ 8)) (O2 : Sta Z Z.heap "java/lang/String" "COMPACT_STRINGS" "Z" (.int G1)) (P5 : (¬ (G1 = (0 : Int32)))) (X00 : Old Z n0 h0) :
    MetFree l (⟨"com/example/cartiglio/cartiglio/core/HashAlgorithm", "byIanaName", "(Ljava/lang/String;)Ljava/util/Optional;"⟩ : MethodName) (head1 (Jvm.Cond.code (⟨"com/example/cartiglio/cartiglio/core/HashAlgorithm", "byIanaName", "(Ljava/lang/String;)Ljava/util/Optional;"⟩ : MethodName) prog_5_method_4_code 5 (some (.object "java/util/Optional")) :: ws) ({ frames := 3, cells := 2, slots := 4, locals := 38 } : Room)) (fun aq U => aq = #[(.ref st)] ∧ Z.Warmed39 U.vm ∧ U.heap = h0) (fun _ _ _ _ _ => True) (fun _ U oq U' => ∃ vq Lq, oq = .returned vq ∧ Q_rmFind Z va kv t0 t1 t2 x0 y0 kz0 x1 y1 kz1 x2 y2 kz2 oe st tt kk ds G1 h0 n0 vq U'.heap Lq ∧ FrameEnd U oq U' Lq ({ frames := 3, cells := 2, slots := 4, locals := 38 } : Room).cells ({ frames := 3, cells := 2, slots := 4, locals := 38 } : Room).slots) := by
  refine MetFree.of_bodySF (plainFor_of_name own_pn_com_example_cartiglio_cartiglio_core_HashAlgorithm) hisR ?_
  intro p e s m args below meth c s₁ Bd hml0 hP hK
  obtain ⟨rfl, hZ, hh⟩ := hP
  have hx := Bd.exec
  have hby := Bd.bytes
  have hml : c.maxLocals = 5 := hml0
  have hown : s.vm.findClass "com/example/cartiglio/cartiglio/core/HashAlgorithm" = some m.cls := findClass_of_methodNamed Bd.named
  have hnm := (name_of_methodNamed Bd.named Bd.method).1
  have X0 : Stand p l e ({ frames := 3, cells := 2, slots := 4, locals := 38 } : Room) s m #[(.ref st)] below meth c s₁ [] 0 0 := Stand.of_body Bd
  have e0 : s₁.heap = h0 := by rw [← hh, Bd.state]; rfl
  have N0 := Fr.nil n0
  have K0 : Keep h0 h0 [] := Keep.refl _ _
  refine own_go (S' := s₁.setTop (mkF m 0 #[.val (.ref st), .unset, .unset, .unset, .unset] [])) (fun tq kq => castTop (own_ef_rmFind m va kv t0 t1 t2 x0 y0 kz0 x1 y1 kz1 x2 y2 kz2 oe st tt kk ds G1) kq) ?_
  have lt1 : @LT.lt Nat _ st h0.size := Pm24.lt
  have lt2 : @LT.lt Nat _ tt h0.size := Pm27.lt
  have heq : ∀ d ∈ StrChars.Road.wordsEq, d.before a0 Z = true := fun d hd => hw d ((by decide +kernel : ∀ d ∈ StrChars.Road.wordsEq, d ∈ tables_1) d hd)
  have hp3 : ∀ c ∈ ([115, 104, 97, 45, 50, 53, 54] : List Int32), ¬ c < 0 ∧ ¬ (255 : Int32) < c := by
    intro c hc
    simp only [List.mem_cons, List.not_mem_nil, or_false] at hc
    rcases hc with rfl | rfl | rfl | rfl | rfl | rfl | rfl
    · exact (by decide)
    · exact (by decide)
    · exact (by decide)
    · exact (by decide)
    · exact (by decide)
    · exact (by decide)
    · exact (by decide)
  have hp4 : ∀ c ∈ ([115, 104, 97, 45, 51, 56, 52] : List Int32), ¬ c < 0 ∧ ¬ (255 : Int32) < c := by
    intro c hc
    simp only [List.mem_cons, List.not_mem_nil, or_false] at hc
    rcases hc with rfl | rfl | rfl | rfl | rfl | rfl | rfl
    · exact (by decide)
    · exact (by decide)
    · exact (by decide)
    · exact (by decide)
    · exact (by decide)
    · exact (by decide)
    · exact (by decide)
  have hp5 : ∀ c ∈ ([115, 104, 97, 45, 53, 49, 50] : List Int32), ¬ c < 0 ∧ ¬ (255 : Int32) < c := by
    intro c hc
    simp only [List.mem_cons, List.not_mem_nil, or_false] at hc
    rcases hc with rfl | rfl | rfl | rfl | rfl | rfl | rfl
    · exact (by decide)
    · exact (by decide)
    · exact (by decide)
    · exact (by decide)
    · exact (by decide)
    · exact (by decide)
    · exact (by decide)
  have Zn6 : n0 ≤ h0.size := (Nat.le_trans Z0 (Nat.le_refl _))
  refine own_cS X0 hx hZ (y := (⟨"com/example/cartiglio/cartiglio/core/HashAlgorithm", "values", "()[Lcom/example/cartiglio/cartiglio/core/HashAlgorithm;"⟩ : MethodName)) hown (hw _ (own_mi 35 rfl)) (hw _ (own_mi 36 rfl)) (hw _ (own_mi 33 rfl)) (hw _ (own_mi 37 rfl)) (by decide) (rmVals l Z a0 hw [] (va) (kv) (t0) (t1) (t2) h0 n0 Zn6 (OV) EV AV X00) e0 [] [] rfl (by rw [hml]; rfl) (lenOf own_pd_28295bLcom2fexample2fcartiglio2fcartiglio2fcore2fHashAlgorithm3b rfl) rfl 0 (Nat.le_of_eq rfl) (by decide) (by decide) (by decide : 0 + 1 ≤ _) (by decide : 0 + 3 ≤ _) 3 (hb hby own_d6_0) rfl 1 3 rfl rfl ?_
  intro rv6 T6 Lc6 X6 hQ6
  obtain ⟨vv, rfl, Nq6, Kq6, G0_6⟩ := hQ6
  have N6 := Fr.app N0 Nq6
  have sz7 : h0.size ≤ T6.heap.size := Kq6.1
  have K7 := K0.trans Kq6 all0
  have lt8 : @LT.lt Nat _ vv T6.heap.size := G0_6.lt
  show own_Rn p e below _ (T6.setTop (mkF m 3 #[.val (.ref st), .unset, .unset, .unset, .unset] [(.ref vv)]))
  refine own_asn X6 hx #[.val (.ref st), .val (.ref vv), .unset, .unset, .unset] 4 (hb hby own_d6_3) rfl rfl rfl ?_
  refine own_aln X6 hx 5 (hb hby own_d6_4) rfl rfl rfl ?_
  refine own_alen X6 hx hZ rfl G0_6 6 (hb hby own_d6_5) rfl ?_
  refine own_isn X6 hx #[.val (.ref st), .val (.ref vv), .val (.int (3 : Int32)), .unset, .unset] 7 (hb hby own_d6_6) rfl rfl ?_
  refine own_ic X6 hx (0 : Int32) 8 (hb hby own_d6_7) rfl rfl ?_
  refine own_isn X6 hx #[.val (.ref st), .val (.ref vv), .val (.int (3 : Int32)), .val (.int (0 : Int32)), .unset] 9 (hb hby own_d6_8) rfl rfl ?_
  refine own_iln X6 hx 10 (hb hby own_d6_9) rfl rfl ?_
  refine own_iln X6 hx 11 (hb hby own_d6_10) rfl rfl ?_
  refine own_icN X6 hx 14 (hb hby own_d6_11) rfl (tlt (by decide : (0 : Int32) < (3 : Int32))).2.1 ?_
  refine own_aln X6 hx 15 (hb hby own_d6_14) rfl rfl rfl ?_
  refine own_iln X6 hx 16 (hb hby own_d6_15) rfl rfl ?_
  obtain ⟨cl9, Ar9, q9, Sz9, Nn9, Hs9, G9⟩ := id G0_6
  have in9 := inb_of (j := (0 : Int32)) Sz9 ⟨by decide, by decide⟩
  refine own_go (fun tq kq => X6.aaload hx (j := (0 : Int32)) (v := (.ref t0)) Ar9.1 (State.isArrayOf_alike hZ.alike Ar9.2.1) rfl Ar9.2.2 in9 (Hs9.at in9 rfl) (g := (mkF m 16 #[.val (.ref st), .val (.ref vv), .val (.int (3 : Int32)), .val (.int (0 : Int32)), .unset] [(.int (0 : Int32)), (.ref vv)])) rfl rfl (hb hby own_d6_16) tq kq) ?_
  show own_Rn p e below _ (T6.setTop (mkF m 17 #[.val (.ref st), .val (.ref vv), .val (.int (3 : Int32)), .val (.int (0 : Int32)), .unset] [(.ref t0)]))
  refine own_as X6 hx #[.val (.ref st), .val (.ref vv), .val (.int (3 : Int32)), .val (.int (0 : Int32)), .val (.ref t0)] 19 (hb hby own_d6_17) rfl rfl rfl ?_
  refine own_al X6 hx 21 (hb hby own_d6_19) rfl rfl rfl ?_
  have F11 : Old Z n0 T6.heap := (X00.keep Kq6 all0)
  have F10 : Fld Z T6.heap t0 "com/example/cartiglio/cartiglio/core/HashAlgorithm" "ianaName" "Ljava/lang/String;" (.ref x0) := ZN0.ext F11.2
  refine own_gF X6 hx hZ hown (host := "") (Or.inl (hw _ (own_mi 53 rfl))) Via.refl rfl F10 24 (hb hby own_d6_21) rfl ?_
  intro T12 X12 e12
  refine own_aln X12 hx 25 (hb hby own_d6_24) rfl rfl rfl ?_
  have F13 : Exa Z T6.heap x0 "java/lang/String" := ZX00.ext F11.2
  have F14 : Fld Z T6.heap x0 "java/lang/String" "value" "[B" (.ref y0) := ZX01.ext F11.2
  have F15 : Fld Z T6.heap x0 "java/lang/String" "coder" "B" (.int (0 : Int32)) := ZX02.ext F11.2
  have F16 : Arv Z T6.heap y0 kz0 .byte (Int32.ofNat ([115, 104, 97, 45, 50, 53, 54] : List Int32).length) (own_bs ([115, 104, 97, 45, 50, 53, 54] : List Int32)) (.int 0) := ZX03.ext F11.2
  have F17 : Exa Z T6.heap st "java/lang/String" := (Pm24.keep Kq6)
  have F18 : Fld Z T6.heap st "java/lang/String" "value" "[B" (.ref tt) := (Pm25.keep Kq6 nin0)
  have F19 : Fld Z T6.heap st "java/lang/String" "coder" "B" (.int (0 : Int32)) := (Pm26.keep Kq6 nin0)
  have F20 : Arv Z T6.heap tt kk .byte (Int32.ofNat ds.length) (own_bs ds) (.int 0) := (Pm27.keep Kq6 nin0)
  refine own_pEq X12 hx hZ hown (hw _ (own_mi 55 rfl)) (hw _ (own_mi 56 rfl)) (notFace_of_selects (args := #[]) (mvT hZ (hw _ (own_mi 58 rfl)))) (hw _ (own_mi 58 rfl)) (hw _ (own_mi 57 rfl)) (lenOf own_pd_28Ljava2flang2fObject3b29Z rfl) heq (kI := 4) (hw _ (own_mi 3 rfl)) F13 F14 F15 F16 (cs := ([115, 104, 97, 45, 50, 53, 54] : List Int32)) (StrChars.Road.codOf rfl (fun c hc => (hp3 c hc).2)) (fun c hc => own_up c (hp3 c hc)) (by decide) F17 F18 F19 F20 (ds := ds) (StrChars.Road.codOf rfl (fun c hc => (hd c hc).2)) (fun c hc => own_up c (hd c hc)) (by omega) (O2.ext F11.2) P5 (by decide) 0 (by decide) e12 [] (by rw [hml]; rfl) rfl (Nat.le_of_eq rfl) (by decide : 1 + 0 ≤ _) (by decide : 3 + 0 ≤ _) 28 (hb hby own_d6_25) rfl ?_
  intro rv21 T21 X21 eh21 hv21
  obtain ⟨ev21, rfl, hev21⟩ : ∃ z : Int32, rv21 = some (.int z) ∧ ((z = 1 ∧ ([115, 104, 97, 45, 50, 53, 54] : List Int32) = ds) ∨ (z = 0 ∧ ¬ ([115, 104, 97, 45, 50, 53, 54] : List Int32) = ds)) := by
    rcases hv21 with ⟨h, h2⟩ | ⟨h, h2⟩
    · exact ⟨1, h, Or.inl ⟨rfl, h2⟩⟩
    · exact ⟨0, h, Or.inr ⟨rfl, h2⟩⟩
  show own_Rn p e below _ (T21.setTop (mkF m 28 #[.val (.ref st), .val (.ref vv), .val (.int (3 : Int32)), .val (.int (0 : Int32)), .val (.ref t0)] [(.int ev21)]))
  rcases hev21 with ⟨ee21, hq0⟩ | ⟨ee21, hq0⟩
  · skip
    refine own_ifN X21 hx 31 (hb hby own_d6_28) rfl ((if0 _ _).trans (feq (by rw [ee21]; decide : ¬ (ev21 = (0 : Int32)))).1) ?_
    refine own_al X21 hx 33 (hb hby own_d6_31) rfl rfl rfl ?_
    have Zn22 : n0 ≤ T6.heap.size := (Nat.le_trans Z0 sz7)
    refine own_cS X21 hx hZ (y := (⟨"java/util/Optional", "of", "(Ljava/lang/Object;)Ljava/util/Optional;"⟩ : MethodName)) hown (hw _ (own_mi 80 rfl)) (hw _ (own_mi 81 rfl)) (hw _ (own_mi 67 rfl)) (hw _ (own_mi 82 rfl)) (by decide) (rmOf l Z a0 hw [] (t0) T6.heap n0 Zn22 ) eh21 [(.ref t0)] [] rfl (by rw [hml]; rfl) (lenOf own_pd_28Ljava2flang2fObject3b29Ljava2futil2fOptional3b rfl) rfl 0 (Nat.le_of_eq rfl) (by decide) (by decide) (by decide : 1 + 1 ≤ _) (by decide : 3 + 1 ≤ _) 36 (hb hby own_d6_33) rfl 2 4 rfl rfl ?_
    intro rv22 T22 Lc22 X22 hQ22
    obtain ⟨on, rfl, Nq22, Kq22, G0_22, G1_22⟩ := hQ22
    have N22 := Fr.app N6 Nq22
    have sz23 : T6.heap.size ≤ T22.heap.size := Kq22.1
    have K23 := K7.trans Kq22 all0
    have lt24 : @LT.lt Nat _ on T22.heap.size := G0_22.lt
    show own_Rn p e below _ (T22.setTop (mkF m 36 #[.val (.ref st), .val (.ref vv), .val (.int (3 : Int32)), .val (.int (0 : Int32)), .val (.ref t0)] [(.ref on)]))
    exact own_ret X22 (v := some (.ref on)) (fun h => by rw [Bd.returns] at h; cases h) (fun fs hr => X22.areturnOut hx rfl Bd.returns rfl (hb hby own_d6_36) hr) (⟨on, rfl, N22, K23, G0_22, (by rw [own_fv, if_pos hq0]; exact G1_22)⟩) (by decide) (by decide)
  · skip
    refine own_ifY X21 hx 37 (hb hby own_d6_28) ((if0 _ _).trans (teq (ee21 : ev21 = (0 : Int32))).1) (by decide) (by decide) ?_
    refine own_ii X21 hx #[.val (.ref st), .val (.ref vv), .val (.int (3 : Int32)), .val (.int ((0 : Int32) + (1 : Int32))), .val (.ref t0)] 40 (hb hby own_d6_37) rfl rfl rfl ?_
    refine own_gt X21 hx 9 (hb hby own_d6_40) (by decide) (by decide) ?_
    refine own_iln X21 hx 10 (hb hby own_d6_9) rfl rfl ?_
    refine own_iln X21 hx 11 (hb hby own_d6_10) rfl rfl ?_
    refine own_icN X21 hx 14 (hb hby own_d6_11) rfl (tlt (by decide : ((0 : Int32) + (1 : Int32)) < (3 : Int32))).2.1 ?_
    refine own_aln X21 hx 15 (hb hby own_d6_14) rfl rfl rfl ?_
    refine own_iln X21 hx 16 (hb hby own_d6_15) rfl rfl ?_
    obtain ⟨cl25, Ar25, q25, Sz25, Nn25, Hs25, G25⟩ := id G0_6
    have in25 := inb_of (j := ((0 : Int32) + (1 : Int32))) Sz25 ⟨by decide, by decide⟩
    refine own_go (fun tq kq => X21.aaload hx (j := ((0 : Int32) + (1 : Int32))) (v := (.ref t1)) (by rw [eh21]; exact Ar25.1) (State.isArrayOf_alike hZ.alike Ar25.2.1) rfl Ar25.2.2 in25 (Hs25.at in25 rfl) (g := (mkF m 16 #[.val (.ref st), .val (.ref vv), .val (.int (3 : Int32)), .val (.int ((0 : Int32) + (1 : Int32))), .val (.ref t0)] [(.int ((0 : Int32) + (1 : Int32))), (.ref vv)])) rfl rfl (hb hby own_d6_16) tq kq) ?_
    show own_Rn p e below _ (T21.setTop (mkF m 17 #[.val (.ref st), .val (.ref vv), .val (.int (3 : Int32)), .val (.int ((0 : Int32) + (1 : Int32))), .val (.ref t0)] [(.ref t1)]))
    refine own_as X21 hx #[.val (.ref st), .val (.ref vv), .val (.int (3 : Int32)), .val (.int ((0 : Int32) + (1 : Int32))), .val (.ref t1)] 19 (hb hby own_d6_17) rfl rfl rfl ?_
    refine own_al X21 hx 21 (hb hby own_d6_19) rfl rfl rfl ?_
    have F26 : Fld Z T6.heap t1 "com/example/cartiglio/cartiglio/core/HashAlgorithm" "ianaName" "Ljava/lang/String;" (.ref x1) := ZN1.ext F11.2
    refine own_gF X21 hx hZ hown (host := "") (Or.inl (hw _ (own_mi 53 rfl))) Via.refl eh21 F26 24 (hb hby own_d6_21) rfl ?_
    intro T27 X27 e27
    refine own_aln X27 hx 25 (hb hby own_d6_24) rfl rfl rfl ?_
    have F28 : Exa Z T6.heap x1 "java/lang/String" := ZX10.ext F11.2
    have F29 : Fld Z T6.heap x1 "java/lang/String" "value" "[B" (.ref y1) := ZX11.ext F11.2
    have F30 : Fld Z T6.heap x1 "java/lang/String" "coder" "B" (.int (0 : Int32)) := ZX12.ext F11.2
    have F31 : Arv Z T6.heap y1 kz1 .byte (Int32.ofNat ([115, 104, 97, 45, 51, 56, 52] : List Int32).length) (own_bs ([115, 104, 97, 45, 51, 56, 52] : List Int32)) (.int 0) := ZX13.ext F11.2
    refine own_pEq X27 hx hZ hown (hw _ (own_mi 55 rfl)) (hw _ (own_mi 56 rfl)) (notFace_of_selects (args := #[]) (mvT hZ (hw _ (own_mi 58 rfl)))) (hw _ (own_mi 58 rfl)) (hw _ (own_mi 57 rfl)) (lenOf own_pd_28Ljava2flang2fObject3b29Z rfl) heq (kI := 4) (hw _ (own_mi 3 rfl)) F28 F29 F30 F31 (cs := ([115, 104, 97, 45, 51, 56, 52] : List Int32)) (StrChars.Road.codOf rfl (fun c hc => (hp4 c hc).2)) (fun c hc => own_up c (hp4 c hc)) (by decide) F17 F18 F19 F20 (ds := ds) (StrChars.Road.codOf rfl (fun c hc => (hd c hc).2)) (fun c hc => own_up c (hd c hc)) (by omega) (O2.ext F11.2) P5 (by decide) 0 (by decide) e27 [] (by rw [hml]; rfl) rfl (Nat.le_of_eq rfl) (by decide : 1 + 0 ≤ _) (by decide : 3 + 0 ≤ _) 28 (hb hby own_d6_25) rfl ?_
    intro rv32 T32 X32 eh32 hv32
    obtain ⟨ev32, rfl, hev32⟩ : ∃ z : Int32, rv32 = some (.int z) ∧ ((z = 1 ∧ ([115, 104, 97, 45, 51, 56, 52] : List Int32) = ds) ∨ (z = 0 ∧ ¬ ([115, 104, 97, 45, 51, 56, 52] : List Int32) = ds)) := by
      rcases hv32 with ⟨h, h2⟩ | ⟨h, h2⟩
      · exact ⟨1, h, Or.inl ⟨rfl, h2⟩⟩
      · exact ⟨0, h, Or.inr ⟨rfl, h2⟩⟩
    show own_Rn p e below _ (T32.setTop (mkF m 28 #[.val (.ref st), .val (.ref vv), .val (.int (3 : Int32)), .val (.int ((0 : Int32) + (1 : Int32))), .val (.ref t1)] [(.int ev32)]))
    rcases hev32 with ⟨ee32, hq1⟩ | ⟨ee32, hq1⟩
    · skip
      refine own_ifN X32 hx 31 (hb hby own_d6_28) rfl ((if0 _ _).trans (feq (by rw [ee32]; decide : ¬ (ev32 = (0 : Int32)))).1) ?_
      refine own_al X32 hx 33 (hb hby own_d6_31) rfl rfl rfl ?_
      have Zn33 : n0 ≤ T6.heap.size := (Nat.le_trans Z0 sz7)
      refine own_cS X32 hx hZ (y := (⟨"java/util/Optional", "of", "(Ljava/lang/Object;)Ljava/util/Optional;"⟩ : MethodName)) hown (hw _ (own_mi 80 rfl)) (hw _ (own_mi 81 rfl)) (hw _ (own_mi 67 rfl)) (hw _ (own_mi 82 rfl)) (by decide) (rmOf l Z a0 hw [] (t1) T6.heap n0 Zn33 ) eh32 [(.ref t1)] [] rfl (by rw [hml]; rfl) (lenOf own_pd_28Ljava2flang2fObject3b29Ljava2futil2fOptional3b rfl) rfl 0 (Nat.le_of_eq rfl) (by decide) (by decide) (by decide : 1 + 1 ≤ _) (by decide : 3 + 1 ≤ _) 36 (hb hby own_d6_33) rfl 2 4 rfl rfl ?_
      intro rv33 T33 Lc33 X33 hQ33
      obtain ⟨on, rfl, Nq33, Kq33, G0_33, G1_33⟩ := hQ33
      have N33 := Fr.app N6 Nq33
      have sz34 : T6.heap.size ≤ T33.heap.size := Kq33.1
      have K34 := K7.trans Kq33 all0
      have lt35 : @LT.lt Nat _ on T33.heap.size := G0_33.lt
      show own_Rn p e below _ (T33.setTop (mkF m 36 #[.val (.ref st), .val (.ref vv), .val (.int (3 : Int32)), .val (.int ((0 : Int32) + (1 : Int32))), .val (.ref t1)] [(.ref on)]))
      exact own_ret X33 (v := some (.ref on)) (fun h => by rw [Bd.returns] at h; cases h) (fun fs hr => X33.areturnOut hx rfl Bd.returns rfl (hb hby own_d6_36) hr) (⟨on, rfl, N33, K34, G0_33, (by rw [own_fv, if_neg hq0, if_pos hq1]; exact G1_33)⟩) (by decide) (by decide)
    · skip
      refine own_ifY X32 hx 37 (hb hby own_d6_28) ((if0 _ _).trans (teq (ee32 : ev32 = (0 : Int32))).1) (by decide) (by decide) ?_
      refine own_ii X32 hx #[.val (.ref st), .val (.ref vv), .val (.int (3 : Int32)), .val (.int (((0 : Int32) + (1 : Int32)) + (1 : Int32))), .val (.ref t1)] 40 (hb hby own_d6_37) rfl rfl rfl ?_
      refine own_gt X32 hx 9 (hb hby own_d6_40) (by decide) (by decide) ?_
      refine own_iln X32 hx 10 (hb hby own_d6_9) rfl rfl ?_
      refine own_iln X32 hx 11 (hb hby own_d6_10) rfl rfl ?_
      refine own_icN X32 hx 14 (hb hby own_d6_11) rfl (tlt (by decide : (((0 : Int32) + (1 : Int32)) + (1 : Int32)) < (3 : Int32))).2.1 ?_
      refine own_aln X32 hx 15 (hb hby own_d6_14) rfl rfl rfl ?_
      refine own_iln X32 hx 16 (hb hby own_d6_15) rfl rfl ?_
      obtain ⟨cl36, Ar36, q36, Sz36, Nn36, Hs36, G36⟩ := id G0_6
      have in36 := inb_of (j := (((0 : Int32) + (1 : Int32)) + (1 : Int32))) Sz36 ⟨by decide, by decide⟩
      refine own_go (fun tq kq => X32.aaload hx (j := (((0 : Int32) + (1 : Int32)) + (1 : Int32))) (v := (.ref t2)) (by rw [eh32]; exact Ar36.1) (State.isArrayOf_alike hZ.alike Ar36.2.1) rfl Ar36.2.2 in36 (Hs36.at in36 rfl) (g := (mkF m 16 #[.val (.ref st), .val (.ref vv), .val (.int (3 : Int32)), .val (.int (((0 : Int32) + (1 : Int32)) + (1 : Int32))), .val (.ref t1)] [(.int (((0 : Int32) + (1 : Int32)) + (1 : Int32))), (.ref vv)])) rfl rfl (hb hby own_d6_16) tq kq) ?_
      show own_Rn p e below _ (T32.setTop (mkF m 17 #[.val (.ref st), .val (.ref vv), .val (.int (3 : Int32)), .val (.int (((0 : Int32) + (1 : Int32)) + (1 : Int32))), .val (.ref t1)] [(.ref t2)]))
      refine own_as X32 hx #[.val (.ref st), .val (.ref vv), .val (.int (3 : Int32)), .val (.int (((0 : Int32) + (1 : Int32)) + (1 : Int32))), .val (.ref t2)] 19 (hb hby own_d6_17) rfl rfl rfl ?_
      refine own_al X32 hx 21 (hb hby own_d6_19) rfl rfl rfl ?_
      have F37 : Fld Z T6.heap t2 "com/example/cartiglio/cartiglio/core/HashAlgorithm" "ianaName" "Ljava/lang/String;" (.ref x2) := ZN2.ext F11.2
      refine own_gF X32 hx hZ hown (host := "") (Or.inl (hw _ (own_mi 53 rfl))) Via.refl eh32 F37 24 (hb hby own_d6_21) rfl ?_
      intro T38 X38 e38
      refine own_aln X38 hx 25 (hb hby own_d6_24) rfl rfl rfl ?_
      have F39 : Exa Z T6.heap x2 "java/lang/String" := ZX20.ext F11.2
      have F40 : Fld Z T6.heap x2 "java/lang/String" "value" "[B" (.ref y2) := ZX21.ext F11.2
      have F41 : Fld Z T6.heap x2 "java/lang/String" "coder" "B" (.int (0 : Int32)) := ZX22.ext F11.2
      have F42 : Arv Z T6.heap y2 kz2 .byte (Int32.ofNat ([115, 104, 97, 45, 53, 49, 50] : List Int32).length) (own_bs ([115, 104, 97, 45, 53, 49, 50] : List Int32)) (.int 0) := ZX23.ext F11.2
      refine own_pEq X38 hx hZ hown (hw _ (own_mi 55 rfl)) (hw _ (own_mi 56 rfl)) (notFace_of_selects (args := #[]) (mvT hZ (hw _ (own_mi 58 rfl)))) (hw _ (own_mi 58 rfl)) (hw _ (own_mi 57 rfl)) (lenOf own_pd_28Ljava2flang2fObject3b29Z rfl) heq (kI := 4) (hw _ (own_mi 3 rfl)) F39 F40 F41 F42 (cs := ([115, 104, 97, 45, 53, 49, 50] : List Int32)) (StrChars.Road.codOf rfl (fun c hc => (hp5 c hc).2)) (fun c hc => own_up c (hp5 c hc)) (by decide) F17 F18 F19 F20 (ds := ds) (StrChars.Road.codOf rfl (fun c hc => (hd c hc).2)) (fun c hc => own_up c (hd c hc)) (by omega) (O2.ext F11.2) P5 (by decide) 0 (by decide) e38 [] (by rw [hml]; rfl) rfl (Nat.le_of_eq rfl) (by decide : 1 + 0 ≤ _) (by decide : 3 + 0 ≤ _) 28 (hb hby own_d6_25) rfl ?_
      intro rv43 T43 X43 eh43 hv43
      obtain ⟨ev43, rfl, hev43⟩ : ∃ z : Int32, rv43 = some (.int z) ∧ ((z = 1 ∧ ([115, 104, 97, 45, 53, 49, 50] : List Int32) = ds) ∨ (z = 0 ∧ ¬ ([115, 104, 97, 45, 53, 49, 50] : List Int32) = ds)) := by
        rcases hv43 with ⟨h, h2⟩ | ⟨h, h2⟩
        · exact ⟨1, h, Or.inl ⟨rfl, h2⟩⟩
        · exact ⟨0, h, Or.inr ⟨rfl, h2⟩⟩
      show own_Rn p e below _ (T43.setTop (mkF m 28 #[.val (.ref st), .val (.ref vv), .val (.int (3 : Int32)), .val (.int (((0 : Int32) + (1 : Int32)) + (1 : Int32))), .val (.ref t2)] [(.int ev43)]))
      rcases hev43 with ⟨ee43, hq2⟩ | ⟨ee43, hq2⟩
      · skip
        refine own_ifN X43 hx 31 (hb hby own_d6_28) rfl ((if0 _ _).trans (feq (by rw [ee43]; decide : ¬ (ev43 = (0 : Int32)))).1) ?_
        refine own_al X43 hx 33 (hb hby own_d6_31) rfl rfl rfl ?_
        have Zn44 : n0 ≤ T6.heap.size := (Nat.le_trans Z0 sz7)
        refine own_cS X43 hx hZ (y := (⟨"java/util/Optional", "of", "(Ljava/lang/Object;)Ljava/util/Optional;"⟩ : MethodName)) hown (hw _ (own_mi 80 rfl)) (hw _ (own_mi 81 rfl)) (hw _ (own_mi 67 rfl)) (hw _ (own_mi 82 rfl)) (by decide) (rmOf l Z a0 hw [] (t2) T6.heap n0 Zn44 ) eh43 [(.ref t2)] [] rfl (by rw [hml]; rfl) (lenOf own_pd_28Ljava2flang2fObject3b29Ljava2futil2fOptional3b rfl) rfl 0 (Nat.le_of_eq rfl) (by decide) (by decide) (by decide : 1 + 1 ≤ _) (by decide : 3 + 1 ≤ _) 36 (hb hby own_d6_33) rfl 2 4 rfl rfl ?_
        intro rv44 T44 Lc44 X44 hQ44
        obtain ⟨on, rfl, Nq44, Kq44, G0_44, G1_44⟩ := hQ44
        have N44 := Fr.app N6 Nq44
        have sz45 : T6.heap.size ≤ T44.heap.size := Kq44.1
        have K45 := K7.trans Kq44 all0
        have lt46 : @LT.lt Nat _ on T44.heap.size := G0_44.lt
        show own_Rn p e below _ (T44.setTop (mkF m 36 #[.val (.ref st), .val (.ref vv), .val (.int (3 : Int32)), .val (.int (((0 : Int32) + (1 : Int32)) + (1 : Int32))), .val (.ref t2)] [(.ref on)]))
        exact own_ret X44 (v := some (.ref on)) (fun h => by rw [Bd.returns] at h; cases h) (fun fs hr => X44.areturnOut hx rfl Bd.returns rfl (hb hby own_d6_36) hr) (⟨on, rfl, N44, K45, G0_44, (by rw [own_fv, if_neg hq0, if_neg hq1, if_pos hq2]; exact G1_44)⟩) (by decide) (by decide)
      · skip
        refine own_ifY X43 hx 37 (hb hby own_d6_28) ((if0 _ _).trans (teq (ee43 : ev43 = (0 : Int32))).1) (by decide) (by decide) ?_
        refine own_ii X43 hx #[.val (.ref st), .val (.ref vv), .val (.int (3 : Int32)), .val (.int ((((0 : Int32) + (1 : Int32)) + (1 : Int32)) + (1 : Int32))), .val (.ref t2)] 40 (hb hby own_d6_37) rfl rfl rfl ?_
        refine own_gt X43 hx 9 (hb hby own_d6_40) (by decide) (by decide) ?_
        refine own_iln X43 hx 10 (hb hby own_d6_9) rfl rfl ?_
        refine own_iln X43 hx 11 (hb hby own_d6_10) rfl rfl ?_
        refine own_icY X43 hx 43 (hb hby own_d6_11) (flt (by decide : ¬ (((((0 : Int32) + (1 : Int32)) + (1 : Int32)) + (1 : Int32)) < (3 : Int32)))).2.1 (by decide) (by decide) ?_
        have Zn47 : n0 ≤ T6.heap.size := (Nat.le_trans Z0 sz7)
        refine own_cS X43 hx hZ (y := (⟨"java/util/Optional", "empty", "()Ljava/util/Optional;"⟩ : MethodName)) hown (hw _ (own_mi 65 rfl)) (hw _ (own_mi 66 rfl)) (hw _ (own_mi 67 rfl)) (hw _ (own_mi 68 rfl)) (by decide) (rmEm l Z a0 hw [] (oe) T6.heap n0 Zn47 (OE) F11) eh43 [] [] rfl (by rw [hml]; rfl) (lenOf own_pd_2829Ljava2futil2fOptional3b rfl) rfl 0 (Nat.le_of_eq rfl) (by decide) (by decide) (by decide : 1 + 0 ≤ _) (by decide : 3 + 0 ≤ _) 46 (hb hby own_d6_43) rfl 1 3 rfl rfl ?_
        intro rv47 T47 Lc47 X47 hQ47
        obtain ⟨rfl, Nq47, eh47⟩ := hQ47
        have N47 := Fr.app N6 Nq47
        show own_Rn p e below _ (T47.setTop (mkF m 46 #[.val (.ref st), .val (.ref vv), .val (.int (3 : Int32)), .val (.int ((((0 : Int32) + (1 : Int32)) + (1 : Int32)) + (1 : Int32))), .val (.ref t2)] [(.ref oe)]))
        have F48 : Fld Z T6.heap oe "java/util/Optional" "value" "Ljava/lang/Object;" .null := ZF.ext F11.2
        have F49 : Exa Z T6.heap oe "java/util/Optional" := ZE.ext F11.2
        exact own_ret X47 (v := some (.ref oe)) (fun h => by rw [Bd.returns] at h; cases h) (fun fs hr => X47.areturnOut hx rfl Bd.returns rfl (hb hby own_d6_46) hr) (by rw [eh47]; exact ⟨oe, rfl, N47, K7, F49, (by rw [own_fv, if_neg hq0, if_neg hq1, if_neg hq2]; exact F48)⟩) (by decide) (by decide)
theorem own_ef_rmSI4 (m : MethodId) (x : Addr) (b : Addr) : entryFrame m #[(.ref x), (.ref b), (.int (0 : Int32)), (.int (0 : Int32)), .null] 6 = mkF m 0 #[.val (.ref x), .val (.ref b), .val (.int (0 : Int32)), .val (.int (0 : Int32)), .val .null, .unset] [] := by first | (simp [entryFrame, mkF, argsToLocals, Value.category]; done) | rfl
theorem own_pn_java_lang_String : plainName "java/lang/String" = true := by first | (simp [plainName, overriddenIn]; done) | decide +kernel
theorem own_d1_0 : decode jdk_42_method_149_code 0 = .ok (.aload_n 0, 1) := by decide +kernel
theorem own_d1_1 : decode jdk_42_method_149_code 1 = .ok (.invokespecial 1, 3) := by decide +kernel
theorem own_d1_4 : decode jdk_42_method_149_code 4 = .ok (.iload_n 3, 1) := by decide +kernel
theorem own_d1_5 : decode jdk_42_method_149_code 5 = .ok (.ifCond .ne 22, 3) := by decide +kernel
theorem own_d1_8 : decode jdk_42_method_149_code 8 = .ok (.aload_n 0, 1) := by decide +kernel
theorem own_d1_9 : decode jdk_42_method_149_code 9 = .ok (.ldc 7, 2) := by decide +kernel
theorem own_d1_11 : decode jdk_42_method_149_code 11 = .ok (.getfield 9, 3) := by decide +kernel
theorem own_d1_14 : decode jdk_42_method_149_code 14 = .ok (.putfield 9, 3) := by decide +kernel
theorem own_fd_5bB : parseFieldDescriptor "[B" = some (.array .byte) := by decide +kernel
theorem own_d1_17 : decode jdk_42_method_149_code 17 = .ok (.aload_n 0, 1) := by decide +kernel
theorem own_d1_18 : decode jdk_42_method_149_code 18 = .ok (.ldc 7, 2) := by decide +kernel
theorem own_d1_20 : decode jdk_42_method_149_code 20 = .ok (.getfield 15, 3) := by decide +kernel
theorem own_d1_23 : decode jdk_42_method_149_code 23 = .ok (.putfield 15, 3) := by decide +kernel
theorem own_fd_B : parseFieldDescriptor "B" = some .byte := by decide +kernel
theorem own_d1_26 : decode jdk_42_method_149_code 26 = .ok (.return_, 1) := by decide +kernel
def Q_rmSI4 (Z : State) (x : Addr) (b : Addr) (h0 : Heap) (n0 : Nat) (vq : Option Value) (hhq : Heap) (Lq : List Loc) : Prop := ∃ (t : Addr), ∃ (kb : ClassId), vq = none ∧ Fr n0 Lq ∧ Keep h0 hhq [x] ∧ Fld Z hhq x "java/lang/String" "value" "[B" (.ref t) ∧ Fld Z hhq x "java/lang/String" "coder" "B" (.int (0 : Int32)) ∧ Arv Z hhq t kb .byte (0 : Int32) ((([] : List Int32).map (fun c => c.toInt8.toInt32)).map Value.int) (.int 0)
set_option maxRecDepth 65536 in
set_option maxHeartbeats 40000000 in
theorem rmSI4 (l : Launch) (Z : State) (a0 : Array Value) (hw : ∀ d ∈ tables_1, d.before a0 Z = true) (ws : List Jvm.Cond) (x : Addr) (b : Addr) (h0 : Heap) (n0 : Nat) (Z0 : n0 ≤ h0.size) (hEL : EW Z a0 consts_1) (Pm0 : Exa Z h0 x "java/lang/String") (Pm1 : Fld Z h0 x "java/lang/String" "value" "[B" .null) (Pm2 : Fld Z h0 x "java/lang/String" "coder" "B" (.int (0 : Int32))) (Pm3 : n0 ≤ x) :
    MetFree l (⟨"java/lang/String", "<init>", "([CIILjava/lang/Void;)V"⟩ : MethodName) (head1 (Jvm.Cond.code (⟨"java/lang/String", "<init>", "([CIILjava/lang/Void;)V"⟩ : MethodName) jdk_42_method_149_code 6 none :: ws) ({ frames := 1, cells := 4, slots := 8, locals := 12 } : Room)) (fun aq U => aq = #[(.ref x), (.ref b), (.int (0 : Int32)), (.int (0 : Int32)), .null] ∧ Z.Warmed39 U.vm ∧ U.heap = h0 ∧ CHv Z consts_1 U.vm h0 ∧ ∀ ax ∈ ([x] : List Addr), Safe Z consts_1 U.vm h0 ax) (fun _ _ _ _ _ => True) (fun _ U oq U' => ∃ vq Lq, oq = .returned vq ∧ Q_rmSI4 Z x b h0 n0 vq U'.heap Lq ∧ CHr Z consts_1 U.vm U.heap U'.vm U'.heap ∧ ReturnedEndW U oq U' Lq ({ frames := 1, cells := 4, slots := 8, locals := 12 } : Room).cells ({ frames := 1, cells := 4, slots := 8, locals := 12 } : Room).slots) := by
  refine MetFree.of_bodySF (plainFor_of_name own_pn_java_lang_String) hisR ?_
  intro p e s m args below meth c s₁ Bd hml0 hP hK
  obtain ⟨rfl, hZ, hh, hH, hSf⟩ := hP
  have hx := Bd.exec
  have hby := Bd.bytes
  have hml : c.maxLocals = 6 := hml0
  have hown : s.vm.findClass "java/lang/String" = some m.cls := findClass_of_methodNamed Bd.named
  have hnm := (name_of_methodNamed Bd.named Bd.method).1
  have X0 : Stand p l e ({ frames := 1, cells := 4, slots := 8, locals := 12 } : Room) (s.setVm s.vm) m #[(.ref x), (.ref b), (.int (0 : Int32)), (.int (0 : Int32)), .null] below meth c s₁ [] 0 0 := Stand.of_body Bd
  have e0 : s₁.heap = h0 := by rw [← hh, Bd.state]; rfl
  have N0 := Fr.nil n0
  have K0 : Keep h0 h0 [x] := Keep.refl _ _
  refine own_go (S' := s₁.setTop (mkF m 0 #[.val (.ref x), .val (.ref b), .val (.int (0 : Int32)), .val (.int (0 : Int32)), .val .null, .unset] [])) (fun tq kq => castTop (own_ef_rmSI4 m x b) kq) ?_
  have lt1 : @LT.lt Nat _ x h0.size := Pm0.lt
  have hS0 : s.Since s.vm h0.size := (State.WarmedH.refl s).since _
  have CR0 : CHr Z consts_1 s.vm h0 s.vm h0 := CHr.refl hH
  have hwS : ∀ d ∈ Bundle.stringAtoms, d.before a0 Z = true := fun d hd => hw d ((by decide +kernel : ∀ d ∈ Bundle.stringAtoms, d ∈ tables_1) d hd)
  have sf_x : Safe Z consts_1 s.vm h0 x := hSf _ (List.mem_of_getElem? (i := 0) rfl)
  refine own_aln X0 hx 1 (hb hby own_d1_0) rfl rfl rfl ?_
  obtain ⟨T2, X2, e2, st2⟩ := initO X0 hx hZ hown (hw _ (own_mi 12 rfl)) (hw _ (own_mi 13 rfl)) (hw _ (own_mi 14 rfl)) e0 (g := (mkF m 1 #[.val (.ref x), .val (.ref b), .val (.int (0 : Int32)), .val (.int (0 : Int32)), .val .null, .unset] [(.ref x)])) rfl (by rw [hml]; rfl) rfl (hb hby own_d1_1) (by decide) (W := 0) (by show 2 * 0 + _ ≤ _; exact Nat.le_of_eq rfl) (by decide)
  refine own_go st2 ?_
  show own_Rn p e below _ (T2.setTop (mkF m 4 #[.val (.ref x), .val (.ref b), .val (.int (0 : Int32)), .val (.int (0 : Int32)), .val .null, .unset] []))
  refine own_iln X2 hx 5 (hb hby own_d1_4) rfl rfl ?_
  refine own_ifN X2 hx 8 (hb hby own_d1_5) rfl ((if0 _ _).trans (teq ((by decide : (0 : Int32) = (0 : Int32)) : (0 : Int32) = (0 : Int32))).2) ?_
  refine own_aln X2 hx 9 (hb hby own_d1_8) rfl rfl rfl ?_
  obtain ⟨a3, T3, h3, kk3, bb3, kc3, X3, e3, E3, hS3, hk3, hZ3, hown3, Ex3, Co3, Va3, Ab3, la3, lb3, crq3, Li3, sn3, st3⟩ := ldcCH X2 hx hZ hown (hw _ (own_mi 77 rfl)) hwS e2 hS0 (Nat.le_refl _) hEL (List.mem_of_getElem? (i := 0) rfl) CR0.1 (vs := ((([] : List Int32).map (fun c => c.toInt8.toInt32)).map Value.int)) (z := (0 : Int32)) ⟨by decide, by decide⟩ (by decide) (by decide) (g := (mkF m 9 #[.val (.ref x), .val (.ref b), .val (.int (0 : Int32)), .val (.int (0 : Int32)), .val .null, .unset] [(.ref x)])) rfl (hb hby own_d1_9) (n := 0) (by decide) (by decide) (by decide) (by decide)
  refine own_go st3 ?_
  have sz4 : h0.size ≤ h3.size := E3.1
  have K4 := K0.ext E3
  have cr4 : CHr Z consts_1 s.vm h0 T3.vm h3 := crq3
  have CR4 := CR0.trans cr4
  have sf6 : Safe Z consts_1 T3.vm h3 x := (CHr.safe cr4 (Nat.lt_of_lt_of_le lt1 (Nat.le_refl _)) sf_x)
  obtain ⟨na3_x, nb3_x⟩ := sn3 x sf6
  have lt7 : @LT.lt Nat _ a3 h3.size := Ex3.lt
  have lt8 : @LT.lt Nat _ bb3 h3.size := Ab3.lt
  show own_Rn p e below _ (T3.setTop (mkF m 11 #[.val (.ref x), .val (.ref b), .val (.int (0 : Int32)), .val (.int (0 : Int32)), .val .null, .unset] [(.ref a3), (.ref x)]))
  refine own_gF X3 hx hZ3 hown3 (host := "") (Or.inl (hw _ (own_mi 29 rfl))) Via.refl e3 Va3 14 (hb hby own_d1_11) rfl ?_
  intro T9 X9 e9
  have F10 : Fld Z h3 x "java/lang/String" "value" "[B" .null := (Pm1.ext E3)
  have F11 : Exa Z h3 x "java/lang/String" := (Pm0.ext E3)
  obtain ⟨T12, h12, X12, e12, W12, st12⟩ := putF X9 hx hZ3 hown3 (host := "") (Or.inl (hw _ (own_mi 29 rfl))) Via.refl e9 F10 F11 (Or.inr ⟨(hw _ (own_mi 30 rfl)), rfl, hnm⟩) (hw _ (own_mi 3 rfl)) (ty := (.array .byte)) own_fd_5bB rfl rfl (g := (mkF m 14 #[.val (.ref x), .val (.ref b), .val (.int (0 : Int32)), .val (.int (0 : Int32)), .val .null, .unset] [(.ref bb3), (.ref x)])) rfl rfl (hb hby own_d1_14)
  refine own_go st12 ?_
  have N12 := Fr.snoc X12 N0 Pm3
  have Fw12 := F10.same W12
  have sz14 : h3.size ≤ h12.size := Nat.le_of_eq (Wr.size W12).symm
  have K14 := K4.wr W12 (Or.inl (List.mem_of_getElem? (i := 0) rfl))
  have cr14 : CHr Z consts_1 T3.vm h3 T3.vm h12 := CHr.wr W12 sf6 CR4.1
  have CR14 := CR4.trans cr14
  show own_Rn p e below _ (T12.setTop (mkF m 17 #[.val (.ref x), .val (.ref b), .val (.int (0 : Int32)), .val (.int (0 : Int32)), .val .null, .unset] []))
  refine own_aln X12 hx 18 (hb hby own_d1_17) rfl rfl rfl ?_
  obtain ⟨a15, T15, h15, kk15, bb15, kc15, X15, e15, E15, hS15, hk15, hZ15, hown15, Ex15, Co15, Va15, Ab15, la15, lb15, crq15, Li15, sn15, st15⟩ := ldcCH X12 hx hZ3 hown3 (hw _ (own_mi 77 rfl)) hwS e12 hS3 (Nat.le_trans hk3 sz14) hEL (List.mem_of_getElem? (i := 0) rfl) CR14.1 (vs := ((([] : List Int32).map (fun c => c.toInt8.toInt32)).map Value.int)) (z := (0 : Int32)) ⟨by decide, by decide⟩ (by decide) (by decide) (g := (mkF m 18 #[.val (.ref x), .val (.ref b), .val (.int (0 : Int32)), .val (.int (0 : Int32)), .val .null, .unset] [(.ref x)])) rfl (hb hby own_d1_18) (n := 0) (by decide) (by decide) (by decide) (by decide)
  refine own_go st15 ?_
  have sz16 : h12.size ≤ h15.size := E15.1
  have K16 := K14.ext E15
  have cr16 : CHr Z consts_1 T3.vm h12 T15.vm h15 := crq15
  have CR16 := CR14.trans cr16
  have le18 : h0.size ≤ h12.size := Nat.le_trans sz4 sz14
  have sf19 : Safe Z consts_1 T15.vm h15 x := (CHr.safe cr16 (Nat.lt_of_lt_of_le lt1 le18) (CHr.safe cr14 (Nat.lt_of_lt_of_le lt1 sz4) sf6))
  obtain ⟨na15_x, nb15_x⟩ := sn15 x sf19
  have lt20 : @LT.lt Nat _ a15 h15.size := Ex15.lt
  have lt21 : @LT.lt Nat _ bb15 h15.size := Ab15.lt
  show own_Rn p e below _ (T15.setTop (mkF m 20 #[.val (.ref x), .val (.ref b), .val (.int (0 : Int32)), .val (.int (0 : Int32)), .val .null, .unset] [(.ref a15), (.ref x)]))
  refine own_gF X15 hx hZ15 hown15 (host := "") (Or.inl (hw _ (own_mi 27 rfl))) Via.refl e15 Co15 23 (hb hby own_d1_20) rfl ?_
  intro T22 X22 e22
  have F23 : Fld Z h15 x "java/lang/String" "coder" "B" (.int (0 : Int32)) := (((Pm2.ext E3).other W12 (Or.inr (slot_ne (Or.inr (hw _ (own_mi 28 rfl))) (Or.inr (hw _ (own_mi 30 rfl))) (by decide) (t := .byte) (t' := (.array .byte)) own_fd_B own_fd_5bB))).ext E15)
  have F24 : Exa Z h15 x "java/lang/String" := ((F11.wr W12).ext E15)
  obtain ⟨T25, h25, X25, e25, W25, st25⟩ := putFN X22 hx hZ15 hown15 (hw _ (own_mi 27 rfl)) Via.refl e22 F23 F24 (Or.inr ⟨(hw _ (own_mi 28 rfl)), rfl, hnm⟩) (hw _ (own_mi 3 rfl)) (ty := .byte) (v' := (.int ((0 : Int32)))) own_fd_B rfl (by decide) (g := (mkF m 23 #[.val (.ref x), .val (.ref b), .val (.int (0 : Int32)), .val (.int (0 : Int32)), .val .null, .unset] [(.int (0 : Int32)), (.ref x)])) rfl rfl (hb hby own_d1_23)
  refine own_go st25 ?_
  have N25 := Fr.snoc X25 N12 Pm3
  have Fw25 := F23.same W25
  have sz27 : h15.size ≤ h25.size := Nat.le_of_eq (Wr.size W25).symm
  have K27 := K16.wr W25 (Or.inl (List.mem_of_getElem? (i := 0) rfl))
  have cr27 : CHr Z consts_1 T15.vm h15 T15.vm h25 := CHr.wr W25 sf19 CR16.1
  have CR27 := CR16.trans cr27
  show own_Rn p e below _ (T25.setTop (mkF m 26 #[.val (.ref x), .val (.ref b), .val (.int (0 : Int32)), .val (.int (0 : Int32)), .val .null, .unset] []))
  have F28 : Fld Z h25 x "java/lang/String" "value" "[B" (.ref bb3) := ((Fw12.ext E15).other W25 (Or.inr (slot_ne (Or.inr (hw _ (own_mi 30 rfl))) (Or.inr (hw _ (own_mi 28 rfl))) (by decide) (t := (.array .byte)) (t' := .byte) own_fd_5bB own_fd_B)))
  have F29 : Arv Z h25 bb3 kc3 .byte (0 : Int32) ((([] : List Int32).map (fun c => c.toInt8.toInt32)).map Value.int) (.int 0) := (((Ab3.other W12 (Ne.symm nb3_x)).ext E15).other W25 (Ne.symm nb3_x))
  exact own_retS X25 hS15 (by rw [e25]; exact (Nat.le_trans hk15 sz27)) (v := none) (fun _ => rfl) (fun fs hr => X25.returnOut hx Bd.returns (hb hby own_d1_26) hr) (by rw [e25]; exact ⟨bb3, kc3, rfl, N25, K27, F28, Fw25, F29⟩) (by rw [hh, e25]; exact CR27.trans (CHv.at X25 hZ15 hEL CR27.1)) (by decide) (by decide)
theorem own_ef_rmSI1 (m : MethodId) (x : Addr) (b : Addr) (kz : ClassId) : entryFrame m #[(.ref x), (.ref b)] 2 = mkF m 0 #[.val (.ref x), .val (.ref b)] [] := by first | (simp [entryFrame, mkF, argsToLocals, Value.category]; done) | rfl
theorem own_d0_0 : decode jdk_42_method_3_code 0 = .ok (.aload_n 0, 1) := by decide +kernel
theorem own_d0_1 : decode jdk_42_method_3_code 1 = .ok (.aload_n 1, 1) := by decide +kernel
theorem own_d0_2 : decode jdk_42_method_3_code 2 = .ok (.iconst 0, 1) := by decide +kernel
theorem own_d0_3 : decode jdk_42_method_3_code 3 = .ok (.aload_n 1, 1) := by decide +kernel
theorem own_d0_4 : decode jdk_42_method_3_code 4 = .ok (.arraylength, 1) := by decide +kernel
theorem own_d0_5 : decode jdk_42_method_3_code 5 = .ok (.aconst_null, 1) := by decide +kernel
theorem own_d0_6 : decode jdk_42_method_3_code 6 = .ok (.invokespecial 27, 3) := by decide +kernel
theorem own_pd_285bCIILjava2flang2fVoid3b29V : parseMethodDescriptor "([CIILjava/lang/Void;)V" = some ⟨[(.array .char), .int, .int, (.object "java/lang/Void")], none⟩ := by decide +kernel
theorem own_d0_9 : decode jdk_42_method_3_code 9 = .ok (.return_, 1) := by decide +kernel
def Q_rmSI1 (Z : State) (x : Addr) (b : Addr) (kz : ClassId) (h0 : Heap) (n0 : Nat) (vq : Option Value) (hhq : Heap) (Lq : List Loc) : Prop := ∃ (t : Addr), ∃ (kb : ClassId), vq = none ∧ Fr n0 Lq ∧ Keep h0 hhq [x] ∧ Fld Z hhq x "java/lang/String" "value" "[B" (.ref t) ∧ Fld Z hhq x "java/lang/String" "coder" "B" (.int (0 : Int32)) ∧ Arv Z hhq t kb .byte (0 : Int32) ((([] : List Int32).map (fun c => c.toInt8.toInt32)).map Value.int) (.int 0)
set_option maxRecDepth 65536 in
set_option maxHeartbeats 40000000 in
theorem rmSI1 (l : Launch) (Z : State) (a0 : Array Value) (hw : ∀ d ∈ tables_1, d.before a0 Z = true) (ws : List Jvm.Cond) (x : Addr) (b : Addr) (kz : ClassId) (h0 : Heap) (n0 : Nat) (Z0 : n0 ≤ h0.size) (hEL : EW Z a0 consts_1) (Pm0 : Exa Z h0 x "java/lang/String") (Pm1 : Fld Z h0 x "java/lang/String" "value" "[B" .null) (Pm2 : Fld Z h0 x "java/lang/String" "coder" "B" (.int (0 : Int32))) (Pm3 : n0 ≤ x) (Pm4 : Arv Z h0 b kz .char (0 : Int32) [] (.int (0 : Int32))) :
    MetFree l (⟨"java/lang/String", "<init>", "([C)V"⟩ : MethodName) (head1 (Jvm.Cond.code (⟨"java/lang/String", "<init>", "([C)V"⟩ : MethodName) jdk_42_method_3_code 2 none :: ws) ({ frames := 2, cells := 4, slots := 8, locals := 29 } : Room)) (fun aq U => aq = #[(.ref x), (.ref b)] ∧ Z.Warmed39 U.vm ∧ U.heap = h0 ∧ CHv Z consts_1 U.vm h0 ∧ ∀ ax ∈ ([x] : List Addr), Safe Z consts_1 U.vm h0 ax) (fun _ _ _ _ _ => True) (fun _ U oq U' => ∃ vq Lq, oq = .returned vq ∧ Q_rmSI1 Z x b kz h0 n0 vq U'.heap Lq ∧ CHr Z consts_1 U.vm U.heap U'.vm U'.heap ∧ ReturnedEndW U oq U' Lq ({ frames := 2, cells := 4, slots := 8, locals := 29 } : Room).cells ({ frames := 2, cells := 4, slots := 8, locals := 29 } : Room).slots) := by
  refine MetFree.of_bodySF (plainFor_of_name own_pn_java_lang_String) hisR ?_
  intro p e s m args below meth c s₁ Bd hml0 hP hK
  obtain ⟨rfl, hZ, hh, hH, hSf⟩ := hP
  have hx := Bd.exec
  have hby := Bd.bytes
  have hml : c.maxLocals = 2 := hml0
  have hown : s.vm.findClass "java/lang/String" = some m.cls := findClass_of_methodNamed Bd.named
  have hnm := (name_of_methodNamed Bd.named Bd.method).1
  have X0 : Stand p l e ({ frames := 2, cells := 4, slots := 8, locals := 29 } : Room) (s.setVm s.vm) m #[(.ref x), (.ref b)] below meth c s₁ [] 0 0 := Stand.of_body Bd
  have e0 : s₁.heap = h0 := by rw [← hh, Bd.state]; rfl
  have N0 := Fr.nil n0
  have K0 : Keep h0 h0 [x] := Keep.refl _ _
  refine own_go (S' := s₁.setTop (mkF m 0 #[.val (.ref x), .val (.ref b)] [])) (fun tq kq => castTop (own_ef_rmSI1 m x b kz) kq) ?_
  have lt1 : @LT.lt Nat _ x h0.size := Pm0.lt
  have lt2 : @LT.lt Nat _ b h0.size := Pm4.lt
  have hS0 : s.Since s.vm h0.size := (State.WarmedH.refl s).since _
  have CR0 : CHr Z consts_1 s.vm h0 s.vm h0 := CHr.refl hH
  have hwS : ∀ d ∈ Bundle.stringAtoms, d.before a0 Z = true := fun d hd => hw d ((by decide +kernel : ∀ d ∈ Bundle.stringAtoms, d ∈ tables_1) d hd)
  have sf_x : Safe Z consts_1 s.vm h0 x := hSf _ (List.mem_of_getElem? (i := 0) rfl)
  refine own_aln X0 hx 1 (hb hby own_d0_0) rfl rfl rfl ?_
  refine own_aln X0 hx 2 (hb hby own_d0_1) rfl rfl rfl ?_
  refine own_ic X0 hx (0 : Int32) 3 (hb hby own_d0_2) rfl rfl ?_
  refine own_aln X0 hx 4 (hb hby own_d0_3) rfl rfl rfl ?_
  refine own_alen X0 hx hZ e0 Pm4 5 (hb hby own_d0_4) rfl ?_
  refine own_go (fun tq kq => XS.aconstNull X0.here hx rfl (hb hby own_d0_5) kq) ?_
  show own_Rn p e below _ (s₁.setTop (mkF m 6 #[.val (.ref x), .val (.ref b)] [.null, (.int (0 : Int32)), (.int (0 : Int32)), (.ref b), (.ref x)]))
  have Zn3 : n0 ≤ h0.size := (Nat.le_trans Z0 (Nat.le_refl _))
  refine own_sI X0 hx hZ (y := (⟨"java/lang/String", "<init>", "([CIILjava/lang/Void;)V"⟩ : MethodName)) (rm := ({ frames := 1, cells := 4, slots := 8, locals := 12 } : Room)) (sf := [x]) rfl hown (hw _ (own_mi 8 rfl)) (hw _ (own_mi 9 rfl)) (hw _ (own_mi 11 rfl)) (hw _ (own_mi 4 rfl)) (by decide) (rmSI4 l Z a0 hw [] (x) (b) h0 n0 Zn3 hEL Pm0 Pm1 Pm2 Pm3) hEL CR0.1 (sfS sf_x sf0) e0 [(.ref b), (.int (0 : Int32)), (.int (0 : Int32)), .null] [] rfl (by rw [hml]; rfl) (lenOf own_pd_285bCIILjava2flang2fVoid3b29V rfl) rfl 0 (Nat.le_of_eq rfl) (by decide) (by decide) (by decide : 0 + 4 ≤ _) (by decide : 0 + 8 ≤ _) 9 (hb hby own_d0_6) rfl 4 8 rfl rfl ?_
  intro rv3 T3 Lc3 X3 hS3 hG3 hQ3 CR3q
  obtain ⟨tt, kk, rfl, Nq3, Kq3, G0_3, G1_3, G2_3⟩ := hQ3
  have N3 := Fr.app N0 Nq3
  obtain ⟨Xr3, hSr3, hZ3, hown3⟩ := rebS hS0 (n1 := s₁.heap.size) (by rw [e0]; exact (Nat.le_refl _)) X3 hS3 hG3 hZ hown
  have sz6 : h0.size ≤ T3.heap.size := Kq3.1
  have K6 := K0.trans Kq3 (allS (Or.inl (List.mem_of_getElem? (i := 0) rfl)) all0)
  have cr6 : CHr Z consts_1 s.vm h0 T3.vm T3.heap := CR3q
  have CR6 := CR0.trans cr6
  have lt7 : @LT.lt Nat _ tt T3.heap.size := G2_3.lt
  show own_Rn p e below _ (T3.setTop (mkF m 9 #[.val (.ref x), .val (.ref b)] []))
  exact own_retS Xr3 hSr3 (Nat.le_refl _) (v := none) (fun _ => rfl) (fun fs hr => Xr3.returnOut hx Bd.returns (hb hby own_d0_9) hr) (⟨tt, kk, rfl, N3, K6, G0_3, G1_3, G2_3⟩) (by rw [hh]; exact CR6.trans (CHv.at Xr3 hZ3 hEL CR6.1)) (by decide) (by decide)
theorem own_ef_rmEqN (m : MethodId) (x : Addr) : entryFrame m #[(.ref x), .null] 3 = mkF m 0 #[.val (.ref x), .val .null, .unset] [] := by first | (simp [entryFrame, mkF, argsToLocals, Value.category]; done) | rfl
theorem own_d8_0 : decode jdk_42_method_66_code 0 = .ok (.aload_n 0, 1) := by decide +kernel
theorem own_d8_1 : decode jdk_42_method_66_code 1 = .ok (.aload_n 1, 1) := by decide +kernel
theorem own_d8_2 : decode jdk_42_method_66_code 2 = .ok (.if_acmp .ne 5, 3) := by decide +kernel
theorem own_d8_7 : decode jdk_42_method_66_code 7 = .ok (.aload_n 1, 1) := by decide +kernel
theorem own_d8_8 : decode jdk_42_method_66_code 8 = .ok (.instanceof 10, 3) := by decide +kernel
theorem own_d8_11 : decode jdk_42_method_66_code 11 = .ok (.ifCond .eq 43, 3) := by decide +kernel
theorem own_d8_54 : decode jdk_42_method_66_code 54 = .ok (.iconst 0, 1) := by decide +kernel
theorem own_d8_55 : decode jdk_42_method_66_code 55 = .ok (.ireturn, 1) := by decide +kernel
def Q_rmEqN (Z : State) (x : Addr) (h0 : Heap) (n0 : Nat) (vq : Option Value) (hhq : Heap) (Lq : List Loc) : Prop := vq = some (.int (0 : Int32)) ∧ Fr n0 Lq ∧ hhq = h0
set_option maxRecDepth 65536 in
set_option maxHeartbeats 40000000 in
theorem rmEqN (l : Launch) (Z : State) (a0 : Array Value) (hw : ∀ d ∈ tables_1, d.before a0 Z = true) (ws : List Jvm.Cond) (x : Addr) (h0 : Heap) (n0 : Nat) (Z0 : n0 ≤ h0.size)  :
    MetFree l (⟨"java/lang/String", "equals", "(Ljava/lang/Object;)Z"⟩ : MethodName) (head1 (Jvm.Cond.code (⟨"java/lang/String", "equals", "(Ljava/lang/Object;)Z"⟩ : MethodName) jdk_42_method_66_code 3 (some .boolean) :: ws) ({ frames := 0, cells := 0, slots := 0, locals := 0 } : Room)) (fun aq U => aq = #[(.ref x), .null] ∧ Z.Warmed39 U.vm ∧ U.heap = h0) (fun _ _ _ _ _ => True) (fun _ U oq U' => ∃ vq Lq, oq = .returned vq ∧ Q_rmEqN Z x h0 n0 vq U'.heap Lq ∧ FrameEnd U oq U' Lq ({ frames := 0, cells := 0, slots := 0, locals := 0 } : Room).cells ({ frames := 0, cells := 0, slots := 0, locals := 0 } : Room).slots) := by
  refine MetFree.of_bodySF (plainFor_of_name own_pn_java_lang_String) hisR ?_
  intro p e s m args below meth c s₁ Bd hml0 hP hK
  obtain ⟨rfl, hZ, hh⟩ := hP
  have hx := Bd.exec
  have hby := Bd.bytes
  have hml : c.maxLocals = 3 := hml0
  have hown : s.vm.findClass "java/lang/String" = some m.cls := findClass_of_methodNamed Bd.named
  have hnm := (name_of_methodNamed Bd.named Bd.method).1
  have X0 : Stand p l e ({ frames := 0, cells := 0, slots := 0, locals := 0 } : Room) s m #[(.ref x), .null] below meth c s₁ [] 0 0 := Stand.of_body Bd
  have e0 : s₁.heap = h0 := by rw [← hh, Bd.state]; rfl
  have N0 := Fr.nil n0
  have K0 : Keep h0 h0 [] := Keep.refl _ _
  refine own_go (S' := s₁.setTop (mkF m 0 #[.val (.ref x), .val .null, .unset] [])) (fun tq kq => castTop (own_ef_rmEqN m x) kq) ?_
  refine own_aln X0 hx 1 (hb hby own_d8_0) rfl rfl rfl ?_
  refine own_aln X0 hx 2 (hb hby own_d8_1) rfl rfl rfl ?_
  refine own_go (fun tq kq => Jvm.RoadKit.acmp (g := (mkF m 2 #[.val (.ref x), .val .null, .unset] [.null, (.ref x)])) X0 hx rfl rfl rfl (pc0 := 2) (pc' := 7) (same := false) rfl (hb hby own_d8_2) rfl (decide_eq_false nofun) (by decide) (by decide) kq) ?_
  show own_Rn p e below _ (s₁.setTop (mkF m 7 #[.val (.ref x), .val .null, .unset] []))
  refine own_aln X0 hx 8 (hb hby own_d8_7) rfl rfl rfl ?_
  refine own_go (fun tq kq => X0.instanceofNull hx (g := (mkF m 8 #[.val (.ref x), .val .null, .unset] [.null])) rfl rfl (hb hby own_d8_8) _ kq) ?_
  show own_Rn p e below _ (s₁.setTop (mkF m 11 #[.val (.ref x), .val .null, .unset] [(.int (0 : Int32))]))
  refine own_ifY X0 hx 54 (hb hby own_d8_11) ((if0 _ _).trans (teq ((by decide : (0 : Int32) = (0 : Int32)) : (0 : Int32) = (0 : Int32))).1) (by decide) (by decide) ?_
  refine own_ic X0 hx (0 : Int32) 55 (hb hby own_d8_54) rfl rfl ?_
  exact own_ret X0 (v := some (.int (nar .boolean (0 : Int32)))) (fun h => by rw [Bd.returns] at h; cases h) (fun fs hr => retN X0 hx (t := .boolean) Bd.returns (by simp) (hb hby own_d8_55) hr) (by rw [e0]; exact ⟨rfl, N0, rfl⟩) (by decide) (by decide)
theorem own_ef_rmFindN (m : MethodId) (va : Addr) (kv : ClassId) (t0 : Addr) (t1 : Addr) (t2 : Addr) (x0 : Addr) (y0 : Addr) (kz0 : ClassId) (x1 : Addr) (y1 : Addr) (kz1 : ClassId) (x2 : Addr) (y2 : Addr) (kz2 : ClassId) (oe : Addr) : entryFrame m #[.null] 5 = mkF m 0 #[.val .null, .unset, .unset, .unset, .unset] [] := by first | (simp [entryFrame, mkF, argsToLocals, Value.category]; done) | rfl
def Q_rmFindN (Z : State) (va : Addr) (kv : ClassId) (t0 : Addr) (t1 : Addr) (t2 : Addr) (x0 : Addr) (y0 : Addr) (kz0 : ClassId) (x1 : Addr) (y1 : Addr) (kz1 : ClassId) (x2 : Addr) (y2 : Addr) (kz2 : ClassId) (oe : Addr) (h0 : Heap) (n0 : Nat) (vq : Option Value) (hhq : Heap) (Lq : List Loc) : Prop := vq = some (.ref oe) ∧ Fr n0 Lq ∧ Keep h0 hhq []
set_option maxRecDepth 65536 in
set_option maxHeartbeats 40000000 in
theorem rmFindN (l : Launch) (Z : State) (a0 : Array Value) (hw : ∀ d ∈ tables_1, d.before a0 Z = true) (ws : List Jvm.Cond) (va : Addr) (kv : ClassId) (t0 : Addr) (t1 : Addr) (t2 : Addr) (x0 : Addr) (y0 : Addr) (kz0 : ClassId) (x1 : Addr) (y1 : Addr) (kz1 : ClassId) (x2 : Addr) (y2 : Addr) (kz2 : ClassId) (oe : Addr) (h0 : Heap) (n0 : Nat) (Z0 : n0 ≤ h0.size) (OV : Sta Z Z.heap "com/example/cartiglio/cartiglio/core/HashAlgorithm" "$VALUES" "[Lcom/example/cartiglio/cartiglio/core/HashAlgorithm;" (.ref va)) (EV : Exa Z Z.heap va "[Lcom/example/cartiglio/cartiglio/core/HashAlgorithm;") (AV : Arv Z Z.heap va kv (.object "com/example/cartiglio/cartiglio/core/HashAlgorithm") (3 : Int32) [(.ref t0), (.ref t1), (.ref t2)] .null) (OE : Sta Z Z.heap "java/util/Optional" "EMPTY" "Ljava/util/Optional;" (.ref oe)) (ZE : Exa Z Z.heap oe "java/util/Optional") (ZF : Fld Z Z.heap oe "java/util/Optional" "value" "Ljava/lang/Object;" .null) (ZT0 : Exa Z Z.heap t0 "com/example/cartiglio/cartiglio/core/HashAlgorithm") (ZN0 : Fld Z Z.heap t0 "com/example/cartiglio/cartiglio/core/HashAlgorithm" "ianaName" "Ljava/lang/String;" (.ref x0)) (ZX00 : Exa Z Z.heap x0 "java/lang/String") (ZX01 : Fld Z Z.heap x0 "java/lang/String" "value" "[B" (.ref y0)) (ZX02 : Fld Z Z.heap x0 "java/lang/String" "coder" "B" (.int (0 : Int32))) (ZX03 : Arv Z Z.heap y0 kz0 .byte (Int32.ofNat ([115, 104, 97, 45, 50, 53, 54] : List Int32).length) (own_bs ([115, 104, 97, 45, 50, 53, 54] : List Int32)) (.int 0)) (ZT1 : Exa Z Z.heap t1 "com/example/cartiglio/cartiglio/core/HashAlgorithm") (ZN1 : Fld Z Z.heap t1 "com/example/cartiglio/cartiglio/core/HashAlgorithm" "ianaName" "Ljava/lang/String;" (.ref x1)) (ZX10 : Exa Z Z.heap x1 "java/lang/String") (ZX11 : Fld Z Z.heap x1 "java/lang/String" "value" "[B" (.ref y1)) (ZX12 : Fld Z Z.heap x1 "java/lang/String" "coder" "B" (.int (0 : Int32))) (ZX13 : Arv Z Z.heap y1 kz1 .byte (Int32.ofNat ([115, 104, 97, 45, 51, 56, 52] : List Int32).length) (own_bs ([115, 104, 97, 45, 51, 56, 52] : List Int32)) (.int 0)) (ZT2 : Exa Z Z.heap t2 "com/example/cartiglio/cartiglio/core/HashAlgorithm") (ZN2 : Fld Z Z.heap t2 "com/example/cartiglio/cartiglio/core/HashAlgorithm" "ianaName" "Ljava/lang/String;" (.ref x2)) (ZX20 : Exa Z Z.heap x2 "java/lang/String") (ZX21 : Fld Z Z.heap x2 "java/lang/String" "value" "[B" (.ref y2)) (ZX22 : Fld Z Z.heap x2 "java/lang/String" "coder" "B" (.int (0 : Int32))) (ZX23 : Arv Z Z.heap y2 kz2 .byte (Int32.ofNat ([115, 104, 97, 45, 53, 49, 50] : List Int32).length) (own_bs ([115, 104, 97, 45, 53, 49, 50] : List Int32)) (.int 0)) (X00 : Old Z n0 h0) :
    MetFree l (⟨"com/example/cartiglio/cartiglio/core/HashAlgorithm", "byIanaName", "(Ljava/lang/String;)Ljava/util/Optional;"⟩ : MethodName) (head1 (Jvm.Cond.code (⟨"com/example/cartiglio/cartiglio/core/HashAlgorithm", "byIanaName", "(Ljava/lang/String;)Ljava/util/Optional;"⟩ : MethodName) prog_5_method_4_code 5 (some (.object "java/util/Optional")) :: ws) ({ frames := 2, cells := 1, slots := 3, locals := 25 } : Room)) (fun aq U => aq = #[.null] ∧ Z.Warmed39 U.vm ∧ U.heap = h0) (fun _ _ _ _ _ => True) (fun _ U oq U' => ∃ vq Lq, oq = .returned vq ∧ Q_rmFindN Z va kv t0 t1 t2 x0 y0 kz0 x1 y1 kz1 x2 y2 kz2 oe h0 n0 vq U'.heap Lq ∧ FrameEnd U oq U' Lq ({ frames := 2, cells := 1, slots := 3, locals := 25 } : Room).cells ({ frames := 2, cells := 1, slots := 3, locals := 25 } : Room).slots) := by
  refine MetFree.of_bodySF (plainFor_of_name own_pn_com_example_cartiglio_cartiglio_core_HashAlgorithm) hisR ?_
  intro p e s m args below meth c s₁ Bd hml0 hP hK
  obtain ⟨rfl, hZ, hh⟩ := hP
  have hx := Bd.exec
  have hby := Bd.bytes
  have hml : c.maxLocals = 5 := hml0
  have hown : s.vm.findClass "com/example/cartiglio/cartiglio/core/HashAlgorithm" = some m.cls := findClass_of_methodNamed Bd.named
  have hnm := (name_of_methodNamed Bd.named Bd.method).1
  have X0 : Stand p l e ({ frames := 2, cells := 1, slots := 3, locals := 25 } : Room) s m #[.null] below meth c s₁ [] 0 0 := Stand.of_body Bd
  have e0 : s₁.heap = h0 := by rw [← hh, Bd.state]; rfl
  have N0 := Fr.nil n0
  have K0 : Keep h0 h0 [] := Keep.refl _ _
  refine own_go (S' := s₁.setTop (mkF m 0 #[.val .null, .unset, .unset, .unset, .unset] [])) (fun tq kq => castTop (own_ef_rmFindN m va kv t0 t1 t2 x0 y0 kz0 x1 y1 kz1 x2 y2 kz2 oe) kq) ?_
  have Zn1 : n0 ≤ h0.size := (Nat.le_trans Z0 (Nat.le_refl _))
  refine own_cS X0 hx hZ (y := (⟨"com/example/cartiglio/cartiglio/core/HashAlgorithm", "values", "()[Lcom/example/cartiglio/cartiglio/core/HashAlgorithm;"⟩ : MethodName)) hown (hw _ (own_mi 35 rfl)) (hw _ (own_mi 36 rfl)) (hw _ (own_mi 33 rfl)) (hw _ (own_mi 37 rfl)) (by decide) (rmVals l Z a0 hw [] (va) (kv) (t0) (t1) (t2) h0 n0 Zn1 (OV) EV AV X00) e0 [] [] rfl (by rw [hml]; rfl) (lenOf own_pd_28295bLcom2fexample2fcartiglio2fcartiglio2fcore2fHashAlgorithm3b rfl) rfl 0 (Nat.le_of_eq rfl) (by decide) (by decide) (by decide : 0 + 1 ≤ _) (by decide : 0 + 3 ≤ _) 3 (hb hby own_d6_0) rfl 1 3 rfl rfl ?_
  intro rv1 T1 Lc1 X1 hQ1
  obtain ⟨vv, rfl, Nq1, Kq1, G0_1⟩ := hQ1
  have N1 := Fr.app N0 Nq1
  have sz2 : h0.size ≤ T1.heap.size := Kq1.1
  have K2 := K0.trans Kq1 all0
  have lt3 : @LT.lt Nat _ vv T1.heap.size := G0_1.lt
  show own_Rn p e below _ (T1.setTop (mkF m 3 #[.val .null, .unset, .unset, .unset, .unset] [(.ref vv)]))
  refine own_asn X1 hx #[.val .null, .val (.ref vv), .unset, .unset, .unset] 4 (hb hby own_d6_3) rfl rfl rfl ?_
  refine own_aln X1 hx 5 (hb hby own_d6_4) rfl rfl rfl ?_
  refine own_alen X1 hx hZ rfl G0_1 6 (hb hby own_d6_5) rfl ?_
  refine own_isn X1 hx #[.val .null, .val (.ref vv), .val (.int (3 : Int32)), .unset, .unset] 7 (hb hby own_d6_6) rfl rfl ?_
  refine own_ic X1 hx (0 : Int32) 8 (hb hby own_d6_7) rfl rfl ?_
  refine own_isn X1 hx #[.val .null, .val (.ref vv), .val (.int (3 : Int32)), .val (.int (0 : Int32)), .unset] 9 (hb hby own_d6_8) rfl rfl ?_
  refine own_iln X1 hx 10 (hb hby own_d6_9) rfl rfl ?_
  refine own_iln X1 hx 11 (hb hby own_d6_10) rfl rfl ?_
  refine own_icN X1 hx 14 (hb hby own_d6_11) rfl (tlt (by decide : (0 : Int32) < (3 : Int32))).2.1 ?_
  refine own_aln X1 hx 15 (hb hby own_d6_14) rfl rfl rfl ?_
  refine own_iln X1 hx 16 (hb hby own_d6_15) rfl rfl ?_
  obtain ⟨cl4, Ar4, q4, Sz4, Nn4, Hs4, G4⟩ := id G0_1
  have in4 := inb_of (j := (0 : Int32)) Sz4 ⟨by decide, by decide⟩
  refine own_go (fun tq kq => X1.aaload hx (j := (0 : Int32)) (v := (.ref t0)) Ar4.1 (State.isArrayOf_alike hZ.alike Ar4.2.1) rfl Ar4.2.2 in4 (Hs4.at in4 rfl) (g := (mkF m 16 #[.val .null, .val (.ref vv), .val (.int (3 : Int32)), .val (.int (0 : Int32)), .unset] [(.int (0 : Int32)), (.ref vv)])) rfl rfl (hb hby own_d6_16) tq kq) ?_
  show own_Rn p e below _ (T1.setTop (mkF m 17 #[.val .null, .val (.ref vv), .val (.int (3 : Int32)), .val (.int (0 : Int32)), .unset] [(.ref t0)]))
  refine own_as X1 hx #[.val .null, .val (.ref vv), .val (.int (3 : Int32)), .val (.int (0 : Int32)), .val (.ref t0)] 19 (hb hby own_d6_17) rfl rfl rfl ?_
  refine own_al X1 hx 21 (hb hby own_d6_19) rfl rfl rfl ?_
  have F6 : Old Z n0 T1.heap := (X00.keep Kq1 all0)
  have F5 : Fld Z T1.heap t0 "com/example/cartiglio/cartiglio/core/HashAlgorithm" "ianaName" "Ljava/lang/String;" (.ref x0) := ZN0.ext F6.2
  refine own_gF X1 hx hZ hown (host := "") (Or.inl (hw _ (own_mi 53 rfl))) Via.refl rfl F5 24 (hb hby own_d6_21) rfl ?_
  intro T7 X7 e7
  refine own_aln X7 hx 25 (hb hby own_d6_24) rfl rfl rfl ?_
  have Zn8 : n0 ≤ T1.heap.size := (Nat.le_trans Z0 sz2)
  have F9 : Exa Z T1.heap x0 "java/lang/String" := ZX00.ext F6.2
  refine own_cV X7 hx hZ (y := (⟨"java/lang/String", "equals", "(Ljava/lang/Object;)Z"⟩ : MethodName)) (z := (⟨"java/lang/String", "equals", "(Ljava/lang/Object;)Z"⟩ : MethodName)) hown (hw _ (own_mi 55 rfl)) (hw _ (own_mi 56 rfl)) (notFace_of_selects (args := #[]) (mvT hZ (hw _ (own_mi 58 rfl)))) (hw _ (own_mi 58 rfl)) (hw _ (own_mi 57 rfl)) (hw _ (own_mi 59 rfl)) (hw _ (own_mi 4 rfl)) (by decide) (rmEqN l Z a0 hw [] (x0) T1.heap n0 Zn8 ) F9 e7 [.null] [] rfl (by rw [hml]; rfl) (lenOf own_pd_28Ljava2flang2fObject3b29Z rfl) rfl 0 (Nat.le_of_eq rfl) (by decide) (by decide) (by decide : 1 + 0 ≤ _) (by decide : 3 + 0 ≤ _) 28 (hb hby own_d6_25) rfl 1 3 rfl rfl ?_
  intro rv8 T8 Lc8 X8 hQ8
  obtain ⟨rfl, Nq8, eh8⟩ := hQ8
  have N8 := Fr.app N1 Nq8
  show own_Rn p e below _ (T8.setTop (mkF m 28 #[.val .null, .val (.ref vv), .val (.int (3 : Int32)), .val (.int (0 : Int32)), .val (.ref t0)] [(.int (0 : Int32))]))
  refine own_ifY X8 hx 37 (hb hby own_d6_28) ((if0 _ _).trans (teq ((by decide : (0 : Int32) = (0 : Int32)) : (0 : Int32) = (0 : Int32))).1) (by decide) (by decide) ?_
  refine own_ii X8 hx #[.val .null, .val (.ref vv), .val (.int (3 : Int32)), .val (.int ((0 : Int32) + (1 : Int32))), .val (.ref t0)] 40 (hb hby own_d6_37) rfl rfl rfl ?_
  refine own_gt X8 hx 9 (hb hby own_d6_40) (by decide) (by decide) ?_
  refine own_iln X8 hx 10 (hb hby own_d6_9) rfl rfl ?_
  refine own_iln X8 hx 11 (hb hby own_d6_10) rfl rfl ?_
  refine own_icN X8 hx 14 (hb hby own_d6_11) rfl (tlt (by decide : ((0 : Int32) + (1 : Int32)) < (3 : Int32))).2.1 ?_
  refine own_aln X8 hx 15 (hb hby own_d6_14) rfl rfl rfl ?_
  refine own_iln X8 hx 16 (hb hby own_d6_15) rfl rfl ?_
  obtain ⟨cl10, Ar10, q10, Sz10, Nn10, Hs10, G10⟩ := id G0_1
  have in10 := inb_of (j := ((0 : Int32) + (1 : Int32))) Sz10 ⟨by decide, by decide⟩
  refine own_go (fun tq kq => X8.aaload hx (j := ((0 : Int32) + (1 : Int32))) (v := (.ref t1)) (by rw [eh8]; exact Ar10.1) (State.isArrayOf_alike hZ.alike Ar10.2.1) rfl Ar10.2.2 in10 (Hs10.at in10 rfl) (g := (mkF m 16 #[.val .null, .val (.ref vv), .val (.int (3 : Int32)), .val (.int ((0 : Int32) + (1 : Int32))), .val (.ref t0)] [(.int ((0 : Int32) + (1 : Int32))), (.ref vv)])) rfl rfl (hb hby own_d6_16) tq kq) ?_
  show own_Rn p e below _ (T8.setTop (mkF m 17 #[.val .null, .val (.ref vv), .val (.int (3 : Int32)), .val (.int ((0 : Int32) + (1 : Int32))), .val (.ref t0)] [(.ref t1)]))
  refine own_as X8 hx #[.val .null, .val (.ref vv), .val (.int (3 : Int32)), .val (.int ((0 : Int32) + (1 : Int32))), .val (.ref t1)] 19 (hb hby own_d6_17) rfl rfl rfl ?_
  refine own_al X8 hx 21 (hb hby own_d6_19) rfl rfl rfl ?_
  have F11 : Fld Z T1.heap t1 "com/example/cartiglio/cartiglio/core/HashAlgorithm" "ianaName" "Ljava/lang/String;" (.ref x1) := ZN1.ext F6.2
  refine own_gF X8 hx hZ hown (host := "") (Or.inl (hw _ (own_mi 53 rfl))) Via.refl eh8 F11 24 (hb hby own_d6_21) rfl ?_
  intro T12 X12 e12
  refine own_aln X12 hx 25 (hb hby own_d6_24) rfl rfl rfl ?_
  have Zn13 : n0 ≤ T1.heap.size := (Nat.le_trans Z0 sz2)
  have F14 : Exa Z T1.heap x1 "java/lang/String" := ZX10.ext F6.2
  refine own_cV X12 hx hZ (y := (⟨"java/lang/String", "equals", "(Ljava/lang/Object;)Z"⟩ : MethodName)) (z := (⟨"java/lang/String", "equals", "(Ljava/lang/Object;)Z"⟩ : MethodName)) hown (hw _ (own_mi 55 rfl)) (hw _ (own_mi 56 rfl)) (notFace_of_selects (args := #[]) (mvT hZ (hw _ (own_mi 58 rfl)))) (hw _ (own_mi 58 rfl)) (hw _ (own_mi 57 rfl)) (hw _ (own_mi 59 rfl)) (hw _ (own_mi 4 rfl)) (by decide) (rmEqN l Z a0 hw [] (x1) T1.heap n0 Zn13 ) F14 e12 [.null] [] rfl (by rw [hml]; rfl) (lenOf own_pd_28Ljava2flang2fObject3b29Z rfl) rfl 0 (Nat.le_of_eq rfl) (by decide) (by decide) (by decide : 1 + 0 ≤ _) (by decide : 3 + 0 ≤ _) 28 (hb hby own_d6_25) rfl 1 3 rfl rfl ?_
  intro rv13 T13 Lc13 X13 hQ13
  obtain ⟨rfl, Nq13, eh13⟩ := hQ13
  have N13 := Fr.app N8 Nq13
  show own_Rn p e below _ (T13.setTop (mkF m 28 #[.val .null, .val (.ref vv), .val (.int (3 : Int32)), .val (.int ((0 : Int32) + (1 : Int32))), .val (.ref t1)] [(.int (0 : Int32))]))
  refine own_ifY X13 hx 37 (hb hby own_d6_28) ((if0 _ _).trans (teq ((by decide : (0 : Int32) = (0 : Int32)) : (0 : Int32) = (0 : Int32))).1) (by decide) (by decide) ?_
  refine own_ii X13 hx #[.val .null, .val (.ref vv), .val (.int (3 : Int32)), .val (.int (((0 : Int32) + (1 : Int32)) + (1 : Int32))), .val (.ref t1)] 40 (hb hby own_d6_37) rfl rfl rfl ?_
  refine own_gt X13 hx 9 (hb hby own_d6_40) (by decide) (by decide) ?_
  refine own_iln X13 hx 10 (hb hby own_d6_9) rfl rfl ?_
  refine own_iln X13 hx 11 (hb hby own_d6_10) rfl rfl ?_
  refine own_icN X13 hx 14 (hb hby own_d6_11) rfl (tlt (by decide : (((0 : Int32) + (1 : Int32)) + (1 : Int32)) < (3 : Int32))).2.1 ?_
  refine own_aln X13 hx 15 (hb hby own_d6_14) rfl rfl rfl ?_
  refine own_iln X13 hx 16 (hb hby own_d6_15) rfl rfl ?_
  obtain ⟨cl15, Ar15, q15, Sz15, Nn15, Hs15, G15⟩ := id G0_1
  have in15 := inb_of (j := (((0 : Int32) + (1 : Int32)) + (1 : Int32))) Sz15 ⟨by decide, by decide⟩
  refine own_go (fun tq kq => X13.aaload hx (j := (((0 : Int32) + (1 : Int32)) + (1 : Int32))) (v := (.ref t2)) (by rw [eh13]; exact Ar15.1) (State.isArrayOf_alike hZ.alike Ar15.2.1) rfl Ar15.2.2 in15 (Hs15.at in15 rfl) (g := (mkF m 16 #[.val .null, .val (.ref vv), .val (.int (3 : Int32)), .val (.int (((0 : Int32) + (1 : Int32)) + (1 : Int32))), .val (.ref t1)] [(.int (((0 : Int32) + (1 : Int32)) + (1 : Int32))), (.ref vv)])) rfl rfl (hb hby own_d6_16) tq kq) ?_
  show own_Rn p e below _ (T13.setTop (mkF m 17 #[.val .null, .val (.ref vv), .val (.int (3 : Int32)), .val (.int (((0 : Int32) + (1 : Int32)) + (1 : Int32))), .val (.ref t1)] [(.ref t2)]))
  refine own_as X13 hx #[.val .null, .val (.ref vv), .val (.int (3 : Int32)), .val (.int (((0 : Int32) + (1 : Int32)) + (1 : Int32))), .val (.ref t2)] 19 (hb hby own_d6_17) rfl rfl rfl ?_
  refine own_al X13 hx 21 (hb hby own_d6_19) rfl rfl rfl ?_
  have F16 : Fld Z T1.heap t2 "com/example/cartiglio/cartiglio/core/HashAlgorithm" "ianaName" "Ljava/lang/String;" (.ref x2) := ZN2.ext F6.2
  refine own_gF X13 hx hZ hown (host := "") (Or.inl (hw _ (own_mi 53 rfl))) Via.refl eh13 F16 24 (hb hby own_d6_21) rfl ?_
  intro T17 X17 e17
  refine own_aln X17 hx 25 (hb hby own_d6_24) rfl rfl rfl ?_
  have Zn18 : n0 ≤ T1.heap.size := (Nat.le_trans Z0 sz2)
  have F19 : Exa Z T1.heap x2 "java/lang/String" := ZX20.ext F6.2
  refine own_cV X17 hx hZ (y := (⟨"java/lang/String", "equals", "(Ljava/lang/Object;)Z"⟩ : MethodName)) (z := (⟨"java/lang/String", "equals", "(Ljava/lang/Object;)Z"⟩ : MethodName)) hown (hw _ (own_mi 55 rfl)) (hw _ (own_mi 56 rfl)) (notFace_of_selects (args := #[]) (mvT hZ (hw _ (own_mi 58 rfl)))) (hw _ (own_mi 58 rfl)) (hw _ (own_mi 57 rfl)) (hw _ (own_mi 59 rfl)) (hw _ (own_mi 4 rfl)) (by decide) (rmEqN l Z a0 hw [] (x2) T1.heap n0 Zn18 ) F19 e17 [.null] [] rfl (by rw [hml]; rfl) (lenOf own_pd_28Ljava2flang2fObject3b29Z rfl) rfl 0 (Nat.le_of_eq rfl) (by decide) (by decide) (by decide : 1 + 0 ≤ _) (by decide : 3 + 0 ≤ _) 28 (hb hby own_d6_25) rfl 1 3 rfl rfl ?_
  intro rv18 T18 Lc18 X18 hQ18
  obtain ⟨rfl, Nq18, eh18⟩ := hQ18
  have N18 := Fr.app N13 Nq18
  show own_Rn p e below _ (T18.setTop (mkF m 28 #[.val .null, .val (.ref vv), .val (.int (3 : Int32)), .val (.int (((0 : Int32) + (1 : Int32)) + (1 : Int32))), .val (.ref t2)] [(.int (0 : Int32))]))
  refine own_ifY X18 hx 37 (hb hby own_d6_28) ((if0 _ _).trans (teq ((by decide : (0 : Int32) = (0 : Int32)) : (0 : Int32) = (0 : Int32))).1) (by decide) (by decide) ?_
  refine own_ii X18 hx #[.val .null, .val (.ref vv), .val (.int (3 : Int32)), .val (.int ((((0 : Int32) + (1 : Int32)) + (1 : Int32)) + (1 : Int32))), .val (.ref t2)] 40 (hb hby own_d6_37) rfl rfl rfl ?_
  refine own_gt X18 hx 9 (hb hby own_d6_40) (by decide) (by decide) ?_
  refine own_iln X18 hx 10 (hb hby own_d6_9) rfl rfl ?_
  refine own_iln X18 hx 11 (hb hby own_d6_10) rfl rfl ?_
  refine own_icY X18 hx 43 (hb hby own_d6_11) (flt (by decide : ¬ (((((0 : Int32) + (1 : Int32)) + (1 : Int32)) + (1 : Int32)) < (3 : Int32)))).2.1 (by decide) (by decide) ?_
  have Zn20 : n0 ≤ T1.heap.size := (Nat.le_trans Z0 sz2)
  refine own_cS X18 hx hZ (y := (⟨"java/util/Optional", "empty", "()Ljava/util/Optional;"⟩ : MethodName)) hown (hw _ (own_mi 65 rfl)) (hw _ (own_mi 66 rfl)) (hw _ (own_mi 67 rfl)) (hw _ (own_mi 68 rfl)) (by decide) (rmEm l Z a0 hw [] (oe) T1.heap n0 Zn20 (OE) F6) eh18 [] [] rfl (by rw [hml]; rfl) (lenOf own_pd_2829Ljava2futil2fOptional3b rfl) rfl 0 (Nat.le_of_eq rfl) (by decide) (by decide) (by decide : 1 + 0 ≤ _) (by decide : 3 + 0 ≤ _) 46 (hb hby own_d6_43) rfl 1 3 rfl rfl ?_
  intro rv20 T20 Lc20 X20 hQ20
  obtain ⟨rfl, Nq20, eh20⟩ := hQ20
  have N20 := Fr.app N18 Nq20
  show own_Rn p e below _ (T20.setTop (mkF m 46 #[.val .null, .val (.ref vv), .val (.int (3 : Int32)), .val (.int ((((0 : Int32) + (1 : Int32)) + (1 : Int32)) + (1 : Int32))), .val (.ref t2)] [(.ref oe)]))
  exact own_ret X20 (v := some (.ref oe)) (fun h => by rw [Bd.returns] at h; cases h) (fun fs hr => X20.areturnOut hx rfl Bd.returns rfl (hb hby own_d6_46) hr) (by rw [eh20]; exact ⟨rfl, N20, K2⟩) (by decide) (by decide)
theorem own_ef_rmIsN (m : MethodId) (o : Addr) : entryFrame m #[(.ref o)] 1 = mkF m 0 #[.val (.ref o)] [] := by first | (simp [entryFrame, mkF, argsToLocals, Value.category]; done) | rfl
theorem own_d11_0 : decode jdk_32_method_6_code 0 = .ok (.aload_n 0, 1) := by decide +kernel
theorem own_d11_1 : decode jdk_32_method_6_code 1 = .ok (.getfield 13, 3) := by decide +kernel
theorem own_d11_4 : decode jdk_32_method_6_code 4 = .ok (.ifnull 7, 3) := by decide +kernel
theorem own_d11_11 : decode jdk_32_method_6_code 11 = .ok (.iconst 0, 1) := by decide +kernel
theorem own_d11_12 : decode jdk_32_method_6_code 12 = .ok (.ireturn, 1) := by decide +kernel
def Q_rmIsN (Z : State) (o : Addr) (h0 : Heap) (n0 : Nat) (vq : Option Value) (hhq : Heap) (Lq : List Loc) : Prop := vq = some (.int (0 : Int32)) ∧ Fr n0 Lq ∧ hhq = h0
set_option maxRecDepth 65536 in
set_option maxHeartbeats 40000000 in
theorem rmIsN (l : Launch) (Z : State) (a0 : Array Value) (hw : ∀ d ∈ tables_1, d.before a0 Z = true) (ws : List Jvm.Cond) (o : Addr) (h0 : Heap) (n0 : Nat) (Z0 : n0 ≤ h0.size) (Pm0 : Fld Z h0 o "java/util/Optional" "value" "Ljava/lang/Object;" .null) :
    MetFree l (⟨"java/util/Optional", "isPresent", "()Z"⟩ : MethodName) (head1 (Jvm.Cond.code (⟨"java/util/Optional", "isPresent", "()Z"⟩ : MethodName) jdk_32_method_6_code 1 (some .boolean) :: ws) ({ frames := 0, cells := 0, slots := 0, locals := 0 } : Room)) (fun aq U => aq = #[(.ref o)] ∧ Z.Warmed39 U.vm ∧ U.heap = h0) (fun _ _ _ _ _ => True) (fun _ U oq U' => ∃ vq Lq, oq = .returned vq ∧ Q_rmIsN Z o h0 n0 vq U'.heap Lq ∧ FrameEnd U oq U' Lq ({ frames := 0, cells := 0, slots := 0, locals := 0 } : Room).cells ({ frames := 0, cells := 0, slots := 0, locals := 0 } : Room).slots) := by
  refine MetFree.of_bodySF (plainFor_of_name own_pn_java_util_Optional) hisR ?_
  intro p e s m args below meth c s₁ Bd hml0 hP hK
  obtain ⟨rfl, hZ, hh⟩ := hP
  have hx := Bd.exec
  have hby := Bd.bytes
  have hml : c.maxLocals = 1 := hml0
  have hown : s.vm.findClass "java/util/Optional" = some m.cls := findClass_of_methodNamed Bd.named
  have hnm := (name_of_methodNamed Bd.named Bd.method).1
  have X0 : Stand p l e ({ frames := 0, cells := 0, slots := 0, locals := 0 } : Room) s m #[(.ref o)] below meth c s₁ [] 0 0 := Stand.of_body Bd
  have e0 : s₁.heap = h0 := by rw [← hh, Bd.state]; rfl
  have N0 := Fr.nil n0
  have K0 : Keep h0 h0 [] := Keep.refl _ _
  refine own_go (S' := s₁.setTop (mkF m 0 #[.val (.ref o)] [])) (fun tq kq => castTop (own_ef_rmIsN m o) kq) ?_
  have lt1 : @LT.lt Nat _ o h0.size := Pm0.lt
  refine own_aln X0 hx 1 (hb hby own_d11_0) rfl rfl rfl ?_
  refine own_gF X0 hx hZ hown (host := "") (Or.inl (hw _ (own_mi 75 rfl))) Via.refl e0 Pm0 4 (hb hby own_d11_1) rfl ?_
  intro T2 X2 e2
  refine own_go (fun tq kq => XS.ifnullYes X2.here hx rfl (pc0 := 4) (pc' := 11) rfl (hb hby own_d11_4) rfl (by decide) (by decide) kq) ?_
  show own_Rn p e below _ (T2.setTop (mkF m 11 #[.val (.ref o)] []))
  refine own_ic X2 hx (0 : Int32) 12 (hb hby own_d11_11) rfl rfl ?_
  exact own_ret X2 (v := some (.int (nar .boolean (0 : Int32)))) (fun h => by rw [Bd.returns] at h; cases h) (fun fs hr => retN X2 hx (t := .boolean) Bd.returns (by simp) (hb hby own_d11_12) hr) (by rw [e2]; exact ⟨rfl, N0, rfl⟩) (by decide) (by decide)
theorem own_ef_rmIsV (m : MethodId) (o : Addr) (v : Addr) : entryFrame m #[(.ref o)] 1 = mkF m 0 #[.val (.ref o)] [] := by first | (simp [entryFrame, mkF, argsToLocals, Value.category]; done) | rfl
theorem own_d11_7 : decode jdk_32_method_6_code 7 = .ok (.iconst 1, 1) := by decide +kernel
theorem own_d11_8 : decode jdk_32_method_6_code 8 = .ok (.goto 4, 3) := by decide +kernel
def Q_rmIsV (Z : State) (o : Addr) (v : Addr) (h0 : Heap) (n0 : Nat) (vq : Option Value) (hhq : Heap) (Lq : List Loc) : Prop := vq = some (.int (1 : Int32)) ∧ Fr n0 Lq ∧ hhq = h0
set_option maxRecDepth 65536 in
set_option maxHeartbeats 40000000 in
theorem rmIsV (l : Launch) (Z : State) (a0 : Array Value) (hw : ∀ d ∈ tables_1, d.before a0 Z = true) (ws : List Jvm.Cond) (o : Addr) (v : Addr) (h0 : Heap) (n0 : Nat) (Z0 : n0 ≤ h0.size) (Pm0 : Fld Z h0 o "java/util/Optional" "value" "Ljava/lang/Object;" (.ref v)) :
    MetFree l (⟨"java/util/Optional", "isPresent", "()Z"⟩ : MethodName) (head1 (Jvm.Cond.code (⟨"java/util/Optional", "isPresent", "()Z"⟩ : MethodName) jdk_32_method_6_code 1 (some .boolean) :: ws) ({ frames := 0, cells := 0, slots := 0, locals := 0 } : Room)) (fun aq U => aq = #[(.ref o)] ∧ Z.Warmed39 U.vm ∧ U.heap = h0) (fun _ _ _ _ _ => True) (fun _ U oq U' => ∃ vq Lq, oq = .returned vq ∧ Q_rmIsV Z o v h0 n0 vq U'.heap Lq ∧ FrameEnd U oq U' Lq ({ frames := 0, cells := 0, slots := 0, locals := 0 } : Room).cells ({ frames := 0, cells := 0, slots := 0, locals := 0 } : Room).slots) := by
  refine MetFree.of_bodySF (plainFor_of_name own_pn_java_util_Optional) hisR ?_
  intro p e s m args below meth c s₁ Bd hml0 hP hK
  obtain ⟨rfl, hZ, hh⟩ := hP
  have hx := Bd.exec
  have hby := Bd.bytes
  have hml : c.maxLocals = 1 := hml0
  have hown : s.vm.findClass "java/util/Optional" = some m.cls := findClass_of_methodNamed Bd.named
  have hnm := (name_of_methodNamed Bd.named Bd.method).1
  have X0 : Stand p l e ({ frames := 0, cells := 0, slots := 0, locals := 0 } : Room) s m #[(.ref o)] below meth c s₁ [] 0 0 := Stand.of_body Bd
  have e0 : s₁.heap = h0 := by rw [← hh, Bd.state]; rfl
  have N0 := Fr.nil n0
  have K0 : Keep h0 h0 [] := Keep.refl _ _
  refine own_go (S' := s₁.setTop (mkF m 0 #[.val (.ref o)] [])) (fun tq kq => castTop (own_ef_rmIsV m o v) kq) ?_
  have lt1 : @LT.lt Nat _ o h0.size := Pm0.lt
  refine own_aln X0 hx 1 (hb hby own_d11_0) rfl rfl rfl ?_
  refine own_gF X0 hx hZ hown (host := "") (Or.inl (hw _ (own_mi 75 rfl))) Via.refl e0 Pm0 4 (hb hby own_d11_1) rfl ?_
  intro T2 X2 e2
  refine own_go (fun tq kq => XS.ifnullNo X2.here hx rfl (hb hby own_d11_4) rfl kq) ?_
  show own_Rn p e below _ (T2.setTop (mkF m 7 #[.val (.ref o)] []))
  refine own_ic X2 hx (1 : Int32) 8 (hb hby own_d11_7) rfl rfl ?_
  refine own_gt X2 hx 12 (hb hby own_d11_8) (by decide) (by decide) ?_
  exact own_ret X2 (v := some (.int (nar .boolean (1 : Int32)))) (fun h => by rw [Bd.returns] at h; cases h) (fun fs hr => retN X2 hx (t := .boolean) Bd.returns (by simp) (hb hby own_d11_12) hr) (by rw [e2]; exact ⟨rfl, N0, rfl⟩) (by decide) (by decide)
theorem own_ef_rmGet (m : MethodId) (o : Addr) (v : Addr) : entryFrame m #[(.ref o)] 1 = mkF m 0 #[.val (.ref o)] [] := by first | (simp [entryFrame, mkF, argsToLocals, Value.category]; done) | rfl
theorem own_d15_0 : decode jdk_32_method_5_code 0 = .ok (.aload_n 0, 1) := by decide +kernel
theorem own_d15_1 : decode jdk_32_method_5_code 1 = .ok (.getfield 13, 3) := by decide +kernel
theorem own_d15_4 : decode jdk_32_method_5_code 4 = .ok (.ifnonnull 13, 3) := by decide +kernel
theorem own_d15_17 : decode jdk_32_method_5_code 17 = .ok (.aload_n 0, 1) := by decide +kernel
theorem own_d15_18 : decode jdk_32_method_5_code 18 = .ok (.getfield 13, 3) := by decide +kernel
theorem own_d15_21 : decode jdk_32_method_5_code 21 = .ok (.areturn, 1) := by decide +kernel
def Q_rmGet (Z : State) (o : Addr) (v : Addr) (h0 : Heap) (n0 : Nat) (vq : Option Value) (hhq : Heap) (Lq : List Loc) : Prop := vq = some (.ref v) ∧ Fr n0 Lq ∧ hhq = h0
set_option maxRecDepth 65536 in
set_option maxHeartbeats 40000000 in
theorem rmGet (l : Launch) (Z : State) (a0 : Array Value) (hw : ∀ d ∈ tables_1, d.before a0 Z = true) (ws : List Jvm.Cond) (o : Addr) (v : Addr) (h0 : Heap) (n0 : Nat) (Z0 : n0 ≤ h0.size) (Pm0 : Fld Z h0 o "java/util/Optional" "value" "Ljava/lang/Object;" (.ref v)) :
    MetFree l (⟨"java/util/Optional", "get", "()Ljava/lang/Object;"⟩ : MethodName) (head1 (Jvm.Cond.code (⟨"java/util/Optional", "get", "()Ljava/lang/Object;"⟩ : MethodName) jdk_32_method_5_code 1 (some (.object "java/lang/Object")) :: ws) ({ frames := 0, cells := 0, slots := 0, locals := 0 } : Room)) (fun aq U => aq = #[(.ref o)] ∧ Z.Warmed39 U.vm ∧ U.heap = h0) (fun _ _ _ _ _ => True) (fun _ U oq U' => ∃ vq Lq, oq = .returned vq ∧ Q_rmGet Z o v h0 n0 vq U'.heap Lq ∧ FrameEnd U oq U' Lq ({ frames := 0, cells := 0, slots := 0, locals := 0 } : Room).cells ({ frames := 0, cells := 0, slots := 0, locals := 0 } : Room).slots) := by
  refine MetFree.of_bodySF (plainFor_of_name own_pn_java_util_Optional) hisR ?_
  intro p e s m args below meth c s₁ Bd hml0 hP hK
  obtain ⟨rfl, hZ, hh⟩ := hP
  have hx := Bd.exec
  have hby := Bd.bytes
  have hml : c.maxLocals = 1 := hml0
  have hown : s.vm.findClass "java/util/Optional" = some m.cls := findClass_of_methodNamed Bd.named
  have hnm := (name_of_methodNamed Bd.named Bd.method).1
  have X0 : Stand p l e ({ frames := 0, cells := 0, slots := 0, locals := 0 } : Room) s m #[(.ref o)] below meth c s₁ [] 0 0 := Stand.of_body Bd
  have e0 : s₁.heap = h0 := by rw [← hh, Bd.state]; rfl
  have N0 := Fr.nil n0
  have K0 : Keep h0 h0 [] := Keep.refl _ _
  refine own_go (S' := s₁.setTop (mkF m 0 #[.val (.ref o)] [])) (fun tq kq => castTop (own_ef_rmGet m o v) kq) ?_
  have lt1 : @LT.lt Nat _ o h0.size := Pm0.lt
  refine own_aln X0 hx 1 (hb hby own_d15_0) rfl rfl rfl ?_
  refine own_gF X0 hx hZ hown (host := "") (Or.inl (hw _ (own_mi 75 rfl))) Via.refl e0 Pm0 4 (hb hby own_d15_1) rfl ?_
  intro T2 X2 e2
  refine own_go (fun tq kq => XS.ifnonnullYes X2.here hx rfl (pc0 := 4) (pc' := 17) rfl (hb hby own_d15_4) rfl (by decide) (by decide) kq) ?_
  show own_Rn p e below _ (T2.setTop (mkF m 17 #[.val (.ref o)] []))
  refine own_aln X2 hx 18 (hb hby own_d15_17) rfl rfl rfl ?_
  refine own_gF X2 hx hZ hown (host := "") (Or.inl (hw _ (own_mi 75 rfl))) Via.refl e2 Pm0 21 (hb hby own_d15_18) rfl ?_
  intro T3 X3 e3
  exact own_ret X3 (v := some (.ref v)) (fun h => by rw [Bd.returns] at h; cases h) (fun fs hr => X3.areturnOut hx rfl Bd.returns rfl (hb hby own_d15_21) hr) (by rw [e3]; exact ⟨rfl, N0, rfl⟩) (by decide) (by decide)
theorem own_ef_rmGI (m : MethodId) (o : Addr) (v : Addr) : entryFrame m #[(.ref o)] 1 = mkF m 0 #[.val (.ref o)] [] := by first | (simp [entryFrame, mkF, argsToLocals, Value.category]; done) | rfl
theorem own_d16_0 : decode prog_5_method_6_code 0 = .ok (.aload_n 0, 1) := by decide +kernel
theorem own_d16_1 : decode prog_5_method_6_code 1 = .ok (.getfield 32, 3) := by decide +kernel
theorem own_d16_4 : decode prog_5_method_6_code 4 = .ok (.areturn, 1) := by decide +kernel
def Q_rmGI (Z : State) (o : Addr) (v : Addr) (h0 : Heap) (n0 : Nat) (vq : Option Value) (hhq : Heap) (Lq : List Loc) : Prop := vq = some (.ref v) ∧ Fr n0 Lq ∧ hhq = h0
set_option maxRecDepth 65536 in
set_option maxHeartbeats 40000000 in
theorem rmGI (l : Launch) (Z : State) (a0 : Array Value) (hw : ∀ d ∈ tables_1, d.before a0 Z = true) (ws : List Jvm.Cond) (o : Addr) (v : Addr) (h0 : Heap) (n0 : Nat) (Z0 : n0 ≤ h0.size) (Pm0 : Fld Z h0 o "com/example/cartiglio/cartiglio/core/HashAlgorithm" "ianaName" "Ljava/lang/String;" (.ref v)) :
    MetFree l (⟨"com/example/cartiglio/cartiglio/core/HashAlgorithm", "ianaName", "()Ljava/lang/String;"⟩ : MethodName) (head1 (Jvm.Cond.code (⟨"com/example/cartiglio/cartiglio/core/HashAlgorithm", "ianaName", "()Ljava/lang/String;"⟩ : MethodName) prog_5_method_6_code 1 (some (.object "java/lang/String")) :: ws) ({ frames := 0, cells := 0, slots := 0, locals := 0 } : Room)) (fun aq U => aq = #[(.ref o)] ∧ Z.Warmed39 U.vm ∧ U.heap = h0) (fun _ _ _ _ _ => True) (fun _ U oq U' => ∃ vq Lq, oq = .returned vq ∧ Q_rmGI Z o v h0 n0 vq U'.heap Lq ∧ FrameEnd U oq U' Lq ({ frames := 0, cells := 0, slots := 0, locals := 0 } : Room).cells ({ frames := 0, cells := 0, slots := 0, locals := 0 } : Room).slots) := by
  refine MetFree.of_bodySF (plainFor_of_name own_pn_com_example_cartiglio_cartiglio_core_HashAlgorithm) hisR ?_
  intro p e s m args below meth c s₁ Bd hml0 hP hK
  obtain ⟨rfl, hZ, hh⟩ := hP
  have hx := Bd.exec
  have hby := Bd.bytes
  have hml : c.maxLocals = 1 := hml0
  have hown : s.vm.findClass "com/example/cartiglio/cartiglio/core/HashAlgorithm" = some m.cls := findClass_of_methodNamed Bd.named
  have hnm := (name_of_methodNamed Bd.named Bd.method).1
  have X0 : Stand p l e ({ frames := 0, cells := 0, slots := 0, locals := 0 } : Room) s m #[(.ref o)] below meth c s₁ [] 0 0 := Stand.of_body Bd
  have e0 : s₁.heap = h0 := by rw [← hh, Bd.state]; rfl
  have N0 := Fr.nil n0
  have K0 : Keep h0 h0 [] := Keep.refl _ _
  refine own_go (S' := s₁.setTop (mkF m 0 #[.val (.ref o)] [])) (fun tq kq => castTop (own_ef_rmGI m o v) kq) ?_
  have lt1 : @LT.lt Nat _ o h0.size := Pm0.lt
  refine own_aln X0 hx 1 (hb hby own_d16_0) rfl rfl rfl ?_
  refine own_gF X0 hx hZ hown (host := "") (Or.inl (hw _ (own_mi 53 rfl))) Via.refl e0 Pm0 4 (hb hby own_d16_1) rfl ?_
  intro T2 X2 e2
  exact own_ret X2 (v := some (.ref v)) (fun h => by rw [Bd.returns] at h; cases h) (fun fs hr => X2.areturnOut hx rfl Bd.returns rfl (hb hby own_d16_4) hr) (by rw [e2]; exact ⟨rfl, N0, rfl⟩) (by decide) (by decide)
theorem own_ef_rm0 (m : MethodId) (i0 : Int32) (i1 : Int32) (i2 : Int32) (i3 : Int32) (i4 : Int32) (G1 : Int32) (va : Addr) (kv : ClassId) (t0 : Addr) (t1 : Addr) (t2 : Addr) (x0 : Addr) (y0 : Addr) (kz0 : ClassId) (x1 : Addr) (y1 : Addr) (kz1 : ClassId) (x2 : Addr) (y2 : Addr) (kz2 : ClassId) (oe : Addr) : entryFrame m #[(.int i0), (.int i1), (.int i2), (.int i3), (.int i4)] maxLocals = mkF m 0 #[.val (.int i0), .val (.int i1), .val (.int i2), .val (.int i3), .val (.int i4), .unset, .unset, .unset, .unset, .unset, .unset, .unset, .unset, .unset, .unset, .unset, .unset, .unset] [] := by first | (simp [entryFrame, mkF, argsToLocals, Value.category, maxLocals]; done) | rfl
theorem own_pn_com_example_cartiglio_cartiglio_core_HashAlgorithmByIanaNamePinLaw : plainName "com/example/cartiglio/cartiglio/core/HashAlgorithmByIanaNamePinLaw" = true := by first | (simp [plainName, overriddenIn]; done) | decide +kernel
theorem own_pN {p : Program} {l : Launch} {e : Env} {R : Room} {s : State} {m : MethodId} {args : Array Value} {below : List Frame} {meth : Method} {c : Code} {T : State} {locs : List Loc} {cells slots : Nat} {P : Outcome → State → Prop} {pc : Nat} {L : Array Slot} {S : List Value} {Z : State} {a0 : Array Value} {hh : Heap} {own : String} {index : Nat} {bytes : ByteArray} {maxL : Nat} (X : Stand p l e R s m args below meth c T locs cells slots) (hx : p.tables.exec = Jvm.exec) (hZ : Z.Warmed39 s.vm)
    (hown : s.vm.findClass own = some m.cls) (w1 : (Cond.methodLink own index (⟨"java/lang/String", "<init>", "([C)V"⟩ : MethodName)).before a0 Z = true) (w2 : (Cond.instanceMethod (⟨"java/lang/String", "<init>", "([C)V"⟩ : MethodName)).before a0 Z = true) (w4 : (Cond.code (⟨"java/lang/String", "<init>", "([C)V"⟩ : MethodName) bytes maxL none).before a0 Z = true)
    (hlen : ∀ sig, parseMethodDescriptor "([C)V" = some sig → ([Value.null] : List Value).length = sig.parameters.length) (hws : ∀ d ∈ StrChars.Road.words, d.before a0 Z = true) {kI : Nat} (wi : (Cond.instantiable "java/lang/String" kI).before a0 Z = true)
    {x b : Addr} {kC : ClassId} {cs bs : List Int32} {d v0 c0 : Value} {z N : Int32} {n n0 : Nat} (hx0 : n0 ≤ x) (hh0 : n0 ≤ hh.size) (E : Exa Z hh x "java/lang/String") (V : Fld Z hh x "java/lang/String" "value" "[B" v0) (C : Fld Z hh x "java/lang/String" "coder" "B" c0) (K : Arv Z hh b kC .char N (cs.map Value.int) d) (S0 : Sta Z hh "java/lang/String" "COMPACT_STRINGS" "Z" (.int z)) (hz : ¬ z = 0)
    (hn : cs.length = n) (hN : N = Int32.ofNat n) (l0 : 0 < n) (l2 : n ≤ 4000) (hp : ∀ c ∈ cs, ¬ c < 0 ∧ ¬ (255 : Int32) < c) (hb : bs = cs.map (fun c => c.toInt8.toInt32)) (hfr : 4 ≤ R.frames) (W : Nat) (hlo : W + 65 ≤ R.locals) (eT : T.heap = hh) (rest : List Value) (hsz : L.size = c.maxLocals) (hst : S = .ref b :: .ref x :: rest) (hW : (rest.map fun v => v.category).sum ≤ W) (hc0 : cells + 1 ≤ R.cells) (hs0 : slots + n ≤ R.slots) (pc' : Nat) (hd : decode c.code pc = .ok (.invokespecial index, 3)) (hpp : pc + 3 = pc') (C' N' : Nat) (hC : cells + 1 = C') (hN' : slots + n = N')
    (h : ∀ v T' L', Stand p l e R s m args below meth c T' (locs ++ L') C' N' → StrChars.Road.QV Z x N bs hh n0 v T'.heap L' → own_Rn p e below P (T'.setTop (mkF m pc' L (v.toList ++ rest)))) : own_Rn p e below P (T.setTop (mkF m pc L S)) := by
  subst hpp hst hC hN'
  obtain ⟨v, _, ⟨T1, L1, k1, n1⟩, -, X1, ⟨Lc, hQ, q1, q2, q3⟩, st⟩ := X.specialBack hx (y := (⟨"java/lang/String", "<init>", "([C)V"⟩ : MethodName)) rfl hown (mvT hZ w1) (mvT hZ w2) (mvT hZ w4) (by decide) (StrChars.Road.backV (W := W) hZ hws wi hx0 hh0 E V C K S0 hz hn hN l0 l2 hp hb hfr hlo) (g := mkF m pc L (.ref b :: .ref x :: rest)) rfl hsz (Steps.refl _) (a := x) (argsL := [.ref b]) (rest := rest) hlen rfl (by show 2 * 0 + _ ≤ W; rw [Nat.mul_zero, Nat.zero_add]; exact hW) hd (fun _ _ => ⟨rfl, eT, hc0, hs0⟩)
  dsimp only [Pt.U, Pt.locs, Pt.cells, Pt.slots] at X1 q1 q2 q3 st hQ
  subst q1 q2 q3
  exact own_go (fun t k => st.trans k) (h v T1 Lc X1 hQ)
theorem own_pd_285bC29V : parseMethodDescriptor "([C)V" = some ⟨[(.array .char)], none⟩ := by decide +kernel
theorem own_pd_28Ljava2flang2fString3b29Ljava2futil2fOptional3b : parseMethodDescriptor "(Ljava/lang/String;)Ljava/util/Optional;" = some ⟨[(.object "java/lang/String")], some (.object "java/util/Optional")⟩ := by decide +kernel
theorem own_pd_2829Z : parseMethodDescriptor "()Z" = some ⟨[], some .boolean⟩ := by decide +kernel
theorem own_pd_2829Ljava2flang2fObject3b : parseMethodDescriptor "()Ljava/lang/Object;" = some ⟨[], some (.object "java/lang/Object")⟩ := by decide +kernel
theorem own_pd_2829Ljava2flang2fString3b : parseMethodDescriptor "()Ljava/lang/String;" = some ⟨[], some (.object "java/lang/String")⟩ := by decide +kernel
def Q_rm0 (Z : State) (i0 : Int32) (i1 : Int32) (i2 : Int32) (i3 : Int32) (i4 : Int32) (G1 : Int32) (va : Addr) (kv : ClassId) (t0 : Addr) (t1 : Addr) (t2 : Addr) (x0 : Addr) (y0 : Addr) (kz0 : ClassId) (x1 : Addr) (y1 : Addr) (kz1 : ClassId) (x2 : Addr) (y2 : Addr) (kz2 : ClassId) (oe : Addr) (h0 : Heap) (n0 : Nat) (vq : Option Value) (hhq : Heap) (Lq : List Loc) : Prop := vq = some (.int (1 : Int32)) ∧ Fr n0 Lq
set_option maxRecDepth 65536 in
set_option maxHeartbeats 40000000 in
theorem rm0 (l : Launch) (Z : State) (a0 : Array Value) (hw : ∀ d ∈ tables_1, d.before a0 Z = true) (ws : List Jvm.Cond) (i0 : Int32) (i1 : Int32) (i2 : Int32) (i3 : Int32) (i4 : Int32) (G1 : Int32) (va : Addr) (kv : ClassId) (t0 : Addr) (t1 : Addr) (t2 : Addr) (x0 : Addr) (y0 : Addr) (kz0 : ClassId) (x1 : Addr) (y1 : Addr) (kz1 : ClassId) (x2 : Addr) (y2 : Addr) (kz2 : ClassId) (oe : Addr) (h0 : Heap) (n0 : Nat) (Z0 : n0 ≤ h0.size) (hEL : EW Z a0 consts_1) (O2 : Sta Z Z.heap "java/lang/String" "COMPACT_STRINGS" "Z" (.int G1)) (P5 : (¬ (G1 = (0 : Int32)))) (X00 : Old Z n0 h0) (OV : Sta Z Z.heap "com/example/cartiglio/cartiglio/core/HashAlgorithm" "$VALUES" "[Lcom/example/cartiglio/cartiglio/core/HashAlgorithm;" (.ref va)) (EV : Exa Z Z.heap va "[Lcom/example/cartiglio/cartiglio/core/HashAlgorithm;") (AV : Arv Z Z.heap va kv (.object "com/example/cartiglio/cartiglio/core/HashAlgorithm") (3 : Int32) [(.ref t0), (.ref t1), (.ref t2)] .null) (OE : Sta Z Z.heap "java/util/Optional" "EMPTY" "Ljava/util/Optional;" (.ref oe)) (ZE : Exa Z Z.heap oe "java/util/Optional") (ZF : Fld Z Z.heap oe "java/util/Optional" "value" "Ljava/lang/Object;" .null) (ZT0 : Exa Z Z.heap t0 "com/example/cartiglio/cartiglio/core/HashAlgorithm") (ZN0 : Fld Z Z.heap t0 "com/example/cartiglio/cartiglio/core/HashAlgorithm" "ianaName" "Ljava/lang/String;" (.ref x0)) (ZX00 : Exa Z Z.heap x0 "java/lang/String") (ZX01 : Fld Z Z.heap x0 "java/lang/String" "value" "[B" (.ref y0)) (ZX02 : Fld Z Z.heap x0 "java/lang/String" "coder" "B" (.int (0 : Int32))) (ZX03 : Arv Z Z.heap y0 kz0 .byte (Int32.ofNat ([115, 104, 97, 45, 50, 53, 54] : List Int32).length) (own_bs ([115, 104, 97, 45, 50, 53, 54] : List Int32)) (.int 0)) (ZT1 : Exa Z Z.heap t1 "com/example/cartiglio/cartiglio/core/HashAlgorithm") (ZN1 : Fld Z Z.heap t1 "com/example/cartiglio/cartiglio/core/HashAlgorithm" "ianaName" "Ljava/lang/String;" (.ref x1)) (ZX10 : Exa Z Z.heap x1 "java/lang/String") (ZX11 : Fld Z Z.heap x1 "java/lang/String" "value" "[B" (.ref y1)) (ZX12 : Fld Z Z.heap x1 "java/lang/String" "coder" "B" (.int (0 : Int32))) (ZX13 : Arv Z Z.heap y1 kz1 .byte (Int32.ofNat ([115, 104, 97, 45, 51, 56, 52] : List Int32).length) (own_bs ([115, 104, 97, 45, 51, 56, 52] : List Int32)) (.int 0)) (ZT2 : Exa Z Z.heap t2 "com/example/cartiglio/cartiglio/core/HashAlgorithm") (ZN2 : Fld Z Z.heap t2 "com/example/cartiglio/cartiglio/core/HashAlgorithm" "ianaName" "Ljava/lang/String;" (.ref x2)) (ZX20 : Exa Z Z.heap x2 "java/lang/String") (ZX21 : Fld Z Z.heap x2 "java/lang/String" "value" "[B" (.ref y2)) (ZX22 : Fld Z Z.heap x2 "java/lang/String" "coder" "B" (.int (0 : Int32))) (ZX23 : Arv Z Z.heap y2 kz2 .byte (Int32.ofNat ([115, 104, 97, 45, 53, 49, 50] : List Int32).length) (own_bs ([115, 104, 97, 45, 53, 49, 50] : List Int32)) (.int 0)) (OT0 : Sta Z Z.heap "com/example/cartiglio/cartiglio/core/HashAlgorithm" "SHA_256" "Lcom/example/cartiglio/cartiglio/core/HashAlgorithm;" (.ref t0)) (OT1 : Sta Z Z.heap "com/example/cartiglio/cartiglio/core/HashAlgorithm" "SHA_384" "Lcom/example/cartiglio/cartiglio/core/HashAlgorithm;" (.ref t1)) (OT2 : Sta Z Z.heap "com/example/cartiglio/cartiglio/core/HashAlgorithm" "SHA_512" "Lcom/example/cartiglio/cartiglio/core/HashAlgorithm;" (.ref t2)) :
    MetFree l x (head1 (Jvm.Cond.code x code maxLocals ret :: ws) room_1) (fun aq U => aq = #[(.int i0), (.int i1), (.int i2), (.int i3), (.int i4)] ∧ Z.Warmed39 U.vm ∧ U.heap = h0 ∧ CHv Z consts_1 U.vm h0 ∧ ∀ ax ∈ ([] : List Addr), Safe Z consts_1 U.vm h0 ax) (fun _ _ _ _ _ => True) (fun _ U oq U' => ∃ vq Lq, oq = .returned vq ∧ Q_rm0 Z i0 i1 i2 i3 i4 G1 va kv t0 t1 t2 x0 y0 kz0 x1 y1 kz1 x2 y2 kz2 oe h0 n0 vq U'.heap Lq ∧ CHr Z consts_1 U.vm U.heap U'.vm U'.heap ∧ ReturnedEndW U oq U' Lq 32 1216) := by
  refine MetFree.of_bodySF (plainFor_of_name own_pn_com_example_cartiglio_cartiglio_core_HashAlgorithmByIanaNamePinLaw) hisR ?_
  intro p e s m args below meth c s₁ Bd hml0 hP hK
  obtain ⟨rfl, hZ, hh, hH, hSf⟩ := hP
  have hx := Bd.exec
  have hby := Bd.bytes
  have hml : c.maxLocals = 18 := hml0
  have hown : s.vm.findClass "com/example/cartiglio/cartiglio/core/HashAlgorithmByIanaNamePinLaw" = some m.cls := findClass_of_methodNamed Bd.named
  have hnm := (name_of_methodNamed Bd.named Bd.method).1
  have X0 : Stand p l e room_1 (s.setVm s.vm) m #[(.int i0), (.int i1), (.int i2), (.int i3), (.int i4)] below meth c s₁ [] 0 0 := Stand.of_body Bd
  have e0 : s₁.heap = h0 := by rw [← hh, Bd.state]; rfl
  have N0 := Fr.nil n0
  have K0 : Keep h0 h0 [] := Keep.refl _ _
  refine own_go (S' := s₁.setTop (mkF m 0 #[.val (.int i0), .val (.int i1), .val (.int i2), .val (.int i3), .val (.int i4), .unset, .unset, .unset, .unset, .unset, .unset, .unset, .unset, .unset, .unset, .unset, .unset, .unset] [])) (fun tq kq => castTop (own_ef_rm0 m i0 i1 i2 i3 i4 G1 va kv t0 t1 t2 x0 y0 kz0 x1 y1 kz1 x2 y2 kz2 oe) kq) ?_
  have hS0 : s.Since s.vm h0.size := (State.WarmedH.refl s).since _
  have CR0 : CHr Z consts_1 s.vm h0 s.vm h0 := CHr.refl hH
  have hwS : ∀ d ∈ Bundle.stringAtoms, d.before a0 Z = true := fun d hd => hw d ((by decide +kernel : ∀ d ∈ Bundle.stringAtoms, d ∈ tables_1) d hd)
  have hws : ∀ d ∈ StrChars.Road.words, d.before a0 Z = true := fun d hd => hw d ((by decide +kernel : ∀ d ∈ StrChars.Road.words, d ∈ tables_1) d hd)
  have heq : ∀ d ∈ StrChars.Road.wordsEq, d.before a0 Z = true := fun d hd => hw d ((by decide +kernel : ∀ d ∈ StrChars.Road.wordsEq, d ∈ tables_1) d hd)
  refine own_iln X0 hx 1 (hb hby at_0) rfl rfl ?_
  refine own_ic X0 hx (3 : Int32) 2 (hb hby at_1) rfl rfl ?_
  refine own_iand X0 hx 3 (hb hby at_2) rfl ?_
  obtain ⟨bs, hbs⟩ : ∃ z : Int32, z = (i0 &&& (3 : Int32)) := ⟨_, rfl⟩
  rw [← hbs]
  show own_Rn p e below _ (s₁.setTop (mkF m 3 #[.val (.int i0), .val (.int i1), .val (.int i2), .val (.int i3), .val (.int i4), .unset, .unset, .unset, .unset, .unset, .unset, .unset, .unset, .unset, .unset, .unset, .unset, .unset] [(.int bs)]))
  refine own_is X0 hx #[.val (.int i0), .val (.int i1), .val (.int i2), .val (.int i3), .val (.int i4), .val (.int bs), .unset, .unset, .unset, .unset, .unset, .unset, .unset, .unset, .unset, .unset, .unset, .unset] 5 (hb hby at_3) rfl rfl ?_
  refine own_iln X0 hx 6 (hb hby at_5) rfl rfl ?_
  refine own_ic X0 hx (2 : Int32) 7 (hb hby at_6) rfl rfl ?_
  refine own_iushr X0 hx 8 (hb hby at_7) rfl ?_
  refine own_ic X0 hx (3 : Int32) 9 (hb hby at_8) rfl rfl ?_
  refine own_iand X0 hx 10 (hb hby at_9) rfl ?_
  obtain ⟨lm, hlm⟩ : ∃ z : Int32, z = (((i0.toUInt32 >>> ((2 : Int32) &&& 31).toUInt32).toInt32) &&& (3 : Int32)) := ⟨_, rfl⟩
  rw [← hlm]
  show own_Rn p e below _ (s₁.setTop (mkF m 10 #[.val (.int i0), .val (.int i1), .val (.int i2), .val (.int i3), .val (.int i4), .val (.int bs), .unset, .unset, .unset, .unset, .unset, .unset, .unset, .unset, .unset, .unset, .unset, .unset] [(.int lm)]))
  refine own_is X0 hx #[.val (.int i0), .val (.int i1), .val (.int i2), .val (.int i3), .val (.int i4), .val (.int bs), .val (.int lm), .unset, .unset, .unset, .unset, .unset, .unset, .unset, .unset, .unset, .unset, .unset] 12 (hb hby at_10) rfl rfl ?_
  refine own_iln X0 hx 13 (hb hby at_12) rfl rfl ?_
  refine own_ic X0 hx (4 : Int32) 14 (hb hby at_13) rfl rfl ?_
  refine own_iushr X0 hx 15 (hb hby at_14) rfl ?_
  refine own_ic X0 hx (1 : Int32) 16 (hb hby at_15) rfl rfl ?_
  refine own_iand X0 hx 17 (hb hby at_16) rfl ?_
  have jU : ∀ un : Int32, own_Rn p e below (fun o U' => ∃ v L, o = .returned v ∧ Q_rm0 Z i0 i1 i2 i3 i4 G1 va kv t0 t1 t2 x0 y0 kz0 x1 y1 kz1 x2 y2 kz2 oe h0 n0 v U'.heap L ∧ CHr Z consts_1 s.vm s.heap U'.vm U'.heap ∧ ReturnedEndW s o U' L 32 1216) (s₁.setTop (mkF m 25 #[.val (.int i0), .val (.int i1), .val (.int i2), .val (.int i3), .val (.int i4), .val (.int bs), .val (.int lm), .unset, .unset, .unset, .unset, .unset, .unset, .unset, .unset, .unset, .unset, .unset] [(.int un)])) := by
    intro un
    show own_Rn p e below _ (s₁.setTop (mkF m 25 #[.val (.int i0), .val (.int i1), .val (.int i2), .val (.int i3), .val (.int i4), .val (.int bs), .val (.int lm), .unset, .unset, .unset, .unset, .unset, .unset, .unset, .unset, .unset, .unset, .unset] [(.int un)]))
    refine own_is X0 hx #[.val (.int i0), .val (.int i1), .val (.int i2), .val (.int i3), .val (.int i4), .val (.int bs), .val (.int lm), .val (.int un), .unset, .unset, .unset, .unset, .unset, .unset, .unset, .unset, .unset, .unset] 27 (hb hby at_25) rfl rfl ?_
    refine own_bp X0 hx (8 : Int32) 29 (hb hby at_27) rfl rfl ?_
    obtain ⟨T2, h2, k2, X2, e2, E2, A2, st2⟩ := newP X0 hx hZ (hw _ (own_mi 0 rfl)) e0 (g := (mkF m 29 #[.val (.int i0), .val (.int i1), .val (.int i2), .val (.int i3), .val (.int i4), .val (.int bs), .val (.int lm), .val (.int un), .unset, .unset, .unset, .unset, .unset, .unset, .unset, .unset, .unset, .unset] [(.int (8 : Int32))])) rfl (hb hby at_29) rfl (by decide) (cap := 8) (by decide) (by decide) (by decide) (by decide)
    obtain ⟨b2, g2⟩ : ∃ z, z = h0.size := ⟨_, rfl⟩
    rw [← g2] at A2 st2
    refine own_go st2 ?_
    have sz3 : h0.size ≤ h2.size := E2.1
    have cr3 : CHr Z consts_1 s.vm h0 s.vm h2 := CHr.ext E2 CR0.1
    have CR3 := CR0.trans cr3
    have gn2 : n0 ≤ b2 := (Nat.le_trans (Nat.le_trans Z0 (Nat.le_refl _)) (Nat.le_of_eq g2.symm))
    have V2 : Arv Z h2 b2 k2 .char (8 : Int32) [(.int (0 : Int32)), (.int (0 : Int32)), (.int (0 : Int32)), (.int (0 : Int32)), (.int (0 : Int32)), (.int (0 : Int32)), (.int (0 : Int32)), (.int (0 : Int32))] (.int (0 : Int32)) := (Arv.new A2 (by decide)).pad (pad_rep [] _ 8)
    have lt4 : @LT.lt Nat _ b2 h2.size := V2.lt
    show own_Rn p e below _ (T2.setTop (mkF m 31 #[.val (.int i0), .val (.int i1), .val (.int i2), .val (.int i3), .val (.int i4), .val (.int bs), .val (.int lm), .val (.int un), .unset, .unset, .unset, .unset, .unset, .unset, .unset, .unset, .unset, .unset] [(.ref b2)]))
    refine own_as X2 hx #[.val (.int i0), .val (.int i1), .val (.int i2), .val (.int i3), .val (.int i4), .val (.int bs), .val (.int lm), .val (.int un), .val (.ref b2), .unset, .unset, .unset, .unset, .unset, .unset, .unset, .unset, .unset] 33 (hb hby at_31) rfl rfl rfl ?_
    have j2 : ∀ (Tj : State) (hj : Heap) (lj : List Loc) (ca : Addr) (ka : ClassId) (c0 c1 c2 c3 c4 c5 c6 c7 : Int32) (pv : Int32), Stand p l e room_1 (s.setVm s.vm) m #[(.int i0), (.int i1), (.int i2), (.int i3), (.int i4)] below meth c Tj lj 1 8 → Tj.heap = hj → Fr n0 lj → h0.size ≤ hj.size → CHr Z consts_1 s.vm h0 s.vm hj → Old Z n0 hj → n0 ≤ ca → Arv Z hj ca ka .char (8 : Int32) [(.int c0), (.int c1), (.int c2), (.int c3), (.int c4), (.int c5), (.int c6), (.int c7)] (.int (0 : Int32)) → ((¬ c0 < 0 ∧ ¬ (255 : Int32) < c0) ∧ (¬ c1 < 0 ∧ ¬ (255 : Int32) < c1) ∧ (¬ c2 < 0 ∧ ¬ (255 : Int32) < c2) ∧ (¬ c3 < 0 ∧ ¬ (255 : Int32) < c3) ∧ (¬ c4 < 0 ∧ ¬ (255 : Int32) < c4) ∧ (¬ c5 < 0 ∧ ¬ (255 : Int32) < c5) ∧ (¬ c6 < 0 ∧ ¬ (255 : Int32) < c6) ∧ (¬ c7 < 0 ∧ ¬ (255 : Int32) < c7)) → own_Rn p e below (fun o U' => ∃ v L, o = .returned v ∧ Q_rm0 Z i0 i1 i2 i3 i4 G1 va kv t0 t1 t2 x0 y0 kz0 x1 y1 kz1 x2 y2 kz2 oe h0 n0 v U'.heap L ∧ CHr Z consts_1 s.vm s.heap U'.vm U'.heap ∧ ReturnedEndW s o U' L 32 1216) (Tj.setTop (mkF m 285 #[.val (.int i0), .val (.int i1), .val (.int i2), .val (.int i3), .val (.int i4), .val (.int bs), .val (.int lm), .val (.int un), .val (.ref ca), .val (.int pv), .unset, .unset, .unset, .unset, .unset, .unset, .unset, .unset] [])) := by
      intro Tj hj lj ca ka c0 c1 c2 c3 c4 c5 c6 c7 pv Xj ej Nj szj CRj Oj gca Aj ⟨rc0, rc1, rc2, rc3, rc4, rc5, rc6, rc7⟩
      have lt5 : @LT.lt Nat _ ca hj.size := Aj.lt
      have nc0 := own_narC c0 rc0
      have nc1 := own_narC c1 rc1
      have nc2 := own_narC c2 rc2
      have nc3 := own_narC c3 rc3
      have nc4 := own_narC c4 rc4
      have nc5 := own_narC c5 rc5
      have nc6 := own_narC c6 rc6
      have nc7 := own_narC c7 rc7
      show own_Rn p e below _ (Tj.setTop (mkF m 285 #[.val (.int i0), .val (.int i1), .val (.int i2), .val (.int i3), .val (.int i4), .val (.int bs), .val (.int lm), .val (.int un), .val (.ref ca), .val (.int pv), .unset, .unset, .unset, .unset, .unset, .unset, .unset, .unset] []))
      have hp6 : ∀ c ∈ ([115, 104, 97, 45, 50, 53, 54] : List Int32), ¬ c < 0 ∧ ¬ (255 : Int32) < c := by
        intro c hc
        simp only [List.mem_cons, List.not_mem_nil, or_false] at hc
        rcases hc with rfl | rfl | rfl | rfl | rfl | rfl | rfl
        · exact (by decide)
        · exact (by decide)
        · exact (by decide)
        · exact (by decide)
        · exact (by decide)
        · exact (by decide)
        · exact (by decide)
      have hp7 : ∀ c ∈ ([115, 104, 97, 45, 51, 56, 52] : List Int32), ¬ c < 0 ∧ ¬ (255 : Int32) < c := by
        intro c hc
        simp only [List.mem_cons, List.not_mem_nil, or_false] at hc
        rcases hc with rfl | rfl | rfl | rfl | rfl | rfl | rfl
        · exact (by decide)
        · exact (by decide)
        · exact (by decide)
        · exact (by decide)
        · exact (by decide)
        · exact (by decide)
        · exact (by decide)
      have hp8 : ∀ c ∈ ([115, 104, 97, 45, 53, 49, 50] : List Int32), ¬ c < 0 ∧ ¬ (255 : Int32) < c := by
        intro c hc
        simp only [List.mem_cons, List.not_mem_nil, or_false] at hc
        rcases hc with rfl | rfl | rfl | rfl | rfl | rfl | rfl
        · exact (by decide)
        · exact (by decide)
        · exact (by decide)
        · exact (by decide)
        · exact (by decide)
        · exact (by decide)
        · exact (by decide)
      refine own_bp Xj hx (6 : Int32) 287 (hb hby at_285) rfl rfl ?_
      obtain ⟨T10, h10, k10, X10, e10, E10, A10, st10⟩ := newP Xj hx hZ (hw _ (own_mi 0 rfl)) ej (g := (mkF m 287 #[.val (.int i0), .val (.int i1), .val (.int i2), .val (.int i3), .val (.int i4), .val (.int bs), .val (.int lm), .val (.int un), .val (.ref ca), .val (.int pv), .unset, .unset, .unset, .unset, .unset, .unset, .unset, .unset] [(.int (6 : Int32))])) rfl (hb hby at_287) rfl (by decide) (cap := 6) (by decide) (by decide) (by decide) (by decide)
      obtain ⟨b10, g10⟩ : ∃ z, z = hj.size := ⟨_, rfl⟩
      rw [← g10] at A10 st10
      refine own_go st10 ?_
      have sz11 : hj.size ≤ h10.size := E10.1
      have cr11 : CHr Z consts_1 s.vm hj s.vm h10 := CHr.ext E10 CRj.1
      have CR11 := CRj.trans cr11
      have gn10 : n0 ≤ b10 := (Nat.le_trans (Nat.le_trans Z0 (Nat.le_trans szj (Nat.le_refl _))) (Nat.le_of_eq g10.symm))
      have V10 : Arv Z h10 b10 k10 .char (6 : Int32) [(.int (0 : Int32)), (.int (0 : Int32)), (.int (0 : Int32)), (.int (0 : Int32)), (.int (0 : Int32)), (.int (0 : Int32))] (.int (0 : Int32)) := (Arv.new A10 (by decide)).pad (pad_rep [] _ 6)
      have lt12 : @LT.lt Nat _ b10 h10.size := V10.lt
      show own_Rn p e below _ (T10.setTop (mkF m 289 #[.val (.int i0), .val (.int i1), .val (.int i2), .val (.int i3), .val (.int i4), .val (.int bs), .val (.int lm), .val (.int un), .val (.ref ca), .val (.int pv), .unset, .unset, .unset, .unset, .unset, .unset, .unset, .unset] [(.ref b10)]))
      refine own_dp X10 hx 290 (hb hby at_289) rfl rfl ?_
      refine own_ic X10 hx (0 : Int32) 291 (hb hby at_290) rfl rfl ?_
      refine own_al X10 hx 293 (hb hby at_291) rfl rfl rfl ?_
      refine own_ic X10 hx (0 : Int32) 294 (hb hby at_293) rfl rfl ?_
      have F13 : Arv Z h10 ca ka .char (8 : Int32) [(.int c0), (.int c1), (.int c2), (.int c3), (.int c4), (.int c5), (.int c6), (.int c7)] (.int (0 : Int32)) := (Aj.ext E10)
      refine own_cal X10 hx hZ e10 F13 c0 295 (hb hby at_294) rfl ⟨by decide, by decide⟩ rfl ?_
      obtain ⟨cl14, Ar14, q14, Sz14, Nn14, Hs14, G14⟩ := id V10
      obtain ⟨T14, h14, X14, e14, W14, st14⟩ := stC X10 hx hZ e10 Ar14 (j := (0 : Int32)) (inb_of Sz14 ⟨by decide, by decide⟩) (g := (mkF m 295 #[.val (.int i0), .val (.int i1), .val (.int i2), .val (.int i3), .val (.int i4), .val (.int bs), .val (.int lm), .val (.int un), .val (.ref ca), .val (.int pv), .unset, .unset, .unset, .unset, .unset, .unset, .unset, .unset] [(.int c0), (.int (0 : Int32)), (.ref b10), (.ref b10)])) rfl rfl (hb hby at_295)
      rw [nc0] at W14
      refine own_go st14 ?_
      have V14 : Arv Z h14 b10 k10 .char (6 : Int32) [(.int c0), (.int (0 : Int32)), (.int (0 : Int32)), (.int (0 : Int32)), (.int (0 : Int32)), (.int (0 : Int32))] (.int (0 : Int32)) := Arv.set Ar14 q14 Sz14 Nn14 Hs14 G14 (by rw [← nc0]; exact fits_nar_char _) W14 0 rfl (Nat.le_of_ble_eq_true rfl)
      have N14 := Fr.snoc X14 Nj gn10
      have sf15 : Safe Z consts_1 s.vm h10 b10 := Safe.arv hZ.alike V10 (by decide)
      have sz16 : h10.size ≤ h14.size := Nat.le_of_eq (Wr.size W14).symm
      have cr16 : CHr Z consts_1 s.vm h10 s.vm h14 := CHr.wr W14 sf15 CR11.1
      have CR16 := CR11.trans cr16
      show own_Rn p e below _ (T14.setTop (mkF m 296 #[.val (.int i0), .val (.int i1), .val (.int i2), .val (.int i3), .val (.int i4), .val (.int bs), .val (.int lm), .val (.int un), .val (.ref ca), .val (.int pv), .unset, .unset, .unset, .unset, .unset, .unset, .unset, .unset] [(.ref b10)]))
      refine own_dp X14 hx 297 (hb hby at_296) rfl rfl ?_
      refine own_ic X14 hx (1 : Int32) 298 (hb hby at_297) rfl rfl ?_
      refine own_al X14 hx 300 (hb hby at_298) rfl rfl rfl ?_
      refine own_ic X14 hx (1 : Int32) 301 (hb hby at_300) rfl rfl ?_
      have ne17 : ca ≠ b10 := own_nea (Or.inl (Nat.lt_of_lt_of_le lt5 (Nat.le_trans (Nat.le_refl _) (Nat.le_of_eq g10.symm))))
      have F18 : Arv Z h14 ca ka .char (8 : Int32) [(.int c0), (.int c1), (.int c2), (.int c3), (.int c4), (.int c5), (.int c6), (.int c7)] (.int (0 : Int32)) := (F13.other W14 ne17)
      refine own_cal X14 hx hZ e14 F18 c1 302 (hb hby at_301) rfl ⟨by decide, by decide⟩ rfl ?_
      obtain ⟨cl19, Ar19, q19, Sz19, Nn19, Hs19, G19⟩ := id V14
      obtain ⟨T19, h19, X19, e19, W19, st19⟩ := stC X14 hx hZ e14 Ar19 (j := (1 : Int32)) (inb_of Sz19 ⟨by decide, by decide⟩) (g := (mkF m 302 #[.val (.int i0), .val (.int i1), .val (.int i2), .val (.int i3), .val (.int i4), .val (.int bs), .val (.int lm), .val (.int un), .val (.ref ca), .val (.int pv), .unset, .unset, .unset, .unset, .unset, .unset, .unset, .unset] [(.int c1), (.int (1 : Int32)), (.ref b10), (.ref b10)])) rfl rfl (hb hby at_302)
      rw [nc1] at W19
      refine own_go st19 ?_
      have V19 : Arv Z h19 b10 k10 .char (6 : Int32) [(.int c0), (.int c1), (.int (0 : Int32)), (.int (0 : Int32)), (.int (0 : Int32)), (.int (0 : Int32))] (.int (0 : Int32)) := Arv.set Ar19 q19 Sz19 Nn19 Hs19 G19 (by rw [← nc1]; exact fits_nar_char _) W19 1 rfl (Nat.le_of_ble_eq_true rfl)
      have N19 := Fr.snoc X19 N14 gn10
      have sf20 : Safe Z consts_1 s.vm h14 b10 := Safe.arv hZ.alike V14 (by decide)
      have sz21 : h14.size ≤ h19.size := Nat.le_of_eq (Wr.size W19).symm
      have cr21 : CHr Z consts_1 s.vm h14 s.vm h19 := CHr.wr W19 sf20 CR16.1
      have CR21 := CR16.trans cr21
      show own_Rn p e below _ (T19.setTop (mkF m 303 #[.val (.int i0), .val (.int i1), .val (.int i2), .val (.int i3), .val (.int i4), .val (.int bs), .val (.int lm), .val (.int un), .val (.ref ca), .val (.int pv), .unset, .unset, .unset, .unset, .unset, .unset, .unset, .unset] [(.ref b10)]))
      refine own_dp X19 hx 304 (hb hby at_303) rfl rfl ?_
      refine own_ic X19 hx (2 : Int32) 305 (hb hby at_304) rfl rfl ?_
      refine own_al X19 hx 307 (hb hby at_305) rfl rfl rfl ?_
      refine own_ic X19 hx (2 : Int32) 308 (hb hby at_307) rfl rfl ?_
      have F22 : Arv Z h19 ca ka .char (8 : Int32) [(.int c0), (.int c1), (.int c2), (.int c3), (.int c4), (.int c5), (.int c6), (.int c7)] (.int (0 : Int32)) := (F18.other W19 ne17)
      refine own_cal X19 hx hZ e19 F22 c2 309 (hb hby at_308) rfl ⟨by decide, by decide⟩ rfl ?_
      obtain ⟨cl23, Ar23, q23, Sz23, Nn23, Hs23, G23⟩ := id V19
      obtain ⟨T23, h23, X23, e23, W23, st23⟩ := stC X19 hx hZ e19 Ar23 (j := (2 : Int32)) (inb_of Sz23 ⟨by decide, by decide⟩) (g := (mkF m 309 #[.val (.int i0), .val (.int i1), .val (.int i2), .val (.int i3), .val (.int i4), .val (.int bs), .val (.int lm), .val (.int un), .val (.ref ca), .val (.int pv), .unset, .unset, .unset, .unset, .unset, .unset, .unset, .unset] [(.int c2), (.int (2 : Int32)), (.ref b10), (.ref b10)])) rfl rfl (hb hby at_309)
      rw [nc2] at W23
      refine own_go st23 ?_
      have V23 : Arv Z h23 b10 k10 .char (6 : Int32) [(.int c0), (.int c1), (.int c2), (.int (0 : Int32)), (.int (0 : Int32)), (.int (0 : Int32))] (.int (0 : Int32)) := Arv.set Ar23 q23 Sz23 Nn23 Hs23 G23 (by rw [← nc2]; exact fits_nar_char _) W23 2 rfl (Nat.le_of_ble_eq_true rfl)
      have N23 := Fr.snoc X23 N19 gn10
      have sf24 : Safe Z consts_1 s.vm h19 b10 := Safe.arv hZ.alike V19 (by decide)
      have sz25 : h19.size ≤ h23.size := Nat.le_of_eq (Wr.size W23).symm
      have cr25 : CHr Z consts_1 s.vm h19 s.vm h23 := CHr.wr W23 sf24 CR21.1
      have CR25 := CR21.trans cr25
      show own_Rn p e below _ (T23.setTop (mkF m 310 #[.val (.int i0), .val (.int i1), .val (.int i2), .val (.int i3), .val (.int i4), .val (.int bs), .val (.int lm), .val (.int un), .val (.ref ca), .val (.int pv), .unset, .unset, .unset, .unset, .unset, .unset, .unset, .unset] [(.ref b10)]))
      refine own_dp X23 hx 311 (hb hby at_310) rfl rfl ?_
      refine own_ic X23 hx (3 : Int32) 312 (hb hby at_311) rfl rfl ?_
      refine own_al X23 hx 314 (hb hby at_312) rfl rfl rfl ?_
      refine own_ic X23 hx (3 : Int32) 315 (hb hby at_314) rfl rfl ?_
      have F26 : Arv Z h23 ca ka .char (8 : Int32) [(.int c0), (.int c1), (.int c2), (.int c3), (.int c4), (.int c5), (.int c6), (.int c7)] (.int (0 : Int32)) := (F22.other W23 ne17)
      refine own_cal X23 hx hZ e23 F26 c3 316 (hb hby at_315) rfl ⟨by decide, by decide⟩ rfl ?_
      obtain ⟨cl27, Ar27, q27, Sz27, Nn27, Hs27, G27⟩ := id V23
      obtain ⟨T27, h27, X27, e27, W27, st27⟩ := stC X23 hx hZ e23 Ar27 (j := (3 : Int32)) (inb_of Sz27 ⟨by decide, by decide⟩) (g := (mkF m 316 #[.val (.int i0), .val (.int i1), .val (.int i2), .val (.int i3), .val (.int i4), .val (.int bs), .val (.int lm), .val (.int un), .val (.ref ca), .val (.int pv), .unset, .unset, .unset, .unset, .unset, .unset, .unset, .unset] [(.int c3), (.int (3 : Int32)), (.ref b10), (.ref b10)])) rfl rfl (hb hby at_316)
      rw [nc3] at W27
      refine own_go st27 ?_
      have V27 : Arv Z h27 b10 k10 .char (6 : Int32) [(.int c0), (.int c1), (.int c2), (.int c3), (.int (0 : Int32)), (.int (0 : Int32))] (.int (0 : Int32)) := Arv.set Ar27 q27 Sz27 Nn27 Hs27 G27 (by rw [← nc3]; exact fits_nar_char _) W27 3 rfl (Nat.le_of_ble_eq_true rfl)
      have N27 := Fr.snoc X27 N23 gn10
      have sf28 : Safe Z consts_1 s.vm h23 b10 := Safe.arv hZ.alike V23 (by decide)
      have sz29 : h23.size ≤ h27.size := Nat.le_of_eq (Wr.size W27).symm
      have cr29 : CHr Z consts_1 s.vm h23 s.vm h27 := CHr.wr W27 sf28 CR25.1
      have CR29 := CR25.trans cr29
      show own_Rn p e below _ (T27.setTop (mkF m 317 #[.val (.int i0), .val (.int i1), .val (.int i2), .val (.int i3), .val (.int i4), .val (.int bs), .val (.int lm), .val (.int un), .val (.ref ca), .val (.int pv), .unset, .unset, .unset, .unset, .unset, .unset, .unset, .unset] [(.ref b10)]))
      refine own_dp X27 hx 318 (hb hby at_317) rfl rfl ?_
      refine own_ic X27 hx (4 : Int32) 319 (hb hby at_318) rfl rfl ?_
      refine own_al X27 hx 321 (hb hby at_319) rfl rfl rfl ?_
      refine own_ic X27 hx (4 : Int32) 322 (hb hby at_321) rfl rfl ?_
      have F30 : Arv Z h27 ca ka .char (8 : Int32) [(.int c0), (.int c1), (.int c2), (.int c3), (.int c4), (.int c5), (.int c6), (.int c7)] (.int (0 : Int32)) := (F26.other W27 ne17)
      refine own_cal X27 hx hZ e27 F30 c4 323 (hb hby at_322) rfl ⟨by decide, by decide⟩ rfl ?_
      obtain ⟨cl31, Ar31, q31, Sz31, Nn31, Hs31, G31⟩ := id V27
      obtain ⟨T31, h31, X31, e31, W31, st31⟩ := stC X27 hx hZ e27 Ar31 (j := (4 : Int32)) (inb_of Sz31 ⟨by decide, by decide⟩) (g := (mkF m 323 #[.val (.int i0), .val (.int i1), .val (.int i2), .val (.int i3), .val (.int i4), .val (.int bs), .val (.int lm), .val (.int un), .val (.ref ca), .val (.int pv), .unset, .unset, .unset, .unset, .unset, .unset, .unset, .unset] [(.int c4), (.int (4 : Int32)), (.ref b10), (.ref b10)])) rfl rfl (hb hby at_323)
      rw [nc4] at W31
      refine own_go st31 ?_
      have V31 : Arv Z h31 b10 k10 .char (6 : Int32) [(.int c0), (.int c1), (.int c2), (.int c3), (.int c4), (.int (0 : Int32))] (.int (0 : Int32)) := Arv.set Ar31 q31 Sz31 Nn31 Hs31 G31 (by rw [← nc4]; exact fits_nar_char _) W31 4 rfl (Nat.le_of_ble_eq_true rfl)
      have N31 := Fr.snoc X31 N27 gn10
      have sf32 : Safe Z consts_1 s.vm h27 b10 := Safe.arv hZ.alike V27 (by decide)
      have sz33 : h27.size ≤ h31.size := Nat.le_of_eq (Wr.size W31).symm
      have cr33 : CHr Z consts_1 s.vm h27 s.vm h31 := CHr.wr W31 sf32 CR29.1
      have CR33 := CR29.trans cr33
      show own_Rn p e below _ (T31.setTop (mkF m 324 #[.val (.int i0), .val (.int i1), .val (.int i2), .val (.int i3), .val (.int i4), .val (.int bs), .val (.int lm), .val (.int un), .val (.ref ca), .val (.int pv), .unset, .unset, .unset, .unset, .unset, .unset, .unset, .unset] [(.ref b10)]))
      refine own_dp X31 hx 325 (hb hby at_324) rfl rfl ?_
      refine own_ic X31 hx (5 : Int32) 326 (hb hby at_325) rfl rfl ?_
      refine own_al X31 hx 328 (hb hby at_326) rfl rfl rfl ?_
      refine own_ic X31 hx (5 : Int32) 329 (hb hby at_328) rfl rfl ?_
      have F34 : Arv Z h31 ca ka .char (8 : Int32) [(.int c0), (.int c1), (.int c2), (.int c3), (.int c4), (.int c5), (.int c6), (.int c7)] (.int (0 : Int32)) := (F30.other W31 ne17)
      refine own_cal X31 hx hZ e31 F34 c5 330 (hb hby at_329) rfl ⟨by decide, by decide⟩ rfl ?_
      obtain ⟨cl35, Ar35, q35, Sz35, Nn35, Hs35, G35⟩ := id V31
      obtain ⟨T35, h35, X35, e35, W35, st35⟩ := stC X31 hx hZ e31 Ar35 (j := (5 : Int32)) (inb_of Sz35 ⟨by decide, by decide⟩) (g := (mkF m 330 #[.val (.int i0), .val (.int i1), .val (.int i2), .val (.int i3), .val (.int i4), .val (.int bs), .val (.int lm), .val (.int un), .val (.ref ca), .val (.int pv), .unset, .unset, .unset, .unset, .unset, .unset, .unset, .unset] [(.int c5), (.int (5 : Int32)), (.ref b10), (.ref b10)])) rfl rfl (hb hby at_330)
      rw [nc5] at W35
      refine own_go st35 ?_
      have V35 : Arv Z h35 b10 k10 .char (6 : Int32) [(.int c0), (.int c1), (.int c2), (.int c3), (.int c4), (.int c5)] (.int (0 : Int32)) := Arv.set Ar35 q35 Sz35 Nn35 Hs35 G35 (by rw [← nc5]; exact fits_nar_char _) W35 5 rfl (Nat.le_of_ble_eq_true rfl)
      have N35 := Fr.snoc X35 N31 gn10
      have sf36 : Safe Z consts_1 s.vm h31 b10 := Safe.arv hZ.alike V31 (by decide)
      have sz37 : h31.size ≤ h35.size := Nat.le_of_eq (Wr.size W35).symm
      have cr37 : CHr Z consts_1 s.vm h31 s.vm h35 := CHr.wr W35 sf36 CR33.1
      have CR37 := CR33.trans cr37
      show own_Rn p e below _ (T35.setTop (mkF m 331 #[.val (.int i0), .val (.int i1), .val (.int i2), .val (.int i3), .val (.int i4), .val (.int bs), .val (.int lm), .val (.int un), .val (.ref ca), .val (.int pv), .unset, .unset, .unset, .unset, .unset, .unset, .unset, .unset] [(.ref b10)]))
      refine own_as X35 hx #[.val (.int i0), .val (.int i1), .val (.int i2), .val (.int i3), .val (.int i4), .val (.int bs), .val (.int lm), .val (.int un), .val (.ref ca), .val (.int pv), .val (.ref b10), .unset, .unset, .unset, .unset, .unset, .unset, .unset] 333 (hb hby at_331) rfl rfl rfl ?_
      refine own_bp X35 hx (7 : Int32) 335 (hb hby at_333) rfl rfl ?_
      obtain ⟨T39, h39, k39, X39, e39, E39, A39, st39⟩ := newP X35 hx hZ (hw _ (own_mi 0 rfl)) e35 (g := (mkF m 335 #[.val (.int i0), .val (.int i1), .val (.int i2), .val (.int i3), .val (.int i4), .val (.int bs), .val (.int lm), .val (.int un), .val (.ref ca), .val (.int pv), .val (.ref b10), .unset, .unset, .unset, .unset, .unset, .unset, .unset] [(.int (7 : Int32))])) rfl (hb hby at_335) rfl (by decide) (cap := 7) (by decide) (by decide) (by decide) (by decide)
      obtain ⟨b39, g39⟩ : ∃ z, z = h35.size := ⟨_, rfl⟩
      rw [← g39] at A39 st39
      refine own_go st39 ?_
      have sz40 : h35.size ≤ h39.size := E39.1
      have cr40 : CHr Z consts_1 s.vm h35 s.vm h39 := CHr.ext E39 CR37.1
      have CR40 := CR37.trans cr40
      have le41 : hj.size ≤ h14.size := Nat.le_trans sz11 sz16
      have le42 : hj.size ≤ h19.size := Nat.le_trans le41 sz21
      have le43 : hj.size ≤ h23.size := Nat.le_trans le42 sz25
      have le44 : hj.size ≤ h27.size := Nat.le_trans le43 sz29
      have le45 : hj.size ≤ h31.size := Nat.le_trans le44 sz33
      have le46 : hj.size ≤ h35.size := Nat.le_trans le45 sz37
      have gn39 : n0 ≤ b39 := (Nat.le_trans (Nat.le_trans Z0 (Nat.le_trans szj le46)) (Nat.le_of_eq g39.symm))
      have V39 : Arv Z h39 b39 k39 .char (7 : Int32) [(.int (0 : Int32)), (.int (0 : Int32)), (.int (0 : Int32)), (.int (0 : Int32)), (.int (0 : Int32)), (.int (0 : Int32)), (.int (0 : Int32))] (.int (0 : Int32)) := (Arv.new A39 (by decide)).pad (pad_rep [] _ 7)
      have lt47 : @LT.lt Nat _ b39 h39.size := V39.lt
      show own_Rn p e below _ (T39.setTop (mkF m 337 #[.val (.int i0), .val (.int i1), .val (.int i2), .val (.int i3), .val (.int i4), .val (.int bs), .val (.int lm), .val (.int un), .val (.ref ca), .val (.int pv), .val (.ref b10), .unset, .unset, .unset, .unset, .unset, .unset, .unset] [(.ref b39)]))
      refine own_dp X39 hx 338 (hb hby at_337) rfl rfl ?_
      refine own_ic X39 hx (0 : Int32) 339 (hb hby at_338) rfl rfl ?_
      refine own_al X39 hx 341 (hb hby at_339) rfl rfl rfl ?_
      refine own_ic X39 hx (0 : Int32) 342 (hb hby at_341) rfl rfl ?_
      have F48 : Arv Z h39 ca ka .char (8 : Int32) [(.int c0), (.int c1), (.int c2), (.int c3), (.int c4), (.int c5), (.int c6), (.int c7)] (.int (0 : Int32)) := ((F34.other W35 ne17).ext E39)
      refine own_cal X39 hx hZ e39 F48 c0 343 (hb hby at_342) rfl ⟨by decide, by decide⟩ rfl ?_
      obtain ⟨cl49, Ar49, q49, Sz49, Nn49, Hs49, G49⟩ := id V39
      obtain ⟨T49, h49, X49, e49, W49, st49⟩ := stC X39 hx hZ e39 Ar49 (j := (0 : Int32)) (inb_of Sz49 ⟨by decide, by decide⟩) (g := (mkF m 343 #[.val (.int i0), .val (.int i1), .val (.int i2), .val (.int i3), .val (.int i4), .val (.int bs), .val (.int lm), .val (.int un), .val (.ref ca), .val (.int pv), .val (.ref b10), .unset, .unset, .unset, .unset, .unset, .unset, .unset] [(.int c0), (.int (0 : Int32)), (.ref b39), (.ref b39)])) rfl rfl (hb hby at_343)
      rw [nc0] at W49
      refine own_go st49 ?_
      have V49 : Arv Z h49 b39 k39 .char (7 : Int32) [(.int c0), (.int (0 : Int32)), (.int (0 : Int32)), (.int (0 : Int32)), (.int (0 : Int32)), (.int (0 : Int32)), (.int (0 : Int32))] (.int (0 : Int32)) := Arv.set Ar49 q49 Sz49 Nn49 Hs49 G49 (by rw [← nc0]; exact fits_nar_char _) W49 0 rfl (Nat.le_of_ble_eq_true rfl)
      have N49 := Fr.snoc X49 N35 gn39
      have sf50 : Safe Z consts_1 s.vm h39 b39 := Safe.arv hZ.alike V39 (by decide)
      have sz51 : h39.size ≤ h49.size := Nat.le_of_eq (Wr.size W49).symm
      have cr51 : CHr Z consts_1 s.vm h39 s.vm h49 := CHr.wr W49 sf50 CR40.1
      have CR51 := CR40.trans cr51
      show own_Rn p e below _ (T49.setTop (mkF m 344 #[.val (.int i0), .val (.int i1), .val (.int i2), .val (.int i3), .val (.int i4), .val (.int bs), .val (.int lm), .val (.int un), .val (.ref ca), .val (.int pv), .val (.ref b10), .unset, .unset, .unset, .unset, .unset, .unset, .unset] [(.ref b39)]))
      refine own_dp X49 hx 345 (hb hby at_344) rfl rfl ?_
      refine own_ic X49 hx (1 : Int32) 346 (hb hby at_345) rfl rfl ?_
      refine own_al X49 hx 348 (hb hby at_346) rfl rfl rfl ?_
      refine own_ic X49 hx (1 : Int32) 349 (hb hby at_348) rfl rfl ?_
      have ne52 : ca ≠ b39 := own_nea (Or.inl (Nat.lt_of_lt_of_le lt5 (Nat.le_trans le46 (Nat.le_of_eq g39.symm))))
      have F53 : Arv Z h49 ca ka .char (8 : Int32) [(.int c0), (.int c1), (.int c2), (.int c3), (.int c4), (.int c5), (.int c6), (.int c7)] (.int (0 : Int32)) := (F48.other W49 ne52)
      refine own_cal X49 hx hZ e49 F53 c1 350 (hb hby at_349) rfl ⟨by decide, by decide⟩ rfl ?_
      obtain ⟨cl54, Ar54, q54, Sz54, Nn54, Hs54, G54⟩ := id V49
      obtain ⟨T54, h54, X54, e54, W54, st54⟩ := stC X49 hx hZ e49 Ar54 (j := (1 : Int32)) (inb_of Sz54 ⟨by decide, by decide⟩) (g := (mkF m 350 #[.val (.int i0), .val (.int i1), .val (.int i2), .val (.int i3), .val (.int i4), .val (.int bs), .val (.int lm), .val (.int un), .val (.ref ca), .val (.int pv), .val (.ref b10), .unset, .unset, .unset, .unset, .unset, .unset, .unset] [(.int c1), (.int (1 : Int32)), (.ref b39), (.ref b39)])) rfl rfl (hb hby at_350)
      rw [nc1] at W54
      refine own_go st54 ?_
      have V54 : Arv Z h54 b39 k39 .char (7 : Int32) [(.int c0), (.int c1), (.int (0 : Int32)), (.int (0 : Int32)), (.int (0 : Int32)), (.int (0 : Int32)), (.int (0 : Int32))] (.int (0 : Int32)) := Arv.set Ar54 q54 Sz54 Nn54 Hs54 G54 (by rw [← nc1]; exact fits_nar_char _) W54 1 rfl (Nat.le_of_ble_eq_true rfl)
      have N54 := Fr.snoc X54 N49 gn39
      have sf55 : Safe Z consts_1 s.vm h49 b39 := Safe.arv hZ.alike V49 (by decide)
      have sz56 : h49.size ≤ h54.size := Nat.le_of_eq (Wr.size W54).symm
      have cr56 : CHr Z consts_1 s.vm h49 s.vm h54 := CHr.wr W54 sf55 CR51.1
      have CR56 := CR51.trans cr56
      show own_Rn p e below _ (T54.setTop (mkF m 351 #[.val (.int i0), .val (.int i1), .val (.int i2), .val (.int i3), .val (.int i4), .val (.int bs), .val (.int lm), .val (.int un), .val (.ref ca), .val (.int pv), .val (.ref b10), .unset, .unset, .unset, .unset, .unset, .unset, .unset] [(.ref b39)]))
      refine own_dp X54 hx 352 (hb hby at_351) rfl rfl ?_
      refine own_ic X54 hx (2 : Int32) 353 (hb hby at_352) rfl rfl ?_
      refine own_al X54 hx 355 (hb hby at_353) rfl rfl rfl ?_
      refine own_ic X54 hx (2 : Int32) 356 (hb hby at_355) rfl rfl ?_
      have F57 : Arv Z h54 ca ka .char (8 : Int32) [(.int c0), (.int c1), (.int c2), (.int c3), (.int c4), (.int c5), (.int c6), (.int c7)] (.int (0 : Int32)) := (F53.other W54 ne52)
      refine own_cal X54 hx hZ e54 F57 c2 357 (hb hby at_356) rfl ⟨by decide, by decide⟩ rfl ?_
      obtain ⟨cl58, Ar58, q58, Sz58, Nn58, Hs58, G58⟩ := id V54
      obtain ⟨T58, h58, X58, e58, W58, st58⟩ := stC X54 hx hZ e54 Ar58 (j := (2 : Int32)) (inb_of Sz58 ⟨by decide, by decide⟩) (g := (mkF m 357 #[.val (.int i0), .val (.int i1), .val (.int i2), .val (.int i3), .val (.int i4), .val (.int bs), .val (.int lm), .val (.int un), .val (.ref ca), .val (.int pv), .val (.ref b10), .unset, .unset, .unset, .unset, .unset, .unset, .unset] [(.int c2), (.int (2 : Int32)), (.ref b39), (.ref b39)])) rfl rfl (hb hby at_357)
      rw [nc2] at W58
      refine own_go st58 ?_
      have V58 : Arv Z h58 b39 k39 .char (7 : Int32) [(.int c0), (.int c1), (.int c2), (.int (0 : Int32)), (.int (0 : Int32)), (.int (0 : Int32)), (.int (0 : Int32))] (.int (0 : Int32)) := Arv.set Ar58 q58 Sz58 Nn58 Hs58 G58 (by rw [← nc2]; exact fits_nar_char _) W58 2 rfl (Nat.le_of_ble_eq_true rfl)
      have N58 := Fr.snoc X58 N54 gn39
      have sf59 : Safe Z consts_1 s.vm h54 b39 := Safe.arv hZ.alike V54 (by decide)
      have sz60 : h54.size ≤ h58.size := Nat.le_of_eq (Wr.size W58).symm
      have cr60 : CHr Z consts_1 s.vm h54 s.vm h58 := CHr.wr W58 sf59 CR56.1
      have CR60 := CR56.trans cr60
      show own_Rn p e below _ (T58.setTop (mkF m 358 #[.val (.int i0), .val (.int i1), .val (.int i2), .val (.int i3), .val (.int i4), .val (.int bs), .val (.int lm), .val (.int un), .val (.ref ca), .val (.int pv), .val (.ref b10), .unset, .unset, .unset, .unset, .unset, .unset, .unset] [(.ref b39)]))
      refine own_dp X58 hx 359 (hb hby at_358) rfl rfl ?_
      refine own_ic X58 hx (3 : Int32) 360 (hb hby at_359) rfl rfl ?_
      refine own_al X58 hx 362 (hb hby at_360) rfl rfl rfl ?_
      refine own_ic X58 hx (3 : Int32) 363 (hb hby at_362) rfl rfl ?_
      have F61 : Arv Z h58 ca ka .char (8 : Int32) [(.int c0), (.int c1), (.int c2), (.int c3), (.int c4), (.int c5), (.int c6), (.int c7)] (.int (0 : Int32)) := (F57.other W58 ne52)
      refine own_cal X58 hx hZ e58 F61 c3 364 (hb hby at_363) rfl ⟨by decide, by decide⟩ rfl ?_
      obtain ⟨cl62, Ar62, q62, Sz62, Nn62, Hs62, G62⟩ := id V58
      obtain ⟨T62, h62, X62, e62, W62, st62⟩ := stC X58 hx hZ e58 Ar62 (j := (3 : Int32)) (inb_of Sz62 ⟨by decide, by decide⟩) (g := (mkF m 364 #[.val (.int i0), .val (.int i1), .val (.int i2), .val (.int i3), .val (.int i4), .val (.int bs), .val (.int lm), .val (.int un), .val (.ref ca), .val (.int pv), .val (.ref b10), .unset, .unset, .unset, .unset, .unset, .unset, .unset] [(.int c3), (.int (3 : Int32)), (.ref b39), (.ref b39)])) rfl rfl (hb hby at_364)
      rw [nc3] at W62
      refine own_go st62 ?_
      have V62 : Arv Z h62 b39 k39 .char (7 : Int32) [(.int c0), (.int c1), (.int c2), (.int c3), (.int (0 : Int32)), (.int (0 : Int32)), (.int (0 : Int32))] (.int (0 : Int32)) := Arv.set Ar62 q62 Sz62 Nn62 Hs62 G62 (by rw [← nc3]; exact fits_nar_char _) W62 3 rfl (Nat.le_of_ble_eq_true rfl)
      have N62 := Fr.snoc X62 N58 gn39
      have sf63 : Safe Z consts_1 s.vm h58 b39 := Safe.arv hZ.alike V58 (by decide)
      have sz64 : h58.size ≤ h62.size := Nat.le_of_eq (Wr.size W62).symm
      have cr64 : CHr Z consts_1 s.vm h58 s.vm h62 := CHr.wr W62 sf63 CR60.1
      have CR64 := CR60.trans cr64
      show own_Rn p e below _ (T62.setTop (mkF m 365 #[.val (.int i0), .val (.int i1), .val (.int i2), .val (.int i3), .val (.int i4), .val (.int bs), .val (.int lm), .val (.int un), .val (.ref ca), .val (.int pv), .val (.ref b10), .unset, .unset, .unset, .unset, .unset, .unset, .unset] [(.ref b39)]))
      refine own_dp X62 hx 366 (hb hby at_365) rfl rfl ?_
      refine own_ic X62 hx (4 : Int32) 367 (hb hby at_366) rfl rfl ?_
      refine own_al X62 hx 369 (hb hby at_367) rfl rfl rfl ?_
      refine own_ic X62 hx (4 : Int32) 370 (hb hby at_369) rfl rfl ?_
      have F65 : Arv Z h62 ca ka .char (8 : Int32) [(.int c0), (.int c1), (.int c2), (.int c3), (.int c4), (.int c5), (.int c6), (.int c7)] (.int (0 : Int32)) := (F61.other W62 ne52)
      refine own_cal X62 hx hZ e62 F65 c4 371 (hb hby at_370) rfl ⟨by decide, by decide⟩ rfl ?_
      obtain ⟨cl66, Ar66, q66, Sz66, Nn66, Hs66, G66⟩ := id V62
      obtain ⟨T66, h66, X66, e66, W66, st66⟩ := stC X62 hx hZ e62 Ar66 (j := (4 : Int32)) (inb_of Sz66 ⟨by decide, by decide⟩) (g := (mkF m 371 #[.val (.int i0), .val (.int i1), .val (.int i2), .val (.int i3), .val (.int i4), .val (.int bs), .val (.int lm), .val (.int un), .val (.ref ca), .val (.int pv), .val (.ref b10), .unset, .unset, .unset, .unset, .unset, .unset, .unset] [(.int c4), (.int (4 : Int32)), (.ref b39), (.ref b39)])) rfl rfl (hb hby at_371)
      rw [nc4] at W66
      refine own_go st66 ?_
      have V66 : Arv Z h66 b39 k39 .char (7 : Int32) [(.int c0), (.int c1), (.int c2), (.int c3), (.int c4), (.int (0 : Int32)), (.int (0 : Int32))] (.int (0 : Int32)) := Arv.set Ar66 q66 Sz66 Nn66 Hs66 G66 (by rw [← nc4]; exact fits_nar_char _) W66 4 rfl (Nat.le_of_ble_eq_true rfl)
      have N66 := Fr.snoc X66 N62 gn39
      have sf67 : Safe Z consts_1 s.vm h62 b39 := Safe.arv hZ.alike V62 (by decide)
      have sz68 : h62.size ≤ h66.size := Nat.le_of_eq (Wr.size W66).symm
      have cr68 : CHr Z consts_1 s.vm h62 s.vm h66 := CHr.wr W66 sf67 CR64.1
      have CR68 := CR64.trans cr68
      show own_Rn p e below _ (T66.setTop (mkF m 372 #[.val (.int i0), .val (.int i1), .val (.int i2), .val (.int i3), .val (.int i4), .val (.int bs), .val (.int lm), .val (.int un), .val (.ref ca), .val (.int pv), .val (.ref b10), .unset, .unset, .unset, .unset, .unset, .unset, .unset] [(.ref b39)]))
      refine own_dp X66 hx 373 (hb hby at_372) rfl rfl ?_
      refine own_ic X66 hx (5 : Int32) 374 (hb hby at_373) rfl rfl ?_
      refine own_al X66 hx 376 (hb hby at_374) rfl rfl rfl ?_
      refine own_ic X66 hx (5 : Int32) 377 (hb hby at_376) rfl rfl ?_
      have F69 : Arv Z h66 ca ka .char (8 : Int32) [(.int c0), (.int c1), (.int c2), (.int c3), (.int c4), (.int c5), (.int c6), (.int c7)] (.int (0 : Int32)) := (F65.other W66 ne52)
      refine own_cal X66 hx hZ e66 F69 c5 378 (hb hby at_377) rfl ⟨by decide, by decide⟩ rfl ?_
      obtain ⟨cl70, Ar70, q70, Sz70, Nn70, Hs70, G70⟩ := id V66
      obtain ⟨T70, h70, X70, e70, W70, st70⟩ := stC X66 hx hZ e66 Ar70 (j := (5 : Int32)) (inb_of Sz70 ⟨by decide, by decide⟩) (g := (mkF m 378 #[.val (.int i0), .val (.int i1), .val (.int i2), .val (.int i3), .val (.int i4), .val (.int bs), .val (.int lm), .val (.int un), .val (.ref ca), .val (.int pv), .val (.ref b10), .unset, .unset, .unset, .unset, .unset, .unset, .unset] [(.int c5), (.int (5 : Int32)), (.ref b39), (.ref b39)])) rfl rfl (hb hby at_378)
      rw [nc5] at W70
      refine own_go st70 ?_
      have V70 : Arv Z h70 b39 k39 .char (7 : Int32) [(.int c0), (.int c1), (.int c2), (.int c3), (.int c4), (.int c5), (.int (0 : Int32))] (.int (0 : Int32)) := Arv.set Ar70 q70 Sz70 Nn70 Hs70 G70 (by rw [← nc5]; exact fits_nar_char _) W70 5 rfl (Nat.le_of_ble_eq_true rfl)
      have N70 := Fr.snoc X70 N66 gn39
      have sf71 : Safe Z consts_1 s.vm h66 b39 := Safe.arv hZ.alike V66 (by decide)
      have sz72 : h66.size ≤ h70.size := Nat.le_of_eq (Wr.size W70).symm
      have cr72 : CHr Z consts_1 s.vm h66 s.vm h70 := CHr.wr W70 sf71 CR68.1
      have CR72 := CR68.trans cr72
      show own_Rn p e below _ (T70.setTop (mkF m 379 #[.val (.int i0), .val (.int i1), .val (.int i2), .val (.int i3), .val (.int i4), .val (.int bs), .val (.int lm), .val (.int un), .val (.ref ca), .val (.int pv), .val (.ref b10), .unset, .unset, .unset, .unset, .unset, .unset, .unset] [(.ref b39)]))
      refine own_dp X70 hx 380 (hb hby at_379) rfl rfl ?_
      refine own_bp X70 hx (6 : Int32) 382 (hb hby at_380) rfl rfl ?_
      refine own_al X70 hx 384 (hb hby at_382) rfl rfl rfl ?_
      refine own_bp X70 hx (6 : Int32) 386 (hb hby at_384) rfl rfl ?_
      have F73 : Arv Z h70 ca ka .char (8 : Int32) [(.int c0), (.int c1), (.int c2), (.int c3), (.int c4), (.int c5), (.int c6), (.int c7)] (.int (0 : Int32)) := (F69.other W70 ne52)
      refine own_cal X70 hx hZ e70 F73 c6 387 (hb hby at_386) rfl ⟨by decide, by decide⟩ rfl ?_
      obtain ⟨cl74, Ar74, q74, Sz74, Nn74, Hs74, G74⟩ := id V70
      obtain ⟨T74, h74, X74, e74, W74, st74⟩ := stC X70 hx hZ e70 Ar74 (j := (6 : Int32)) (inb_of Sz74 ⟨by decide, by decide⟩) (g := (mkF m 387 #[.val (.int i0), .val (.int i1), .val (.int i2), .val (.int i3), .val (.int i4), .val (.int bs), .val (.int lm), .val (.int un), .val (.ref ca), .val (.int pv), .val (.ref b10), .unset, .unset, .unset, .unset, .unset, .unset, .unset] [(.int c6), (.int (6 : Int32)), (.ref b39), (.ref b39)])) rfl rfl (hb hby at_387)
      rw [nc6] at W74
      refine own_go st74 ?_
      have V74 : Arv Z h74 b39 k39 .char (7 : Int32) [(.int c0), (.int c1), (.int c2), (.int c3), (.int c4), (.int c5), (.int c6)] (.int (0 : Int32)) := Arv.set Ar74 q74 Sz74 Nn74 Hs74 G74 (by rw [← nc6]; exact fits_nar_char _) W74 6 rfl (Nat.le_of_ble_eq_true rfl)
      have N74 := Fr.snoc X74 N70 gn39
      have sf75 : Safe Z consts_1 s.vm h70 b39 := Safe.arv hZ.alike V70 (by decide)
      have sz76 : h70.size ≤ h74.size := Nat.le_of_eq (Wr.size W74).symm
      have cr76 : CHr Z consts_1 s.vm h70 s.vm h74 := CHr.wr W74 sf75 CR72.1
      have CR76 := CR72.trans cr76
      show own_Rn p e below _ (T74.setTop (mkF m 388 #[.val (.int i0), .val (.int i1), .val (.int i2), .val (.int i3), .val (.int i4), .val (.int bs), .val (.int lm), .val (.int un), .val (.ref ca), .val (.int pv), .val (.ref b10), .unset, .unset, .unset, .unset, .unset, .unset, .unset] [(.ref b39)]))
      refine own_as X74 hx #[.val (.int i0), .val (.int i1), .val (.int i2), .val (.int i3), .val (.int i4), .val (.int bs), .val (.int lm), .val (.int un), .val (.ref ca), .val (.int pv), .val (.ref b10), .val (.ref b39), .unset, .unset, .unset, .unset, .unset, .unset] 390 (hb hby at_388) rfl rfl rfl ?_
      refine own_bp X74 hx (8 : Int32) 392 (hb hby at_390) rfl rfl ?_
      obtain ⟨T78, h78, k78, X78, e78, E78, A78, st78⟩ := newP X74 hx hZ (hw _ (own_mi 0 rfl)) e74 (g := (mkF m 392 #[.val (.int i0), .val (.int i1), .val (.int i2), .val (.int i3), .val (.int i4), .val (.int bs), .val (.int lm), .val (.int un), .val (.ref ca), .val (.int pv), .val (.ref b10), .val (.ref b39), .unset, .unset, .unset, .unset, .unset, .unset] [(.int (8 : Int32))])) rfl (hb hby at_392) rfl (by decide) (cap := 8) (by decide) (by decide) (by decide) (by decide)
      obtain ⟨b78, g78⟩ : ∃ z, z = h74.size := ⟨_, rfl⟩
      rw [← g78] at A78 st78
      refine own_go st78 ?_
      have sz79 : h74.size ≤ h78.size := E78.1
      have cr79 : CHr Z consts_1 s.vm h74 s.vm h78 := CHr.ext E78 CR76.1
      have CR79 := CR76.trans cr79
      have le80 : hj.size ≤ h39.size := Nat.le_trans le46 sz40
      have le81 : hj.size ≤ h49.size := Nat.le_trans le80 sz51
      have le82 : hj.size ≤ h54.size := Nat.le_trans le81 sz56
      have le83 : hj.size ≤ h58.size := Nat.le_trans le82 sz60
      have le84 : hj.size ≤ h62.size := Nat.le_trans le83 sz64
      have le85 : hj.size ≤ h66.size := Nat.le_trans le84 sz68
      have le86 : hj.size ≤ h70.size := Nat.le_trans le85 sz72
      have le87 : hj.size ≤ h74.size := Nat.le_trans le86 sz76
      have gn78 : n0 ≤ b78 := (Nat.le_trans (Nat.le_trans Z0 (Nat.le_trans szj le87)) (Nat.le_of_eq g78.symm))
      have V78 : Arv Z h78 b78 k78 .char (8 : Int32) [(.int (0 : Int32)), (.int (0 : Int32)), (.int (0 : Int32)), (.int (0 : Int32)), (.int (0 : Int32)), (.int (0 : Int32)), (.int (0 : Int32)), (.int (0 : Int32))] (.int (0 : Int32)) := (Arv.new A78 (by decide)).pad (pad_rep [] _ 8)
      have lt88 : @LT.lt Nat _ b78 h78.size := V78.lt
      show own_Rn p e below _ (T78.setTop (mkF m 394 #[.val (.int i0), .val (.int i1), .val (.int i2), .val (.int i3), .val (.int i4), .val (.int bs), .val (.int lm), .val (.int un), .val (.ref ca), .val (.int pv), .val (.ref b10), .val (.ref b39), .unset, .unset, .unset, .unset, .unset, .unset] [(.ref b78)]))
      refine own_dp X78 hx 395 (hb hby at_394) rfl rfl ?_
      refine own_ic X78 hx (0 : Int32) 396 (hb hby at_395) rfl rfl ?_
      refine own_al X78 hx 398 (hb hby at_396) rfl rfl rfl ?_
      refine own_ic X78 hx (0 : Int32) 399 (hb hby at_398) rfl rfl ?_
      have F89 : Arv Z h78 ca ka .char (8 : Int32) [(.int c0), (.int c1), (.int c2), (.int c3), (.int c4), (.int c5), (.int c6), (.int c7)] (.int (0 : Int32)) := ((F73.other W74 ne52).ext E78)
      refine own_cal X78 hx hZ e78 F89 c0 400 (hb hby at_399) rfl ⟨by decide, by decide⟩ rfl ?_
      obtain ⟨cl90, Ar90, q90, Sz90, Nn90, Hs90, G90⟩ := id V78
      obtain ⟨T90, h90, X90, e90, W90, st90⟩ := stC X78 hx hZ e78 Ar90 (j := (0 : Int32)) (inb_of Sz90 ⟨by decide, by decide⟩) (g := (mkF m 400 #[.val (.int i0), .val (.int i1), .val (.int i2), .val (.int i3), .val (.int i4), .val (.int bs), .val (.int lm), .val (.int un), .val (.ref ca), .val (.int pv), .val (.ref b10), .val (.ref b39), .unset, .unset, .unset, .unset, .unset, .unset] [(.int c0), (.int (0 : Int32)), (.ref b78), (.ref b78)])) rfl rfl (hb hby at_400)
      rw [nc0] at W90
      refine own_go st90 ?_
      have V90 : Arv Z h90 b78 k78 .char (8 : Int32) [(.int c0), (.int (0 : Int32)), (.int (0 : Int32)), (.int (0 : Int32)), (.int (0 : Int32)), (.int (0 : Int32)), (.int (0 : Int32)), (.int (0 : Int32))] (.int (0 : Int32)) := Arv.set Ar90 q90 Sz90 Nn90 Hs90 G90 (by rw [← nc0]; exact fits_nar_char _) W90 0 rfl (Nat.le_of_ble_eq_true rfl)
      have N90 := Fr.snoc X90 N74 gn78
      have sf91 : Safe Z consts_1 s.vm h78 b78 := Safe.arv hZ.alike V78 (by decide)
      have sz92 : h78.size ≤ h90.size := Nat.le_of_eq (Wr.size W90).symm
      have cr92 : CHr Z consts_1 s.vm h78 s.vm h90 := CHr.wr W90 sf91 CR79.1
      have CR92 := CR79.trans cr92
      show own_Rn p e below _ (T90.setTop (mkF m 401 #[.val (.int i0), .val (.int i1), .val (.int i2), .val (.int i3), .val (.int i4), .val (.int bs), .val (.int lm), .val (.int un), .val (.ref ca), .val (.int pv), .val (.ref b10), .val (.ref b39), .unset, .unset, .unset, .unset, .unset, .unset] [(.ref b78)]))
      refine own_dp X90 hx 402 (hb hby at_401) rfl rfl ?_
      refine own_ic X90 hx (1 : Int32) 403 (hb hby at_402) rfl rfl ?_
      refine own_al X90 hx 405 (hb hby at_403) rfl rfl rfl ?_
      refine own_ic X90 hx (1 : Int32) 406 (hb hby at_405) rfl rfl ?_
      have ne93 : ca ≠ b78 := own_nea (Or.inl (Nat.lt_of_lt_of_le lt5 (Nat.le_trans le87 (Nat.le_of_eq g78.symm))))
      have F94 : Arv Z h90 ca ka .char (8 : Int32) [(.int c0), (.int c1), (.int c2), (.int c3), (.int c4), (.int c5), (.int c6), (.int c7)] (.int (0 : Int32)) := (F89.other W90 ne93)
      refine own_cal X90 hx hZ e90 F94 c1 407 (hb hby at_406) rfl ⟨by decide, by decide⟩ rfl ?_
      obtain ⟨cl95, Ar95, q95, Sz95, Nn95, Hs95, G95⟩ := id V90
      obtain ⟨T95, h95, X95, e95, W95, st95⟩ := stC X90 hx hZ e90 Ar95 (j := (1 : Int32)) (inb_of Sz95 ⟨by decide, by decide⟩) (g := (mkF m 407 #[.val (.int i0), .val (.int i1), .val (.int i2), .val (.int i3), .val (.int i4), .val (.int bs), .val (.int lm), .val (.int un), .val (.ref ca), .val (.int pv), .val (.ref b10), .val (.ref b39), .unset, .unset, .unset, .unset, .unset, .unset] [(.int c1), (.int (1 : Int32)), (.ref b78), (.ref b78)])) rfl rfl (hb hby at_407)
      rw [nc1] at W95
      refine own_go st95 ?_
      have V95 : Arv Z h95 b78 k78 .char (8 : Int32) [(.int c0), (.int c1), (.int (0 : Int32)), (.int (0 : Int32)), (.int (0 : Int32)), (.int (0 : Int32)), (.int (0 : Int32)), (.int (0 : Int32))] (.int (0 : Int32)) := Arv.set Ar95 q95 Sz95 Nn95 Hs95 G95 (by rw [← nc1]; exact fits_nar_char _) W95 1 rfl (Nat.le_of_ble_eq_true rfl)
      have N95 := Fr.snoc X95 N90 gn78
      have sf96 : Safe Z consts_1 s.vm h90 b78 := Safe.arv hZ.alike V90 (by decide)
      have sz97 : h90.size ≤ h95.size := Nat.le_of_eq (Wr.size W95).symm
      have cr97 : CHr Z consts_1 s.vm h90 s.vm h95 := CHr.wr W95 sf96 CR92.1
      have CR97 := CR92.trans cr97
      show own_Rn p e below _ (T95.setTop (mkF m 408 #[.val (.int i0), .val (.int i1), .val (.int i2), .val (.int i3), .val (.int i4), .val (.int bs), .val (.int lm), .val (.int un), .val (.ref ca), .val (.int pv), .val (.ref b10), .val (.ref b39), .unset, .unset, .unset, .unset, .unset, .unset] [(.ref b78)]))
      refine own_dp X95 hx 409 (hb hby at_408) rfl rfl ?_
      refine own_ic X95 hx (2 : Int32) 410 (hb hby at_409) rfl rfl ?_
      refine own_al X95 hx 412 (hb hby at_410) rfl rfl rfl ?_
      refine own_ic X95 hx (2 : Int32) 413 (hb hby at_412) rfl rfl ?_
      have F98 : Arv Z h95 ca ka .char (8 : Int32) [(.int c0), (.int c1), (.int c2), (.int c3), (.int c4), (.int c5), (.int c6), (.int c7)] (.int (0 : Int32)) := (F94.other W95 ne93)
      refine own_cal X95 hx hZ e95 F98 c2 414 (hb hby at_413) rfl ⟨by decide, by decide⟩ rfl ?_
      obtain ⟨cl99, Ar99, q99, Sz99, Nn99, Hs99, G99⟩ := id V95
      obtain ⟨T99, h99, X99, e99, W99, st99⟩ := stC X95 hx hZ e95 Ar99 (j := (2 : Int32)) (inb_of Sz99 ⟨by decide, by decide⟩) (g := (mkF m 414 #[.val (.int i0), .val (.int i1), .val (.int i2), .val (.int i3), .val (.int i4), .val (.int bs), .val (.int lm), .val (.int un), .val (.ref ca), .val (.int pv), .val (.ref b10), .val (.ref b39), .unset, .unset, .unset, .unset, .unset, .unset] [(.int c2), (.int (2 : Int32)), (.ref b78), (.ref b78)])) rfl rfl (hb hby at_414)
      rw [nc2] at W99
      refine own_go st99 ?_
      have V99 : Arv Z h99 b78 k78 .char (8 : Int32) [(.int c0), (.int c1), (.int c2), (.int (0 : Int32)), (.int (0 : Int32)), (.int (0 : Int32)), (.int (0 : Int32)), (.int (0 : Int32))] (.int (0 : Int32)) := Arv.set Ar99 q99 Sz99 Nn99 Hs99 G99 (by rw [← nc2]; exact fits_nar_char _) W99 2 rfl (Nat.le_of_ble_eq_true rfl)
      have N99 := Fr.snoc X99 N95 gn78
      have sf100 : Safe Z consts_1 s.vm h95 b78 := Safe.arv hZ.alike V95 (by decide)
      have sz101 : h95.size ≤ h99.size := Nat.le_of_eq (Wr.size W99).symm
      have cr101 : CHr Z consts_1 s.vm h95 s.vm h99 := CHr.wr W99 sf100 CR97.1
      have CR101 := CR97.trans cr101
      show own_Rn p e below _ (T99.setTop (mkF m 415 #[.val (.int i0), .val (.int i1), .val (.int i2), .val (.int i3), .val (.int i4), .val (.int bs), .val (.int lm), .val (.int un), .val (.ref ca), .val (.int pv), .val (.ref b10), .val (.ref b39), .unset, .unset, .unset, .unset, .unset, .unset] [(.ref b78)]))
      refine own_dp X99 hx 416 (hb hby at_415) rfl rfl ?_
      refine own_ic X99 hx (3 : Int32) 417 (hb hby at_416) rfl rfl ?_
      refine own_al X99 hx 419 (hb hby at_417) rfl rfl rfl ?_
      refine own_ic X99 hx (3 : Int32) 420 (hb hby at_419) rfl rfl ?_
      have F102 : Arv Z h99 ca ka .char (8 : Int32) [(.int c0), (.int c1), (.int c2), (.int c3), (.int c4), (.int c5), (.int c6), (.int c7)] (.int (0 : Int32)) := (F98.other W99 ne93)
      refine own_cal X99 hx hZ e99 F102 c3 421 (hb hby at_420) rfl ⟨by decide, by decide⟩ rfl ?_
      obtain ⟨cl103, Ar103, q103, Sz103, Nn103, Hs103, G103⟩ := id V99
      obtain ⟨T103, h103, X103, e103, W103, st103⟩ := stC X99 hx hZ e99 Ar103 (j := (3 : Int32)) (inb_of Sz103 ⟨by decide, by decide⟩) (g := (mkF m 421 #[.val (.int i0), .val (.int i1), .val (.int i2), .val (.int i3), .val (.int i4), .val (.int bs), .val (.int lm), .val (.int un), .val (.ref ca), .val (.int pv), .val (.ref b10), .val (.ref b39), .unset, .unset, .unset, .unset, .unset, .unset] [(.int c3), (.int (3 : Int32)), (.ref b78), (.ref b78)])) rfl rfl (hb hby at_421)
      rw [nc3] at W103
      refine own_go st103 ?_
      have V103 : Arv Z h103 b78 k78 .char (8 : Int32) [(.int c0), (.int c1), (.int c2), (.int c3), (.int (0 : Int32)), (.int (0 : Int32)), (.int (0 : Int32)), (.int (0 : Int32))] (.int (0 : Int32)) := Arv.set Ar103 q103 Sz103 Nn103 Hs103 G103 (by rw [← nc3]; exact fits_nar_char _) W103 3 rfl (Nat.le_of_ble_eq_true rfl)
      have N103 := Fr.snoc X103 N99 gn78
      have sf104 : Safe Z consts_1 s.vm h99 b78 := Safe.arv hZ.alike V99 (by decide)
      have sz105 : h99.size ≤ h103.size := Nat.le_of_eq (Wr.size W103).symm
      have cr105 : CHr Z consts_1 s.vm h99 s.vm h103 := CHr.wr W103 sf104 CR101.1
      have CR105 := CR101.trans cr105
      show own_Rn p e below _ (T103.setTop (mkF m 422 #[.val (.int i0), .val (.int i1), .val (.int i2), .val (.int i3), .val (.int i4), .val (.int bs), .val (.int lm), .val (.int un), .val (.ref ca), .val (.int pv), .val (.ref b10), .val (.ref b39), .unset, .unset, .unset, .unset, .unset, .unset] [(.ref b78)]))
      refine own_dp X103 hx 423 (hb hby at_422) rfl rfl ?_
      refine own_ic X103 hx (4 : Int32) 424 (hb hby at_423) rfl rfl ?_
      refine own_al X103 hx 426 (hb hby at_424) rfl rfl rfl ?_
      refine own_ic X103 hx (4 : Int32) 427 (hb hby at_426) rfl rfl ?_
      have F106 : Arv Z h103 ca ka .char (8 : Int32) [(.int c0), (.int c1), (.int c2), (.int c3), (.int c4), (.int c5), (.int c6), (.int c7)] (.int (0 : Int32)) := (F102.other W103 ne93)
      refine own_cal X103 hx hZ e103 F106 c4 428 (hb hby at_427) rfl ⟨by decide, by decide⟩ rfl ?_
      obtain ⟨cl107, Ar107, q107, Sz107, Nn107, Hs107, G107⟩ := id V103
      obtain ⟨T107, h107, X107, e107, W107, st107⟩ := stC X103 hx hZ e103 Ar107 (j := (4 : Int32)) (inb_of Sz107 ⟨by decide, by decide⟩) (g := (mkF m 428 #[.val (.int i0), .val (.int i1), .val (.int i2), .val (.int i3), .val (.int i4), .val (.int bs), .val (.int lm), .val (.int un), .val (.ref ca), .val (.int pv), .val (.ref b10), .val (.ref b39), .unset, .unset, .unset, .unset, .unset, .unset] [(.int c4), (.int (4 : Int32)), (.ref b78), (.ref b78)])) rfl rfl (hb hby at_428)
      rw [nc4] at W107
      refine own_go st107 ?_
      have V107 : Arv Z h107 b78 k78 .char (8 : Int32) [(.int c0), (.int c1), (.int c2), (.int c3), (.int c4), (.int (0 : Int32)), (.int (0 : Int32)), (.int (0 : Int32))] (.int (0 : Int32)) := Arv.set Ar107 q107 Sz107 Nn107 Hs107 G107 (by rw [← nc4]; exact fits_nar_char _) W107 4 rfl (Nat.le_of_ble_eq_true rfl)
      have N107 := Fr.snoc X107 N103 gn78
      have sf108 : Safe Z consts_1 s.vm h103 b78 := Safe.arv hZ.alike V103 (by decide)
      have sz109 : h103.size ≤ h107.size := Nat.le_of_eq (Wr.size W107).symm
      have cr109 : CHr Z consts_1 s.vm h103 s.vm h107 := CHr.wr W107 sf108 CR105.1
      have CR109 := CR105.trans cr109
      show own_Rn p e below _ (T107.setTop (mkF m 429 #[.val (.int i0), .val (.int i1), .val (.int i2), .val (.int i3), .val (.int i4), .val (.int bs), .val (.int lm), .val (.int un), .val (.ref ca), .val (.int pv), .val (.ref b10), .val (.ref b39), .unset, .unset, .unset, .unset, .unset, .unset] [(.ref b78)]))
      refine own_dp X107 hx 430 (hb hby at_429) rfl rfl ?_
      refine own_ic X107 hx (5 : Int32) 431 (hb hby at_430) rfl rfl ?_
      refine own_al X107 hx 433 (hb hby at_431) rfl rfl rfl ?_
      refine own_ic X107 hx (5 : Int32) 434 (hb hby at_433) rfl rfl ?_
      have F110 : Arv Z h107 ca ka .char (8 : Int32) [(.int c0), (.int c1), (.int c2), (.int c3), (.int c4), (.int c5), (.int c6), (.int c7)] (.int (0 : Int32)) := (F106.other W107 ne93)
      refine own_cal X107 hx hZ e107 F110 c5 435 (hb hby at_434) rfl ⟨by decide, by decide⟩ rfl ?_
      obtain ⟨cl111, Ar111, q111, Sz111, Nn111, Hs111, G111⟩ := id V107
      obtain ⟨T111, h111, X111, e111, W111, st111⟩ := stC X107 hx hZ e107 Ar111 (j := (5 : Int32)) (inb_of Sz111 ⟨by decide, by decide⟩) (g := (mkF m 435 #[.val (.int i0), .val (.int i1), .val (.int i2), .val (.int i3), .val (.int i4), .val (.int bs), .val (.int lm), .val (.int un), .val (.ref ca), .val (.int pv), .val (.ref b10), .val (.ref b39), .unset, .unset, .unset, .unset, .unset, .unset] [(.int c5), (.int (5 : Int32)), (.ref b78), (.ref b78)])) rfl rfl (hb hby at_435)
      rw [nc5] at W111
      refine own_go st111 ?_
      have V111 : Arv Z h111 b78 k78 .char (8 : Int32) [(.int c0), (.int c1), (.int c2), (.int c3), (.int c4), (.int c5), (.int (0 : Int32)), (.int (0 : Int32))] (.int (0 : Int32)) := Arv.set Ar111 q111 Sz111 Nn111 Hs111 G111 (by rw [← nc5]; exact fits_nar_char _) W111 5 rfl (Nat.le_of_ble_eq_true rfl)
      have N111 := Fr.snoc X111 N107 gn78
      have sf112 : Safe Z consts_1 s.vm h107 b78 := Safe.arv hZ.alike V107 (by decide)
      have sz113 : h107.size ≤ h111.size := Nat.le_of_eq (Wr.size W111).symm
      have cr113 : CHr Z consts_1 s.vm h107 s.vm h111 := CHr.wr W111 sf112 CR109.1
      have CR113 := CR109.trans cr113
      show own_Rn p e below _ (T111.setTop (mkF m 436 #[.val (.int i0), .val (.int i1), .val (.int i2), .val (.int i3), .val (.int i4), .val (.int bs), .val (.int lm), .val (.int un), .val (.ref ca), .val (.int pv), .val (.ref b10), .val (.ref b39), .unset, .unset, .unset, .unset, .unset, .unset] [(.ref b78)]))
      refine own_dp X111 hx 437 (hb hby at_436) rfl rfl ?_
      refine own_bp X111 hx (6 : Int32) 439 (hb hby at_437) rfl rfl ?_
      refine own_al X111 hx 441 (hb hby at_439) rfl rfl rfl ?_
      refine own_bp X111 hx (6 : Int32) 443 (hb hby at_441) rfl rfl ?_
      have F114 : Arv Z h111 ca ka .char (8 : Int32) [(.int c0), (.int c1), (.int c2), (.int c3), (.int c4), (.int c5), (.int c6), (.int c7)] (.int (0 : Int32)) := (F110.other W111 ne93)
      refine own_cal X111 hx hZ e111 F114 c6 444 (hb hby at_443) rfl ⟨by decide, by decide⟩ rfl ?_
      obtain ⟨cl115, Ar115, q115, Sz115, Nn115, Hs115, G115⟩ := id V111
      obtain ⟨T115, h115, X115, e115, W115, st115⟩ := stC X111 hx hZ e111 Ar115 (j := (6 : Int32)) (inb_of Sz115 ⟨by decide, by decide⟩) (g := (mkF m 444 #[.val (.int i0), .val (.int i1), .val (.int i2), .val (.int i3), .val (.int i4), .val (.int bs), .val (.int lm), .val (.int un), .val (.ref ca), .val (.int pv), .val (.ref b10), .val (.ref b39), .unset, .unset, .unset, .unset, .unset, .unset] [(.int c6), (.int (6 : Int32)), (.ref b78), (.ref b78)])) rfl rfl (hb hby at_444)
      rw [nc6] at W115
      refine own_go st115 ?_
      have V115 : Arv Z h115 b78 k78 .char (8 : Int32) [(.int c0), (.int c1), (.int c2), (.int c3), (.int c4), (.int c5), (.int c6), (.int (0 : Int32))] (.int (0 : Int32)) := Arv.set Ar115 q115 Sz115 Nn115 Hs115 G115 (by rw [← nc6]; exact fits_nar_char _) W115 6 rfl (Nat.le_of_ble_eq_true rfl)
      have N115 := Fr.snoc X115 N111 gn78
      have sf116 : Safe Z consts_1 s.vm h111 b78 := Safe.arv hZ.alike V111 (by decide)
      have sz117 : h111.size ≤ h115.size := Nat.le_of_eq (Wr.size W115).symm
      have cr117 : CHr Z consts_1 s.vm h111 s.vm h115 := CHr.wr W115 sf116 CR113.1
      have CR117 := CR113.trans cr117
      show own_Rn p e below _ (T115.setTop (mkF m 445 #[.val (.int i0), .val (.int i1), .val (.int i2), .val (.int i3), .val (.int i4), .val (.int bs), .val (.int lm), .val (.int un), .val (.ref ca), .val (.int pv), .val (.ref b10), .val (.ref b39), .unset, .unset, .unset, .unset, .unset, .unset] [(.ref b78)]))
      refine own_dp X115 hx 446 (hb hby at_445) rfl rfl ?_
      refine own_bp X115 hx (7 : Int32) 448 (hb hby at_446) rfl rfl ?_
      refine own_al X115 hx 450 (hb hby at_448) rfl rfl rfl ?_
      refine own_bp X115 hx (7 : Int32) 452 (hb hby at_450) rfl rfl ?_
      have F118 : Arv Z h115 ca ka .char (8 : Int32) [(.int c0), (.int c1), (.int c2), (.int c3), (.int c4), (.int c5), (.int c6), (.int c7)] (.int (0 : Int32)) := (F114.other W115 ne93)
      refine own_cal X115 hx hZ e115 F118 c7 453 (hb hby at_452) rfl ⟨by decide, by decide⟩ rfl ?_
      obtain ⟨cl119, Ar119, q119, Sz119, Nn119, Hs119, G119⟩ := id V115
      obtain ⟨T119, h119, X119, e119, W119, st119⟩ := stC X115 hx hZ e115 Ar119 (j := (7 : Int32)) (inb_of Sz119 ⟨by decide, by decide⟩) (g := (mkF m 453 #[.val (.int i0), .val (.int i1), .val (.int i2), .val (.int i3), .val (.int i4), .val (.int bs), .val (.int lm), .val (.int un), .val (.ref ca), .val (.int pv), .val (.ref b10), .val (.ref b39), .unset, .unset, .unset, .unset, .unset, .unset] [(.int c7), (.int (7 : Int32)), (.ref b78), (.ref b78)])) rfl rfl (hb hby at_453)
      rw [nc7] at W119
      refine own_go st119 ?_
      have V119 : Arv Z h119 b78 k78 .char (8 : Int32) [(.int c0), (.int c1), (.int c2), (.int c3), (.int c4), (.int c5), (.int c6), (.int c7)] (.int (0 : Int32)) := Arv.set Ar119 q119 Sz119 Nn119 Hs119 G119 (by rw [← nc7]; exact fits_nar_char _) W119 7 rfl (Nat.le_of_ble_eq_true rfl)
      have N119 := Fr.snoc X119 N115 gn78
      have sf120 : Safe Z consts_1 s.vm h115 b78 := Safe.arv hZ.alike V115 (by decide)
      have sz121 : h115.size ≤ h119.size := Nat.le_of_eq (Wr.size W119).symm
      have cr121 : CHr Z consts_1 s.vm h115 s.vm h119 := CHr.wr W119 sf120 CR117.1
      have CR121 := CR117.trans cr121
      show own_Rn p e below _ (T119.setTop (mkF m 454 #[.val (.int i0), .val (.int i1), .val (.int i2), .val (.int i3), .val (.int i4), .val (.int bs), .val (.int lm), .val (.int un), .val (.ref ca), .val (.int pv), .val (.ref b10), .val (.ref b39), .unset, .unset, .unset, .unset, .unset, .unset] [(.ref b78)]))
      refine own_as X119 hx #[.val (.int i0), .val (.int i1), .val (.int i2), .val (.int i3), .val (.int i4), .val (.int bs), .val (.int lm), .val (.int un), .val (.ref ca), .val (.int pv), .val (.ref b10), .val (.ref b39), .val (.ref b78), .unset, .unset, .unset, .unset, .unset] 456 (hb hby at_454) rfl rfl rfl ?_
      refine own_il X119 hx 458 (hb hby at_456) rfl rfl ?_
      by_cases hlm0 : lm = (0 : Int32)
      · skip
        refine own_ifN X119 hx 461 (hb hby at_458) rfl ((if0 _ _).trans (teq (hlm0 : lm = (0 : Int32))).2) ?_
        obtain ⟨T122, h122, X122, e122, E122, A122, D122, -, st122⟩ := newO X119 hx hZ hown (hw _ (own_mi 2 rfl)) (hw _ (own_mi 3 rfl)) (hw _ (own_mi 4 rfl)) e119 (g := (mkF m 461 #[.val (.int i0), .val (.int i1), .val (.int i2), .val (.int i3), .val (.int i4), .val (.int bs), .val (.int lm), .val (.int un), .val (.ref ca), .val (.int pv), .val (.ref b10), .val (.ref b39), .val (.ref b78), .unset, .unset, .unset, .unset, .unset] [])) rfl (hb hby at_461) (by decide) (by decide)
        obtain ⟨b122, g122⟩ : ∃ z, z = h119.size := ⟨_, rfl⟩
        rw [← g122] at A122 D122 st122
        refine own_go st122 ?_
        have sz123 : h119.size ≤ h122.size := E122.1
        have cr123 : CHr Z consts_1 s.vm h119 s.vm h122 := CHr.ext E122 CR121.1
        have CR123 := CR121.trans cr123
        have sf124 : Safe Z consts_1 s.vm h122 b122 := Safe.ext E122 CR121.1 (Safe.new (Nat.le_of_eq g122.symm))
        have lt125 : @LT.lt Nat _ b122 h122.size := A122.lt
        have le126 : hj.size ≤ h78.size := Nat.le_trans le87 sz79
        have le127 : hj.size ≤ h90.size := Nat.le_trans le126 sz92
        have le128 : hj.size ≤ h95.size := Nat.le_trans le127 sz97
        have le129 : hj.size ≤ h99.size := Nat.le_trans le128 sz101
        have le130 : hj.size ≤ h103.size := Nat.le_trans le129 sz105
        have le131 : hj.size ≤ h107.size := Nat.le_trans le130 sz109
        have le132 : hj.size ≤ h111.size := Nat.le_trans le131 sz113
        have le133 : hj.size ≤ h115.size := Nat.le_trans le132 sz117
        have le134 : hj.size ≤ h119.size := Nat.le_trans le133 sz121
        have gn122 : n0 ≤ b122 := (Nat.le_trans (Nat.le_trans Z0 (Nat.le_trans szj le134)) (Nat.le_of_eq g122.symm))
        have D122_coder : Fld Z h122 b122 "java/lang/String" "coder" "B" (.int (0 : Int32)) := D122 (Or.inr (hw _ (own_mi 28 rfl))) (ty := .byte) own_fd_B
        have D122_value : Fld Z h122 b122 "java/lang/String" "value" "[B" .null := D122 (Or.inr (hw _ (own_mi 30 rfl))) (ty := (.array .byte)) own_fd_5bB
        show own_Rn p e below _ (T122.setTop (mkF m 464 #[.val (.int i0), .val (.int i1), .val (.int i2), .val (.int i3), .val (.int i4), .val (.int bs), .val (.int lm), .val (.int un), .val (.ref ca), .val (.int pv), .val (.ref b10), .val (.ref b39), .val (.ref b78), .unset, .unset, .unset, .unset, .unset] [(.ref b122)]))
        refine own_dp X122 hx 465 (hb hby at_464) rfl rfl ?_
        refine own_al X122 hx 467 (hb hby at_465) rfl rfl rfl ?_
        have hp135 : ∀ c ∈ ([c0, c1, c2, c3, c4, c5, c6] : List Int32), ¬ c < 0 ∧ ¬ (255 : Int32) < c := by
          intro c hc
          simp only [List.mem_cons, List.not_mem_nil, or_false] at hc
          rcases hc with rfl | rfl | rfl | rfl | rfl | rfl | rfl
          · exact rc0
          · exact rc1
          · exact rc2
          · exact rc3
          · exact rc4
          · exact rc5
          · exact rc6
        have le137 : h39.size ≤ h54.size := Nat.le_trans sz51 sz56
        have le138 : h39.size ≤ h58.size := Nat.le_trans le137 sz60
        have le139 : h39.size ≤ h62.size := Nat.le_trans le138 sz64
        have le140 : h39.size ≤ h66.size := Nat.le_trans le139 sz68
        have le141 : h39.size ≤ h70.size := Nat.le_trans le140 sz72
        have le142 : h39.size ≤ h74.size := Nat.le_trans le141 sz76
        have ne136 : b39 ≠ b78 := own_nea (Or.inl (Nat.lt_of_lt_of_le lt47 (Nat.le_trans le142 (Nat.le_of_eq g78.symm))))
        have F143 : Arv Z h122 b39 k39 .char (7 : Int32) [(.int c0), (.int c1), (.int c2), (.int c3), (.int c4), (.int c5), (.int c6)] (.int (0 : Int32)) := ((((((((((V74.ext E78).other W90 ne136).other W95 ne136).other W99 ne136).other W103 ne136).other W107 ne136).other W111 ne136).other W115 ne136).other W119 ne136).ext E122)
        have F144 : Old Z n0 h122 := (((((((((((((((((((((((((Oj.ext E10).wr W14 gn10).wr W19 gn10).wr W23 gn10).wr W27 gn10).wr W31 gn10).wr W35 gn10).ext E39).wr W49 gn39).wr W54 gn39).wr W58 gn39).wr W62 gn39).wr W66 gn39).wr W70 gn39).wr W74 gn39).ext E78).wr W90 gn78).wr W95 gn78).wr W99 gn78).wr W103 gn78).wr W107 gn78).wr W111 gn78).wr W115 gn78).wr W119 gn78).ext E122)
        have le145 : hj.size ≤ h122.size := Nat.le_trans le134 sz123
        have Zs135 : n0 ≤ h122.size := (Nat.le_trans Z0 (Nat.le_trans szj le145))
        refine own_pN X122 hx hZ hown (hw _ (own_mi 5 rfl)) (hw _ (own_mi 6 rfl)) (hw _ (own_mi 7 rfl)) (lenOf own_pd_285bC29V rfl) hws (kI := 4) (hw _ (own_mi 3 rfl)) (cs := [c0, c1, c2, c3, c4, c5, c6]) (bs := ([c0, c1, c2, c3, c4, c5, c6] : List Int32).map (fun c => c.toInt8.toInt32)) (n := 7) gn122 Zs135 A122 D122_value D122_coder F143 (O2.ext F144.2) P5 rfl rfl (by decide) (by decide) hp135 rfl (by decide) 1 (by decide) e122 [(.ref b122)] (by rw [hml]; rfl) rfl (Nat.le_of_eq rfl) (by decide : 5 + 1 ≤ _) (by decide : 33 + 7 ≤ _) 470 (hb hby at_467) rfl 6 40 rfl rfl ?_
        intro rv146 T146 Lc146 X146 hQ146
        obtain ⟨rfl, Nq146, Kq146, Ex146, Co146, t135, kb135, gt146, hs146, nt146, Va146, Ab146⟩ := hQ146
        have N146 := Fr.app N119 Nq146
        have sz148 : h122.size ≤ T146.heap.size := Kq146.1
        have cr148 : CHr Z consts_1 s.vm h122 s.vm T146.heap := CHr.keep Kq146 (sfS sf124 sf0) CR123.1
        have CR148 := CR123.trans cr148
        have sf149 : Safe Z consts_1 s.vm T146.heap t135 := Safe.keep Kq146 (sfS sf124 sf0) CR123.1 (Safe.new hs146)
        have lt150 : @LT.lt Nat _ t135 T146.heap.size := Ab146.lt
        show own_Rn p e below _ (T146.setTop (mkF m 470 #[.val (.int i0), .val (.int i1), .val (.int i2), .val (.int i3), .val (.int i4), .val (.int bs), .val (.int lm), .val (.int un), .val (.ref ca), .val (.int pv), .val (.ref b10), .val (.ref b39), .val (.ref b78), .unset, .unset, .unset, .unset, .unset] [(.ref b122)]))
        have hpL135 := hp135
        refine own_as X146 hx #[.val (.int i0), .val (.int i1), .val (.int i2), .val (.int i3), .val (.int i4), .val (.int bs), .val (.int lm), .val (.int un), .val (.ref ca), .val (.int pv), .val (.ref b10), .val (.ref b39), .val (.ref b78), .val (.ref b122), .unset, .unset, .unset, .unset] 472 (hb hby at_470) rfl rfl rfl ?_
        refine own_gt X146 hx 538 (hb hby at_472) (by decide) (by decide) ?_
        refine own_ic X146 hx (-1 : Int32) 539 (hb hby at_538) rfl rfl ?_
        refine own_is X146 hx #[.val (.int i0), .val (.int i1), .val (.int i2), .val (.int i3), .val (.int i4), .val (.int bs), .val (.int lm), .val (.int un), .val (.ref ca), .val (.int pv), .val (.ref b10), .val (.ref b39), .val (.ref b78), .val (.ref b122), .val (.int (-1 : Int32)), .unset, .unset, .unset] 541 (hb hby at_539) rfl rfl ?_
        refine own_il X146 hx 543 (hb hby at_541) rfl rfl ?_
        refine own_ifN X146 hx 546 (hb hby at_543) rfl ((if0 _ _).trans (teq (hlm0 : lm = (0 : Int32))).2) ?_
        have j3 : ∀ ex : Int32, ((ex = 0 ∧ ([115, 104, 97, 45, 50, 53, 54] : List Int32) = ([c0, c1, c2, c3, c4, c5, c6] : List Int32)) ∨ (ex = 1 ∧ ([115, 104, 97, 45, 51, 56, 52] : List Int32) = ([c0, c1, c2, c3, c4, c5, c6] : List Int32)) ∨ (ex = 2 ∧ ([115, 104, 97, 45, 53, 49, 50] : List Int32) = ([c0, c1, c2, c3, c4, c5, c6] : List Int32)) ∨ (ex = -1 ∧ ¬ ([115, 104, 97, 45, 50, 53, 54] : List Int32) = ([c0, c1, c2, c3, c4, c5, c6] : List Int32) ∧ ¬ ([115, 104, 97, 45, 51, 56, 52] : List Int32) = ([c0, c1, c2, c3, c4, c5, c6] : List Int32) ∧ ¬ ([115, 104, 97, 45, 53, 49, 50] : List Int32) = ([c0, c1, c2, c3, c4, c5, c6] : List Int32))) → own_Rn p e below (fun o U' => ∃ v L, o = .returned v ∧ Q_rm0 Z i0 i1 i2 i3 i4 G1 va kv t0 t1 t2 x0 y0 kz0 x1 y1 kz1 x2 y2 kz2 oe h0 n0 v U'.heap L ∧ CHr Z consts_1 s.vm s.heap U'.vm U'.heap ∧ ReturnedEndW s o U' L 32 1216) (T146.setTop (mkF m 681 #[.val (.int i0), .val (.int i1), .val (.int i2), .val (.int i3), .val (.int i4), .val (.int bs), .val (.int lm), .val (.int un), .val (.ref ca), .val (.int pv), .val (.ref b10), .val (.ref b39), .val (.ref b78), .val (.ref b122), .val (.int ex), .unset, .unset, .unset] [])) := by
          intro ex hex
          show own_Rn p e below _ (T146.setTop (mkF m 681 #[.val (.int i0), .val (.int i1), .val (.int i2), .val (.int i3), .val (.int i4), .val (.int bs), .val (.int lm), .val (.int un), .val (.ref ca), .val (.int pv), .val (.ref b10), .val (.ref b39), .val (.ref b78), .val (.ref b122), .val (.int ex), .unset, .unset, .unset] []))
          refine own_al X146 hx 683 (hb hby at_681) rfl rfl rfl ?_
          have le152 : hj.size ≤ T146.heap.size := Nat.le_trans le145 sz148
          have Zn151 : n0 ≤ T146.heap.size := (Nat.le_trans Z0 (Nat.le_trans szj le152))
          have F153 : Old Z n0 T146.heap := (F144.keep Kq146 (allS gn122 all0))
          refine own_cS X146 hx hZ (y := (⟨"com/example/cartiglio/cartiglio/core/HashAlgorithm", "byIanaName", "(Ljava/lang/String;)Ljava/util/Optional;"⟩ : MethodName)) hown (hw _ (own_mi 31 rfl)) (hw _ (own_mi 32 rfl)) (hw _ (own_mi 33 rfl)) (hw _ (own_mi 34 rfl)) (by decide) (rmFind l Z a0 hw [] (va) (kv) (t0) (t1) (t2) (x0) (y0) (kz0) (x1) (y1) (kz1) (x2) (y2) (kz2) (oe) (b122) (t135) (kb135) (([c0, c1, c2, c3, c4, c5, c6] : List Int32)) (G1) T146.heap n0 Zn151 (OV) EV AV (OE) ZE ZF ZT0 ZN0 ZX00 ZX01 ZX02 ZX03 ZT1 ZN1 ZX10 ZX11 ZX12 ZX13 ZT2 ZN2 ZX20 ZX21 ZX22 ZX23 Ex146 Va146 Co146 Ab146 (hp135) (Nat.le_of_ble_eq_true rfl) (O2) (P5) F153) rfl [(.ref b122)] [] rfl (by rw [hml]; rfl) (lenOf own_pd_28Ljava2flang2fString3b29Ljava2futil2fOptional3b rfl) rfl 0 (Nat.le_of_eq rfl) (by decide) (by decide) (by decide : 6 + 2 ≤ _) (by decide : 40 + 4 ≤ _) 686 (hb hby at_683) rfl 8 44 rfl rfl ?_
          intro rv151 T151 Lc151 X151 hQ151
          obtain ⟨oo, rfl, Nq151, Kq151, G0_151, G1_151⟩ := hQ151
          have N151 := Fr.app N146 Nq151
          have sz154 : T146.heap.size ≤ T151.heap.size := Kq151.1
          have cr154 : CHr Z consts_1 s.vm T146.heap s.vm T151.heap := CHr.keep Kq151 sf0 CR148.1
          have CR154 := CR148.trans cr154
          have lt155 : @LT.lt Nat _ oo T151.heap.size := G0_151.lt
          show own_Rn p e below _ (T151.setTop (mkF m 686 #[.val (.int i0), .val (.int i1), .val (.int i2), .val (.int i3), .val (.int i4), .val (.int bs), .val (.int lm), .val (.int un), .val (.ref ca), .val (.int pv), .val (.ref b10), .val (.ref b39), .val (.ref b78), .val (.ref b122), .val (.int ex), .unset, .unset, .unset] [(.ref oo)]))
          rcases hex with ⟨rfl, hd⟩ | ⟨rfl, hd⟩ | ⟨rfl, hd⟩ | ⟨rfl, hd0, hd1, hd2⟩
          · skip
            show own_Rn p e below _ (T151.setTop (mkF m 686 #[.val (.int i0), .val (.int i1), .val (.int i2), .val (.int i3), .val (.int i4), .val (.int bs), .val (.int lm), .val (.int un), .val (.ref ca), .val (.int pv), .val (.ref b10), .val (.ref b39), .val (.ref b78), .val (.ref b122), .val (.int (0 : Int32)), .unset, .unset, .unset] [(.ref oo)]))
            have Fo156 : Fld Z T151.heap oo "java/util/Optional" "value" "Ljava/lang/Object;" (.ref t0) := by have h := G1_151; rwa [show own_fv ([c0, c1, c2, c3, c4, c5, c6] : List Int32) t0 t1 t2 = (.ref t0) by rw [own_fv, if_pos hd]] at h
            refine own_as X151 hx #[.val (.int i0), .val (.int i1), .val (.int i2), .val (.int i3), .val (.int i4), .val (.int bs), .val (.int lm), .val (.int un), .val (.ref ca), .val (.int pv), .val (.ref b10), .val (.ref b39), .val (.ref b78), .val (.ref b122), .val (.int (0 : Int32)), .val (.ref oo), .unset, .unset] 688 (hb hby at_686) rfl rfl rfl ?_
            refine own_il X151 hx 690 (hb hby at_688) rfl rfl ?_
            refine own_ifY X151 hx 707 (hb hby at_690) ((if0 _ _).trans (flt (by decide : ¬ ((0 : Int32) < (0 : Int32)))).2.1) (by decide) (by decide) ?_
            refine own_al X151 hx 709 (hb hby at_707) rfl rfl rfl ?_
            have le158 : hj.size ≤ T151.heap.size := Nat.le_trans le152 sz154
            have Zn157 : n0 ≤ T151.heap.size := (Nat.le_trans Z0 (Nat.le_trans szj le158))
            refine own_cV X151 hx hZ (y := (⟨"java/util/Optional", "isPresent", "()Z"⟩ : MethodName)) (z := (⟨"java/util/Optional", "isPresent", "()Z"⟩ : MethodName)) hown (hw _ (own_mi 70 rfl)) (hw _ (own_mi 71 rfl)) (notFace_of_selects (args := #[]) (mvT hZ (hw _ (own_mi 73 rfl)))) (hw _ (own_mi 73 rfl)) (hw _ (own_mi 72 rfl)) (hw _ (own_mi 74 rfl)) (hw _ (own_mi 67 rfl)) (by decide) (rmIsV l Z a0 hw [] (oo) (t0) T151.heap n0 Zn157 Fo156) G0_151 rfl [] [] rfl (by rw [hml]; rfl) (lenOf own_pd_2829Z rfl) rfl 0 (Nat.le_of_eq rfl) (by decide) (by decide) (by decide : 8 + 0 ≤ _) (by decide : 44 + 0 ≤ _) 712 (hb hby at_709) rfl 8 44 rfl rfl ?_
            intro rv157 T157 Lc157 X157 hQ157
            obtain ⟨rfl, Nq157, eh157⟩ := hQ157
            have N157 := Fr.app N151 Nq157
            show own_Rn p e below _ (T157.setTop (mkF m 712 #[.val (.int i0), .val (.int i1), .val (.int i2), .val (.int i3), .val (.int i4), .val (.int bs), .val (.int lm), .val (.int un), .val (.ref ca), .val (.int pv), .val (.ref b10), .val (.ref b39), .val (.ref b78), .val (.ref b122), .val (.int (0 : Int32)), .val (.ref oo), .unset, .unset] [(.int (1 : Int32))]))
            refine own_ifY X157 hx 717 (hb hby at_712) ((if0 _ _).trans (feq ((by decide : ¬ ((1 : Int32) = (0 : Int32))) : ¬ ((1 : Int32) = (0 : Int32)))).2) (by decide) (by decide) ?_
            refine own_al X157 hx 719 (hb hby at_717) rfl rfl rfl ?_
            have Zn159 : n0 ≤ T151.heap.size := (Nat.le_trans Z0 (Nat.le_trans szj le158))
            refine own_cV X157 hx hZ (y := (⟨"java/util/Optional", "get", "()Ljava/lang/Object;"⟩ : MethodName)) (z := (⟨"java/util/Optional", "get", "()Ljava/lang/Object;"⟩ : MethodName)) hown (hw _ (own_mi 94 rfl)) (hw _ (own_mi 95 rfl)) (notFace_of_selects (args := #[]) (mvT hZ (hw _ (own_mi 97 rfl)))) (hw _ (own_mi 97 rfl)) (hw _ (own_mi 96 rfl)) (hw _ (own_mi 98 rfl)) (hw _ (own_mi 67 rfl)) (by decide) (rmGet l Z a0 hw [] (oo) (t0) T151.heap n0 Zn159 Fo156) G0_151 eh157 [] [] rfl (by rw [hml]; rfl) (lenOf own_pd_2829Ljava2flang2fObject3b rfl) rfl 0 (Nat.le_of_eq rfl) (by decide) (by decide) (by decide : 8 + 0 ≤ _) (by decide : 44 + 0 ≤ _) 722 (hb hby at_719) rfl 8 44 rfl rfl ?_
            intro rv159 T159 Lc159 X159 hQ159
            obtain ⟨rfl, Nq159, eh159⟩ := hQ159
            have N159 := Fr.app N157 Nq159
            show own_Rn p e below _ (T159.setTop (mkF m 722 #[.val (.int i0), .val (.int i1), .val (.int i2), .val (.int i3), .val (.int i4), .val (.int bs), .val (.int lm), .val (.int un), .val (.ref ca), .val (.int pv), .val (.ref b10), .val (.ref b39), .val (.ref b78), .val (.ref b122), .val (.int (0 : Int32)), .val (.ref oo), .unset, .unset] [(.ref t0)]))
            have F162 : Old Z n0 T151.heap := (F153.keep Kq151 all0)
            have F161 : Exa Z T151.heap t0 "com/example/cartiglio/cartiglio/core/HashAlgorithm" := ZT0.ext F162.2
            obtain ⟨T160, X160, e160, st160⟩ := castY X159 hx hZ hown (hw _ (own_mi 99 rfl)) eh159 (Ins.self F161) (g := (mkF m 722 #[.val (.int i0), .val (.int i1), .val (.int i2), .val (.int i3), .val (.int i4), .val (.int bs), .val (.int lm), .val (.int un), .val (.ref ca), .val (.int pv), .val (.ref b10), .val (.ref b39), .val (.ref b78), .val (.ref b122), .val (.int (0 : Int32)), .val (.ref oo), .unset, .unset] [(.ref t0)])) rfl rfl (hb hby at_722)
            refine own_go st160 ?_
            show own_Rn p e below _ (T160.setTop (mkF m 725 #[.val (.int i0), .val (.int i1), .val (.int i2), .val (.int i3), .val (.int i4), .val (.int bs), .val (.int lm), .val (.int un), .val (.ref ca), .val (.int pv), .val (.ref b10), .val (.ref b39), .val (.ref b78), .val (.ref b122), .val (.int (0 : Int32)), .val (.ref oo), .unset, .unset] [(.ref t0)]))
            refine own_as X160 hx #[.val (.int i0), .val (.int i1), .val (.int i2), .val (.int i3), .val (.int i4), .val (.int bs), .val (.int lm), .val (.int un), .val (.ref ca), .val (.int pv), .val (.ref b10), .val (.ref b39), .val (.ref b78), .val (.ref b122), .val (.int (0 : Int32)), .val (.ref oo), .val (.ref t0), .unset] 727 (hb hby at_725) rfl rfl rfl ?_
            refine own_il X160 hx 729 (hb hby at_727) rfl rfl ?_
            refine own_ifN X160 hx 732 (hb hby at_729) rfl ((if0 _ _).trans (teq ((by decide : (0 : Int32) = (0 : Int32)) : (0 : Int32) = (0 : Int32))).2) ?_
            refine own_gS X160 hx hZ hown (host := "") (Or.inl (hw _ (own_mi 108 rfl))) Via.refl e160 (OT0.ext F162.2) 735 (hb hby at_732) rfl ?_
            intro T163 X163 e163
            refine own_gt X163 hx 753 (hb hby at_735) (by decide) (by decide) ?_
            refine own_as X163 hx #[.val (.int i0), .val (.int i1), .val (.int i2), .val (.int i3), .val (.int i4), .val (.int bs), .val (.int lm), .val (.int un), .val (.ref ca), .val (.int pv), .val (.ref b10), .val (.ref b39), .val (.ref b78), .val (.ref b122), .val (.int (0 : Int32)), .val (.ref oo), .val (.ref t0), .val (.ref t0)] 755 (hb hby at_753) rfl rfl rfl ?_
            refine own_al X163 hx 757 (hb hby at_755) rfl rfl rfl ?_
            refine own_al X163 hx 759 (hb hby at_757) rfl rfl rfl ?_
            refine own_go (fun tq kq => Jvm.RoadKit.acmp (g := (mkF m 759 #[.val (.int i0), .val (.int i1), .val (.int i2), .val (.int i3), .val (.int i4), .val (.int bs), .val (.int lm), .val (.int un), .val (.ref ca), .val (.int pv), .val (.ref b10), .val (.ref b39), .val (.ref b78), .val (.ref b122), .val (.int (0 : Int32)), .val (.ref oo), .val (.ref t0), .val (.ref t0)] [(.ref t0), (.ref t0)])) X163 hx rfl rfl rfl (pc0 := 759) (pc' := 762) (same := true) rfl (hb hby at_759) rfl (decide_eq_true rfl) (by decide) (by decide) kq) ?_
            show own_Rn p e below _ (T163.setTop (mkF m 762 #[.val (.int i0), .val (.int i1), .val (.int i2), .val (.int i3), .val (.int i4), .val (.int bs), .val (.int lm), .val (.int un), .val (.ref ca), .val (.int pv), .val (.ref b10), .val (.ref b39), .val (.ref b78), .val (.ref b122), .val (.int (0 : Int32)), .val (.ref oo), .val (.ref t0), .val (.ref t0)] []))
            refine own_al X163 hx 764 (hb hby at_762) rfl rfl rfl ?_
            have Zn164 : n0 ≤ T151.heap.size := (Nat.le_trans Z0 (Nat.le_trans szj le158))
            have F165 : Fld Z T151.heap t0 "com/example/cartiglio/cartiglio/core/HashAlgorithm" "ianaName" "Ljava/lang/String;" (.ref x0) := ZN0.ext F162.2
            refine own_cV X163 hx hZ (y := (⟨"com/example/cartiglio/cartiglio/core/HashAlgorithm", "ianaName", "()Ljava/lang/String;"⟩ : MethodName)) (z := (⟨"com/example/cartiglio/cartiglio/core/HashAlgorithm", "ianaName", "()Ljava/lang/String;"⟩ : MethodName)) hown (hw _ (own_mi 102 rfl)) (hw _ (own_mi 103 rfl)) (notFace_of_selects (args := #[]) (mvT hZ (hw _ (own_mi 105 rfl)))) (hw _ (own_mi 105 rfl)) (hw _ (own_mi 104 rfl)) (hw _ (own_mi 106 rfl)) (hw _ (own_mi 33 rfl)) (by decide) (rmGI l Z a0 hw [] (t0) (x0) T151.heap n0 Zn164 F165) F161 e163 [] [] rfl (by rw [hml]; rfl) (lenOf own_pd_2829Ljava2flang2fString3b rfl) rfl 0 (Nat.le_of_eq rfl) (by decide) (by decide) (by decide : 8 + 0 ≤ _) (by decide : 44 + 0 ≤ _) 767 (hb hby at_764) rfl 8 44 rfl rfl ?_
            intro rv164 T164 Lc164 X164 hQ164
            obtain ⟨rfl, Nq164, eh164⟩ := hQ164
            have N164 := Fr.app N159 Nq164
            show own_Rn p e below _ (T164.setTop (mkF m 767 #[.val (.int i0), .val (.int i1), .val (.int i2), .val (.int i3), .val (.int i4), .val (.int bs), .val (.int lm), .val (.int un), .val (.ref ca), .val (.int pv), .val (.ref b10), .val (.ref b39), .val (.ref b78), .val (.ref b122), .val (.int (0 : Int32)), .val (.ref oo), .val (.ref t0), .val (.ref t0)] [(.ref x0)]))
            refine own_al X164 hx 769 (hb hby at_767) rfl rfl rfl ?_
            have F166 : Exa Z T151.heap x0 "java/lang/String" := ZX00.ext F162.2
            have F167 : Fld Z T151.heap x0 "java/lang/String" "value" "[B" (.ref y0) := ZX01.ext F162.2
            have F168 : Fld Z T151.heap x0 "java/lang/String" "coder" "B" (.int (0 : Int32)) := ZX02.ext F162.2
            have F169 : Arv Z T151.heap y0 kz0 .byte (Int32.ofNat ([115, 104, 97, 45, 50, 53, 54] : List Int32).length) (own_bs ([115, 104, 97, 45, 50, 53, 54] : List Int32)) (.int 0) := ZX03.ext F162.2
            have F170 : Exa Z T151.heap b122 "java/lang/String" := (Ex146.keep Kq151)
            have F171 : Fld Z T151.heap b122 "java/lang/String" "value" "[B" (.ref t135) := (Va146.keep Kq151 nin0)
            have F172 : Fld Z T151.heap b122 "java/lang/String" "coder" "B" (.int (0 : Int32)) := (Co146.keep Kq151 nin0)
            have F173 : Arv Z T151.heap t135 kb135 .byte (7 : Int32) ((([c0, c1, c2, c3, c4, c5, c6] : List Int32).map (fun c => c.toInt8.toInt32)).map Value.int) (.int 0) := (Ab146.keep Kq151 nin0)
            refine own_pEq X164 hx hZ hown (hw _ (own_mi 107 rfl)) (hw _ (own_mi 56 rfl)) (notFace_of_selects (args := #[]) (mvT hZ (hw _ (own_mi 58 rfl)))) (hw _ (own_mi 58 rfl)) (hw _ (own_mi 57 rfl)) (lenOf own_pd_28Ljava2flang2fObject3b29Z rfl) heq (kI := 4) (hw _ (own_mi 3 rfl)) F166 F167 F168 F169 (cs := ([115, 104, 97, 45, 50, 53, 54] : List Int32)) (StrChars.Road.codOf rfl (fun c hc => (hp6 c hc).2)) (fun c hc => own_up c (hp6 c hc)) (by decide) F170 F171 F172 F173 (ds := ([c0, c1, c2, c3, c4, c5, c6] : List Int32)) (StrChars.Road.codOf rfl (fun c hc => (hp135 c hc).2)) (fun c hc => own_up c (hp135 c hc)) (Nat.le_of_ble_eq_true rfl) (O2.ext F162.2) P5 (by decide) 0 (by decide) eh164 [] (by rw [hml]; rfl) rfl (Nat.le_of_eq rfl) (by decide : 8 + 0 ≤ _) (by decide : 44 + 0 ≤ _) 772 (hb hby at_769) rfl ?_
            intro rv174 T174 X174 eh174 hv174
            obtain ⟨ev174, rfl, hev174⟩ : ∃ z : Int32, rv174 = some (.int z) ∧ ((z = 1 ∧ ([115, 104, 97, 45, 50, 53, 54] : List Int32) = ([c0, c1, c2, c3, c4, c5, c6] : List Int32)) ∨ (z = 0 ∧ ¬ ([115, 104, 97, 45, 50, 53, 54] : List Int32) = ([c0, c1, c2, c3, c4, c5, c6] : List Int32))) := by
              rcases hv174 with ⟨h, h2⟩ | ⟨h, h2⟩
              · exact ⟨1, h, Or.inl ⟨rfl, h2⟩⟩
              · exact ⟨0, h, Or.inr ⟨rfl, h2⟩⟩
            show own_Rn p e below _ (T174.setTop (mkF m 772 #[.val (.int i0), .val (.int i1), .val (.int i2), .val (.int i3), .val (.int i4), .val (.int bs), .val (.int lm), .val (.int un), .val (.ref ca), .val (.int pv), .val (.ref b10), .val (.ref b39), .val (.ref b78), .val (.ref b122), .val (.int (0 : Int32)), .val (.ref oo), .val (.ref t0), .val (.ref t0)] [(.int ev174)]))
            have ee174 : ev174 = 1 := by rcases hev174 with g | g; exact g.1; exact absurd hd g.2
            subst ee174
            show own_Rn p e below _ (T174.setTop (mkF m 772 #[.val (.int i0), .val (.int i1), .val (.int i2), .val (.int i3), .val (.int i4), .val (.int bs), .val (.int lm), .val (.int un), .val (.ref ca), .val (.int pv), .val (.ref b10), .val (.ref b39), .val (.ref b78), .val (.ref b122), .val (.int (0 : Int32)), .val (.ref oo), .val (.ref t0), .val (.ref t0)] [(.int (1 : Int32))]))
            refine own_ifN X174 hx 775 (hb hby at_772) rfl ((if0 _ _).trans (feq ((by decide : ¬ ((1 : Int32) = (0 : Int32))) : ¬ ((1 : Int32) = (0 : Int32)))).1) ?_
            refine own_ic X174 hx (1 : Int32) 776 (hb hby at_775) rfl rfl ?_
            refine own_gt X174 hx 780 (hb hby at_776) (by decide) (by decide) ?_
            exact own_retS X174 hS0 (by rw [eh174]; exact (Nat.le_trans szj le158)) (v := some (.int (nar .boolean (1 : Int32)))) (fun h => by rw [Bd.returns] at h; cases h) (fun fs hr => retN X174 hx (t := .boolean) Bd.returns (by simp) (hb hby at_780) hr) (by rw [eh174]; exact ⟨rfl, N164⟩) (by rw [hh, eh174]; exact CR154.trans (CHv.at X174 hZ hEL CR154.1)) (by decide) (by decide)
          · skip
            show own_Rn p e below _ (T151.setTop (mkF m 686 #[.val (.int i0), .val (.int i1), .val (.int i2), .val (.int i3), .val (.int i4), .val (.int bs), .val (.int lm), .val (.int un), .val (.ref ca), .val (.int pv), .val (.ref b10), .val (.ref b39), .val (.ref b78), .val (.ref b122), .val (.int (1 : Int32)), .unset, .unset, .unset] [(.ref oo)]))
            have Fo175 : Fld Z T151.heap oo "java/util/Optional" "value" "Ljava/lang/Object;" (.ref t1) := by have h := G1_151; rwa [show own_fv ([c0, c1, c2, c3, c4, c5, c6] : List Int32) t0 t1 t2 = (.ref t1) by rw [own_fv, if_neg (fun h => absurd (h.trans hd.symm) (by decide)), if_pos hd]] at h
            refine own_as X151 hx #[.val (.int i0), .val (.int i1), .val (.int i2), .val (.int i3), .val (.int i4), .val (.int bs), .val (.int lm), .val (.int un), .val (.ref ca), .val (.int pv), .val (.ref b10), .val (.ref b39), .val (.ref b78), .val (.ref b122), .val (.int (1 : Int32)), .val (.ref oo), .unset, .unset] 688 (hb hby at_686) rfl rfl rfl ?_
            refine own_il X151 hx 690 (hb hby at_688) rfl rfl ?_
            refine own_ifY X151 hx 707 (hb hby at_690) ((if0 _ _).trans (flt (by decide : ¬ ((1 : Int32) < (0 : Int32)))).2.1) (by decide) (by decide) ?_
            refine own_al X151 hx 709 (hb hby at_707) rfl rfl rfl ?_
            have le177 : hj.size ≤ T151.heap.size := Nat.le_trans le152 sz154
            have Zn176 : n0 ≤ T151.heap.size := (Nat.le_trans Z0 (Nat.le_trans szj le177))
            refine own_cV X151 hx hZ (y := (⟨"java/util/Optional", "isPresent", "()Z"⟩ : MethodName)) (z := (⟨"java/util/Optional", "isPresent", "()Z"⟩ : MethodName)) hown (hw _ (own_mi 70 rfl)) (hw _ (own_mi 71 rfl)) (notFace_of_selects (args := #[]) (mvT hZ (hw _ (own_mi 73 rfl)))) (hw _ (own_mi 73 rfl)) (hw _ (own_mi 72 rfl)) (hw _ (own_mi 74 rfl)) (hw _ (own_mi 67 rfl)) (by decide) (rmIsV l Z a0 hw [] (oo) (t1) T151.heap n0 Zn176 Fo175) G0_151 rfl [] [] rfl (by rw [hml]; rfl) (lenOf own_pd_2829Z rfl) rfl 0 (Nat.le_of_eq rfl) (by decide) (by decide) (by decide : 8 + 0 ≤ _) (by decide : 44 + 0 ≤ _) 712 (hb hby at_709) rfl 8 44 rfl rfl ?_
            intro rv176 T176 Lc176 X176 hQ176
            obtain ⟨rfl, Nq176, eh176⟩ := hQ176
            have N176 := Fr.app N151 Nq176
            show own_Rn p e below _ (T176.setTop (mkF m 712 #[.val (.int i0), .val (.int i1), .val (.int i2), .val (.int i3), .val (.int i4), .val (.int bs), .val (.int lm), .val (.int un), .val (.ref ca), .val (.int pv), .val (.ref b10), .val (.ref b39), .val (.ref b78), .val (.ref b122), .val (.int (1 : Int32)), .val (.ref oo), .unset, .unset] [(.int (1 : Int32))]))
            refine own_ifY X176 hx 717 (hb hby at_712) ((if0 _ _).trans (feq ((by decide : ¬ ((1 : Int32) = (0 : Int32))) : ¬ ((1 : Int32) = (0 : Int32)))).2) (by decide) (by decide) ?_
            refine own_al X176 hx 719 (hb hby at_717) rfl rfl rfl ?_
            have Zn178 : n0 ≤ T151.heap.size := (Nat.le_trans Z0 (Nat.le_trans szj le177))
            refine own_cV X176 hx hZ (y := (⟨"java/util/Optional", "get", "()Ljava/lang/Object;"⟩ : MethodName)) (z := (⟨"java/util/Optional", "get", "()Ljava/lang/Object;"⟩ : MethodName)) hown (hw _ (own_mi 94 rfl)) (hw _ (own_mi 95 rfl)) (notFace_of_selects (args := #[]) (mvT hZ (hw _ (own_mi 97 rfl)))) (hw _ (own_mi 97 rfl)) (hw _ (own_mi 96 rfl)) (hw _ (own_mi 98 rfl)) (hw _ (own_mi 67 rfl)) (by decide) (rmGet l Z a0 hw [] (oo) (t1) T151.heap n0 Zn178 Fo175) G0_151 eh176 [] [] rfl (by rw [hml]; rfl) (lenOf own_pd_2829Ljava2flang2fObject3b rfl) rfl 0 (Nat.le_of_eq rfl) (by decide) (by decide) (by decide : 8 + 0 ≤ _) (by decide : 44 + 0 ≤ _) 722 (hb hby at_719) rfl 8 44 rfl rfl ?_
            intro rv178 T178 Lc178 X178 hQ178
            obtain ⟨rfl, Nq178, eh178⟩ := hQ178
            have N178 := Fr.app N176 Nq178
            show own_Rn p e below _ (T178.setTop (mkF m 722 #[.val (.int i0), .val (.int i1), .val (.int i2), .val (.int i3), .val (.int i4), .val (.int bs), .val (.int lm), .val (.int un), .val (.ref ca), .val (.int pv), .val (.ref b10), .val (.ref b39), .val (.ref b78), .val (.ref b122), .val (.int (1 : Int32)), .val (.ref oo), .unset, .unset] [(.ref t1)]))
            have F181 : Old Z n0 T151.heap := (F153.keep Kq151 all0)
            have F180 : Exa Z T151.heap t1 "com/example/cartiglio/cartiglio/core/HashAlgorithm" := ZT1.ext F181.2
            obtain ⟨T179, X179, e179, st179⟩ := castY X178 hx hZ hown (hw _ (own_mi 99 rfl)) eh178 (Ins.self F180) (g := (mkF m 722 #[.val (.int i0), .val (.int i1), .val (.int i2), .val (.int i3), .val (.int i4), .val (.int bs), .val (.int lm), .val (.int un), .val (.ref ca), .val (.int pv), .val (.ref b10), .val (.ref b39), .val (.ref b78), .val (.ref b122), .val (.int (1 : Int32)), .val (.ref oo), .unset, .unset] [(.ref t1)])) rfl rfl (hb hby at_722)
            refine own_go st179 ?_
            show own_Rn p e below _ (T179.setTop (mkF m 725 #[.val (.int i0), .val (.int i1), .val (.int i2), .val (.int i3), .val (.int i4), .val (.int bs), .val (.int lm), .val (.int un), .val (.ref ca), .val (.int pv), .val (.ref b10), .val (.ref b39), .val (.ref b78), .val (.ref b122), .val (.int (1 : Int32)), .val (.ref oo), .unset, .unset] [(.ref t1)]))
            refine own_as X179 hx #[.val (.int i0), .val (.int i1), .val (.int i2), .val (.int i3), .val (.int i4), .val (.int bs), .val (.int lm), .val (.int un), .val (.ref ca), .val (.int pv), .val (.ref b10), .val (.ref b39), .val (.ref b78), .val (.ref b122), .val (.int (1 : Int32)), .val (.ref oo), .val (.ref t1), .unset] 727 (hb hby at_725) rfl rfl rfl ?_
            refine own_il X179 hx 729 (hb hby at_727) rfl rfl ?_
            refine own_ifY X179 hx 738 (hb hby at_729) ((if0 _ _).trans (feq (by decide : ¬ ((1 : Int32) = (0 : Int32)))).2) (by decide) (by decide) ?_
            refine own_il X179 hx 740 (hb hby at_738) rfl rfl ?_
            refine own_ic X179 hx (1 : Int32) 741 (hb hby at_740) rfl rfl ?_
            refine own_icN X179 hx 744 (hb hby at_741) rfl (teq (by decide : (1 : Int32) = (1 : Int32))).2 ?_
            refine own_gS X179 hx hZ hown (host := "") (Or.inl (hw _ (own_mi 109 rfl))) Via.refl e179 (OT1.ext F181.2) 747 (hb hby at_744) rfl ?_
            intro T182 X182 e182
            refine own_gt X182 hx 753 (hb hby at_747) (by decide) (by decide) ?_
            refine own_as X182 hx #[.val (.int i0), .val (.int i1), .val (.int i2), .val (.int i3), .val (.int i4), .val (.int bs), .val (.int lm), .val (.int un), .val (.ref ca), .val (.int pv), .val (.ref b10), .val (.ref b39), .val (.ref b78), .val (.ref b122), .val (.int (1 : Int32)), .val (.ref oo), .val (.ref t1), .val (.ref t1)] 755 (hb hby at_753) rfl rfl rfl ?_
            refine own_al X182 hx 757 (hb hby at_755) rfl rfl rfl ?_
            refine own_al X182 hx 759 (hb hby at_757) rfl rfl rfl ?_
            refine own_go (fun tq kq => Jvm.RoadKit.acmp (g := (mkF m 759 #[.val (.int i0), .val (.int i1), .val (.int i2), .val (.int i3), .val (.int i4), .val (.int bs), .val (.int lm), .val (.int un), .val (.ref ca), .val (.int pv), .val (.ref b10), .val (.ref b39), .val (.ref b78), .val (.ref b122), .val (.int (1 : Int32)), .val (.ref oo), .val (.ref t1), .val (.ref t1)] [(.ref t1), (.ref t1)])) X182 hx rfl rfl rfl (pc0 := 759) (pc' := 762) (same := true) rfl (hb hby at_759) rfl (decide_eq_true rfl) (by decide) (by decide) kq) ?_
            show own_Rn p e below _ (T182.setTop (mkF m 762 #[.val (.int i0), .val (.int i1), .val (.int i2), .val (.int i3), .val (.int i4), .val (.int bs), .val (.int lm), .val (.int un), .val (.ref ca), .val (.int pv), .val (.ref b10), .val (.ref b39), .val (.ref b78), .val (.ref b122), .val (.int (1 : Int32)), .val (.ref oo), .val (.ref t1), .val (.ref t1)] []))
            refine own_al X182 hx 764 (hb hby at_762) rfl rfl rfl ?_
            have Zn183 : n0 ≤ T151.heap.size := (Nat.le_trans Z0 (Nat.le_trans szj le177))
            have F184 : Fld Z T151.heap t1 "com/example/cartiglio/cartiglio/core/HashAlgorithm" "ianaName" "Ljava/lang/String;" (.ref x1) := ZN1.ext F181.2
            refine own_cV X182 hx hZ (y := (⟨"com/example/cartiglio/cartiglio/core/HashAlgorithm", "ianaName", "()Ljava/lang/String;"⟩ : MethodName)) (z := (⟨"com/example/cartiglio/cartiglio/core/HashAlgorithm", "ianaName", "()Ljava/lang/String;"⟩ : MethodName)) hown (hw _ (own_mi 102 rfl)) (hw _ (own_mi 103 rfl)) (notFace_of_selects (args := #[]) (mvT hZ (hw _ (own_mi 105 rfl)))) (hw _ (own_mi 105 rfl)) (hw _ (own_mi 104 rfl)) (hw _ (own_mi 106 rfl)) (hw _ (own_mi 33 rfl)) (by decide) (rmGI l Z a0 hw [] (t1) (x1) T151.heap n0 Zn183 F184) F180 e182 [] [] rfl (by rw [hml]; rfl) (lenOf own_pd_2829Ljava2flang2fString3b rfl) rfl 0 (Nat.le_of_eq rfl) (by decide) (by decide) (by decide : 8 + 0 ≤ _) (by decide : 44 + 0 ≤ _) 767 (hb hby at_764) rfl 8 44 rfl rfl ?_
            intro rv183 T183 Lc183 X183 hQ183
            obtain ⟨rfl, Nq183, eh183⟩ := hQ183
            have N183 := Fr.app N178 Nq183
            show own_Rn p e below _ (T183.setTop (mkF m 767 #[.val (.int i0), .val (.int i1), .val (.int i2), .val (.int i3), .val (.int i4), .val (.int bs), .val (.int lm), .val (.int un), .val (.ref ca), .val (.int pv), .val (.ref b10), .val (.ref b39), .val (.ref b78), .val (.ref b122), .val (.int (1 : Int32)), .val (.ref oo), .val (.ref t1), .val (.ref t1)] [(.ref x1)]))
            refine own_al X183 hx 769 (hb hby at_767) rfl rfl rfl ?_
            have F185 : Exa Z T151.heap x1 "java/lang/String" := ZX10.ext F181.2
            have F186 : Fld Z T151.heap x1 "java/lang/String" "value" "[B" (.ref y1) := ZX11.ext F181.2
            have F187 : Fld Z T151.heap x1 "java/lang/String" "coder" "B" (.int (0 : Int32)) := ZX12.ext F181.2
            have F188 : Arv Z T151.heap y1 kz1 .byte (Int32.ofNat ([115, 104, 97, 45, 51, 56, 52] : List Int32).length) (own_bs ([115, 104, 97, 45, 51, 56, 52] : List Int32)) (.int 0) := ZX13.ext F181.2
            have F189 : Exa Z T151.heap b122 "java/lang/String" := (Ex146.keep Kq151)
            have F190 : Fld Z T151.heap b122 "java/lang/String" "value" "[B" (.ref t135) := (Va146.keep Kq151 nin0)
            have F191 : Fld Z T151.heap b122 "java/lang/String" "coder" "B" (.int (0 : Int32)) := (Co146.keep Kq151 nin0)
            have F192 : Arv Z T151.heap t135 kb135 .byte (7 : Int32) ((([c0, c1, c2, c3, c4, c5, c6] : List Int32).map (fun c => c.toInt8.toInt32)).map Value.int) (.int 0) := (Ab146.keep Kq151 nin0)
            refine own_pEq X183 hx hZ hown (hw _ (own_mi 107 rfl)) (hw _ (own_mi 56 rfl)) (notFace_of_selects (args := #[]) (mvT hZ (hw _ (own_mi 58 rfl)))) (hw _ (own_mi 58 rfl)) (hw _ (own_mi 57 rfl)) (lenOf own_pd_28Ljava2flang2fObject3b29Z rfl) heq (kI := 4) (hw _ (own_mi 3 rfl)) F185 F186 F187 F188 (cs := ([115, 104, 97, 45, 51, 56, 52] : List Int32)) (StrChars.Road.codOf rfl (fun c hc => (hp7 c hc).2)) (fun c hc => own_up c (hp7 c hc)) (by decide) F189 F190 F191 F192 (ds := ([c0, c1, c2, c3, c4, c5, c6] : List Int32)) (StrChars.Road.codOf rfl (fun c hc => (hp135 c hc).2)) (fun c hc => own_up c (hp135 c hc)) (Nat.le_of_ble_eq_true rfl) (O2.ext F181.2) P5 (by decide) 0 (by decide) eh183 [] (by rw [hml]; rfl) rfl (Nat.le_of_eq rfl) (by decide : 8 + 0 ≤ _) (by decide : 44 + 0 ≤ _) 772 (hb hby at_769) rfl ?_
            intro rv193 T193 X193 eh193 hv193
            obtain ⟨ev193, rfl, hev193⟩ : ∃ z : Int32, rv193 = some (.int z) ∧ ((z = 1 ∧ ([115, 104, 97, 45, 51, 56, 52] : List Int32) = ([c0, c1, c2, c3, c4, c5, c6] : List Int32)) ∨ (z = 0 ∧ ¬ ([115, 104, 97, 45, 51, 56, 52] : List Int32) = ([c0, c1, c2, c3, c4, c5, c6] : List Int32))) := by
              rcases hv193 with ⟨h, h2⟩ | ⟨h, h2⟩
              · exact ⟨1, h, Or.inl ⟨rfl, h2⟩⟩
              · exact ⟨0, h, Or.inr ⟨rfl, h2⟩⟩
            show own_Rn p e below _ (T193.setTop (mkF m 772 #[.val (.int i0), .val (.int i1), .val (.int i2), .val (.int i3), .val (.int i4), .val (.int bs), .val (.int lm), .val (.int un), .val (.ref ca), .val (.int pv), .val (.ref b10), .val (.ref b39), .val (.ref b78), .val (.ref b122), .val (.int (1 : Int32)), .val (.ref oo), .val (.ref t1), .val (.ref t1)] [(.int ev193)]))
            have ee193 : ev193 = 1 := by rcases hev193 with g | g; exact g.1; exact absurd hd g.2
            subst ee193
            show own_Rn p e below _ (T193.setTop (mkF m 772 #[.val (.int i0), .val (.int i1), .val (.int i2), .val (.int i3), .val (.int i4), .val (.int bs), .val (.int lm), .val (.int un), .val (.ref ca), .val (.int pv), .val (.ref b10), .val (.ref b39), .val (.ref b78), .val (.ref b122), .val (.int (1 : Int32)), .val (.ref oo), .val (.ref t1), .val (.ref t1)] [(.int (1 : Int32))]))
            refine own_ifN X193 hx 775 (hb hby at_772) rfl ((if0 _ _).trans (feq ((by decide : ¬ ((1 : Int32) = (0 : Int32))) : ¬ ((1 : Int32) = (0 : Int32)))).1) ?_
            refine own_ic X193 hx (1 : Int32) 776 (hb hby at_775) rfl rfl ?_
            refine own_gt X193 hx 780 (hb hby at_776) (by decide) (by decide) ?_
            exact own_retS X193 hS0 (by rw [eh193]; exact (Nat.le_trans szj le177)) (v := some (.int (nar .boolean (1 : Int32)))) (fun h => by rw [Bd.returns] at h; cases h) (fun fs hr => retN X193 hx (t := .boolean) Bd.returns (by simp) (hb hby at_780) hr) (by rw [eh193]; exact ⟨rfl, N183⟩) (by rw [hh, eh193]; exact CR154.trans (CHv.at X193 hZ hEL CR154.1)) (by decide) (by decide)
          · skip
            show own_Rn p e below _ (T151.setTop (mkF m 686 #[.val (.int i0), .val (.int i1), .val (.int i2), .val (.int i3), .val (.int i4), .val (.int bs), .val (.int lm), .val (.int un), .val (.ref ca), .val (.int pv), .val (.ref b10), .val (.ref b39), .val (.ref b78), .val (.ref b122), .val (.int (2 : Int32)), .unset, .unset, .unset] [(.ref oo)]))
            have Fo194 : Fld Z T151.heap oo "java/util/Optional" "value" "Ljava/lang/Object;" (.ref t2) := by have h := G1_151; rwa [show own_fv ([c0, c1, c2, c3, c4, c5, c6] : List Int32) t0 t1 t2 = (.ref t2) by rw [own_fv, if_neg (fun h => absurd (h.trans hd.symm) (by decide)), if_neg (fun h => absurd (h.trans hd.symm) (by decide)), if_pos hd]] at h
            refine own_as X151 hx #[.val (.int i0), .val (.int i1), .val (.int i2), .val (.int i3), .val (.int i4), .val (.int bs), .val (.int lm), .val (.int un), .val (.ref ca), .val (.int pv), .val (.ref b10), .val (.ref b39), .val (.ref b78), .val (.ref b122), .val (.int (2 : Int32)), .val (.ref oo), .unset, .unset] 688 (hb hby at_686) rfl rfl rfl ?_
            refine own_il X151 hx 690 (hb hby at_688) rfl rfl ?_
            refine own_ifY X151 hx 707 (hb hby at_690) ((if0 _ _).trans (flt (by decide : ¬ ((2 : Int32) < (0 : Int32)))).2.1) (by decide) (by decide) ?_
            refine own_al X151 hx 709 (hb hby at_707) rfl rfl rfl ?_
            have le196 : hj.size ≤ T151.heap.size := Nat.le_trans le152 sz154
            have Zn195 : n0 ≤ T151.heap.size := (Nat.le_trans Z0 (Nat.le_trans szj le196))
            refine own_cV X151 hx hZ (y := (⟨"java/util/Optional", "isPresent", "()Z"⟩ : MethodName)) (z := (⟨"java/util/Optional", "isPresent", "()Z"⟩ : MethodName)) hown (hw _ (own_mi 70 rfl)) (hw _ (own_mi 71 rfl)) (notFace_of_selects (args := #[]) (mvT hZ (hw _ (own_mi 73 rfl)))) (hw _ (own_mi 73 rfl)) (hw _ (own_mi 72 rfl)) (hw _ (own_mi 74 rfl)) (hw _ (own_mi 67 rfl)) (by decide) (rmIsV l Z a0 hw [] (oo) (t2) T151.heap n0 Zn195 Fo194) G0_151 rfl [] [] rfl (by rw [hml]; rfl) (lenOf own_pd_2829Z rfl) rfl 0 (Nat.le_of_eq rfl) (by decide) (by decide) (by decide : 8 + 0 ≤ _) (by decide : 44 + 0 ≤ _) 712 (hb hby at_709) rfl 8 44 rfl rfl ?_
            intro rv195 T195 Lc195 X195 hQ195
            obtain ⟨rfl, Nq195, eh195⟩ := hQ195
            have N195 := Fr.app N151 Nq195
            show own_Rn p e below _ (T195.setTop (mkF m 712 #[.val (.int i0), .val (.int i1), .val (.int i2), .val (.int i3), .val (.int i4), .val (.int bs), .val (.int lm), .val (.int un), .val (.ref ca), .val (.int pv), .val (.ref b10), .val (.ref b39), .val (.ref b78), .val (.ref b122), .val (.int (2 : Int32)), .val (.ref oo), .unset, .unset] [(.int (1 : Int32))]))
            refine own_ifY X195 hx 717 (hb hby at_712) ((if0 _ _).trans (feq ((by decide : ¬ ((1 : Int32) = (0 : Int32))) : ¬ ((1 : Int32) = (0 : Int32)))).2) (by decide) (by decide) ?_
            refine own_al X195 hx 719 (hb hby at_717) rfl rfl rfl ?_
            have Zn197 : n0 ≤ T151.heap.size := (Nat.le_trans Z0 (Nat.le_trans szj le196))
            refine own_cV X195 hx hZ (y := (⟨"java/util/Optional", "get", "()Ljava/lang/Object;"⟩ : MethodName)) (z := (⟨"java/util/Optional", "get", "()Ljava/lang/Object;"⟩ : MethodName)) hown (hw _ (own_mi 94 rfl)) (hw _ (own_mi 95 rfl)) (notFace_of_selects (args := #[]) (mvT hZ (hw _ (own_mi 97 rfl)))) (hw _ (own_mi 97 rfl)) (hw _ (own_mi 96 rfl)) (hw _ (own_mi 98 rfl)) (hw _ (own_mi 67 rfl)) (by decide) (rmGet l Z a0 hw [] (oo) (t2) T151.heap n0 Zn197 Fo194) G0_151 eh195 [] [] rfl (by rw [hml]; rfl) (lenOf own_pd_2829Ljava2flang2fObject3b rfl) rfl 0 (Nat.le_of_eq rfl) (by decide) (by decide) (by decide : 8 + 0 ≤ _) (by decide : 44 + 0 ≤ _) 722 (hb hby at_719) rfl 8 44 rfl rfl ?_
            intro rv197 T197 Lc197 X197 hQ197
            obtain ⟨rfl, Nq197, eh197⟩ := hQ197
            have N197 := Fr.app N195 Nq197
            show own_Rn p e below _ (T197.setTop (mkF m 722 #[.val (.int i0), .val (.int i1), .val (.int i2), .val (.int i3), .val (.int i4), .val (.int bs), .val (.int lm), .val (.int un), .val (.ref ca), .val (.int pv), .val (.ref b10), .val (.ref b39), .val (.ref b78), .val (.ref b122), .val (.int (2 : Int32)), .val (.ref oo), .unset, .unset] [(.ref t2)]))
            have F200 : Old Z n0 T151.heap := (F153.keep Kq151 all0)
            have F199 : Exa Z T151.heap t2 "com/example/cartiglio/cartiglio/core/HashAlgorithm" := ZT2.ext F200.2
            obtain ⟨T198, X198, e198, st198⟩ := castY X197 hx hZ hown (hw _ (own_mi 99 rfl)) eh197 (Ins.self F199) (g := (mkF m 722 #[.val (.int i0), .val (.int i1), .val (.int i2), .val (.int i3), .val (.int i4), .val (.int bs), .val (.int lm), .val (.int un), .val (.ref ca), .val (.int pv), .val (.ref b10), .val (.ref b39), .val (.ref b78), .val (.ref b122), .val (.int (2 : Int32)), .val (.ref oo), .unset, .unset] [(.ref t2)])) rfl rfl (hb hby at_722)
            refine own_go st198 ?_
            show own_Rn p e below _ (T198.setTop (mkF m 725 #[.val (.int i0), .val (.int i1), .val (.int i2), .val (.int i3), .val (.int i4), .val (.int bs), .val (.int lm), .val (.int un), .val (.ref ca), .val (.int pv), .val (.ref b10), .val (.ref b39), .val (.ref b78), .val (.ref b122), .val (.int (2 : Int32)), .val (.ref oo), .unset, .unset] [(.ref t2)]))
            refine own_as X198 hx #[.val (.int i0), .val (.int i1), .val (.int i2), .val (.int i3), .val (.int i4), .val (.int bs), .val (.int lm), .val (.int un), .val (.ref ca), .val (.int pv), .val (.ref b10), .val (.ref b39), .val (.ref b78), .val (.ref b122), .val (.int (2 : Int32)), .val (.ref oo), .val (.ref t2), .unset] 727 (hb hby at_725) rfl rfl rfl ?_
            refine own_il X198 hx 729 (hb hby at_727) rfl rfl ?_
            refine own_ifY X198 hx 738 (hb hby at_729) ((if0 _ _).trans (feq (by decide : ¬ ((2 : Int32) = (0 : Int32)))).2) (by decide) (by decide) ?_
            refine own_il X198 hx 740 (hb hby at_738) rfl rfl ?_
            refine own_ic X198 hx (1 : Int32) 741 (hb hby at_740) rfl rfl ?_
            refine own_icY X198 hx 750 (hb hby at_741) (feq (by decide : ¬ ((2 : Int32) = (1 : Int32)))).2 (by decide) (by decide) ?_
            refine own_gS X198 hx hZ hown (host := "") (Or.inl (hw _ (own_mi 101 rfl))) Via.refl e198 (OT2.ext F200.2) 753 (hb hby at_750) rfl ?_
            intro T201 X201 e201
            refine own_as X201 hx #[.val (.int i0), .val (.int i1), .val (.int i2), .val (.int i3), .val (.int i4), .val (.int bs), .val (.int lm), .val (.int un), .val (.ref ca), .val (.int pv), .val (.ref b10), .val (.ref b39), .val (.ref b78), .val (.ref b122), .val (.int (2 : Int32)), .val (.ref oo), .val (.ref t2), .val (.ref t2)] 755 (hb hby at_753) rfl rfl rfl ?_
            refine own_al X201 hx 757 (hb hby at_755) rfl rfl rfl ?_
            refine own_al X201 hx 759 (hb hby at_757) rfl rfl rfl ?_
            refine own_go (fun tq kq => Jvm.RoadKit.acmp (g := (mkF m 759 #[.val (.int i0), .val (.int i1), .val (.int i2), .val (.int i3), .val (.int i4), .val (.int bs), .val (.int lm), .val (.int un), .val (.ref ca), .val (.int pv), .val (.ref b10), .val (.ref b39), .val (.ref b78), .val (.ref b122), .val (.int (2 : Int32)), .val (.ref oo), .val (.ref t2), .val (.ref t2)] [(.ref t2), (.ref t2)])) X201 hx rfl rfl rfl (pc0 := 759) (pc' := 762) (same := true) rfl (hb hby at_759) rfl (decide_eq_true rfl) (by decide) (by decide) kq) ?_
            show own_Rn p e below _ (T201.setTop (mkF m 762 #[.val (.int i0), .val (.int i1), .val (.int i2), .val (.int i3), .val (.int i4), .val (.int bs), .val (.int lm), .val (.int un), .val (.ref ca), .val (.int pv), .val (.ref b10), .val (.ref b39), .val (.ref b78), .val (.ref b122), .val (.int (2 : Int32)), .val (.ref oo), .val (.ref t2), .val (.ref t2)] []))
            refine own_al X201 hx 764 (hb hby at_762) rfl rfl rfl ?_
            have Zn202 : n0 ≤ T151.heap.size := (Nat.le_trans Z0 (Nat.le_trans szj le196))
            have F203 : Fld Z T151.heap t2 "com/example/cartiglio/cartiglio/core/HashAlgorithm" "ianaName" "Ljava/lang/String;" (.ref x2) := ZN2.ext F200.2
            refine own_cV X201 hx hZ (y := (⟨"com/example/cartiglio/cartiglio/core/HashAlgorithm", "ianaName", "()Ljava/lang/String;"⟩ : MethodName)) (z := (⟨"com/example/cartiglio/cartiglio/core/HashAlgorithm", "ianaName", "()Ljava/lang/String;"⟩ : MethodName)) hown (hw _ (own_mi 102 rfl)) (hw _ (own_mi 103 rfl)) (notFace_of_selects (args := #[]) (mvT hZ (hw _ (own_mi 105 rfl)))) (hw _ (own_mi 105 rfl)) (hw _ (own_mi 104 rfl)) (hw _ (own_mi 106 rfl)) (hw _ (own_mi 33 rfl)) (by decide) (rmGI l Z a0 hw [] (t2) (x2) T151.heap n0 Zn202 F203) F199 e201 [] [] rfl (by rw [hml]; rfl) (lenOf own_pd_2829Ljava2flang2fString3b rfl) rfl 0 (Nat.le_of_eq rfl) (by decide) (by decide) (by decide : 8 + 0 ≤ _) (by decide : 44 + 0 ≤ _) 767 (hb hby at_764) rfl 8 44 rfl rfl ?_
            intro rv202 T202 Lc202 X202 hQ202
            obtain ⟨rfl, Nq202, eh202⟩ := hQ202
            have N202 := Fr.app N197 Nq202
            show own_Rn p e below _ (T202.setTop (mkF m 767 #[.val (.int i0), .val (.int i1), .val (.int i2), .val (.int i3), .val (.int i4), .val (.int bs), .val (.int lm), .val (.int un), .val (.ref ca), .val (.int pv), .val (.ref b10), .val (.ref b39), .val (.ref b78), .val (.ref b122), .val (.int (2 : Int32)), .val (.ref oo), .val (.ref t2), .val (.ref t2)] [(.ref x2)]))
            refine own_al X202 hx 769 (hb hby at_767) rfl rfl rfl ?_
            have F204 : Exa Z T151.heap x2 "java/lang/String" := ZX20.ext F200.2
            have F205 : Fld Z T151.heap x2 "java/lang/String" "value" "[B" (.ref y2) := ZX21.ext F200.2
            have F206 : Fld Z T151.heap x2 "java/lang/String" "coder" "B" (.int (0 : Int32)) := ZX22.ext F200.2
            have F207 : Arv Z T151.heap y2 kz2 .byte (Int32.ofNat ([115, 104, 97, 45, 53, 49, 50] : List Int32).length) (own_bs ([115, 104, 97, 45, 53, 49, 50] : List Int32)) (.int 0) := ZX23.ext F200.2
            have F208 : Exa Z T151.heap b122 "java/lang/String" := (Ex146.keep Kq151)
            have F209 : Fld Z T151.heap b122 "java/lang/String" "value" "[B" (.ref t135) := (Va146.keep Kq151 nin0)
            have F210 : Fld Z T151.heap b122 "java/lang/String" "coder" "B" (.int (0 : Int32)) := (Co146.keep Kq151 nin0)
            have F211 : Arv Z T151.heap t135 kb135 .byte (7 : Int32) ((([c0, c1, c2, c3, c4, c5, c6] : List Int32).map (fun c => c.toInt8.toInt32)).map Value.int) (.int 0) := (Ab146.keep Kq151 nin0)
            refine own_pEq X202 hx hZ hown (hw _ (own_mi 107 rfl)) (hw _ (own_mi 56 rfl)) (notFace_of_selects (args := #[]) (mvT hZ (hw _ (own_mi 58 rfl)))) (hw _ (own_mi 58 rfl)) (hw _ (own_mi 57 rfl)) (lenOf own_pd_28Ljava2flang2fObject3b29Z rfl) heq (kI := 4) (hw _ (own_mi 3 rfl)) F204 F205 F206 F207 (cs := ([115, 104, 97, 45, 53, 49, 50] : List Int32)) (StrChars.Road.codOf rfl (fun c hc => (hp8 c hc).2)) (fun c hc => own_up c (hp8 c hc)) (by decide) F208 F209 F210 F211 (ds := ([c0, c1, c2, c3, c4, c5, c6] : List Int32)) (StrChars.Road.codOf rfl (fun c hc => (hp135 c hc).2)) (fun c hc => own_up c (hp135 c hc)) (Nat.le_of_ble_eq_true rfl) (O2.ext F200.2) P5 (by decide) 0 (by decide) eh202 [] (by rw [hml]; rfl) rfl (Nat.le_of_eq rfl) (by decide : 8 + 0 ≤ _) (by decide : 44 + 0 ≤ _) 772 (hb hby at_769) rfl ?_
            intro rv212 T212 X212 eh212 hv212
            obtain ⟨ev212, rfl, hev212⟩ : ∃ z : Int32, rv212 = some (.int z) ∧ ((z = 1 ∧ ([115, 104, 97, 45, 53, 49, 50] : List Int32) = ([c0, c1, c2, c3, c4, c5, c6] : List Int32)) ∨ (z = 0 ∧ ¬ ([115, 104, 97, 45, 53, 49, 50] : List Int32) = ([c0, c1, c2, c3, c4, c5, c6] : List Int32))) := by
              rcases hv212 with ⟨h, h2⟩ | ⟨h, h2⟩
              · exact ⟨1, h, Or.inl ⟨rfl, h2⟩⟩
              · exact ⟨0, h, Or.inr ⟨rfl, h2⟩⟩
            show own_Rn p e below _ (T212.setTop (mkF m 772 #[.val (.int i0), .val (.int i1), .val (.int i2), .val (.int i3), .val (.int i4), .val (.int bs), .val (.int lm), .val (.int un), .val (.ref ca), .val (.int pv), .val (.ref b10), .val (.ref b39), .val (.ref b78), .val (.ref b122), .val (.int (2 : Int32)), .val (.ref oo), .val (.ref t2), .val (.ref t2)] [(.int ev212)]))
            have ee212 : ev212 = 1 := by rcases hev212 with g | g; exact g.1; exact absurd hd g.2
            subst ee212
            show own_Rn p e below _ (T212.setTop (mkF m 772 #[.val (.int i0), .val (.int i1), .val (.int i2), .val (.int i3), .val (.int i4), .val (.int bs), .val (.int lm), .val (.int un), .val (.ref ca), .val (.int pv), .val (.ref b10), .val (.ref b39), .val (.ref b78), .val (.ref b122), .val (.int (2 : Int32)), .val (.ref oo), .val (.ref t2), .val (.ref t2)] [(.int (1 : Int32))]))
            refine own_ifN X212 hx 775 (hb hby at_772) rfl ((if0 _ _).trans (feq ((by decide : ¬ ((1 : Int32) = (0 : Int32))) : ¬ ((1 : Int32) = (0 : Int32)))).1) ?_
            refine own_ic X212 hx (1 : Int32) 776 (hb hby at_775) rfl rfl ?_
            refine own_gt X212 hx 780 (hb hby at_776) (by decide) (by decide) ?_
            exact own_retS X212 hS0 (by rw [eh212]; exact (Nat.le_trans szj le196)) (v := some (.int (nar .boolean (1 : Int32)))) (fun h => by rw [Bd.returns] at h; cases h) (fun fs hr => retN X212 hx (t := .boolean) Bd.returns (by simp) (hb hby at_780) hr) (by rw [eh212]; exact ⟨rfl, N202⟩) (by rw [hh, eh212]; exact CR154.trans (CHv.at X212 hZ hEL CR154.1)) (by decide) (by decide)
          · skip
            show own_Rn p e below _ (T151.setTop (mkF m 686 #[.val (.int i0), .val (.int i1), .val (.int i2), .val (.int i3), .val (.int i4), .val (.int bs), .val (.int lm), .val (.int un), .val (.ref ca), .val (.int pv), .val (.ref b10), .val (.ref b39), .val (.ref b78), .val (.ref b122), .val (.int (-1 : Int32)), .unset, .unset, .unset] [(.ref oo)]))
            have Fo213 : Fld Z T151.heap oo "java/util/Optional" "value" "Ljava/lang/Object;" .null := by have h := G1_151; rwa [show own_fv ([c0, c1, c2, c3, c4, c5, c6] : List Int32) t0 t1 t2 = .null by rw [own_fv, if_neg hd0, if_neg hd1, if_neg hd2]] at h
            refine own_as X151 hx #[.val (.int i0), .val (.int i1), .val (.int i2), .val (.int i3), .val (.int i4), .val (.int bs), .val (.int lm), .val (.int un), .val (.ref ca), .val (.int pv), .val (.ref b10), .val (.ref b39), .val (.ref b78), .val (.ref b122), .val (.int (-1 : Int32)), .val (.ref oo), .unset, .unset] 688 (hb hby at_686) rfl rfl rfl ?_
            refine own_il X151 hx 690 (hb hby at_688) rfl rfl ?_
            refine own_ifN X151 hx 693 (hb hby at_690) rfl ((if0 _ _).trans (tlt (by decide : (-1 : Int32) < (0 : Int32))).2.1) ?_
            refine own_al X151 hx 695 (hb hby at_693) rfl rfl rfl ?_
            have le215 : hj.size ≤ T151.heap.size := Nat.le_trans le152 sz154
            have Zn214 : n0 ≤ T151.heap.size := (Nat.le_trans Z0 (Nat.le_trans szj le215))
            refine own_cV X151 hx hZ (y := (⟨"java/util/Optional", "isPresent", "()Z"⟩ : MethodName)) (z := (⟨"java/util/Optional", "isPresent", "()Z"⟩ : MethodName)) hown (hw _ (own_mi 70 rfl)) (hw _ (own_mi 71 rfl)) (notFace_of_selects (args := #[]) (mvT hZ (hw _ (own_mi 73 rfl)))) (hw _ (own_mi 73 rfl)) (hw _ (own_mi 72 rfl)) (hw _ (own_mi 74 rfl)) (hw _ (own_mi 67 rfl)) (by decide) (rmIsN l Z a0 hw [] (oo) T151.heap n0 Zn214 Fo213) G0_151 rfl [] [] rfl (by rw [hml]; rfl) (lenOf own_pd_2829Z rfl) rfl 0 (Nat.le_of_eq rfl) (by decide) (by decide) (by decide : 8 + 0 ≤ _) (by decide : 44 + 0 ≤ _) 698 (hb hby at_695) rfl 8 44 rfl rfl ?_
            intro rv214 T214 Lc214 X214 hQ214
            obtain ⟨rfl, Nq214, eh214⟩ := hQ214
            have N214 := Fr.app N151 Nq214
            show own_Rn p e below _ (T214.setTop (mkF m 698 #[.val (.int i0), .val (.int i1), .val (.int i2), .val (.int i3), .val (.int i4), .val (.int bs), .val (.int lm), .val (.int un), .val (.ref ca), .val (.int pv), .val (.ref b10), .val (.ref b39), .val (.ref b78), .val (.ref b122), .val (.int (-1 : Int32)), .val (.ref oo), .unset, .unset] [(.int (0 : Int32))]))
            refine own_ifN X214 hx 701 (hb hby at_698) rfl ((if0 _ _).trans (teq ((by decide : (0 : Int32) = (0 : Int32)) : (0 : Int32) = (0 : Int32))).2) ?_
            refine own_ic X214 hx (1 : Int32) 702 (hb hby at_701) rfl rfl ?_
            refine own_gt X214 hx 706 (hb hby at_702) (by decide) (by decide) ?_
            exact own_retS X214 hS0 (by rw [eh214]; exact (Nat.le_trans szj le215)) (v := some (.int (nar .boolean (1 : Int32)))) (fun h => by rw [Bd.returns] at h; cases h) (fun fs hr => retN X214 hx (t := .boolean) Bd.returns (by simp) (hb hby at_706) hr) (by rw [eh214]; exact ⟨rfl, N214⟩) (by rw [hh, eh214]; exact CR154.trans (CHv.at X214 hZ hEL CR154.1)) (by decide) (by decide)
        have j650 : ¬ (c4 = 50 ∧ c5 = 53 ∧ c6 = 54) → ¬ (c4 = 51 ∧ c5 = 56 ∧ c6 = 52) → c0 = 115 → c1 = 104 → c2 = 97 → c3 = 45 → own_Rn p e below (fun o U' => ∃ v L, o = .returned v ∧ Q_rm0 Z i0 i1 i2 i3 i4 G1 va kv t0 t1 t2 x0 y0 kz0 x1 y1 kz1 x2 y2 kz2 oe h0 n0 v U'.heap L ∧ CHr Z consts_1 s.vm s.heap U'.vm U'.heap ∧ ReturnedEndW s o U' L 32 1216) (T146.setTop (mkF m 650 #[.val (.int i0), .val (.int i1), .val (.int i2), .val (.int i3), .val (.int i4), .val (.int bs), .val (.int lm), .val (.int un), .val (.ref ca), .val (.int pv), .val (.ref b10), .val (.ref b39), .val (.ref b78), .val (.ref b122), .val (.int (-1 : Int32)), .unset, .unset, .unset] [])) := by
          intro m0 m1 eqc0 eqc1 eqc2 eqc3
          show own_Rn p e below _ (T146.setTop (mkF m 650 #[.val (.int i0), .val (.int i1), .val (.int i2), .val (.int i3), .val (.int i4), .val (.int bs), .val (.int lm), .val (.int un), .val (.ref ca), .val (.int pv), .val (.ref b10), .val (.ref b39), .val (.ref b78), .val (.ref b122), .val (.int (-1 : Int32)), .unset, .unset, .unset] []))
          refine own_al X146 hx 652 (hb hby at_650) rfl rfl rfl ?_
          refine own_ic X146 hx (4 : Int32) 653 (hb hby at_652) rfl rfl ?_
          have ne216 : ca ≠ b122 := own_nea (Or.inl (Nat.lt_of_lt_of_le lt5 (Nat.le_trans le134 (Nat.le_of_eq g122.symm))))
          have F217 : Arv Z T146.heap ca ka .char (8 : Int32) [(.int c0), (.int c1), (.int c2), (.int c3), (.int c4), (.int c5), (.int c6), (.int c7)] (.int (0 : Int32)) := (((F118.other W119 ne93).ext E122).keep Kq146 (ninS ne216 nin0))
          refine own_cal X146 hx hZ rfl F217 c4 654 (hb hby at_653) rfl ⟨by decide, by decide⟩ rfl ?_
          refine own_bp X146 hx (53 : Int32) 656 (hb hby at_654) rfl rfl ?_
          by_cases g0 : c4 = (53 : Int32)
          · skip
            refine own_icN X146 hx 659 (hb hby at_656) rfl (teq (g0 : c4 = (53 : Int32))).2 ?_
            refine own_al X146 hx 661 (hb hby at_659) rfl rfl rfl ?_
            refine own_ic X146 hx (5 : Int32) 662 (hb hby at_661) rfl rfl ?_
            refine own_cal X146 hx hZ rfl F217 c5 663 (hb hby at_662) rfl ⟨by decide, by decide⟩ rfl ?_
            refine own_bp X146 hx (49 : Int32) 665 (hb hby at_663) rfl rfl ?_
            by_cases g1 : c5 = (49 : Int32)
            · skip
              refine own_icN X146 hx 668 (hb hby at_665) rfl (teq (g1 : c5 = (49 : Int32))).2 ?_
              refine own_al X146 hx 670 (hb hby at_668) rfl rfl rfl ?_
              refine own_bp X146 hx (6 : Int32) 672 (hb hby at_670) rfl rfl ?_
              refine own_cal X146 hx hZ rfl F217 c6 673 (hb hby at_672) rfl ⟨by decide, by decide⟩ rfl ?_
              refine own_bp X146 hx (50 : Int32) 675 (hb hby at_673) rfl rfl ?_
              by_cases g2 : c6 = (50 : Int32)
              · skip
                refine own_icN X146 hx 678 (hb hby at_675) rfl (teq (g2 : c6 = (50 : Int32))).2 ?_
                refine own_ic X146 hx (2 : Int32) 679 (hb hby at_678) rfl rfl ?_
                refine own_is X146 hx #[.val (.int i0), .val (.int i1), .val (.int i2), .val (.int i3), .val (.int i4), .val (.int bs), .val (.int lm), .val (.int un), .val (.ref ca), .val (.int pv), .val (.ref b10), .val (.ref b39), .val (.ref b78), .val (.ref b122), .val (.int (2 : Int32)), .unset, .unset, .unset] 681 (hb hby at_679) rfl rfl ?_
                exact j3 2 (Or.inr (Or.inr (Or.inl ⟨rfl, by rw [eqc0, eqc1, eqc2, eqc3, g0, g1, g2]⟩)))
              · skip
                refine own_icY X146 hx 681 (hb hby at_675) (feq (g2 : ¬ (c6 = (50 : Int32)))).2 (by decide) (by decide) ?_
                have m2 : ¬ (c4 = 53 ∧ c5 = 49 ∧ c6 = 50) := (fun g => g2 g.2.2)
                exact j3 (-1) (Or.inr (Or.inr (Or.inr ⟨rfl, (fun h => m0 ⟨(own_l7 h).2.2.2.2.1.symm, (own_l7 h).2.2.2.2.2.1.symm, (own_l7 h).2.2.2.2.2.2.symm⟩), (fun h => m1 ⟨(own_l7 h).2.2.2.2.1.symm, (own_l7 h).2.2.2.2.2.1.symm, (own_l7 h).2.2.2.2.2.2.symm⟩), (fun h => m2 ⟨(own_l7 h).2.2.2.2.1.symm, (own_l7 h).2.2.2.2.2.1.symm, (own_l7 h).2.2.2.2.2.2.symm⟩)⟩)))
            · skip
              refine own_icY X146 hx 681 (hb hby at_665) (feq (g1 : ¬ (c5 = (49 : Int32)))).2 (by decide) (by decide) ?_
              have m2 : ¬ (c4 = 53 ∧ c5 = 49 ∧ c6 = 50) := (fun g => g1 g.2.1)
              exact j3 (-1) (Or.inr (Or.inr (Or.inr ⟨rfl, (fun h => m0 ⟨(own_l7 h).2.2.2.2.1.symm, (own_l7 h).2.2.2.2.2.1.symm, (own_l7 h).2.2.2.2.2.2.symm⟩), (fun h => m1 ⟨(own_l7 h).2.2.2.2.1.symm, (own_l7 h).2.2.2.2.2.1.symm, (own_l7 h).2.2.2.2.2.2.symm⟩), (fun h => m2 ⟨(own_l7 h).2.2.2.2.1.symm, (own_l7 h).2.2.2.2.2.1.symm, (own_l7 h).2.2.2.2.2.2.symm⟩)⟩)))
          · skip
            refine own_icY X146 hx 681 (hb hby at_656) (feq (g0 : ¬ (c4 = (53 : Int32)))).2 (by decide) (by decide) ?_
            have m2 : ¬ (c4 = 53 ∧ c5 = 49 ∧ c6 = 50) := (fun g => g0 g.1)
            exact j3 (-1) (Or.inr (Or.inr (Or.inr ⟨rfl, (fun h => m0 ⟨(own_l7 h).2.2.2.2.1.symm, (own_l7 h).2.2.2.2.2.1.symm, (own_l7 h).2.2.2.2.2.2.symm⟩), (fun h => m1 ⟨(own_l7 h).2.2.2.2.1.symm, (own_l7 h).2.2.2.2.2.1.symm, (own_l7 h).2.2.2.2.2.2.symm⟩), (fun h => m2 ⟨(own_l7 h).2.2.2.2.1.symm, (own_l7 h).2.2.2.2.2.1.symm, (own_l7 h).2.2.2.2.2.2.symm⟩)⟩)))
        have j616 : ¬ (c4 = 50 ∧ c5 = 53 ∧ c6 = 54) → c0 = 115 → c1 = 104 → c2 = 97 → c3 = 45 → own_Rn p e below (fun o U' => ∃ v L, o = .returned v ∧ Q_rm0 Z i0 i1 i2 i3 i4 G1 va kv t0 t1 t2 x0 y0 kz0 x1 y1 kz1 x2 y2 kz2 oe h0 n0 v U'.heap L ∧ CHr Z consts_1 s.vm s.heap U'.vm U'.heap ∧ ReturnedEndW s o U' L 32 1216) (T146.setTop (mkF m 616 #[.val (.int i0), .val (.int i1), .val (.int i2), .val (.int i3), .val (.int i4), .val (.int bs), .val (.int lm), .val (.int un), .val (.ref ca), .val (.int pv), .val (.ref b10), .val (.ref b39), .val (.ref b78), .val (.ref b122), .val (.int (-1 : Int32)), .unset, .unset, .unset] [])) := by
          intro m0 eqc0 eqc1 eqc2 eqc3
          show own_Rn p e below _ (T146.setTop (mkF m 616 #[.val (.int i0), .val (.int i1), .val (.int i2), .val (.int i3), .val (.int i4), .val (.int bs), .val (.int lm), .val (.int un), .val (.ref ca), .val (.int pv), .val (.ref b10), .val (.ref b39), .val (.ref b78), .val (.ref b122), .val (.int (-1 : Int32)), .unset, .unset, .unset] []))
          refine own_al X146 hx 618 (hb hby at_616) rfl rfl rfl ?_
          refine own_ic X146 hx (4 : Int32) 619 (hb hby at_618) rfl rfl ?_
          have ne218 : ca ≠ b122 := own_nea (Or.inl (Nat.lt_of_lt_of_le lt5 (Nat.le_trans le134 (Nat.le_of_eq g122.symm))))
          have F219 : Arv Z T146.heap ca ka .char (8 : Int32) [(.int c0), (.int c1), (.int c2), (.int c3), (.int c4), (.int c5), (.int c6), (.int c7)] (.int (0 : Int32)) := (((F118.other W119 ne93).ext E122).keep Kq146 (ninS ne218 nin0))
          refine own_cal X146 hx hZ rfl F219 c4 620 (hb hby at_619) rfl ⟨by decide, by decide⟩ rfl ?_
          refine own_bp X146 hx (51 : Int32) 622 (hb hby at_620) rfl rfl ?_
          by_cases g0 : c4 = (51 : Int32)
          · skip
            refine own_icN X146 hx 625 (hb hby at_622) rfl (teq (g0 : c4 = (51 : Int32))).2 ?_
            refine own_al X146 hx 627 (hb hby at_625) rfl rfl rfl ?_
            refine own_ic X146 hx (5 : Int32) 628 (hb hby at_627) rfl rfl ?_
            refine own_cal X146 hx hZ rfl F219 c5 629 (hb hby at_628) rfl ⟨by decide, by decide⟩ rfl ?_
            refine own_bp X146 hx (56 : Int32) 631 (hb hby at_629) rfl rfl ?_
            by_cases g1 : c5 = (56 : Int32)
            · skip
              refine own_icN X146 hx 634 (hb hby at_631) rfl (teq (g1 : c5 = (56 : Int32))).2 ?_
              refine own_al X146 hx 636 (hb hby at_634) rfl rfl rfl ?_
              refine own_bp X146 hx (6 : Int32) 638 (hb hby at_636) rfl rfl ?_
              refine own_cal X146 hx hZ rfl F219 c6 639 (hb hby at_638) rfl ⟨by decide, by decide⟩ rfl ?_
              refine own_bp X146 hx (52 : Int32) 641 (hb hby at_639) rfl rfl ?_
              by_cases g2 : c6 = (52 : Int32)
              · skip
                refine own_icN X146 hx 644 (hb hby at_641) rfl (teq (g2 : c6 = (52 : Int32))).2 ?_
                refine own_ic X146 hx (1 : Int32) 645 (hb hby at_644) rfl rfl ?_
                refine own_is X146 hx #[.val (.int i0), .val (.int i1), .val (.int i2), .val (.int i3), .val (.int i4), .val (.int bs), .val (.int lm), .val (.int un), .val (.ref ca), .val (.int pv), .val (.ref b10), .val (.ref b39), .val (.ref b78), .val (.ref b122), .val (.int (1 : Int32)), .unset, .unset, .unset] 647 (hb hby at_645) rfl rfl ?_
                refine own_gt X146 hx 681 (hb hby at_647) (by decide) (by decide) ?_
                exact j3 1 (Or.inr (Or.inl ⟨rfl, by rw [eqc0, eqc1, eqc2, eqc3, g0, g1, g2]⟩))
              · skip
                refine own_icY X146 hx 650 (hb hby at_641) (feq (g2 : ¬ (c6 = (52 : Int32)))).2 (by decide) (by decide) ?_
                exact j650 m0 (fun g => g2 g.2.2) eqc0 eqc1 eqc2 eqc3
            · skip
              refine own_icY X146 hx 650 (hb hby at_631) (feq (g1 : ¬ (c5 = (56 : Int32)))).2 (by decide) (by decide) ?_
              exact j650 m0 (fun g => g1 g.2.1) eqc0 eqc1 eqc2 eqc3
          · skip
            refine own_icY X146 hx 650 (hb hby at_622) (feq (g0 : ¬ (c4 = (51 : Int32)))).2 (by decide) (by decide) ?_
            exact j650 m0 (fun g => g0 g.1) eqc0 eqc1 eqc2 eqc3
        refine own_al X146 hx 548 (hb hby at_546) rfl rfl rfl ?_
        refine own_ic X146 hx (0 : Int32) 549 (hb hby at_548) rfl rfl ?_
        have ne220 : ca ≠ b122 := own_nea (Or.inl (Nat.lt_of_lt_of_le lt5 (Nat.le_trans le134 (Nat.le_of_eq g122.symm))))
        have F221 : Arv Z T146.heap ca ka .char (8 : Int32) [(.int c0), (.int c1), (.int c2), (.int c3), (.int c4), (.int c5), (.int c6), (.int c7)] (.int (0 : Int32)) := (((F118.other W119 ne93).ext E122).keep Kq146 (ninS ne220 nin0))
        refine own_cal X146 hx hZ rfl F221 c0 550 (hb hby at_549) rfl ⟨by decide, by decide⟩ rfl ?_
        refine own_bp X146 hx (115 : Int32) 552 (hb hby at_550) rfl rfl ?_
        by_cases eqc0 : c0 = (115 : Int32)
        · skip
          refine own_icN X146 hx 555 (hb hby at_552) rfl (teq (eqc0 : c0 = (115 : Int32))).2 ?_
          refine own_al X146 hx 557 (hb hby at_555) rfl rfl rfl ?_
          refine own_ic X146 hx (1 : Int32) 558 (hb hby at_557) rfl rfl ?_
          refine own_cal X146 hx hZ rfl F221 c1 559 (hb hby at_558) rfl ⟨by decide, by decide⟩ rfl ?_
          refine own_bp X146 hx (104 : Int32) 561 (hb hby at_559) rfl rfl ?_
          by_cases eqc1 : c1 = (104 : Int32)
          · skip
            refine own_icN X146 hx 564 (hb hby at_561) rfl (teq (eqc1 : c1 = (104 : Int32))).2 ?_
            refine own_al X146 hx 566 (hb hby at_564) rfl rfl rfl ?_
            refine own_ic X146 hx (2 : Int32) 567 (hb hby at_566) rfl rfl ?_
            refine own_cal X146 hx hZ rfl F221 c2 568 (hb hby at_567) rfl ⟨by decide, by decide⟩ rfl ?_
            refine own_bp X146 hx (97 : Int32) 570 (hb hby at_568) rfl rfl ?_
            by_cases eqc2 : c2 = (97 : Int32)
            · skip
              refine own_icN X146 hx 573 (hb hby at_570) rfl (teq (eqc2 : c2 = (97 : Int32))).2 ?_
              refine own_al X146 hx 575 (hb hby at_573) rfl rfl rfl ?_
              refine own_ic X146 hx (3 : Int32) 576 (hb hby at_575) rfl rfl ?_
              refine own_cal X146 hx hZ rfl F221 c3 577 (hb hby at_576) rfl ⟨by decide, by decide⟩ rfl ?_
              refine own_bp X146 hx (45 : Int32) 579 (hb hby at_577) rfl rfl ?_
              by_cases eqc3 : c3 = (45 : Int32)
              · skip
                refine own_icN X146 hx 582 (hb hby at_579) rfl (teq (eqc3 : c3 = (45 : Int32))).2 ?_
                refine own_al X146 hx 584 (hb hby at_582) rfl rfl rfl ?_
                refine own_ic X146 hx (4 : Int32) 585 (hb hby at_584) rfl rfl ?_
                refine own_cal X146 hx hZ rfl F221 c4 586 (hb hby at_585) rfl ⟨by decide, by decide⟩ rfl ?_
                refine own_bp X146 hx (50 : Int32) 588 (hb hby at_586) rfl rfl ?_
                by_cases g0 : c4 = (50 : Int32)
                · skip
                  refine own_icN X146 hx 591 (hb hby at_588) rfl (teq (g0 : c4 = (50 : Int32))).2 ?_
                  refine own_al X146 hx 593 (hb hby at_591) rfl rfl rfl ?_
                  refine own_ic X146 hx (5 : Int32) 594 (hb hby at_593) rfl rfl ?_
                  refine own_cal X146 hx hZ rfl F221 c5 595 (hb hby at_594) rfl ⟨by decide, by decide⟩ rfl ?_
                  refine own_bp X146 hx (53 : Int32) 597 (hb hby at_595) rfl rfl ?_
                  by_cases g1 : c5 = (53 : Int32)
                  · skip
                    refine own_icN X146 hx 600 (hb hby at_597) rfl (teq (g1 : c5 = (53 : Int32))).2 ?_
                    refine own_al X146 hx 602 (hb hby at_600) rfl rfl rfl ?_
                    refine own_bp X146 hx (6 : Int32) 604 (hb hby at_602) rfl rfl ?_
                    refine own_cal X146 hx hZ rfl F221 c6 605 (hb hby at_604) rfl ⟨by decide, by decide⟩ rfl ?_
                    refine own_bp X146 hx (54 : Int32) 607 (hb hby at_605) rfl rfl ?_
                    by_cases g2 : c6 = (54 : Int32)
                    · skip
                      refine own_icN X146 hx 610 (hb hby at_607) rfl (teq (g2 : c6 = (54 : Int32))).2 ?_
                      refine own_ic X146 hx (0 : Int32) 611 (hb hby at_610) rfl rfl ?_
                      refine own_is X146 hx #[.val (.int i0), .val (.int i1), .val (.int i2), .val (.int i3), .val (.int i4), .val (.int bs), .val (.int lm), .val (.int un), .val (.ref ca), .val (.int pv), .val (.ref b10), .val (.ref b39), .val (.ref b78), .val (.ref b122), .val (.int (0 : Int32)), .unset, .unset, .unset] 613 (hb hby at_611) rfl rfl ?_
                      refine own_gt X146 hx 681 (hb hby at_613) (by decide) (by decide) ?_
                      exact j3 0 (Or.inl ⟨rfl, by rw [eqc0, eqc1, eqc2, eqc3, g0, g1, g2]⟩)
                    · skip
                      refine own_icY X146 hx 616 (hb hby at_607) (feq (g2 : ¬ (c6 = (54 : Int32)))).2 (by decide) (by decide) ?_
                      exact j616 (fun g => g2 g.2.2) eqc0 eqc1 eqc2 eqc3
                  · skip
                    refine own_icY X146 hx 616 (hb hby at_597) (feq (g1 : ¬ (c5 = (53 : Int32)))).2 (by decide) (by decide) ?_
                    exact j616 (fun g => g1 g.2.1) eqc0 eqc1 eqc2 eqc3
                · skip
                  refine own_icY X146 hx 616 (hb hby at_588) (feq (g0 : ¬ (c4 = (50 : Int32)))).2 (by decide) (by decide) ?_
                  exact j616 (fun g => g0 g.1) eqc0 eqc1 eqc2 eqc3
              · skip
                refine own_icY X146 hx 681 (hb hby at_579) (feq (eqc3 : ¬ (c3 = (45 : Int32)))).2 (by decide) (by decide) ?_
                exact j3 (-1) (Or.inr (Or.inr (Or.inr ⟨rfl, (fun h => eqc3 (own_l7 h).2.2.2.1.symm), (fun h => eqc3 (own_l7 h).2.2.2.1.symm), (fun h => eqc3 (own_l7 h).2.2.2.1.symm)⟩)))
            · skip
              refine own_icY X146 hx 681 (hb hby at_570) (feq (eqc2 : ¬ (c2 = (97 : Int32)))).2 (by decide) (by decide) ?_
              exact j3 (-1) (Or.inr (Or.inr (Or.inr ⟨rfl, (fun h => eqc2 (own_l7 h).2.2.1.symm), (fun h => eqc2 (own_l7 h).2.2.1.symm), (fun h => eqc2 (own_l7 h).2.2.1.symm)⟩)))
          · skip
            refine own_icY X146 hx 681 (hb hby at_561) (feq (eqc1 : ¬ (c1 = (104 : Int32)))).2 (by decide) (by decide) ?_
            exact j3 (-1) (Or.inr (Or.inr (Or.inr ⟨rfl, (fun h => eqc1 (own_l7 h).2.1.symm), (fun h => eqc1 (own_l7 h).2.1.symm), (fun h => eqc1 (own_l7 h).2.1.symm)⟩)))
        · skip
          refine own_icY X146 hx 681 (hb hby at_552) (feq (eqc0 : ¬ (c0 = (115 : Int32)))).2 (by decide) (by decide) ?_
          exact j3 (-1) (Or.inr (Or.inr (Or.inr ⟨rfl, (fun h => eqc0 (own_l7 h).1.symm), (fun h => eqc0 (own_l7 h).1.symm), (fun h => eqc0 (own_l7 h).1.symm)⟩)))
      · skip
        refine own_ifY X119 hx 475 (hb hby at_458) ((if0 _ _).trans (feq (hlm0 : ¬ (lm = (0 : Int32)))).2) (by decide) (by decide) ?_
        refine own_il X119 hx 477 (hb hby at_475) rfl rfl ?_
        refine own_ic X119 hx (1 : Int32) 478 (hb hby at_477) rfl rfl ?_
        by_cases hc222 : lm = (1 : Int32)
        · skip
          refine own_icN X119 hx 481 (hb hby at_478) rfl (teq (hc222 : lm = (1 : Int32))).2 ?_
          obtain ⟨T223, h223, X223, e223, E223, A223, D223, -, st223⟩ := newO X119 hx hZ hown (hw _ (own_mi 2 rfl)) (hw _ (own_mi 3 rfl)) (hw _ (own_mi 4 rfl)) e119 (g := (mkF m 481 #[.val (.int i0), .val (.int i1), .val (.int i2), .val (.int i3), .val (.int i4), .val (.int bs), .val (.int lm), .val (.int un), .val (.ref ca), .val (.int pv), .val (.ref b10), .val (.ref b39), .val (.ref b78), .unset, .unset, .unset, .unset, .unset] [])) rfl (hb hby at_481) (by decide) (by decide)
          obtain ⟨b223, g223⟩ : ∃ z, z = h119.size := ⟨_, rfl⟩
          rw [← g223] at A223 D223 st223
          refine own_go st223 ?_
          have sz224 : h119.size ≤ h223.size := E223.1
          have cr224 : CHr Z consts_1 s.vm h119 s.vm h223 := CHr.ext E223 CR121.1
          have CR224 := CR121.trans cr224
          have sf225 : Safe Z consts_1 s.vm h223 b223 := Safe.ext E223 CR121.1 (Safe.new (Nat.le_of_eq g223.symm))
          have lt226 : @LT.lt Nat _ b223 h223.size := A223.lt
          have le227 : hj.size ≤ h78.size := Nat.le_trans le87 sz79
          have le228 : hj.size ≤ h90.size := Nat.le_trans le227 sz92
          have le229 : hj.size ≤ h95.size := Nat.le_trans le228 sz97
          have le230 : hj.size ≤ h99.size := Nat.le_trans le229 sz101
          have le231 : hj.size ≤ h103.size := Nat.le_trans le230 sz105
          have le232 : hj.size ≤ h107.size := Nat.le_trans le231 sz109
          have le233 : hj.size ≤ h111.size := Nat.le_trans le232 sz113
          have le234 : hj.size ≤ h115.size := Nat.le_trans le233 sz117
          have le235 : hj.size ≤ h119.size := Nat.le_trans le234 sz121
          have gn223 : n0 ≤ b223 := (Nat.le_trans (Nat.le_trans Z0 (Nat.le_trans szj le235)) (Nat.le_of_eq g223.symm))
          have D223_coder : Fld Z h223 b223 "java/lang/String" "coder" "B" (.int (0 : Int32)) := D223 (Or.inr (hw _ (own_mi 28 rfl))) (ty := .byte) own_fd_B
          have D223_value : Fld Z h223 b223 "java/lang/String" "value" "[B" .null := D223 (Or.inr (hw _ (own_mi 30 rfl))) (ty := (.array .byte)) own_fd_5bB
          show own_Rn p e below _ (T223.setTop (mkF m 484 #[.val (.int i0), .val (.int i1), .val (.int i2), .val (.int i3), .val (.int i4), .val (.int bs), .val (.int lm), .val (.int un), .val (.ref ca), .val (.int pv), .val (.ref b10), .val (.ref b39), .val (.ref b78), .unset, .unset, .unset, .unset, .unset] [(.ref b223)]))
          refine own_dp X223 hx 485 (hb hby at_484) rfl rfl ?_
          refine own_al X223 hx 487 (hb hby at_485) rfl rfl rfl ?_
          have hp236 : ∀ c ∈ ([c0, c1, c2, c3, c4, c5] : List Int32), ¬ c < 0 ∧ ¬ (255 : Int32) < c := by
            intro c hc
            simp only [List.mem_cons, List.not_mem_nil, or_false] at hc
            rcases hc with rfl | rfl | rfl | rfl | rfl | rfl
            · exact rc0
            · exact rc1
            · exact rc2
            · exact rc3
            · exact rc4
            · exact rc5
          have le238 : h10.size ≤ h19.size := Nat.le_trans sz16 sz21
          have le239 : h10.size ≤ h23.size := Nat.le_trans le238 sz25
          have le240 : h10.size ≤ h27.size := Nat.le_trans le239 sz29
          have le241 : h10.size ≤ h31.size := Nat.le_trans le240 sz33
          have le242 : h10.size ≤ h35.size := Nat.le_trans le241 sz37
          have ne237 : b10 ≠ b39 := own_nea (Or.inl (Nat.lt_of_lt_of_le lt12 (Nat.le_trans le242 (Nat.le_of_eq g39.symm))))
          have le244 : h10.size ≤ h39.size := Nat.le_trans le242 sz40
          have le245 : h10.size ≤ h49.size := Nat.le_trans le244 sz51
          have le246 : h10.size ≤ h54.size := Nat.le_trans le245 sz56
          have le247 : h10.size ≤ h58.size := Nat.le_trans le246 sz60
          have le248 : h10.size ≤ h62.size := Nat.le_trans le247 sz64
          have le249 : h10.size ≤ h66.size := Nat.le_trans le248 sz68
          have le250 : h10.size ≤ h70.size := Nat.le_trans le249 sz72
          have le251 : h10.size ≤ h74.size := Nat.le_trans le250 sz76
          have ne243 : b10 ≠ b78 := own_nea (Or.inl (Nat.lt_of_lt_of_le lt12 (Nat.le_trans le251 (Nat.le_of_eq g78.symm))))
          have F252 : Arv Z h223 b10 k10 .char (6 : Int32) [(.int c0), (.int c1), (.int c2), (.int c3), (.int c4), (.int c5)] (.int (0 : Int32)) := ((((((((((((((((((V35.ext E39).other W49 ne237).other W54 ne237).other W58 ne237).other W62 ne237).other W66 ne237).other W70 ne237).other W74 ne237).ext E78).other W90 ne243).other W95 ne243).other W99 ne243).other W103 ne243).other W107 ne243).other W111 ne243).other W115 ne243).other W119 ne243).ext E223)
          have F253 : Old Z n0 h223 := (((((((((((((((((((((((((Oj.ext E10).wr W14 gn10).wr W19 gn10).wr W23 gn10).wr W27 gn10).wr W31 gn10).wr W35 gn10).ext E39).wr W49 gn39).wr W54 gn39).wr W58 gn39).wr W62 gn39).wr W66 gn39).wr W70 gn39).wr W74 gn39).ext E78).wr W90 gn78).wr W95 gn78).wr W99 gn78).wr W103 gn78).wr W107 gn78).wr W111 gn78).wr W115 gn78).wr W119 gn78).ext E223)
          have le254 : hj.size ≤ h223.size := Nat.le_trans le235 sz224
          have Zs236 : n0 ≤ h223.size := (Nat.le_trans Z0 (Nat.le_trans szj le254))
          refine own_pN X223 hx hZ hown (hw _ (own_mi 5 rfl)) (hw _ (own_mi 6 rfl)) (hw _ (own_mi 7 rfl)) (lenOf own_pd_285bC29V rfl) hws (kI := 4) (hw _ (own_mi 3 rfl)) (cs := [c0, c1, c2, c3, c4, c5]) (bs := ([c0, c1, c2, c3, c4, c5] : List Int32).map (fun c => c.toInt8.toInt32)) (n := 6) gn223 Zs236 A223 D223_value D223_coder F252 (O2.ext F253.2) P5 rfl rfl (by decide) (by decide) hp236 rfl (by decide) 1 (by decide) e223 [(.ref b223)] (by rw [hml]; rfl) rfl (Nat.le_of_eq rfl) (by decide : 5 + 1 ≤ _) (by decide : 33 + 6 ≤ _) 490 (hb hby at_487) rfl 6 39 rfl rfl ?_
          intro rv255 T255 Lc255 X255 hQ255
          obtain ⟨rfl, Nq255, Kq255, Ex255, Co255, t236, kb236, gt255, hs255, nt255, Va255, Ab255⟩ := hQ255
          have N255 := Fr.app N119 Nq255
          have sz257 : h223.size ≤ T255.heap.size := Kq255.1
          have cr257 : CHr Z consts_1 s.vm h223 s.vm T255.heap := CHr.keep Kq255 (sfS sf225 sf0) CR224.1
          have CR257 := CR224.trans cr257
          have sf258 : Safe Z consts_1 s.vm T255.heap t236 := Safe.keep Kq255 (sfS sf225 sf0) CR224.1 (Safe.new hs255)
          have lt259 : @LT.lt Nat _ t236 T255.heap.size := Ab255.lt
          show own_Rn p e below _ (T255.setTop (mkF m 490 #[.val (.int i0), .val (.int i1), .val (.int i2), .val (.int i3), .val (.int i4), .val (.int bs), .val (.int lm), .val (.int un), .val (.ref ca), .val (.int pv), .val (.ref b10), .val (.ref b39), .val (.ref b78), .unset, .unset, .unset, .unset, .unset] [(.ref b223)]))
          have hpL236 := hp236
          refine own_as X255 hx #[.val (.int i0), .val (.int i1), .val (.int i2), .val (.int i3), .val (.int i4), .val (.int bs), .val (.int lm), .val (.int un), .val (.ref ca), .val (.int pv), .val (.ref b10), .val (.ref b39), .val (.ref b78), .val (.ref b223), .unset, .unset, .unset, .unset] 492 (hb hby at_490) rfl rfl rfl ?_
          refine own_gt X255 hx 538 (hb hby at_492) (by decide) (by decide) ?_
          refine own_ic X255 hx (-1 : Int32) 539 (hb hby at_538) rfl rfl ?_
          refine own_is X255 hx #[.val (.int i0), .val (.int i1), .val (.int i2), .val (.int i3), .val (.int i4), .val (.int bs), .val (.int lm), .val (.int un), .val (.ref ca), .val (.int pv), .val (.ref b10), .val (.ref b39), .val (.ref b78), .val (.ref b223), .val (.int (-1 : Int32)), .unset, .unset, .unset] 541 (hb hby at_539) rfl rfl ?_
          refine own_il X255 hx 543 (hb hby at_541) rfl rfl ?_
          refine own_ifY X255 hx 681 (hb hby at_543) ((if0 _ _).trans (feq (hlm0 : ¬ (lm = (0 : Int32)))).2) (by decide) (by decide) ?_
          refine own_al X255 hx 683 (hb hby at_681) rfl rfl rfl ?_
          have le261 : hj.size ≤ T255.heap.size := Nat.le_trans le254 sz257
          have Zn260 : n0 ≤ T255.heap.size := (Nat.le_trans Z0 (Nat.le_trans szj le261))
          have F262 : Old Z n0 T255.heap := (F253.keep Kq255 (allS gn223 all0))
          refine own_cS X255 hx hZ (y := (⟨"com/example/cartiglio/cartiglio/core/HashAlgorithm", "byIanaName", "(Ljava/lang/String;)Ljava/util/Optional;"⟩ : MethodName)) hown (hw _ (own_mi 31 rfl)) (hw _ (own_mi 32 rfl)) (hw _ (own_mi 33 rfl)) (hw _ (own_mi 34 rfl)) (by decide) (rmFind l Z a0 hw [] (va) (kv) (t0) (t1) (t2) (x0) (y0) (kz0) (x1) (y1) (kz1) (x2) (y2) (kz2) (oe) (b223) (t236) (kb236) (([c0, c1, c2, c3, c4, c5] : List Int32)) (G1) T255.heap n0 Zn260 (OV) EV AV (OE) ZE ZF ZT0 ZN0 ZX00 ZX01 ZX02 ZX03 ZT1 ZN1 ZX10 ZX11 ZX12 ZX13 ZT2 ZN2 ZX20 ZX21 ZX22 ZX23 Ex255 Va255 Co255 Ab255 (hp236) (Nat.le_of_ble_eq_true rfl) (O2) (P5) F262) rfl [(.ref b223)] [] rfl (by rw [hml]; rfl) (lenOf own_pd_28Ljava2flang2fString3b29Ljava2futil2fOptional3b rfl) rfl 0 (Nat.le_of_eq rfl) (by decide) (by decide) (by decide : 6 + 2 ≤ _) (by decide : 39 + 4 ≤ _) 686 (hb hby at_683) rfl 8 43 rfl rfl ?_
          intro rv260 T260 Lc260 X260 hQ260
          obtain ⟨oo, rfl, Nq260, Kq260, G0_260, G1_260⟩ := hQ260
          have N260 := Fr.app N255 Nq260
          have sz263 : T255.heap.size ≤ T260.heap.size := Kq260.1
          have cr263 : CHr Z consts_1 s.vm T255.heap s.vm T260.heap := CHr.keep Kq260 sf0 CR257.1
          have CR263 := CR257.trans cr263
          have lt264 : @LT.lt Nat _ oo T260.heap.size := G0_260.lt
          show own_Rn p e below _ (T260.setTop (mkF m 686 #[.val (.int i0), .val (.int i1), .val (.int i2), .val (.int i3), .val (.int i4), .val (.int bs), .val (.int lm), .val (.int un), .val (.ref ca), .val (.int pv), .val (.ref b10), .val (.ref b39), .val (.ref b78), .val (.ref b223), .val (.int (-1 : Int32)), .unset, .unset, .unset] [(.ref oo)]))
          have Fo265 : Fld Z T260.heap oo "java/util/Optional" "value" "Ljava/lang/Object;" .null := by have h := G1_260; rwa [show own_fv ([c0, c1, c2, c3, c4, c5] : List Int32) t0 t1 t2 = .null by rw [own_fv, if_neg (fun h => absurd (congrArg List.length h) (Nat.ne_of_beq_eq_false rfl)), if_neg (fun h => absurd (congrArg List.length h) (Nat.ne_of_beq_eq_false rfl)), if_neg (fun h => absurd (congrArg List.length h) (Nat.ne_of_beq_eq_false rfl))]] at h
          refine own_as X260 hx #[.val (.int i0), .val (.int i1), .val (.int i2), .val (.int i3), .val (.int i4), .val (.int bs), .val (.int lm), .val (.int un), .val (.ref ca), .val (.int pv), .val (.ref b10), .val (.ref b39), .val (.ref b78), .val (.ref b223), .val (.int (-1 : Int32)), .val (.ref oo), .unset, .unset] 688 (hb hby at_686) rfl rfl rfl ?_
          refine own_il X260 hx 690 (hb hby at_688) rfl rfl ?_
          refine own_ifN X260 hx 693 (hb hby at_690) rfl ((if0 _ _).trans (tlt (by decide : (-1 : Int32) < (0 : Int32))).2.1) ?_
          refine own_al X260 hx 695 (hb hby at_693) rfl rfl rfl ?_
          have le267 : hj.size ≤ T260.heap.size := Nat.le_trans le261 sz263
          have Zn266 : n0 ≤ T260.heap.size := (Nat.le_trans Z0 (Nat.le_trans szj le267))
          refine own_cV X260 hx hZ (y := (⟨"java/util/Optional", "isPresent", "()Z"⟩ : MethodName)) (z := (⟨"java/util/Optional", "isPresent", "()Z"⟩ : MethodName)) hown (hw _ (own_mi 70 rfl)) (hw _ (own_mi 71 rfl)) (notFace_of_selects (args := #[]) (mvT hZ (hw _ (own_mi 73 rfl)))) (hw _ (own_mi 73 rfl)) (hw _ (own_mi 72 rfl)) (hw _ (own_mi 74 rfl)) (hw _ (own_mi 67 rfl)) (by decide) (rmIsN l Z a0 hw [] (oo) T260.heap n0 Zn266 Fo265) G0_260 rfl [] [] rfl (by rw [hml]; rfl) (lenOf own_pd_2829Z rfl) rfl 0 (Nat.le_of_eq rfl) (by decide) (by decide) (by decide : 8 + 0 ≤ _) (by decide : 43 + 0 ≤ _) 698 (hb hby at_695) rfl 8 43 rfl rfl ?_
          intro rv266 T266 Lc266 X266 hQ266
          obtain ⟨rfl, Nq266, eh266⟩ := hQ266
          have N266 := Fr.app N260 Nq266
          show own_Rn p e below _ (T266.setTop (mkF m 698 #[.val (.int i0), .val (.int i1), .val (.int i2), .val (.int i3), .val (.int i4), .val (.int bs), .val (.int lm), .val (.int un), .val (.ref ca), .val (.int pv), .val (.ref b10), .val (.ref b39), .val (.ref b78), .val (.ref b223), .val (.int (-1 : Int32)), .val (.ref oo), .unset, .unset] [(.int (0 : Int32))]))
          refine own_ifN X266 hx 701 (hb hby at_698) rfl ((if0 _ _).trans (teq ((by decide : (0 : Int32) = (0 : Int32)) : (0 : Int32) = (0 : Int32))).2) ?_
          refine own_ic X266 hx (1 : Int32) 702 (hb hby at_701) rfl rfl ?_
          refine own_gt X266 hx 706 (hb hby at_702) (by decide) (by decide) ?_
          exact own_retS X266 hS0 (by rw [eh266]; exact (Nat.le_trans szj le267)) (v := some (.int (nar .boolean (1 : Int32)))) (fun h => by rw [Bd.returns] at h; cases h) (fun fs hr => retN X266 hx (t := .boolean) Bd.returns (by simp) (hb hby at_706) hr) (by rw [eh266]; exact ⟨rfl, N266⟩) (by rw [hh, eh266]; exact CR263.trans (CHv.at X266 hZ hEL CR263.1)) (by decide) (by decide)
        · skip
          refine own_icY X119 hx 495 (hb hby at_478) (feq (hc222 : ¬ (lm = (1 : Int32)))).2 (by decide) (by decide) ?_
          refine own_il X119 hx 497 (hb hby at_495) rfl rfl ?_
          refine own_ic X119 hx (2 : Int32) 498 (hb hby at_497) rfl rfl ?_
          by_cases hc268 : lm = (2 : Int32)
          · skip
            refine own_icN X119 hx 501 (hb hby at_498) rfl (teq (hc268 : lm = (2 : Int32))).2 ?_
            obtain ⟨T269, h269, X269, e269, E269, A269, D269, -, st269⟩ := newO X119 hx hZ hown (hw _ (own_mi 2 rfl)) (hw _ (own_mi 3 rfl)) (hw _ (own_mi 4 rfl)) e119 (g := (mkF m 501 #[.val (.int i0), .val (.int i1), .val (.int i2), .val (.int i3), .val (.int i4), .val (.int bs), .val (.int lm), .val (.int un), .val (.ref ca), .val (.int pv), .val (.ref b10), .val (.ref b39), .val (.ref b78), .unset, .unset, .unset, .unset, .unset] [])) rfl (hb hby at_501) (by decide) (by decide)
            obtain ⟨b269, g269⟩ : ∃ z, z = h119.size := ⟨_, rfl⟩
            rw [← g269] at A269 D269 st269
            refine own_go st269 ?_
            have sz270 : h119.size ≤ h269.size := E269.1
            have cr270 : CHr Z consts_1 s.vm h119 s.vm h269 := CHr.ext E269 CR121.1
            have CR270 := CR121.trans cr270
            have sf271 : Safe Z consts_1 s.vm h269 b269 := Safe.ext E269 CR121.1 (Safe.new (Nat.le_of_eq g269.symm))
            have lt272 : @LT.lt Nat _ b269 h269.size := A269.lt
            have le273 : hj.size ≤ h78.size := Nat.le_trans le87 sz79
            have le274 : hj.size ≤ h90.size := Nat.le_trans le273 sz92
            have le275 : hj.size ≤ h95.size := Nat.le_trans le274 sz97
            have le276 : hj.size ≤ h99.size := Nat.le_trans le275 sz101
            have le277 : hj.size ≤ h103.size := Nat.le_trans le276 sz105
            have le278 : hj.size ≤ h107.size := Nat.le_trans le277 sz109
            have le279 : hj.size ≤ h111.size := Nat.le_trans le278 sz113
            have le280 : hj.size ≤ h115.size := Nat.le_trans le279 sz117
            have le281 : hj.size ≤ h119.size := Nat.le_trans le280 sz121
            have gn269 : n0 ≤ b269 := (Nat.le_trans (Nat.le_trans Z0 (Nat.le_trans szj le281)) (Nat.le_of_eq g269.symm))
            have D269_coder : Fld Z h269 b269 "java/lang/String" "coder" "B" (.int (0 : Int32)) := D269 (Or.inr (hw _ (own_mi 28 rfl))) (ty := .byte) own_fd_B
            have D269_value : Fld Z h269 b269 "java/lang/String" "value" "[B" .null := D269 (Or.inr (hw _ (own_mi 30 rfl))) (ty := (.array .byte)) own_fd_5bB
            show own_Rn p e below _ (T269.setTop (mkF m 504 #[.val (.int i0), .val (.int i1), .val (.int i2), .val (.int i3), .val (.int i4), .val (.int bs), .val (.int lm), .val (.int un), .val (.ref ca), .val (.int pv), .val (.ref b10), .val (.ref b39), .val (.ref b78), .unset, .unset, .unset, .unset, .unset] [(.ref b269)]))
            refine own_dp X269 hx 505 (hb hby at_504) rfl rfl ?_
            refine own_al X269 hx 507 (hb hby at_505) rfl rfl rfl ?_
            have hp282 : ∀ c ∈ ([c0, c1, c2, c3, c4, c5, c6, c7] : List Int32), ¬ c < 0 ∧ ¬ (255 : Int32) < c := by
              intro c hc
              simp only [List.mem_cons, List.not_mem_nil, or_false] at hc
              rcases hc with rfl | rfl | rfl | rfl | rfl | rfl | rfl | rfl
              · exact rc0
              · exact rc1
              · exact rc2
              · exact rc3
              · exact rc4
              · exact rc5
              · exact rc6
              · exact rc7
            have F283 : Arv Z h269 b78 k78 .char (8 : Int32) [(.int c0), (.int c1), (.int c2), (.int c3), (.int c4), (.int c5), (.int c6), (.int c7)] (.int (0 : Int32)) := (V119.ext E269)
            have F284 : Old Z n0 h269 := (((((((((((((((((((((((((Oj.ext E10).wr W14 gn10).wr W19 gn10).wr W23 gn10).wr W27 gn10).wr W31 gn10).wr W35 gn10).ext E39).wr W49 gn39).wr W54 gn39).wr W58 gn39).wr W62 gn39).wr W66 gn39).wr W70 gn39).wr W74 gn39).ext E78).wr W90 gn78).wr W95 gn78).wr W99 gn78).wr W103 gn78).wr W107 gn78).wr W111 gn78).wr W115 gn78).wr W119 gn78).ext E269)
            have le285 : hj.size ≤ h269.size := Nat.le_trans le281 sz270
            have Zs282 : n0 ≤ h269.size := (Nat.le_trans Z0 (Nat.le_trans szj le285))
            refine own_pN X269 hx hZ hown (hw _ (own_mi 5 rfl)) (hw _ (own_mi 6 rfl)) (hw _ (own_mi 7 rfl)) (lenOf own_pd_285bC29V rfl) hws (kI := 4) (hw _ (own_mi 3 rfl)) (cs := [c0, c1, c2, c3, c4, c5, c6, c7]) (bs := ([c0, c1, c2, c3, c4, c5, c6, c7] : List Int32).map (fun c => c.toInt8.toInt32)) (n := 8) gn269 Zs282 A269 D269_value D269_coder F283 (O2.ext F284.2) P5 rfl rfl (by decide) (by decide) hp282 rfl (by decide) 1 (by decide) e269 [(.ref b269)] (by rw [hml]; rfl) rfl (Nat.le_of_eq rfl) (by decide : 5 + 1 ≤ _) (by decide : 33 + 8 ≤ _) 510 (hb hby at_507) rfl 6 41 rfl rfl ?_
            intro rv286 T286 Lc286 X286 hQ286
            obtain ⟨rfl, Nq286, Kq286, Ex286, Co286, t282, kb282, gt286, hs286, nt286, Va286, Ab286⟩ := hQ286
            have N286 := Fr.app N119 Nq286
            have sz288 : h269.size ≤ T286.heap.size := Kq286.1
            have cr288 : CHr Z consts_1 s.vm h269 s.vm T286.heap := CHr.keep Kq286 (sfS sf271 sf0) CR270.1
            have CR288 := CR270.trans cr288
            have sf289 : Safe Z consts_1 s.vm T286.heap t282 := Safe.keep Kq286 (sfS sf271 sf0) CR270.1 (Safe.new hs286)
            have lt290 : @LT.lt Nat _ t282 T286.heap.size := Ab286.lt
            show own_Rn p e below _ (T286.setTop (mkF m 510 #[.val (.int i0), .val (.int i1), .val (.int i2), .val (.int i3), .val (.int i4), .val (.int bs), .val (.int lm), .val (.int un), .val (.ref ca), .val (.int pv), .val (.ref b10), .val (.ref b39), .val (.ref b78), .unset, .unset, .unset, .unset, .unset] [(.ref b269)]))
            have hpL282 := hp282
            refine own_as X286 hx #[.val (.int i0), .val (.int i1), .val (.int i2), .val (.int i3), .val (.int i4), .val (.int bs), .val (.int lm), .val (.int un), .val (.ref ca), .val (.int pv), .val (.ref b10), .val (.ref b39), .val (.ref b78), .val (.ref b269), .unset, .unset, .unset, .unset] 512 (hb hby at_510) rfl rfl rfl ?_
            refine own_gt X286 hx 538 (hb hby at_512) (by decide) (by decide) ?_
            refine own_ic X286 hx (-1 : Int32) 539 (hb hby at_538) rfl rfl ?_
            refine own_is X286 hx #[.val (.int i0), .val (.int i1), .val (.int i2), .val (.int i3), .val (.int i4), .val (.int bs), .val (.int lm), .val (.int un), .val (.ref ca), .val (.int pv), .val (.ref b10), .val (.ref b39), .val (.ref b78), .val (.ref b269), .val (.int (-1 : Int32)), .unset, .unset, .unset] 541 (hb hby at_539) rfl rfl ?_
            refine own_il X286 hx 543 (hb hby at_541) rfl rfl ?_
            refine own_ifY X286 hx 681 (hb hby at_543) ((if0 _ _).trans (feq (hlm0 : ¬ (lm = (0 : Int32)))).2) (by decide) (by decide) ?_
            refine own_al X286 hx 683 (hb hby at_681) rfl rfl rfl ?_
            have le292 : hj.size ≤ T286.heap.size := Nat.le_trans le285 sz288
            have Zn291 : n0 ≤ T286.heap.size := (Nat.le_trans Z0 (Nat.le_trans szj le292))
            have F293 : Old Z n0 T286.heap := (F284.keep Kq286 (allS gn269 all0))
            refine own_cS X286 hx hZ (y := (⟨"com/example/cartiglio/cartiglio/core/HashAlgorithm", "byIanaName", "(Ljava/lang/String;)Ljava/util/Optional;"⟩ : MethodName)) hown (hw _ (own_mi 31 rfl)) (hw _ (own_mi 32 rfl)) (hw _ (own_mi 33 rfl)) (hw _ (own_mi 34 rfl)) (by decide) (rmFind l Z a0 hw [] (va) (kv) (t0) (t1) (t2) (x0) (y0) (kz0) (x1) (y1) (kz1) (x2) (y2) (kz2) (oe) (b269) (t282) (kb282) (([c0, c1, c2, c3, c4, c5, c6, c7] : List Int32)) (G1) T286.heap n0 Zn291 (OV) EV AV (OE) ZE ZF ZT0 ZN0 ZX00 ZX01 ZX02 ZX03 ZT1 ZN1 ZX10 ZX11 ZX12 ZX13 ZT2 ZN2 ZX20 ZX21 ZX22 ZX23 Ex286 Va286 Co286 Ab286 (hp282) (Nat.le_of_ble_eq_true rfl) (O2) (P5) F293) rfl [(.ref b269)] [] rfl (by rw [hml]; rfl) (lenOf own_pd_28Ljava2flang2fString3b29Ljava2futil2fOptional3b rfl) rfl 0 (Nat.le_of_eq rfl) (by decide) (by decide) (by decide : 6 + 2 ≤ _) (by decide : 41 + 4 ≤ _) 686 (hb hby at_683) rfl 8 45 rfl rfl ?_
            intro rv291 T291 Lc291 X291 hQ291
            obtain ⟨oo, rfl, Nq291, Kq291, G0_291, G1_291⟩ := hQ291
            have N291 := Fr.app N286 Nq291
            have sz294 : T286.heap.size ≤ T291.heap.size := Kq291.1
            have cr294 : CHr Z consts_1 s.vm T286.heap s.vm T291.heap := CHr.keep Kq291 sf0 CR288.1
            have CR294 := CR288.trans cr294
            have lt295 : @LT.lt Nat _ oo T291.heap.size := G0_291.lt
            show own_Rn p e below _ (T291.setTop (mkF m 686 #[.val (.int i0), .val (.int i1), .val (.int i2), .val (.int i3), .val (.int i4), .val (.int bs), .val (.int lm), .val (.int un), .val (.ref ca), .val (.int pv), .val (.ref b10), .val (.ref b39), .val (.ref b78), .val (.ref b269), .val (.int (-1 : Int32)), .unset, .unset, .unset] [(.ref oo)]))
            have Fo296 : Fld Z T291.heap oo "java/util/Optional" "value" "Ljava/lang/Object;" .null := by have h := G1_291; rwa [show own_fv ([c0, c1, c2, c3, c4, c5, c6, c7] : List Int32) t0 t1 t2 = .null by rw [own_fv, if_neg (fun h => absurd (congrArg List.length h) (Nat.ne_of_beq_eq_false rfl)), if_neg (fun h => absurd (congrArg List.length h) (Nat.ne_of_beq_eq_false rfl)), if_neg (fun h => absurd (congrArg List.length h) (Nat.ne_of_beq_eq_false rfl))]] at h
            refine own_as X291 hx #[.val (.int i0), .val (.int i1), .val (.int i2), .val (.int i3), .val (.int i4), .val (.int bs), .val (.int lm), .val (.int un), .val (.ref ca), .val (.int pv), .val (.ref b10), .val (.ref b39), .val (.ref b78), .val (.ref b269), .val (.int (-1 : Int32)), .val (.ref oo), .unset, .unset] 688 (hb hby at_686) rfl rfl rfl ?_
            refine own_il X291 hx 690 (hb hby at_688) rfl rfl ?_
            refine own_ifN X291 hx 693 (hb hby at_690) rfl ((if0 _ _).trans (tlt (by decide : (-1 : Int32) < (0 : Int32))).2.1) ?_
            refine own_al X291 hx 695 (hb hby at_693) rfl rfl rfl ?_
            have le298 : hj.size ≤ T291.heap.size := Nat.le_trans le292 sz294
            have Zn297 : n0 ≤ T291.heap.size := (Nat.le_trans Z0 (Nat.le_trans szj le298))
            refine own_cV X291 hx hZ (y := (⟨"java/util/Optional", "isPresent", "()Z"⟩ : MethodName)) (z := (⟨"java/util/Optional", "isPresent", "()Z"⟩ : MethodName)) hown (hw _ (own_mi 70 rfl)) (hw _ (own_mi 71 rfl)) (notFace_of_selects (args := #[]) (mvT hZ (hw _ (own_mi 73 rfl)))) (hw _ (own_mi 73 rfl)) (hw _ (own_mi 72 rfl)) (hw _ (own_mi 74 rfl)) (hw _ (own_mi 67 rfl)) (by decide) (rmIsN l Z a0 hw [] (oo) T291.heap n0 Zn297 Fo296) G0_291 rfl [] [] rfl (by rw [hml]; rfl) (lenOf own_pd_2829Z rfl) rfl 0 (Nat.le_of_eq rfl) (by decide) (by decide) (by decide : 8 + 0 ≤ _) (by decide : 45 + 0 ≤ _) 698 (hb hby at_695) rfl 8 45 rfl rfl ?_
            intro rv297 T297 Lc297 X297 hQ297
            obtain ⟨rfl, Nq297, eh297⟩ := hQ297
            have N297 := Fr.app N291 Nq297
            show own_Rn p e below _ (T297.setTop (mkF m 698 #[.val (.int i0), .val (.int i1), .val (.int i2), .val (.int i3), .val (.int i4), .val (.int bs), .val (.int lm), .val (.int un), .val (.ref ca), .val (.int pv), .val (.ref b10), .val (.ref b39), .val (.ref b78), .val (.ref b269), .val (.int (-1 : Int32)), .val (.ref oo), .unset, .unset] [(.int (0 : Int32))]))
            refine own_ifN X297 hx 701 (hb hby at_698) rfl ((if0 _ _).trans (teq ((by decide : (0 : Int32) = (0 : Int32)) : (0 : Int32) = (0 : Int32))).2) ?_
            refine own_ic X297 hx (1 : Int32) 702 (hb hby at_701) rfl rfl ?_
            refine own_gt X297 hx 706 (hb hby at_702) (by decide) (by decide) ?_
            exact own_retS X297 hS0 (by rw [eh297]; exact (Nat.le_trans szj le298)) (v := some (.int (nar .boolean (1 : Int32)))) (fun h => by rw [Bd.returns] at h; cases h) (fun fs hr => retN X297 hx (t := .boolean) Bd.returns (by simp) (hb hby at_706) hr) (by rw [eh297]; exact ⟨rfl, N297⟩) (by rw [hh, eh297]; exact CR294.trans (CHv.at X297 hZ hEL CR294.1)) (by decide) (by decide)
          · skip
            refine own_icY X119 hx 515 (hb hby at_498) (feq (hc268 : ¬ (lm = (2 : Int32)))).2 (by decide) (by decide) ?_
            refine own_il X119 hx 517 (hb hby at_515) rfl rfl ?_
            by_cases hc299 : un = (0 : Int32)
            · skip
              refine own_ifY X119 hx 526 (hb hby at_517) ((if0 _ _).trans (teq (hc299 : un = (0 : Int32))).1) (by decide) (by decide) ?_
              obtain ⟨T300, h300, X300, e300, E300, A300, D300, -, st300⟩ := newO X119 hx hZ hown (hw _ (own_mi 2 rfl)) (hw _ (own_mi 3 rfl)) (hw _ (own_mi 4 rfl)) e119 (g := (mkF m 526 #[.val (.int i0), .val (.int i1), .val (.int i2), .val (.int i3), .val (.int i4), .val (.int bs), .val (.int lm), .val (.int un), .val (.ref ca), .val (.int pv), .val (.ref b10), .val (.ref b39), .val (.ref b78), .unset, .unset, .unset, .unset, .unset] [])) rfl (hb hby at_526) (by decide) (by decide)
              obtain ⟨b300, g300⟩ : ∃ z, z = h119.size := ⟨_, rfl⟩
              rw [← g300] at A300 D300 st300
              refine own_go st300 ?_
              have sz301 : h119.size ≤ h300.size := E300.1
              have cr301 : CHr Z consts_1 s.vm h119 s.vm h300 := CHr.ext E300 CR121.1
              have CR301 := CR121.trans cr301
              have sf302 : Safe Z consts_1 s.vm h300 b300 := Safe.ext E300 CR121.1 (Safe.new (Nat.le_of_eq g300.symm))
              have lt303 : @LT.lt Nat _ b300 h300.size := A300.lt
              have le304 : hj.size ≤ h78.size := Nat.le_trans le87 sz79
              have le305 : hj.size ≤ h90.size := Nat.le_trans le304 sz92
              have le306 : hj.size ≤ h95.size := Nat.le_trans le305 sz97
              have le307 : hj.size ≤ h99.size := Nat.le_trans le306 sz101
              have le308 : hj.size ≤ h103.size := Nat.le_trans le307 sz105
              have le309 : hj.size ≤ h107.size := Nat.le_trans le308 sz109
              have le310 : hj.size ≤ h111.size := Nat.le_trans le309 sz113
              have le311 : hj.size ≤ h115.size := Nat.le_trans le310 sz117
              have le312 : hj.size ≤ h119.size := Nat.le_trans le311 sz121
              have gn300 : n0 ≤ b300 := (Nat.le_trans (Nat.le_trans Z0 (Nat.le_trans szj le312)) (Nat.le_of_eq g300.symm))
              have D300_coder : Fld Z h300 b300 "java/lang/String" "coder" "B" (.int (0 : Int32)) := D300 (Or.inr (hw _ (own_mi 28 rfl))) (ty := .byte) own_fd_B
              have D300_value : Fld Z h300 b300 "java/lang/String" "value" "[B" .null := D300 (Or.inr (hw _ (own_mi 30 rfl))) (ty := (.array .byte)) own_fd_5bB
              show own_Rn p e below _ (T300.setTop (mkF m 529 #[.val (.int i0), .val (.int i1), .val (.int i2), .val (.int i3), .val (.int i4), .val (.int bs), .val (.int lm), .val (.int un), .val (.ref ca), .val (.int pv), .val (.ref b10), .val (.ref b39), .val (.ref b78), .unset, .unset, .unset, .unset, .unset] [(.ref b300)]))
              refine own_dp X300 hx 530 (hb hby at_529) rfl rfl ?_
              refine own_ic X300 hx (0 : Int32) 531 (hb hby at_530) rfl rfl ?_
              obtain ⟨T314, h314, k314, X314, e314, E314, A314, st314⟩ := newP X300 hx hZ (hw _ (own_mi 0 rfl)) e300 (g := (mkF m 531 #[.val (.int i0), .val (.int i1), .val (.int i2), .val (.int i3), .val (.int i4), .val (.int bs), .val (.int lm), .val (.int un), .val (.ref ca), .val (.int pv), .val (.ref b10), .val (.ref b39), .val (.ref b78), .unset, .unset, .unset, .unset, .unset] [(.int (0 : Int32)), (.ref b300), (.ref b300)])) rfl (hb hby at_531) rfl (by decide) (cap := 0) (by decide) (by decide) (by decide) (by decide)
              obtain ⟨b314, g314⟩ : ∃ z, z = h300.size := ⟨_, rfl⟩
              rw [← g314] at A314 st314
              refine own_go st314 ?_
              have sz315 : h300.size ≤ h314.size := E314.1
              have cr315 : CHr Z consts_1 s.vm h300 s.vm h314 := CHr.ext E314 CR301.1
              have CR315 := CR301.trans cr315
              have le316 : hj.size ≤ h300.size := Nat.le_trans le312 sz301
              have gn314 : n0 ≤ b314 := (Nat.le_trans (Nat.le_trans Z0 (Nat.le_trans szj le316)) (Nat.le_of_eq g314.symm))
              have V314 : Arv Z h314 b314 k314 .char (0 : Int32) [] (.int (0 : Int32)) := (Arv.new A314 (by decide)).pad (pad_rep [] _ 0)
              have lt317 : @LT.lt Nat _ b314 h314.size := V314.lt
              show own_Rn p e below _ (T314.setTop (mkF m 533 #[.val (.int i0), .val (.int i1), .val (.int i2), .val (.int i3), .val (.int i4), .val (.int bs), .val (.int lm), .val (.int un), .val (.ref ca), .val (.int pv), .val (.ref b10), .val (.ref b39), .val (.ref b78), .unset, .unset, .unset, .unset, .unset] [(.ref b314), (.ref b300), (.ref b300)]))
              have le319 : hj.size ≤ h314.size := Nat.le_trans le316 sz315
              have Zn318 : n0 ≤ h314.size := (Nat.le_trans Z0 (Nat.le_trans szj le319))
              have F320 : Exa Z h314 b300 "java/lang/String" := (A300.ext E314)
              have F321 : Fld Z h314 b300 "java/lang/String" "value" "[B" .null := (D300_value.ext E314)
              have F322 : Fld Z h314 b300 "java/lang/String" "coder" "B" (.int (0 : Int32)) := (D300_coder.ext E314)
              have sf324 : Safe Z consts_1 s.vm h314 b300 := (CHr.safe cr315 (Nat.lt_of_lt_of_le lt303 (Nat.le_refl _)) sf302)
              refine own_sI X314 hx hZ (y := (⟨"java/lang/String", "<init>", "([C)V"⟩ : MethodName)) (rm := ({ frames := 2, cells := 4, slots := 8, locals := 29 } : Room)) (sf := [b300]) rfl hown (hw _ (own_mi 5 rfl)) (hw _ (own_mi 6 rfl)) (hw _ (own_mi 7 rfl)) (hw _ (own_mi 4 rfl)) (by decide) (rmSI1 l Z a0 hw [] (b300) (b314) (k314) h314 n0 Zn318 hEL F320 F321 F322 gn300 V314) hEL CR315.1 (sfS sf324 sf0) e314 [(.ref b314)] [(.ref b300)] rfl (by rw [hml]; rfl) (lenOf own_pd_285bC29V rfl) rfl 1 (Nat.le_of_eq rfl) (by decide) (by decide) (by decide : 6 + 4 ≤ _) (by decide : 33 + 8 ≤ _) 536 (hb hby at_533) rfl 10 41 rfl rfl ?_
              intro rv318 T318 Lc318 X318 hS318 hG318 hQ318 CR318q
              obtain ⟨tt, kk, rfl, Nq318, Kq318, G0_318, G1_318, G2_318⟩ := hQ318
              have N318 := Fr.app N119 Nq318
              obtain ⟨Xr318, hSr318, hZ318, hown318⟩ := rebS hS0 (n1 := T314.heap.size) (by rw [e314]; exact (Nat.le_trans szj le319)) X318 hS318 hG318 hZ hown
              have sz326 : h314.size ≤ T318.heap.size := Kq318.1
              have cr326 : CHr Z consts_1 s.vm h314 T318.vm T318.heap := CR318q
              have CR326 := CR315.trans cr326
              have lt327 : @LT.lt Nat _ tt T318.heap.size := G2_318.lt
              show own_Rn p e below _ (T318.setTop (mkF m 536 #[.val (.int i0), .val (.int i1), .val (.int i2), .val (.int i3), .val (.int i4), .val (.int bs), .val (.int lm), .val (.int un), .val (.ref ca), .val (.int pv), .val (.ref b10), .val (.ref b39), .val (.ref b78), .unset, .unset, .unset, .unset, .unset] [(.ref b300)]))
              refine own_as Xr318 hx #[.val (.int i0), .val (.int i1), .val (.int i2), .val (.int i3), .val (.int i4), .val (.int bs), .val (.int lm), .val (.int un), .val (.ref ca), .val (.int pv), .val (.ref b10), .val (.ref b39), .val (.ref b78), .val (.ref b300), .unset, .unset, .unset, .unset] 538 (hb hby at_536) rfl rfl rfl ?_
              refine own_ic Xr318 hx (-1 : Int32) 539 (hb hby at_538) rfl rfl ?_
              refine own_is Xr318 hx #[.val (.int i0), .val (.int i1), .val (.int i2), .val (.int i3), .val (.int i4), .val (.int bs), .val (.int lm), .val (.int un), .val (.ref ca), .val (.int pv), .val (.ref b10), .val (.ref b39), .val (.ref b78), .val (.ref b300), .val (.int (-1 : Int32)), .unset, .unset, .unset] 541 (hb hby at_539) rfl rfl ?_
              refine own_il Xr318 hx 543 (hb hby at_541) rfl rfl ?_
              refine own_ifY Xr318 hx 681 (hb hby at_543) ((if0 _ _).trans (feq (hlm0 : ¬ (lm = (0 : Int32)))).2) (by decide) (by decide) ?_
              refine own_al Xr318 hx 683 (hb hby at_681) rfl rfl rfl ?_
              have hp328 : ∀ c ∈ ([] : List Int32), ¬ c < 0 ∧ ¬ (255 : Int32) < c := by
                intro c hc; exact nomatch hc
              have le330 : hj.size ≤ T318.heap.size := Nat.le_trans le319 sz326
              have Zn329 : n0 ≤ T318.heap.size := (Nat.le_trans Z0 (Nat.le_trans szj le330))
              have F331 : Exa Z T318.heap b300 "java/lang/String" := (F320.keep Kq318)
              have F332 : Old Z n0 T318.heap := (((((((((((((((((((((((((((Oj.ext E10).wr W14 gn10).wr W19 gn10).wr W23 gn10).wr W27 gn10).wr W31 gn10).wr W35 gn10).ext E39).wr W49 gn39).wr W54 gn39).wr W58 gn39).wr W62 gn39).wr W66 gn39).wr W70 gn39).wr W74 gn39).ext E78).wr W90 gn78).wr W95 gn78).wr W99 gn78).wr W103 gn78).wr W107 gn78).wr W111 gn78).wr W115 gn78).wr W119 gn78).ext E300).ext E314).keep Kq318 (allS gn300 all0))
              refine own_cS Xr318 hx hZ318 (y := (⟨"com/example/cartiglio/cartiglio/core/HashAlgorithm", "byIanaName", "(Ljava/lang/String;)Ljava/util/Optional;"⟩ : MethodName)) hown318 (hw _ (own_mi 31 rfl)) (hw _ (own_mi 32 rfl)) (hw _ (own_mi 33 rfl)) (hw _ (own_mi 34 rfl)) (by decide) (rmFind l Z a0 hw [] (va) (kv) (t0) (t1) (t2) (x0) (y0) (kz0) (x1) (y1) (kz1) (x2) (y2) (kz2) (oe) (b300) (tt) (kk) (([] : List Int32)) (G1) T318.heap n0 Zn329 (OV) EV AV (OE) ZE ZF ZT0 ZN0 ZX00 ZX01 ZX02 ZX03 ZT1 ZN1 ZX10 ZX11 ZX12 ZX13 ZT2 ZN2 ZX20 ZX21 ZX22 ZX23 F331 G0_318 G1_318 G2_318 (hp328) (Nat.le_of_ble_eq_true rfl) (O2) (P5) F332) rfl [(.ref b300)] [] rfl (by rw [hml]; rfl) (lenOf own_pd_28Ljava2flang2fString3b29Ljava2futil2fOptional3b rfl) rfl 0 (Nat.le_of_eq rfl) (by decide) (by decide) (by decide : 10 + 2 ≤ _) (by decide : 41 + 4 ≤ _) 686 (hb hby at_683) rfl 12 45 rfl rfl ?_
              intro rv329 T329 Lc329 X329 hQ329
              obtain ⟨oo, rfl, Nq329, Kq329, G0_329, G1_329⟩ := hQ329
              have N329 := Fr.app N318 Nq329
              have sz333 : T318.heap.size ≤ T329.heap.size := Kq329.1
              have cr333 : CHr Z consts_1 T318.vm T318.heap T318.vm T329.heap := CHr.keep Kq329 sf0 CR326.1
              have CR333 := CR326.trans cr333
              have lt334 : @LT.lt Nat _ oo T329.heap.size := G0_329.lt
              show own_Rn p e below _ (T329.setTop (mkF m 686 #[.val (.int i0), .val (.int i1), .val (.int i2), .val (.int i3), .val (.int i4), .val (.int bs), .val (.int lm), .val (.int un), .val (.ref ca), .val (.int pv), .val (.ref b10), .val (.ref b39), .val (.ref b78), .val (.ref b300), .val (.int (-1 : Int32)), .unset, .unset, .unset] [(.ref oo)]))
              have Fo335 : Fld Z T329.heap oo "java/util/Optional" "value" "Ljava/lang/Object;" .null := by have h := G1_329; rwa [show own_fv ([] : List Int32) t0 t1 t2 = .null by rw [own_fv, if_neg (fun h => absurd (congrArg List.length h) (Nat.ne_of_beq_eq_false rfl)), if_neg (fun h => absurd (congrArg List.length h) (Nat.ne_of_beq_eq_false rfl)), if_neg (fun h => absurd (congrArg List.length h) (Nat.ne_of_beq_eq_false rfl))]] at h
              refine own_as X329 hx #[.val (.int i0), .val (.int i1), .val (.int i2), .val (.int i3), .val (.int i4), .val (.int bs), .val (.int lm), .val (.int un), .val (.ref ca), .val (.int pv), .val (.ref b10), .val (.ref b39), .val (.ref b78), .val (.ref b300), .val (.int (-1 : Int32)), .val (.ref oo), .unset, .unset] 688 (hb hby at_686) rfl rfl rfl ?_
              refine own_il X329 hx 690 (hb hby at_688) rfl rfl ?_
              refine own_ifN X329 hx 693 (hb hby at_690) rfl ((if0 _ _).trans (tlt (by decide : (-1 : Int32) < (0 : Int32))).2.1) ?_
              refine own_al X329 hx 695 (hb hby at_693) rfl rfl rfl ?_
              have le337 : hj.size ≤ T329.heap.size := Nat.le_trans le330 sz333
              have Zn336 : n0 ≤ T329.heap.size := (Nat.le_trans Z0 (Nat.le_trans szj le337))
              refine own_cV X329 hx hZ318 (y := (⟨"java/util/Optional", "isPresent", "()Z"⟩ : MethodName)) (z := (⟨"java/util/Optional", "isPresent", "()Z"⟩ : MethodName)) hown318 (hw _ (own_mi 70 rfl)) (hw _ (own_mi 71 rfl)) (notFace_of_selects (args := #[]) (mvT hZ318 (hw _ (own_mi 73 rfl)))) (hw _ (own_mi 73 rfl)) (hw _ (own_mi 72 rfl)) (hw _ (own_mi 74 rfl)) (hw _ (own_mi 67 rfl)) (by decide) (rmIsN l Z a0 hw [] (oo) T329.heap n0 Zn336 Fo335) G0_329 rfl [] [] rfl (by rw [hml]; rfl) (lenOf own_pd_2829Z rfl) rfl 0 (Nat.le_of_eq rfl) (by decide) (by decide) (by decide : 12 + 0 ≤ _) (by decide : 45 + 0 ≤ _) 698 (hb hby at_695) rfl 12 45 rfl rfl ?_
              intro rv336 T336 Lc336 X336 hQ336
              obtain ⟨rfl, Nq336, eh336⟩ := hQ336
              have N336 := Fr.app N329 Nq336
              show own_Rn p e below _ (T336.setTop (mkF m 698 #[.val (.int i0), .val (.int i1), .val (.int i2), .val (.int i3), .val (.int i4), .val (.int bs), .val (.int lm), .val (.int un), .val (.ref ca), .val (.int pv), .val (.ref b10), .val (.ref b39), .val (.ref b78), .val (.ref b300), .val (.int (-1 : Int32)), .val (.ref oo), .unset, .unset] [(.int (0 : Int32))]))
              refine own_ifN X336 hx 701 (hb hby at_698) rfl ((if0 _ _).trans (teq ((by decide : (0 : Int32) = (0 : Int32)) : (0 : Int32) = (0 : Int32))).2) ?_
              refine own_ic X336 hx (1 : Int32) 702 (hb hby at_701) rfl rfl ?_
              refine own_gt X336 hx 706 (hb hby at_702) (by decide) (by decide) ?_
              exact own_retS X336 hSr318 (by rw [eh336]; exact sz333) (v := some (.int (nar .boolean (1 : Int32)))) (fun h => by rw [Bd.returns] at h; cases h) (fun fs hr => retN X336 hx (t := .boolean) Bd.returns (by simp) (hb hby at_706) hr) (by rw [eh336]; exact ⟨rfl, N336⟩) (by rw [hh, eh336]; exact CR333.trans (CHv.at X336 hZ318 hEL CR333.1)) (by decide) (by decide)
            · skip
              refine own_ifN X119 hx 520 (hb hby at_517) rfl ((if0 _ _).trans (feq (hc299 : ¬ (un = (0 : Int32)))).1) ?_
              refine own_go (fun tq kq => XS.aconstNull X119.here hx rfl (hb hby at_520) kq) ?_
              show own_Rn p e below _ (T119.setTop (mkF m 521 #[.val (.int i0), .val (.int i1), .val (.int i2), .val (.int i3), .val (.int i4), .val (.int bs), .val (.int lm), .val (.int un), .val (.ref ca), .val (.int pv), .val (.ref b10), .val (.ref b39), .val (.ref b78), .unset, .unset, .unset, .unset, .unset] [.null]))
              refine own_as X119 hx #[.val (.int i0), .val (.int i1), .val (.int i2), .val (.int i3), .val (.int i4), .val (.int bs), .val (.int lm), .val (.int un), .val (.ref ca), .val (.int pv), .val (.ref b10), .val (.ref b39), .val (.ref b78), .val .null, .unset, .unset, .unset, .unset] 523 (hb hby at_521) rfl rfl rfl ?_
              refine own_gt X119 hx 538 (hb hby at_523) (by decide) (by decide) ?_
              refine own_ic X119 hx (-1 : Int32) 539 (hb hby at_538) rfl rfl ?_
              refine own_is X119 hx #[.val (.int i0), .val (.int i1), .val (.int i2), .val (.int i3), .val (.int i4), .val (.int bs), .val (.int lm), .val (.int un), .val (.ref ca), .val (.int pv), .val (.ref b10), .val (.ref b39), .val (.ref b78), .val .null, .val (.int (-1 : Int32)), .unset, .unset, .unset] 541 (hb hby at_539) rfl rfl ?_
              refine own_il X119 hx 543 (hb hby at_541) rfl rfl ?_
              refine own_ifY X119 hx 681 (hb hby at_543) ((if0 _ _).trans (feq (hlm0 : ¬ (lm = (0 : Int32)))).2) (by decide) (by decide) ?_
              refine own_al X119 hx 683 (hb hby at_681) rfl rfl rfl ?_
              have le339 : hj.size ≤ h78.size := Nat.le_trans le87 sz79
              have le340 : hj.size ≤ h90.size := Nat.le_trans le339 sz92
              have le341 : hj.size ≤ h95.size := Nat.le_trans le340 sz97
              have le342 : hj.size ≤ h99.size := Nat.le_trans le341 sz101
              have le343 : hj.size ≤ h103.size := Nat.le_trans le342 sz105
              have le344 : hj.size ≤ h107.size := Nat.le_trans le343 sz109
              have le345 : hj.size ≤ h111.size := Nat.le_trans le344 sz113
              have le346 : hj.size ≤ h115.size := Nat.le_trans le345 sz117
              have le347 : hj.size ≤ h119.size := Nat.le_trans le346 sz121
              have Zn338 : n0 ≤ h119.size := (Nat.le_trans Z0 (Nat.le_trans szj le347))
              have F348 : Old Z n0 h119 := ((((((((((((((((((((((((Oj.ext E10).wr W14 gn10).wr W19 gn10).wr W23 gn10).wr W27 gn10).wr W31 gn10).wr W35 gn10).ext E39).wr W49 gn39).wr W54 gn39).wr W58 gn39).wr W62 gn39).wr W66 gn39).wr W70 gn39).wr W74 gn39).ext E78).wr W90 gn78).wr W95 gn78).wr W99 gn78).wr W103 gn78).wr W107 gn78).wr W111 gn78).wr W115 gn78).wr W119 gn78)
              refine own_cS X119 hx hZ (y := (⟨"com/example/cartiglio/cartiglio/core/HashAlgorithm", "byIanaName", "(Ljava/lang/String;)Ljava/util/Optional;"⟩ : MethodName)) hown (hw _ (own_mi 31 rfl)) (hw _ (own_mi 32 rfl)) (hw _ (own_mi 33 rfl)) (hw _ (own_mi 34 rfl)) (by decide) (rmFindN l Z a0 hw [] (va) (kv) (t0) (t1) (t2) (x0) (y0) (kz0) (x1) (y1) (kz1) (x2) (y2) (kz2) (oe) h119 n0 Zn338 (OV) EV AV (OE) ZE ZF ZT0 ZN0 ZX00 ZX01 ZX02 ZX03 ZT1 ZN1 ZX10 ZX11 ZX12 ZX13 ZT2 ZN2 ZX20 ZX21 ZX22 ZX23 F348) e119 [.null] [] rfl (by rw [hml]; rfl) (lenOf own_pd_28Ljava2flang2fString3b29Ljava2futil2fOptional3b rfl) rfl 0 (Nat.le_of_eq rfl) (by decide) (by decide) (by decide : 4 + 1 ≤ _) (by decide : 29 + 3 ≤ _) 686 (hb hby at_683) rfl 5 32 rfl rfl ?_
              intro rv338 T338 Lc338 X338 hQ338
              obtain ⟨rfl, Nq338, Kq338⟩ := hQ338
              have N338 := Fr.app N119 Nq338
              have sz349 : h119.size ≤ T338.heap.size := Kq338.1
              have cr349 : CHr Z consts_1 s.vm h119 s.vm T338.heap := CHr.keep Kq338 sf0 CR121.1
              have CR349 := CR121.trans cr349
              show own_Rn p e below _ (T338.setTop (mkF m 686 #[.val (.int i0), .val (.int i1), .val (.int i2), .val (.int i3), .val (.int i4), .val (.int bs), .val (.int lm), .val (.int un), .val (.ref ca), .val (.int pv), .val (.ref b10), .val (.ref b39), .val (.ref b78), .val .null, .val (.int (-1 : Int32)), .unset, .unset, .unset] [(.ref oe)]))
              refine own_as X338 hx #[.val (.int i0), .val (.int i1), .val (.int i2), .val (.int i3), .val (.int i4), .val (.int bs), .val (.int lm), .val (.int un), .val (.ref ca), .val (.int pv), .val (.ref b10), .val (.ref b39), .val (.ref b78), .val .null, .val (.int (-1 : Int32)), .val (.ref oe), .unset, .unset] 688 (hb hby at_686) rfl rfl rfl ?_
              refine own_il X338 hx 690 (hb hby at_688) rfl rfl ?_
              refine own_ifN X338 hx 693 (hb hby at_690) rfl ((if0 _ _).trans (tlt (by decide : (-1 : Int32) < (0 : Int32))).2.1) ?_
              refine own_al X338 hx 695 (hb hby at_693) rfl rfl rfl ?_
              have le351 : hj.size ≤ T338.heap.size := Nat.le_trans le347 sz349
              have Zn350 : n0 ≤ T338.heap.size := (Nat.le_trans Z0 (Nat.le_trans szj le351))
              have F353 : Old Z n0 T338.heap := (F348.keep Kq338 all0)
              have F352 : Fld Z T338.heap oe "java/util/Optional" "value" "Ljava/lang/Object;" .null := ZF.ext F353.2
              have F354 : Exa Z T338.heap oe "java/util/Optional" := ZE.ext F353.2
              refine own_cV X338 hx hZ (y := (⟨"java/util/Optional", "isPresent", "()Z"⟩ : MethodName)) (z := (⟨"java/util/Optional", "isPresent", "()Z"⟩ : MethodName)) hown (hw _ (own_mi 70 rfl)) (hw _ (own_mi 71 rfl)) (notFace_of_selects (args := #[]) (mvT hZ (hw _ (own_mi 73 rfl)))) (hw _ (own_mi 73 rfl)) (hw _ (own_mi 72 rfl)) (hw _ (own_mi 74 rfl)) (hw _ (own_mi 67 rfl)) (by decide) (rmIsN l Z a0 hw [] (oe) T338.heap n0 Zn350 F352) F354 rfl [] [] rfl (by rw [hml]; rfl) (lenOf own_pd_2829Z rfl) rfl 0 (Nat.le_of_eq rfl) (by decide) (by decide) (by decide : 5 + 0 ≤ _) (by decide : 32 + 0 ≤ _) 698 (hb hby at_695) rfl 5 32 rfl rfl ?_
              intro rv350 T350 Lc350 X350 hQ350
              obtain ⟨rfl, Nq350, eh350⟩ := hQ350
              have N350 := Fr.app N338 Nq350
              show own_Rn p e below _ (T350.setTop (mkF m 698 #[.val (.int i0), .val (.int i1), .val (.int i2), .val (.int i3), .val (.int i4), .val (.int bs), .val (.int lm), .val (.int un), .val (.ref ca), .val (.int pv), .val (.ref b10), .val (.ref b39), .val (.ref b78), .val .null, .val (.int (-1 : Int32)), .val (.ref oe), .unset, .unset] [(.int (0 : Int32))]))
              refine own_ifN X350 hx 701 (hb hby at_698) rfl ((if0 _ _).trans (teq ((by decide : (0 : Int32) = (0 : Int32)) : (0 : Int32) = (0 : Int32))).2) ?_
              refine own_ic X350 hx (1 : Int32) 702 (hb hby at_701) rfl rfl ?_
              refine own_gt X350 hx 706 (hb hby at_702) (by decide) (by decide) ?_
              exact own_retS X350 hS0 (by rw [eh350]; exact (Nat.le_trans szj le351)) (v := some (.int (nar .boolean (1 : Int32)))) (fun h => by rw [Bd.returns] at h; cases h) (fun fs hr => retN X350 hx (t := .boolean) Bd.returns (by simp) (hb hby at_706) hr) (by rw [eh350]; exact ⟨rfl, N350⟩) (by rw [hh, eh350]; exact CR349.trans (CHv.at X350 hZ hEL CR349.1)) (by decide) (by decide)
    have j1 : ∀ (Tj : State) (hj : Heap) (lj : List Loc) (ca : Addr) (ka : ClassId) (c0 c1 c2 c3 c4 c5 c6 c7 : Int32), Stand p l e room_1 (s.setVm s.vm) m #[(.int i0), (.int i1), (.int i2), (.int i3), (.int i4)] below meth c Tj lj 1 8 → Tj.heap = hj → Fr n0 lj → h0.size ≤ hj.size → CHr Z consts_1 s.vm h0 s.vm hj → Old Z n0 hj → n0 ≤ ca → Arv Z hj ca ka .char (8 : Int32) [(.int c0), (.int c1), (.int c2), (.int c3), (.int c4), (.int c5), (.int c6), (.int c7)] (.int (0 : Int32)) → ((¬ c0 < 0 ∧ ¬ (255 : Int32) < c0) ∧ (¬ c1 < 0 ∧ ¬ (255 : Int32) < c1) ∧ (¬ c2 < 0 ∧ ¬ (255 : Int32) < c2) ∧ (¬ c3 < 0 ∧ ¬ (255 : Int32) < c3) ∧ (¬ c4 < 0 ∧ ¬ (255 : Int32) < c4) ∧ (¬ c5 < 0 ∧ ¬ (255 : Int32) < c5) ∧ (¬ c6 < 0 ∧ ¬ (255 : Int32) < c6) ∧ (¬ c7 < 0 ∧ ¬ (255 : Int32) < c7)) → own_Rn p e below (fun o U' => ∃ v L, o = .returned v ∧ Q_rm0 Z i0 i1 i2 i3 i4 G1 va kv t0 t1 t2 x0 y0 kz0 x1 y1 kz1 x2 y2 kz2 oe h0 n0 v U'.heap L ∧ CHr Z consts_1 s.vm s.heap U'.vm U'.heap ∧ ReturnedEndW s o U' L 32 1216) (Tj.setTop (mkF m 258 #[.val (.int i0), .val (.int i1), .val (.int i2), .val (.int i3), .val (.int i4), .val (.int bs), .val (.int lm), .val (.int un), .val (.ref ca), .unset, .unset, .unset, .unset, .unset, .unset, .unset, .unset, .unset] [])) := by
      intro Tj hj lj ca ka c0 c1 c2 c3 c4 c5 c6 c7 Xj ej Nj szj CRj Oj gca Aj ⟨rc0, rc1, rc2, rc3, rc4, rc5, rc6, rc7⟩
      have lt355 : @LT.lt Nat _ ca hj.size := Aj.lt
      have nc0 := own_narC c0 rc0
      have nc1 := own_narC c1 rc1
      have nc2 := own_narC c2 rc2
      have nc3 := own_narC c3 rc3
      have nc4 := own_narC c4 rc4
      have nc5 := own_narC c5 rc5
      have nc6 := own_narC c6 rc6
      have nc7 := own_narC c7 rc7
      show own_Rn p e below _ (Tj.setTop (mkF m 258 #[.val (.int i0), .val (.int i1), .val (.int i2), .val (.int i3), .val (.int i4), .val (.int bs), .val (.int lm), .val (.int un), .val (.ref ca), .unset, .unset, .unset, .unset, .unset, .unset, .unset, .unset, .unset] []))
      refine own_iln Xj hx 259 (hb hby at_258) rfl rfl ?_
      refine own_go (fun tq kq => Xj.ldcInt hx hown (mvT hZ (hw _ (own_mi 1 rfl))) (g := (mkF m 259 #[.val (.int i0), .val (.int i1), .val (.int i2), .val (.int i3), .val (.int i4), .val (.int bs), .val (.int lm), .val (.int un), .val (.ref ca), .unset, .unset, .unset, .unset, .unset, .unset, .unset, .unset, .unset] [(.int i1)])) rfl (hb hby at_259) _ kq) ?_
      show own_Rn p e below _ (Tj.setTop (mkF m 261 #[.val (.int i0), .val (.int i1), .val (.int i2), .val (.int i3), .val (.int i4), .val (.int bs), .val (.int lm), .val (.int un), .val (.ref ca), .unset, .unset, .unset, .unset, .unset, .unset, .unset, .unset, .unset] [(.int (2147483647 : Int32)), (.int i1)]))
      refine own_iand Xj hx 262 (hb hby at_261) rfl ?_
      refine own_bp Xj hx (9 : Int32) 264 (hb hby at_262) rfl rfl ?_
      refine own_go (fun tq kq => iremM Xj hx rfl (hb hby at_264) rfl (by decide) kq) ?_
      show own_Rn p e below _ (Tj.setTop (mkF m 265 #[.val (.int i0), .val (.int i1), .val (.int i2), .val (.int i3), .val (.int i4), .val (.int bs), .val (.int lm), .val (.int un), .val (.ref ca), .unset, .unset, .unset, .unset, .unset, .unset, .unset, .unset, .unset] [(.int ((i1 &&& (2147483647 : Int32)) % (9 : Int32)))]))
      obtain ⟨K, hK, eK⟩ := own_m9 i1
      rw [eK]
      obtain rfl | rfl | rfl | rfl | rfl | rfl | rfl | rfl | rfl : K = 0 ∨ K = 1 ∨ K = 2 ∨ K = 3 ∨ K = 4 ∨ K = 5 ∨ K = 6 ∨ K = 7 ∨ K = 8 := by omega
      · skip
        show own_Rn p e below _ (Tj.setTop (mkF m 265 #[.val (.int i0), .val (.int i1), .val (.int i2), .val (.int i3), .val (.int i4), .val (.int bs), .val (.int lm), .val (.int un), .val (.ref ca), .unset, .unset, .unset, .unset, .unset, .unset, .unset, .unset, .unset] [(.int (0 : Int32))]))
        refine own_is Xj hx #[.val (.int i0), .val (.int i1), .val (.int i2), .val (.int i3), .val (.int i4), .val (.int bs), .val (.int lm), .val (.int un), .val (.ref ca), .val (.int (0 : Int32)), .unset, .unset, .unset, .unset, .unset, .unset, .unset, .unset] 267 (hb hby at_265) rfl rfl ?_
        refine own_il Xj hx 269 (hb hby at_267) rfl rfl ?_
        refine own_bp Xj hx (8 : Int32) 271 (hb hby at_269) rfl rfl ?_
        refine own_icN Xj hx 274 (hb hby at_271) rfl (tlt (by decide : (0 : Int32) < (8 : Int32))).2.1 ?_
        refine own_al Xj hx 276 (hb hby at_274) rfl rfl rfl ?_
        refine own_il Xj hx 278 (hb hby at_276) rfl rfl ?_
        refine own_iln Xj hx 279 (hb hby at_278) rfl rfl ?_
        refine own_sp Xj hx (255 : Int32) 282 (hb hby at_279) rfl rfl ?_
        refine own_iand Xj hx 283 (hb hby at_282) rfl ?_
        refine own_i2c Xj hx 284 (hb hby at_283) rfl ?_
        obtain ⟨cz, hcz⟩ : ∃ z : Int32, z = ((i2 &&& (255 : Int32)).toUInt32.toUInt16.toUInt32.toInt32) := ⟨_, rfl⟩
        rw [← hcz]
        show own_Rn p e below _ (Tj.setTop (mkF m 284 #[.val (.int i0), .val (.int i1), .val (.int i2), .val (.int i3), .val (.int i4), .val (.int bs), .val (.int lm), .val (.int un), .val (.ref ca), .val (.int (0 : Int32)), .unset, .unset, .unset, .unset, .unset, .unset, .unset, .unset] [(.int cz), (.int (0 : Int32)), (.ref ca)]))
        have rcz : ¬ cz < 0 ∧ ¬ (255 : Int32) < cz := by rw [hcz]; exact own_chr_rng _
        have ncz := own_narC cz rcz
        obtain ⟨cl356, Ar356, q356, Sz356, Nn356, Hs356, G356⟩ := id Aj
        obtain ⟨T356, h356, X356, e356, W356, st356⟩ := stC Xj hx hZ ej Ar356 (j := (0 : Int32)) (inb_of Sz356 ⟨by decide, by decide⟩) (g := (mkF m 284 #[.val (.int i0), .val (.int i1), .val (.int i2), .val (.int i3), .val (.int i4), .val (.int bs), .val (.int lm), .val (.int un), .val (.ref ca), .val (.int (0 : Int32)), .unset, .unset, .unset, .unset, .unset, .unset, .unset, .unset] [(.int cz), (.int (0 : Int32)), (.ref ca)])) rfl rfl (hb hby at_284)
        rw [ncz] at W356
        refine own_go st356 ?_
        have V356 : Arv Z h356 ca ka .char (8 : Int32) [(.int cz), (.int c1), (.int c2), (.int c3), (.int c4), (.int c5), (.int c6), (.int c7)] (.int (0 : Int32)) := Arv.set Ar356 q356 Sz356 Nn356 Hs356 G356 (by rw [← ncz]; exact fits_nar_char _) W356 0 rfl (Nat.le_of_ble_eq_true rfl)
        have N356 := Fr.snoc X356 Nj gca
        have sf357 : Safe Z consts_1 s.vm hj ca := Safe.arv hZ.alike Aj (by decide)
        have sz358 : hj.size ≤ h356.size := Nat.le_of_eq (Wr.size W356).symm
        have cr358 : CHr Z consts_1 s.vm hj s.vm h356 := CHr.wr W356 sf357 CRj.1
        have CR358 := CRj.trans cr358
        show own_Rn p e below _ (T356.setTop (mkF m 285 #[.val (.int i0), .val (.int i1), .val (.int i2), .val (.int i3), .val (.int i4), .val (.int bs), .val (.int lm), .val (.int un), .val (.ref ca), .val (.int (0 : Int32)), .unset, .unset, .unset, .unset, .unset, .unset, .unset, .unset] []))
        have F359 : Old Z n0 h356 := (Oj.wr W356 gca)
        exact j2 _ _ _ ca ka cz c1 c2 c3 c4 c5 c6 c7 _ X356 e356 N356 (by omega) CR358 F359 gca V356 ⟨rcz, rc1, rc2, rc3, rc4, rc5, rc6, rc7⟩
      · skip
        show own_Rn p e below _ (Tj.setTop (mkF m 265 #[.val (.int i0), .val (.int i1), .val (.int i2), .val (.int i3), .val (.int i4), .val (.int bs), .val (.int lm), .val (.int un), .val (.ref ca), .unset, .unset, .unset, .unset, .unset, .unset, .unset, .unset, .unset] [(.int (1 : Int32))]))
        refine own_is Xj hx #[.val (.int i0), .val (.int i1), .val (.int i2), .val (.int i3), .val (.int i4), .val (.int bs), .val (.int lm), .val (.int un), .val (.ref ca), .val (.int (1 : Int32)), .unset, .unset, .unset, .unset, .unset, .unset, .unset, .unset] 267 (hb hby at_265) rfl rfl ?_
        refine own_il Xj hx 269 (hb hby at_267) rfl rfl ?_
        refine own_bp Xj hx (8 : Int32) 271 (hb hby at_269) rfl rfl ?_
        refine own_icN Xj hx 274 (hb hby at_271) rfl (tlt (by decide : (1 : Int32) < (8 : Int32))).2.1 ?_
        refine own_al Xj hx 276 (hb hby at_274) rfl rfl rfl ?_
        refine own_il Xj hx 278 (hb hby at_276) rfl rfl ?_
        refine own_iln Xj hx 279 (hb hby at_278) rfl rfl ?_
        refine own_sp Xj hx (255 : Int32) 282 (hb hby at_279) rfl rfl ?_
        refine own_iand Xj hx 283 (hb hby at_282) rfl ?_
        refine own_i2c Xj hx 284 (hb hby at_283) rfl ?_
        obtain ⟨cz, hcz⟩ : ∃ z : Int32, z = ((i2 &&& (255 : Int32)).toUInt32.toUInt16.toUInt32.toInt32) := ⟨_, rfl⟩
        rw [← hcz]
        show own_Rn p e below _ (Tj.setTop (mkF m 284 #[.val (.int i0), .val (.int i1), .val (.int i2), .val (.int i3), .val (.int i4), .val (.int bs), .val (.int lm), .val (.int un), .val (.ref ca), .val (.int (1 : Int32)), .unset, .unset, .unset, .unset, .unset, .unset, .unset, .unset] [(.int cz), (.int (1 : Int32)), (.ref ca)]))
        have rcz : ¬ cz < 0 ∧ ¬ (255 : Int32) < cz := by rw [hcz]; exact own_chr_rng _
        have ncz := own_narC cz rcz
        obtain ⟨cl360, Ar360, q360, Sz360, Nn360, Hs360, G360⟩ := id Aj
        obtain ⟨T360, h360, X360, e360, W360, st360⟩ := stC Xj hx hZ ej Ar360 (j := (1 : Int32)) (inb_of Sz360 ⟨by decide, by decide⟩) (g := (mkF m 284 #[.val (.int i0), .val (.int i1), .val (.int i2), .val (.int i3), .val (.int i4), .val (.int bs), .val (.int lm), .val (.int un), .val (.ref ca), .val (.int (1 : Int32)), .unset, .unset, .unset, .unset, .unset, .unset, .unset, .unset] [(.int cz), (.int (1 : Int32)), (.ref ca)])) rfl rfl (hb hby at_284)
        rw [ncz] at W360
        refine own_go st360 ?_
        have V360 : Arv Z h360 ca ka .char (8 : Int32) [(.int c0), (.int cz), (.int c2), (.int c3), (.int c4), (.int c5), (.int c6), (.int c7)] (.int (0 : Int32)) := Arv.set Ar360 q360 Sz360 Nn360 Hs360 G360 (by rw [← ncz]; exact fits_nar_char _) W360 1 rfl (Nat.le_of_ble_eq_true rfl)
        have N360 := Fr.snoc X360 Nj gca
        have sf361 : Safe Z consts_1 s.vm hj ca := Safe.arv hZ.alike Aj (by decide)
        have sz362 : hj.size ≤ h360.size := Nat.le_of_eq (Wr.size W360).symm
        have cr362 : CHr Z consts_1 s.vm hj s.vm h360 := CHr.wr W360 sf361 CRj.1
        have CR362 := CRj.trans cr362
        show own_Rn p e below _ (T360.setTop (mkF m 285 #[.val (.int i0), .val (.int i1), .val (.int i2), .val (.int i3), .val (.int i4), .val (.int bs), .val (.int lm), .val (.int un), .val (.ref ca), .val (.int (1 : Int32)), .unset, .unset, .unset, .unset, .unset, .unset, .unset, .unset] []))
        have F363 : Old Z n0 h360 := (Oj.wr W360 gca)
        exact j2 _ _ _ ca ka c0 cz c2 c3 c4 c5 c6 c7 _ X360 e360 N360 (by omega) CR362 F363 gca V360 ⟨rc0, rcz, rc2, rc3, rc4, rc5, rc6, rc7⟩
      · skip
        show own_Rn p e below _ (Tj.setTop (mkF m 265 #[.val (.int i0), .val (.int i1), .val (.int i2), .val (.int i3), .val (.int i4), .val (.int bs), .val (.int lm), .val (.int un), .val (.ref ca), .unset, .unset, .unset, .unset, .unset, .unset, .unset, .unset, .unset] [(.int (2 : Int32))]))
        refine own_is Xj hx #[.val (.int i0), .val (.int i1), .val (.int i2), .val (.int i3), .val (.int i4), .val (.int bs), .val (.int lm), .val (.int un), .val (.ref ca), .val (.int (2 : Int32)), .unset, .unset, .unset, .unset, .unset, .unset, .unset, .unset] 267 (hb hby at_265) rfl rfl ?_
        refine own_il Xj hx 269 (hb hby at_267) rfl rfl ?_
        refine own_bp Xj hx (8 : Int32) 271 (hb hby at_269) rfl rfl ?_
        refine own_icN Xj hx 274 (hb hby at_271) rfl (tlt (by decide : (2 : Int32) < (8 : Int32))).2.1 ?_
        refine own_al Xj hx 276 (hb hby at_274) rfl rfl rfl ?_
        refine own_il Xj hx 278 (hb hby at_276) rfl rfl ?_
        refine own_iln Xj hx 279 (hb hby at_278) rfl rfl ?_
        refine own_sp Xj hx (255 : Int32) 282 (hb hby at_279) rfl rfl ?_
        refine own_iand Xj hx 283 (hb hby at_282) rfl ?_
        refine own_i2c Xj hx 284 (hb hby at_283) rfl ?_
        obtain ⟨cz, hcz⟩ : ∃ z : Int32, z = ((i2 &&& (255 : Int32)).toUInt32.toUInt16.toUInt32.toInt32) := ⟨_, rfl⟩
        rw [← hcz]
        show own_Rn p e below _ (Tj.setTop (mkF m 284 #[.val (.int i0), .val (.int i1), .val (.int i2), .val (.int i3), .val (.int i4), .val (.int bs), .val (.int lm), .val (.int un), .val (.ref ca), .val (.int (2 : Int32)), .unset, .unset, .unset, .unset, .unset, .unset, .unset, .unset] [(.int cz), (.int (2 : Int32)), (.ref ca)]))
        have rcz : ¬ cz < 0 ∧ ¬ (255 : Int32) < cz := by rw [hcz]; exact own_chr_rng _
        have ncz := own_narC cz rcz
        obtain ⟨cl364, Ar364, q364, Sz364, Nn364, Hs364, G364⟩ := id Aj
        obtain ⟨T364, h364, X364, e364, W364, st364⟩ := stC Xj hx hZ ej Ar364 (j := (2 : Int32)) (inb_of Sz364 ⟨by decide, by decide⟩) (g := (mkF m 284 #[.val (.int i0), .val (.int i1), .val (.int i2), .val (.int i3), .val (.int i4), .val (.int bs), .val (.int lm), .val (.int un), .val (.ref ca), .val (.int (2 : Int32)), .unset, .unset, .unset, .unset, .unset, .unset, .unset, .unset] [(.int cz), (.int (2 : Int32)), (.ref ca)])) rfl rfl (hb hby at_284)
        rw [ncz] at W364
        refine own_go st364 ?_
        have V364 : Arv Z h364 ca ka .char (8 : Int32) [(.int c0), (.int c1), (.int cz), (.int c3), (.int c4), (.int c5), (.int c6), (.int c7)] (.int (0 : Int32)) := Arv.set Ar364 q364 Sz364 Nn364 Hs364 G364 (by rw [← ncz]; exact fits_nar_char _) W364 2 rfl (Nat.le_of_ble_eq_true rfl)
        have N364 := Fr.snoc X364 Nj gca
        have sf365 : Safe Z consts_1 s.vm hj ca := Safe.arv hZ.alike Aj (by decide)
        have sz366 : hj.size ≤ h364.size := Nat.le_of_eq (Wr.size W364).symm
        have cr366 : CHr Z consts_1 s.vm hj s.vm h364 := CHr.wr W364 sf365 CRj.1
        have CR366 := CRj.trans cr366
        show own_Rn p e below _ (T364.setTop (mkF m 285 #[.val (.int i0), .val (.int i1), .val (.int i2), .val (.int i3), .val (.int i4), .val (.int bs), .val (.int lm), .val (.int un), .val (.ref ca), .val (.int (2 : Int32)), .unset, .unset, .unset, .unset, .unset, .unset, .unset, .unset] []))
        have F367 : Old Z n0 h364 := (Oj.wr W364 gca)
        exact j2 _ _ _ ca ka c0 c1 cz c3 c4 c5 c6 c7 _ X364 e364 N364 (by omega) CR366 F367 gca V364 ⟨rc0, rc1, rcz, rc3, rc4, rc5, rc6, rc7⟩
      · skip
        show own_Rn p e below _ (Tj.setTop (mkF m 265 #[.val (.int i0), .val (.int i1), .val (.int i2), .val (.int i3), .val (.int i4), .val (.int bs), .val (.int lm), .val (.int un), .val (.ref ca), .unset, .unset, .unset, .unset, .unset, .unset, .unset, .unset, .unset] [(.int (3 : Int32))]))
        refine own_is Xj hx #[.val (.int i0), .val (.int i1), .val (.int i2), .val (.int i3), .val (.int i4), .val (.int bs), .val (.int lm), .val (.int un), .val (.ref ca), .val (.int (3 : Int32)), .unset, .unset, .unset, .unset, .unset, .unset, .unset, .unset] 267 (hb hby at_265) rfl rfl ?_
        refine own_il Xj hx 269 (hb hby at_267) rfl rfl ?_
        refine own_bp Xj hx (8 : Int32) 271 (hb hby at_269) rfl rfl ?_
        refine own_icN Xj hx 274 (hb hby at_271) rfl (tlt (by decide : (3 : Int32) < (8 : Int32))).2.1 ?_
        refine own_al Xj hx 276 (hb hby at_274) rfl rfl rfl ?_
        refine own_il Xj hx 278 (hb hby at_276) rfl rfl ?_
        refine own_iln Xj hx 279 (hb hby at_278) rfl rfl ?_
        refine own_sp Xj hx (255 : Int32) 282 (hb hby at_279) rfl rfl ?_
        refine own_iand Xj hx 283 (hb hby at_282) rfl ?_
        refine own_i2c Xj hx 284 (hb hby at_283) rfl ?_
        obtain ⟨cz, hcz⟩ : ∃ z : Int32, z = ((i2 &&& (255 : Int32)).toUInt32.toUInt16.toUInt32.toInt32) := ⟨_, rfl⟩
        rw [← hcz]
        show own_Rn p e below _ (Tj.setTop (mkF m 284 #[.val (.int i0), .val (.int i1), .val (.int i2), .val (.int i3), .val (.int i4), .val (.int bs), .val (.int lm), .val (.int un), .val (.ref ca), .val (.int (3 : Int32)), .unset, .unset, .unset, .unset, .unset, .unset, .unset, .unset] [(.int cz), (.int (3 : Int32)), (.ref ca)]))
        have rcz : ¬ cz < 0 ∧ ¬ (255 : Int32) < cz := by rw [hcz]; exact own_chr_rng _
        have ncz := own_narC cz rcz
        obtain ⟨cl368, Ar368, q368, Sz368, Nn368, Hs368, G368⟩ := id Aj
        obtain ⟨T368, h368, X368, e368, W368, st368⟩ := stC Xj hx hZ ej Ar368 (j := (3 : Int32)) (inb_of Sz368 ⟨by decide, by decide⟩) (g := (mkF m 284 #[.val (.int i0), .val (.int i1), .val (.int i2), .val (.int i3), .val (.int i4), .val (.int bs), .val (.int lm), .val (.int un), .val (.ref ca), .val (.int (3 : Int32)), .unset, .unset, .unset, .unset, .unset, .unset, .unset, .unset] [(.int cz), (.int (3 : Int32)), (.ref ca)])) rfl rfl (hb hby at_284)
        rw [ncz] at W368
        refine own_go st368 ?_
        have V368 : Arv Z h368 ca ka .char (8 : Int32) [(.int c0), (.int c1), (.int c2), (.int cz), (.int c4), (.int c5), (.int c6), (.int c7)] (.int (0 : Int32)) := Arv.set Ar368 q368 Sz368 Nn368 Hs368 G368 (by rw [← ncz]; exact fits_nar_char _) W368 3 rfl (Nat.le_of_ble_eq_true rfl)
        have N368 := Fr.snoc X368 Nj gca
        have sf369 : Safe Z consts_1 s.vm hj ca := Safe.arv hZ.alike Aj (by decide)
        have sz370 : hj.size ≤ h368.size := Nat.le_of_eq (Wr.size W368).symm
        have cr370 : CHr Z consts_1 s.vm hj s.vm h368 := CHr.wr W368 sf369 CRj.1
        have CR370 := CRj.trans cr370
        show own_Rn p e below _ (T368.setTop (mkF m 285 #[.val (.int i0), .val (.int i1), .val (.int i2), .val (.int i3), .val (.int i4), .val (.int bs), .val (.int lm), .val (.int un), .val (.ref ca), .val (.int (3 : Int32)), .unset, .unset, .unset, .unset, .unset, .unset, .unset, .unset] []))
        have F371 : Old Z n0 h368 := (Oj.wr W368 gca)
        exact j2 _ _ _ ca ka c0 c1 c2 cz c4 c5 c6 c7 _ X368 e368 N368 (by omega) CR370 F371 gca V368 ⟨rc0, rc1, rc2, rcz, rc4, rc5, rc6, rc7⟩
      · skip
        show own_Rn p e below _ (Tj.setTop (mkF m 265 #[.val (.int i0), .val (.int i1), .val (.int i2), .val (.int i3), .val (.int i4), .val (.int bs), .val (.int lm), .val (.int un), .val (.ref ca), .unset, .unset, .unset, .unset, .unset, .unset, .unset, .unset, .unset] [(.int (4 : Int32))]))
        refine own_is Xj hx #[.val (.int i0), .val (.int i1), .val (.int i2), .val (.int i3), .val (.int i4), .val (.int bs), .val (.int lm), .val (.int un), .val (.ref ca), .val (.int (4 : Int32)), .unset, .unset, .unset, .unset, .unset, .unset, .unset, .unset] 267 (hb hby at_265) rfl rfl ?_
        refine own_il Xj hx 269 (hb hby at_267) rfl rfl ?_
        refine own_bp Xj hx (8 : Int32) 271 (hb hby at_269) rfl rfl ?_
        refine own_icN Xj hx 274 (hb hby at_271) rfl (tlt (by decide : (4 : Int32) < (8 : Int32))).2.1 ?_
        refine own_al Xj hx 276 (hb hby at_274) rfl rfl rfl ?_
        refine own_il Xj hx 278 (hb hby at_276) rfl rfl ?_
        refine own_iln Xj hx 279 (hb hby at_278) rfl rfl ?_
        refine own_sp Xj hx (255 : Int32) 282 (hb hby at_279) rfl rfl ?_
        refine own_iand Xj hx 283 (hb hby at_282) rfl ?_
        refine own_i2c Xj hx 284 (hb hby at_283) rfl ?_
        obtain ⟨cz, hcz⟩ : ∃ z : Int32, z = ((i2 &&& (255 : Int32)).toUInt32.toUInt16.toUInt32.toInt32) := ⟨_, rfl⟩
        rw [← hcz]
        show own_Rn p e below _ (Tj.setTop (mkF m 284 #[.val (.int i0), .val (.int i1), .val (.int i2), .val (.int i3), .val (.int i4), .val (.int bs), .val (.int lm), .val (.int un), .val (.ref ca), .val (.int (4 : Int32)), .unset, .unset, .unset, .unset, .unset, .unset, .unset, .unset] [(.int cz), (.int (4 : Int32)), (.ref ca)]))
        have rcz : ¬ cz < 0 ∧ ¬ (255 : Int32) < cz := by rw [hcz]; exact own_chr_rng _
        have ncz := own_narC cz rcz
        obtain ⟨cl372, Ar372, q372, Sz372, Nn372, Hs372, G372⟩ := id Aj
        obtain ⟨T372, h372, X372, e372, W372, st372⟩ := stC Xj hx hZ ej Ar372 (j := (4 : Int32)) (inb_of Sz372 ⟨by decide, by decide⟩) (g := (mkF m 284 #[.val (.int i0), .val (.int i1), .val (.int i2), .val (.int i3), .val (.int i4), .val (.int bs), .val (.int lm), .val (.int un), .val (.ref ca), .val (.int (4 : Int32)), .unset, .unset, .unset, .unset, .unset, .unset, .unset, .unset] [(.int cz), (.int (4 : Int32)), (.ref ca)])) rfl rfl (hb hby at_284)
        rw [ncz] at W372
        refine own_go st372 ?_
        have V372 : Arv Z h372 ca ka .char (8 : Int32) [(.int c0), (.int c1), (.int c2), (.int c3), (.int cz), (.int c5), (.int c6), (.int c7)] (.int (0 : Int32)) := Arv.set Ar372 q372 Sz372 Nn372 Hs372 G372 (by rw [← ncz]; exact fits_nar_char _) W372 4 rfl (Nat.le_of_ble_eq_true rfl)
        have N372 := Fr.snoc X372 Nj gca
        have sf373 : Safe Z consts_1 s.vm hj ca := Safe.arv hZ.alike Aj (by decide)
        have sz374 : hj.size ≤ h372.size := Nat.le_of_eq (Wr.size W372).symm
        have cr374 : CHr Z consts_1 s.vm hj s.vm h372 := CHr.wr W372 sf373 CRj.1
        have CR374 := CRj.trans cr374
        show own_Rn p e below _ (T372.setTop (mkF m 285 #[.val (.int i0), .val (.int i1), .val (.int i2), .val (.int i3), .val (.int i4), .val (.int bs), .val (.int lm), .val (.int un), .val (.ref ca), .val (.int (4 : Int32)), .unset, .unset, .unset, .unset, .unset, .unset, .unset, .unset] []))
        have F375 : Old Z n0 h372 := (Oj.wr W372 gca)
        exact j2 _ _ _ ca ka c0 c1 c2 c3 cz c5 c6 c7 _ X372 e372 N372 (by omega) CR374 F375 gca V372 ⟨rc0, rc1, rc2, rc3, rcz, rc5, rc6, rc7⟩
      · skip
        show own_Rn p e below _ (Tj.setTop (mkF m 265 #[.val (.int i0), .val (.int i1), .val (.int i2), .val (.int i3), .val (.int i4), .val (.int bs), .val (.int lm), .val (.int un), .val (.ref ca), .unset, .unset, .unset, .unset, .unset, .unset, .unset, .unset, .unset] [(.int (5 : Int32))]))
        refine own_is Xj hx #[.val (.int i0), .val (.int i1), .val (.int i2), .val (.int i3), .val (.int i4), .val (.int bs), .val (.int lm), .val (.int un), .val (.ref ca), .val (.int (5 : Int32)), .unset, .unset, .unset, .unset, .unset, .unset, .unset, .unset] 267 (hb hby at_265) rfl rfl ?_
        refine own_il Xj hx 269 (hb hby at_267) rfl rfl ?_
        refine own_bp Xj hx (8 : Int32) 271 (hb hby at_269) rfl rfl ?_
        refine own_icN Xj hx 274 (hb hby at_271) rfl (tlt (by decide : (5 : Int32) < (8 : Int32))).2.1 ?_
        refine own_al Xj hx 276 (hb hby at_274) rfl rfl rfl ?_
        refine own_il Xj hx 278 (hb hby at_276) rfl rfl ?_
        refine own_iln Xj hx 279 (hb hby at_278) rfl rfl ?_
        refine own_sp Xj hx (255 : Int32) 282 (hb hby at_279) rfl rfl ?_
        refine own_iand Xj hx 283 (hb hby at_282) rfl ?_
        refine own_i2c Xj hx 284 (hb hby at_283) rfl ?_
        obtain ⟨cz, hcz⟩ : ∃ z : Int32, z = ((i2 &&& (255 : Int32)).toUInt32.toUInt16.toUInt32.toInt32) := ⟨_, rfl⟩
        rw [← hcz]
        show own_Rn p e below _ (Tj.setTop (mkF m 284 #[.val (.int i0), .val (.int i1), .val (.int i2), .val (.int i3), .val (.int i4), .val (.int bs), .val (.int lm), .val (.int un), .val (.ref ca), .val (.int (5 : Int32)), .unset, .unset, .unset, .unset, .unset, .unset, .unset, .unset] [(.int cz), (.int (5 : Int32)), (.ref ca)]))
        have rcz : ¬ cz < 0 ∧ ¬ (255 : Int32) < cz := by rw [hcz]; exact own_chr_rng _
        have ncz := own_narC cz rcz
        obtain ⟨cl376, Ar376, q376, Sz376, Nn376, Hs376, G376⟩ := id Aj
        obtain ⟨T376, h376, X376, e376, W376, st376⟩ := stC Xj hx hZ ej Ar376 (j := (5 : Int32)) (inb_of Sz376 ⟨by decide, by decide⟩) (g := (mkF m 284 #[.val (.int i0), .val (.int i1), .val (.int i2), .val (.int i3), .val (.int i4), .val (.int bs), .val (.int lm), .val (.int un), .val (.ref ca), .val (.int (5 : Int32)), .unset, .unset, .unset, .unset, .unset, .unset, .unset, .unset] [(.int cz), (.int (5 : Int32)), (.ref ca)])) rfl rfl (hb hby at_284)
        rw [ncz] at W376
        refine own_go st376 ?_
        have V376 : Arv Z h376 ca ka .char (8 : Int32) [(.int c0), (.int c1), (.int c2), (.int c3), (.int c4), (.int cz), (.int c6), (.int c7)] (.int (0 : Int32)) := Arv.set Ar376 q376 Sz376 Nn376 Hs376 G376 (by rw [← ncz]; exact fits_nar_char _) W376 5 rfl (Nat.le_of_ble_eq_true rfl)
        have N376 := Fr.snoc X376 Nj gca
        have sf377 : Safe Z consts_1 s.vm hj ca := Safe.arv hZ.alike Aj (by decide)
        have sz378 : hj.size ≤ h376.size := Nat.le_of_eq (Wr.size W376).symm
        have cr378 : CHr Z consts_1 s.vm hj s.vm h376 := CHr.wr W376 sf377 CRj.1
        have CR378 := CRj.trans cr378
        show own_Rn p e below _ (T376.setTop (mkF m 285 #[.val (.int i0), .val (.int i1), .val (.int i2), .val (.int i3), .val (.int i4), .val (.int bs), .val (.int lm), .val (.int un), .val (.ref ca), .val (.int (5 : Int32)), .unset, .unset, .unset, .unset, .unset, .unset, .unset, .unset] []))
        have F379 : Old Z n0 h376 := (Oj.wr W376 gca)
        exact j2 _ _ _ ca ka c0 c1 c2 c3 c4 cz c6 c7 _ X376 e376 N376 (by omega) CR378 F379 gca V376 ⟨rc0, rc1, rc2, rc3, rc4, rcz, rc6, rc7⟩
      · skip
        show own_Rn p e below _ (Tj.setTop (mkF m 265 #[.val (.int i0), .val (.int i1), .val (.int i2), .val (.int i3), .val (.int i4), .val (.int bs), .val (.int lm), .val (.int un), .val (.ref ca), .unset, .unset, .unset, .unset, .unset, .unset, .unset, .unset, .unset] [(.int (6 : Int32))]))
        refine own_is Xj hx #[.val (.int i0), .val (.int i1), .val (.int i2), .val (.int i3), .val (.int i4), .val (.int bs), .val (.int lm), .val (.int un), .val (.ref ca), .val (.int (6 : Int32)), .unset, .unset, .unset, .unset, .unset, .unset, .unset, .unset] 267 (hb hby at_265) rfl rfl ?_
        refine own_il Xj hx 269 (hb hby at_267) rfl rfl ?_
        refine own_bp Xj hx (8 : Int32) 271 (hb hby at_269) rfl rfl ?_
        refine own_icN Xj hx 274 (hb hby at_271) rfl (tlt (by decide : (6 : Int32) < (8 : Int32))).2.1 ?_
        refine own_al Xj hx 276 (hb hby at_274) rfl rfl rfl ?_
        refine own_il Xj hx 278 (hb hby at_276) rfl rfl ?_
        refine own_iln Xj hx 279 (hb hby at_278) rfl rfl ?_
        refine own_sp Xj hx (255 : Int32) 282 (hb hby at_279) rfl rfl ?_
        refine own_iand Xj hx 283 (hb hby at_282) rfl ?_
        refine own_i2c Xj hx 284 (hb hby at_283) rfl ?_
        obtain ⟨cz, hcz⟩ : ∃ z : Int32, z = ((i2 &&& (255 : Int32)).toUInt32.toUInt16.toUInt32.toInt32) := ⟨_, rfl⟩
        rw [← hcz]
        show own_Rn p e below _ (Tj.setTop (mkF m 284 #[.val (.int i0), .val (.int i1), .val (.int i2), .val (.int i3), .val (.int i4), .val (.int bs), .val (.int lm), .val (.int un), .val (.ref ca), .val (.int (6 : Int32)), .unset, .unset, .unset, .unset, .unset, .unset, .unset, .unset] [(.int cz), (.int (6 : Int32)), (.ref ca)]))
        have rcz : ¬ cz < 0 ∧ ¬ (255 : Int32) < cz := by rw [hcz]; exact own_chr_rng _
        have ncz := own_narC cz rcz
        obtain ⟨cl380, Ar380, q380, Sz380, Nn380, Hs380, G380⟩ := id Aj
        obtain ⟨T380, h380, X380, e380, W380, st380⟩ := stC Xj hx hZ ej Ar380 (j := (6 : Int32)) (inb_of Sz380 ⟨by decide, by decide⟩) (g := (mkF m 284 #[.val (.int i0), .val (.int i1), .val (.int i2), .val (.int i3), .val (.int i4), .val (.int bs), .val (.int lm), .val (.int un), .val (.ref ca), .val (.int (6 : Int32)), .unset, .unset, .unset, .unset, .unset, .unset, .unset, .unset] [(.int cz), (.int (6 : Int32)), (.ref ca)])) rfl rfl (hb hby at_284)
        rw [ncz] at W380
        refine own_go st380 ?_
        have V380 : Arv Z h380 ca ka .char (8 : Int32) [(.int c0), (.int c1), (.int c2), (.int c3), (.int c4), (.int c5), (.int cz), (.int c7)] (.int (0 : Int32)) := Arv.set Ar380 q380 Sz380 Nn380 Hs380 G380 (by rw [← ncz]; exact fits_nar_char _) W380 6 rfl (Nat.le_of_ble_eq_true rfl)
        have N380 := Fr.snoc X380 Nj gca
        have sf381 : Safe Z consts_1 s.vm hj ca := Safe.arv hZ.alike Aj (by decide)
        have sz382 : hj.size ≤ h380.size := Nat.le_of_eq (Wr.size W380).symm
        have cr382 : CHr Z consts_1 s.vm hj s.vm h380 := CHr.wr W380 sf381 CRj.1
        have CR382 := CRj.trans cr382
        show own_Rn p e below _ (T380.setTop (mkF m 285 #[.val (.int i0), .val (.int i1), .val (.int i2), .val (.int i3), .val (.int i4), .val (.int bs), .val (.int lm), .val (.int un), .val (.ref ca), .val (.int (6 : Int32)), .unset, .unset, .unset, .unset, .unset, .unset, .unset, .unset] []))
        have F383 : Old Z n0 h380 := (Oj.wr W380 gca)
        exact j2 _ _ _ ca ka c0 c1 c2 c3 c4 c5 cz c7 _ X380 e380 N380 (by omega) CR382 F383 gca V380 ⟨rc0, rc1, rc2, rc3, rc4, rc5, rcz, rc7⟩
      · skip
        show own_Rn p e below _ (Tj.setTop (mkF m 265 #[.val (.int i0), .val (.int i1), .val (.int i2), .val (.int i3), .val (.int i4), .val (.int bs), .val (.int lm), .val (.int un), .val (.ref ca), .unset, .unset, .unset, .unset, .unset, .unset, .unset, .unset, .unset] [(.int (7 : Int32))]))
        refine own_is Xj hx #[.val (.int i0), .val (.int i1), .val (.int i2), .val (.int i3), .val (.int i4), .val (.int bs), .val (.int lm), .val (.int un), .val (.ref ca), .val (.int (7 : Int32)), .unset, .unset, .unset, .unset, .unset, .unset, .unset, .unset] 267 (hb hby at_265) rfl rfl ?_
        refine own_il Xj hx 269 (hb hby at_267) rfl rfl ?_
        refine own_bp Xj hx (8 : Int32) 271 (hb hby at_269) rfl rfl ?_
        refine own_icN Xj hx 274 (hb hby at_271) rfl (tlt (by decide : (7 : Int32) < (8 : Int32))).2.1 ?_
        refine own_al Xj hx 276 (hb hby at_274) rfl rfl rfl ?_
        refine own_il Xj hx 278 (hb hby at_276) rfl rfl ?_
        refine own_iln Xj hx 279 (hb hby at_278) rfl rfl ?_
        refine own_sp Xj hx (255 : Int32) 282 (hb hby at_279) rfl rfl ?_
        refine own_iand Xj hx 283 (hb hby at_282) rfl ?_
        refine own_i2c Xj hx 284 (hb hby at_283) rfl ?_
        obtain ⟨cz, hcz⟩ : ∃ z : Int32, z = ((i2 &&& (255 : Int32)).toUInt32.toUInt16.toUInt32.toInt32) := ⟨_, rfl⟩
        rw [← hcz]
        show own_Rn p e below _ (Tj.setTop (mkF m 284 #[.val (.int i0), .val (.int i1), .val (.int i2), .val (.int i3), .val (.int i4), .val (.int bs), .val (.int lm), .val (.int un), .val (.ref ca), .val (.int (7 : Int32)), .unset, .unset, .unset, .unset, .unset, .unset, .unset, .unset] [(.int cz), (.int (7 : Int32)), (.ref ca)]))
        have rcz : ¬ cz < 0 ∧ ¬ (255 : Int32) < cz := by rw [hcz]; exact own_chr_rng _
        have ncz := own_narC cz rcz
        obtain ⟨cl384, Ar384, q384, Sz384, Nn384, Hs384, G384⟩ := id Aj
        obtain ⟨T384, h384, X384, e384, W384, st384⟩ := stC Xj hx hZ ej Ar384 (j := (7 : Int32)) (inb_of Sz384 ⟨by decide, by decide⟩) (g := (mkF m 284 #[.val (.int i0), .val (.int i1), .val (.int i2), .val (.int i3), .val (.int i4), .val (.int bs), .val (.int lm), .val (.int un), .val (.ref ca), .val (.int (7 : Int32)), .unset, .unset, .unset, .unset, .unset, .unset, .unset, .unset] [(.int cz), (.int (7 : Int32)), (.ref ca)])) rfl rfl (hb hby at_284)
        rw [ncz] at W384
        refine own_go st384 ?_
        have V384 : Arv Z h384 ca ka .char (8 : Int32) [(.int c0), (.int c1), (.int c2), (.int c3), (.int c4), (.int c5), (.int c6), (.int cz)] (.int (0 : Int32)) := Arv.set Ar384 q384 Sz384 Nn384 Hs384 G384 (by rw [← ncz]; exact fits_nar_char _) W384 7 rfl (Nat.le_of_ble_eq_true rfl)
        have N384 := Fr.snoc X384 Nj gca
        have sf385 : Safe Z consts_1 s.vm hj ca := Safe.arv hZ.alike Aj (by decide)
        have sz386 : hj.size ≤ h384.size := Nat.le_of_eq (Wr.size W384).symm
        have cr386 : CHr Z consts_1 s.vm hj s.vm h384 := CHr.wr W384 sf385 CRj.1
        have CR386 := CRj.trans cr386
        show own_Rn p e below _ (T384.setTop (mkF m 285 #[.val (.int i0), .val (.int i1), .val (.int i2), .val (.int i3), .val (.int i4), .val (.int bs), .val (.int lm), .val (.int un), .val (.ref ca), .val (.int (7 : Int32)), .unset, .unset, .unset, .unset, .unset, .unset, .unset, .unset] []))
        have F387 : Old Z n0 h384 := (Oj.wr W384 gca)
        exact j2 _ _ _ ca ka c0 c1 c2 c3 c4 c5 c6 cz _ X384 e384 N384 (by omega) CR386 F387 gca V384 ⟨rc0, rc1, rc2, rc3, rc4, rc5, rc6, rcz⟩
      · skip
        show own_Rn p e below _ (Tj.setTop (mkF m 265 #[.val (.int i0), .val (.int i1), .val (.int i2), .val (.int i3), .val (.int i4), .val (.int bs), .val (.int lm), .val (.int un), .val (.ref ca), .unset, .unset, .unset, .unset, .unset, .unset, .unset, .unset, .unset] [(.int (8 : Int32))]))
        refine own_is Xj hx #[.val (.int i0), .val (.int i1), .val (.int i2), .val (.int i3), .val (.int i4), .val (.int bs), .val (.int lm), .val (.int un), .val (.ref ca), .val (.int (8 : Int32)), .unset, .unset, .unset, .unset, .unset, .unset, .unset, .unset] 267 (hb hby at_265) rfl rfl ?_
        refine own_il Xj hx 269 (hb hby at_267) rfl rfl ?_
        refine own_bp Xj hx (8 : Int32) 271 (hb hby at_269) rfl rfl ?_
        refine own_icY Xj hx 285 (hb hby at_271) (flt (by decide : ¬ ((8 : Int32) < (8 : Int32)))).2.1 (by decide) (by decide) ?_
        exact j2 _ _ _ ca ka c0 c1 c2 c3 c4 c5 c6 c7 _ Xj ej Nj (by omega) CRj Oj gca Aj ⟨rc0, rc1, rc2, rc3, rc4, rc5, rc6, rc7⟩
    refine own_il X2 hx 35 (hb hby at_33) rfl rfl ?_
    refine own_ic X2 hx (3 : Int32) 36 (hb hby at_35) rfl rfl ?_
    by_cases hc388 : bs < (3 : Int32)
    · skip
      refine own_icN X2 hx 39 (hb hby at_36) rfl (tlt (hc388 : bs < (3 : Int32))).2.1 ?_
      refine own_al X2 hx 41 (hb hby at_39) rfl rfl rfl ?_
      refine own_ic X2 hx (0 : Int32) 42 (hb hby at_41) rfl rfl ?_
      refine own_bp X2 hx (115 : Int32) 44 (hb hby at_42) rfl rfl ?_
      obtain ⟨cl389, Ar389, q389, Sz389, Nn389, Hs389, G389⟩ := id V2
      obtain ⟨T389, h389, X389, e389, W389, st389⟩ := stC X2 hx hZ e2 Ar389 (j := (0 : Int32)) (inb_of Sz389 ⟨by decide, by decide⟩) (g := (mkF m 44 #[.val (.int i0), .val (.int i1), .val (.int i2), .val (.int i3), .val (.int i4), .val (.int bs), .val (.int lm), .val (.int un), .val (.ref b2), .unset, .unset, .unset, .unset, .unset, .unset, .unset, .unset, .unset] [(.int (115 : Int32)), (.int (0 : Int32)), (.ref b2)])) rfl rfl (hb hby at_44)
      refine own_go st389 ?_
      have V389 : Arv Z h389 b2 k2 .char (8 : Int32) [(.int (115 : Int32)), (.int (0 : Int32)), (.int (0 : Int32)), (.int (0 : Int32)), (.int (0 : Int32)), (.int (0 : Int32)), (.int (0 : Int32)), (.int (0 : Int32))] (.int (0 : Int32)) := Arv.set Ar389 q389 Sz389 Nn389 Hs389 G389 rfl W389 0 rfl (Nat.le_of_ble_eq_true rfl)
      have N389 := Fr.snoc X389 N0 gn2
      have sf390 : Safe Z consts_1 s.vm h2 b2 := Safe.arv hZ.alike V2 (by decide)
      have sz391 : h2.size ≤ h389.size := Nat.le_of_eq (Wr.size W389).symm
      have cr391 : CHr Z consts_1 s.vm h2 s.vm h389 := CHr.wr W389 sf390 CR3.1
      have CR391 := CR3.trans cr391
      show own_Rn p e below _ (T389.setTop (mkF m 45 #[.val (.int i0), .val (.int i1), .val (.int i2), .val (.int i3), .val (.int i4), .val (.int bs), .val (.int lm), .val (.int un), .val (.ref b2), .unset, .unset, .unset, .unset, .unset, .unset, .unset, .unset, .unset] []))
      refine own_al X389 hx 47 (hb hby at_45) rfl rfl rfl ?_
      refine own_ic X389 hx (1 : Int32) 48 (hb hby at_47) rfl rfl ?_
      refine own_bp X389 hx (104 : Int32) 50 (hb hby at_48) rfl rfl ?_
      obtain ⟨cl392, Ar392, q392, Sz392, Nn392, Hs392, G392⟩ := id V389
      obtain ⟨T392, h392, X392, e392, W392, st392⟩ := stC X389 hx hZ e389 Ar392 (j := (1 : Int32)) (inb_of Sz392 ⟨by decide, by decide⟩) (g := (mkF m 50 #[.val (.int i0), .val (.int i1), .val (.int i2), .val (.int i3), .val (.int i4), .val (.int bs), .val (.int lm), .val (.int un), .val (.ref b2), .unset, .unset, .unset, .unset, .unset, .unset, .unset, .unset, .unset] [(.int (104 : Int32)), (.int (1 : Int32)), (.ref b2)])) rfl rfl (hb hby at_50)
      refine own_go st392 ?_
      have V392 : Arv Z h392 b2 k2 .char (8 : Int32) [(.int (115 : Int32)), (.int (104 : Int32)), (.int (0 : Int32)), (.int (0 : Int32)), (.int (0 : Int32)), (.int (0 : Int32)), (.int (0 : Int32)), (.int (0 : Int32))] (.int (0 : Int32)) := Arv.set Ar392 q392 Sz392 Nn392 Hs392 G392 rfl W392 1 rfl (Nat.le_of_ble_eq_true rfl)
      have N392 := Fr.snoc X392 N389 gn2
      have sf393 : Safe Z consts_1 s.vm h389 b2 := Safe.arv hZ.alike V389 (by decide)
      have sz394 : h389.size ≤ h392.size := Nat.le_of_eq (Wr.size W392).symm
      have cr394 : CHr Z consts_1 s.vm h389 s.vm h392 := CHr.wr W392 sf393 CR391.1
      have CR394 := CR391.trans cr394
      show own_Rn p e below _ (T392.setTop (mkF m 51 #[.val (.int i0), .val (.int i1), .val (.int i2), .val (.int i3), .val (.int i4), .val (.int bs), .val (.int lm), .val (.int un), .val (.ref b2), .unset, .unset, .unset, .unset, .unset, .unset, .unset, .unset, .unset] []))
      refine own_al X392 hx 53 (hb hby at_51) rfl rfl rfl ?_
      refine own_ic X392 hx (2 : Int32) 54 (hb hby at_53) rfl rfl ?_
      refine own_bp X392 hx (97 : Int32) 56 (hb hby at_54) rfl rfl ?_
      obtain ⟨cl395, Ar395, q395, Sz395, Nn395, Hs395, G395⟩ := id V392
      obtain ⟨T395, h395, X395, e395, W395, st395⟩ := stC X392 hx hZ e392 Ar395 (j := (2 : Int32)) (inb_of Sz395 ⟨by decide, by decide⟩) (g := (mkF m 56 #[.val (.int i0), .val (.int i1), .val (.int i2), .val (.int i3), .val (.int i4), .val (.int bs), .val (.int lm), .val (.int un), .val (.ref b2), .unset, .unset, .unset, .unset, .unset, .unset, .unset, .unset, .unset] [(.int (97 : Int32)), (.int (2 : Int32)), (.ref b2)])) rfl rfl (hb hby at_56)
      refine own_go st395 ?_
      have V395 : Arv Z h395 b2 k2 .char (8 : Int32) [(.int (115 : Int32)), (.int (104 : Int32)), (.int (97 : Int32)), (.int (0 : Int32)), (.int (0 : Int32)), (.int (0 : Int32)), (.int (0 : Int32)), (.int (0 : Int32))] (.int (0 : Int32)) := Arv.set Ar395 q395 Sz395 Nn395 Hs395 G395 rfl W395 2 rfl (Nat.le_of_ble_eq_true rfl)
      have N395 := Fr.snoc X395 N392 gn2
      have sf396 : Safe Z consts_1 s.vm h392 b2 := Safe.arv hZ.alike V392 (by decide)
      have sz397 : h392.size ≤ h395.size := Nat.le_of_eq (Wr.size W395).symm
      have cr397 : CHr Z consts_1 s.vm h392 s.vm h395 := CHr.wr W395 sf396 CR394.1
      have CR397 := CR394.trans cr397
      show own_Rn p e below _ (T395.setTop (mkF m 57 #[.val (.int i0), .val (.int i1), .val (.int i2), .val (.int i3), .val (.int i4), .val (.int bs), .val (.int lm), .val (.int un), .val (.ref b2), .unset, .unset, .unset, .unset, .unset, .unset, .unset, .unset, .unset] []))
      refine own_al X395 hx 59 (hb hby at_57) rfl rfl rfl ?_
      refine own_ic X395 hx (3 : Int32) 60 (hb hby at_59) rfl rfl ?_
      refine own_bp X395 hx (45 : Int32) 62 (hb hby at_60) rfl rfl ?_
      obtain ⟨cl398, Ar398, q398, Sz398, Nn398, Hs398, G398⟩ := id V395
      obtain ⟨T398, h398, X398, e398, W398, st398⟩ := stC X395 hx hZ e395 Ar398 (j := (3 : Int32)) (inb_of Sz398 ⟨by decide, by decide⟩) (g := (mkF m 62 #[.val (.int i0), .val (.int i1), .val (.int i2), .val (.int i3), .val (.int i4), .val (.int bs), .val (.int lm), .val (.int un), .val (.ref b2), .unset, .unset, .unset, .unset, .unset, .unset, .unset, .unset, .unset] [(.int (45 : Int32)), (.int (3 : Int32)), (.ref b2)])) rfl rfl (hb hby at_62)
      refine own_go st398 ?_
      have V398 : Arv Z h398 b2 k2 .char (8 : Int32) [(.int (115 : Int32)), (.int (104 : Int32)), (.int (97 : Int32)), (.int (45 : Int32)), (.int (0 : Int32)), (.int (0 : Int32)), (.int (0 : Int32)), (.int (0 : Int32))] (.int (0 : Int32)) := Arv.set Ar398 q398 Sz398 Nn398 Hs398 G398 rfl W398 3 rfl (Nat.le_of_ble_eq_true rfl)
      have N398 := Fr.snoc X398 N395 gn2
      have sf399 : Safe Z consts_1 s.vm h395 b2 := Safe.arv hZ.alike V395 (by decide)
      have sz400 : h395.size ≤ h398.size := Nat.le_of_eq (Wr.size W398).symm
      have cr400 : CHr Z consts_1 s.vm h395 s.vm h398 := CHr.wr W398 sf399 CR397.1
      have CR400 := CR397.trans cr400
      show own_Rn p e below _ (T398.setTop (mkF m 63 #[.val (.int i0), .val (.int i1), .val (.int i2), .val (.int i3), .val (.int i4), .val (.int bs), .val (.int lm), .val (.int un), .val (.ref b2), .unset, .unset, .unset, .unset, .unset, .unset, .unset, .unset, .unset] []))
      refine own_il X398 hx 65 (hb hby at_63) rfl rfl ?_
      by_cases hc401 : bs = (0 : Int32)
      · skip
        refine own_ifN X398 hx 68 (hb hby at_65) rfl ((if0 _ _).trans (teq (hc401 : bs = (0 : Int32))).2) ?_
        refine own_al X398 hx 70 (hb hby at_68) rfl rfl rfl ?_
        refine own_ic X398 hx (4 : Int32) 71 (hb hby at_70) rfl rfl ?_
        refine own_bp X398 hx (50 : Int32) 73 (hb hby at_71) rfl rfl ?_
        obtain ⟨cl402, Ar402, q402, Sz402, Nn402, Hs402, G402⟩ := id V398
        obtain ⟨T402, h402, X402, e402, W402, st402⟩ := stC X398 hx hZ e398 Ar402 (j := (4 : Int32)) (inb_of Sz402 ⟨by decide, by decide⟩) (g := (mkF m 73 #[.val (.int i0), .val (.int i1), .val (.int i2), .val (.int i3), .val (.int i4), .val (.int bs), .val (.int lm), .val (.int un), .val (.ref b2), .unset, .unset, .unset, .unset, .unset, .unset, .unset, .unset, .unset] [(.int (50 : Int32)), (.int (4 : Int32)), (.ref b2)])) rfl rfl (hb hby at_73)
        refine own_go st402 ?_
        have V402 : Arv Z h402 b2 k2 .char (8 : Int32) [(.int (115 : Int32)), (.int (104 : Int32)), (.int (97 : Int32)), (.int (45 : Int32)), (.int (50 : Int32)), (.int (0 : Int32)), (.int (0 : Int32)), (.int (0 : Int32))] (.int (0 : Int32)) := Arv.set Ar402 q402 Sz402 Nn402 Hs402 G402 rfl W402 4 rfl (Nat.le_of_ble_eq_true rfl)
        have N402 := Fr.snoc X402 N398 gn2
        have sf403 : Safe Z consts_1 s.vm h398 b2 := Safe.arv hZ.alike V398 (by decide)
        have sz404 : h398.size ≤ h402.size := Nat.le_of_eq (Wr.size W402).symm
        have cr404 : CHr Z consts_1 s.vm h398 s.vm h402 := CHr.wr W402 sf403 CR400.1
        have CR404 := CR400.trans cr404
        show own_Rn p e below _ (T402.setTop (mkF m 74 #[.val (.int i0), .val (.int i1), .val (.int i2), .val (.int i3), .val (.int i4), .val (.int bs), .val (.int lm), .val (.int un), .val (.ref b2), .unset, .unset, .unset, .unset, .unset, .unset, .unset, .unset, .unset] []))
        refine own_al X402 hx 76 (hb hby at_74) rfl rfl rfl ?_
        refine own_ic X402 hx (5 : Int32) 77 (hb hby at_76) rfl rfl ?_
        refine own_bp X402 hx (53 : Int32) 79 (hb hby at_77) rfl rfl ?_
        obtain ⟨cl405, Ar405, q405, Sz405, Nn405, Hs405, G405⟩ := id V402
        obtain ⟨T405, h405, X405, e405, W405, st405⟩ := stC X402 hx hZ e402 Ar405 (j := (5 : Int32)) (inb_of Sz405 ⟨by decide, by decide⟩) (g := (mkF m 79 #[.val (.int i0), .val (.int i1), .val (.int i2), .val (.int i3), .val (.int i4), .val (.int bs), .val (.int lm), .val (.int un), .val (.ref b2), .unset, .unset, .unset, .unset, .unset, .unset, .unset, .unset, .unset] [(.int (53 : Int32)), (.int (5 : Int32)), (.ref b2)])) rfl rfl (hb hby at_79)
        refine own_go st405 ?_
        have V405 : Arv Z h405 b2 k2 .char (8 : Int32) [(.int (115 : Int32)), (.int (104 : Int32)), (.int (97 : Int32)), (.int (45 : Int32)), (.int (50 : Int32)), (.int (53 : Int32)), (.int (0 : Int32)), (.int (0 : Int32))] (.int (0 : Int32)) := Arv.set Ar405 q405 Sz405 Nn405 Hs405 G405 rfl W405 5 rfl (Nat.le_of_ble_eq_true rfl)
        have N405 := Fr.snoc X405 N402 gn2
        have sf406 : Safe Z consts_1 s.vm h402 b2 := Safe.arv hZ.alike V402 (by decide)
        have sz407 : h402.size ≤ h405.size := Nat.le_of_eq (Wr.size W405).symm
        have cr407 : CHr Z consts_1 s.vm h402 s.vm h405 := CHr.wr W405 sf406 CR404.1
        have CR407 := CR404.trans cr407
        show own_Rn p e below _ (T405.setTop (mkF m 80 #[.val (.int i0), .val (.int i1), .val (.int i2), .val (.int i3), .val (.int i4), .val (.int bs), .val (.int lm), .val (.int un), .val (.ref b2), .unset, .unset, .unset, .unset, .unset, .unset, .unset, .unset, .unset] []))
        refine own_al X405 hx 82 (hb hby at_80) rfl rfl rfl ?_
        refine own_bp X405 hx (6 : Int32) 84 (hb hby at_82) rfl rfl ?_
        refine own_bp X405 hx (54 : Int32) 86 (hb hby at_84) rfl rfl ?_
        obtain ⟨cl408, Ar408, q408, Sz408, Nn408, Hs408, G408⟩ := id V405
        obtain ⟨T408, h408, X408, e408, W408, st408⟩ := stC X405 hx hZ e405 Ar408 (j := (6 : Int32)) (inb_of Sz408 ⟨by decide, by decide⟩) (g := (mkF m 86 #[.val (.int i0), .val (.int i1), .val (.int i2), .val (.int i3), .val (.int i4), .val (.int bs), .val (.int lm), .val (.int un), .val (.ref b2), .unset, .unset, .unset, .unset, .unset, .unset, .unset, .unset, .unset] [(.int (54 : Int32)), (.int (6 : Int32)), (.ref b2)])) rfl rfl (hb hby at_86)
        refine own_go st408 ?_
        have V408 : Arv Z h408 b2 k2 .char (8 : Int32) [(.int (115 : Int32)), (.int (104 : Int32)), (.int (97 : Int32)), (.int (45 : Int32)), (.int (50 : Int32)), (.int (53 : Int32)), (.int (54 : Int32)), (.int (0 : Int32))] (.int (0 : Int32)) := Arv.set Ar408 q408 Sz408 Nn408 Hs408 G408 rfl W408 6 rfl (Nat.le_of_ble_eq_true rfl)
        have N408 := Fr.snoc X408 N405 gn2
        have sf409 : Safe Z consts_1 s.vm h405 b2 := Safe.arv hZ.alike V405 (by decide)
        have sz410 : h405.size ≤ h408.size := Nat.le_of_eq (Wr.size W408).symm
        have cr410 : CHr Z consts_1 s.vm h405 s.vm h408 := CHr.wr W408 sf409 CR407.1
        have CR410 := CR407.trans cr410
        show own_Rn p e below _ (T408.setTop (mkF m 87 #[.val (.int i0), .val (.int i1), .val (.int i2), .val (.int i3), .val (.int i4), .val (.int bs), .val (.int lm), .val (.int un), .val (.ref b2), .unset, .unset, .unset, .unset, .unset, .unset, .unset, .unset, .unset] []))
        refine own_gt X408 hx 137 (hb hby at_87) (by decide) (by decide) ?_
        refine own_al X408 hx 139 (hb hby at_137) rfl rfl rfl ?_
        refine own_bp X408 hx (7 : Int32) 141 (hb hby at_139) rfl rfl ?_
        refine own_iln X408 hx 142 (hb hby at_141) rfl rfl ?_
        refine own_bp X408 hx (8 : Int32) 144 (hb hby at_142) rfl rfl ?_
        refine own_iushr X408 hx 145 (hb hby at_144) rfl ?_
        refine own_sp X408 hx (255 : Int32) 148 (hb hby at_145) rfl rfl ?_
        refine own_iand X408 hx 149 (hb hby at_148) rfl ?_
        refine own_i2c X408 hx 150 (hb hby at_149) rfl ?_
        obtain ⟨d7, hd7⟩ : ∃ z : Int32, z = ((((i2.toUInt32 >>> ((8 : Int32) &&& 31).toUInt32).toInt32) &&& (255 : Int32)).toUInt32.toUInt16.toUInt32.toInt32) := ⟨_, rfl⟩
        rw [← hd7]
        show own_Rn p e below _ (T408.setTop (mkF m 150 #[.val (.int i0), .val (.int i1), .val (.int i2), .val (.int i3), .val (.int i4), .val (.int bs), .val (.int lm), .val (.int un), .val (.ref b2), .unset, .unset, .unset, .unset, .unset, .unset, .unset, .unset, .unset] [(.int d7), (.int (7 : Int32)), (.ref b2)]))
        have rd7 : ¬ d7 < 0 ∧ ¬ (255 : Int32) < d7 := by rw [hd7]; exact own_chr_rng _
        have nd7 := own_narC d7 rd7
        obtain ⟨cl411, Ar411, q411, Sz411, Nn411, Hs411, G411⟩ := id V408
        obtain ⟨T411, h411, X411, e411, W411, st411⟩ := stC X408 hx hZ e408 Ar411 (j := (7 : Int32)) (inb_of Sz411 ⟨by decide, by decide⟩) (g := (mkF m 150 #[.val (.int i0), .val (.int i1), .val (.int i2), .val (.int i3), .val (.int i4), .val (.int bs), .val (.int lm), .val (.int un), .val (.ref b2), .unset, .unset, .unset, .unset, .unset, .unset, .unset, .unset, .unset] [(.int d7), (.int (7 : Int32)), (.ref b2)])) rfl rfl (hb hby at_150)
        rw [nd7] at W411
        refine own_go st411 ?_
        have V411 : Arv Z h411 b2 k2 .char (8 : Int32) [(.int (115 : Int32)), (.int (104 : Int32)), (.int (97 : Int32)), (.int (45 : Int32)), (.int (50 : Int32)), (.int (53 : Int32)), (.int (54 : Int32)), (.int d7)] (.int (0 : Int32)) := Arv.set Ar411 q411 Sz411 Nn411 Hs411 G411 (by rw [← nd7]; exact fits_nar_char _) W411 7 rfl (Nat.le_of_ble_eq_true rfl)
        have N411 := Fr.snoc X411 N408 gn2
        have sf412 : Safe Z consts_1 s.vm h408 b2 := Safe.arv hZ.alike V408 (by decide)
        have sz413 : h408.size ≤ h411.size := Nat.le_of_eq (Wr.size W411).symm
        have cr413 : CHr Z consts_1 s.vm h408 s.vm h411 := CHr.wr W411 sf412 CR410.1
        have CR413 := CR410.trans cr413
        show own_Rn p e below _ (T411.setTop (mkF m 151 #[.val (.int i0), .val (.int i1), .val (.int i2), .val (.int i3), .val (.int i4), .val (.int bs), .val (.int lm), .val (.int un), .val (.ref b2), .unset, .unset, .unset, .unset, .unset, .unset, .unset, .unset, .unset] []))
        refine own_gt X411 hx 258 (hb hby at_151) (by decide) (by decide) ?_
        have F414 : Old Z n0 h411 := (((((((((X00.ext E2).wr W389 gn2).wr W392 gn2).wr W395 gn2).wr W398 gn2).wr W402 gn2).wr W405 gn2).wr W408 gn2).wr W411 gn2)
        exact j1 _ _ _ b2 k2 (115 : Int32) (104 : Int32) (97 : Int32) (45 : Int32) (50 : Int32) (53 : Int32) (54 : Int32) d7 X411 e411 N411 (by omega) CR413 F414 gn2 V411 ⟨(by decide), (by decide), (by decide), (by decide), (by decide), (by decide), (by decide), rd7⟩
      · skip
        refine own_ifY X398 hx 90 (hb hby at_65) ((if0 _ _).trans (feq (hc401 : ¬ (bs = (0 : Int32)))).2) (by decide) (by decide) ?_
        refine own_il X398 hx 92 (hb hby at_90) rfl rfl ?_
        refine own_ic X398 hx (1 : Int32) 93 (hb hby at_92) rfl rfl ?_
        by_cases hc415 : bs = (1 : Int32)
        · skip
          refine own_icN X398 hx 96 (hb hby at_93) rfl (teq (hc415 : bs = (1 : Int32))).2 ?_
          refine own_al X398 hx 98 (hb hby at_96) rfl rfl rfl ?_
          refine own_ic X398 hx (4 : Int32) 99 (hb hby at_98) rfl rfl ?_
          refine own_bp X398 hx (51 : Int32) 101 (hb hby at_99) rfl rfl ?_
          obtain ⟨cl416, Ar416, q416, Sz416, Nn416, Hs416, G416⟩ := id V398
          obtain ⟨T416, h416, X416, e416, W416, st416⟩ := stC X398 hx hZ e398 Ar416 (j := (4 : Int32)) (inb_of Sz416 ⟨by decide, by decide⟩) (g := (mkF m 101 #[.val (.int i0), .val (.int i1), .val (.int i2), .val (.int i3), .val (.int i4), .val (.int bs), .val (.int lm), .val (.int un), .val (.ref b2), .unset, .unset, .unset, .unset, .unset, .unset, .unset, .unset, .unset] [(.int (51 : Int32)), (.int (4 : Int32)), (.ref b2)])) rfl rfl (hb hby at_101)
          refine own_go st416 ?_
          have V416 : Arv Z h416 b2 k2 .char (8 : Int32) [(.int (115 : Int32)), (.int (104 : Int32)), (.int (97 : Int32)), (.int (45 : Int32)), (.int (51 : Int32)), (.int (0 : Int32)), (.int (0 : Int32)), (.int (0 : Int32))] (.int (0 : Int32)) := Arv.set Ar416 q416 Sz416 Nn416 Hs416 G416 rfl W416 4 rfl (Nat.le_of_ble_eq_true rfl)
          have N416 := Fr.snoc X416 N398 gn2
          have sf417 : Safe Z consts_1 s.vm h398 b2 := Safe.arv hZ.alike V398 (by decide)
          have sz418 : h398.size ≤ h416.size := Nat.le_of_eq (Wr.size W416).symm
          have cr418 : CHr Z consts_1 s.vm h398 s.vm h416 := CHr.wr W416 sf417 CR400.1
          have CR418 := CR400.trans cr418
          show own_Rn p e below _ (T416.setTop (mkF m 102 #[.val (.int i0), .val (.int i1), .val (.int i2), .val (.int i3), .val (.int i4), .val (.int bs), .val (.int lm), .val (.int un), .val (.ref b2), .unset, .unset, .unset, .unset, .unset, .unset, .unset, .unset, .unset] []))
          refine own_al X416 hx 104 (hb hby at_102) rfl rfl rfl ?_
          refine own_ic X416 hx (5 : Int32) 105 (hb hby at_104) rfl rfl ?_
          refine own_bp X416 hx (56 : Int32) 107 (hb hby at_105) rfl rfl ?_
          obtain ⟨cl419, Ar419, q419, Sz419, Nn419, Hs419, G419⟩ := id V416
          obtain ⟨T419, h419, X419, e419, W419, st419⟩ := stC X416 hx hZ e416 Ar419 (j := (5 : Int32)) (inb_of Sz419 ⟨by decide, by decide⟩) (g := (mkF m 107 #[.val (.int i0), .val (.int i1), .val (.int i2), .val (.int i3), .val (.int i4), .val (.int bs), .val (.int lm), .val (.int un), .val (.ref b2), .unset, .unset, .unset, .unset, .unset, .unset, .unset, .unset, .unset] [(.int (56 : Int32)), (.int (5 : Int32)), (.ref b2)])) rfl rfl (hb hby at_107)
          refine own_go st419 ?_
          have V419 : Arv Z h419 b2 k2 .char (8 : Int32) [(.int (115 : Int32)), (.int (104 : Int32)), (.int (97 : Int32)), (.int (45 : Int32)), (.int (51 : Int32)), (.int (56 : Int32)), (.int (0 : Int32)), (.int (0 : Int32))] (.int (0 : Int32)) := Arv.set Ar419 q419 Sz419 Nn419 Hs419 G419 rfl W419 5 rfl (Nat.le_of_ble_eq_true rfl)
          have N419 := Fr.snoc X419 N416 gn2
          have sf420 : Safe Z consts_1 s.vm h416 b2 := Safe.arv hZ.alike V416 (by decide)
          have sz421 : h416.size ≤ h419.size := Nat.le_of_eq (Wr.size W419).symm
          have cr421 : CHr Z consts_1 s.vm h416 s.vm h419 := CHr.wr W419 sf420 CR418.1
          have CR421 := CR418.trans cr421
          show own_Rn p e below _ (T419.setTop (mkF m 108 #[.val (.int i0), .val (.int i1), .val (.int i2), .val (.int i3), .val (.int i4), .val (.int bs), .val (.int lm), .val (.int un), .val (.ref b2), .unset, .unset, .unset, .unset, .unset, .unset, .unset, .unset, .unset] []))
          refine own_al X419 hx 110 (hb hby at_108) rfl rfl rfl ?_
          refine own_bp X419 hx (6 : Int32) 112 (hb hby at_110) rfl rfl ?_
          refine own_bp X419 hx (52 : Int32) 114 (hb hby at_112) rfl rfl ?_
          obtain ⟨cl422, Ar422, q422, Sz422, Nn422, Hs422, G422⟩ := id V419
          obtain ⟨T422, h422, X422, e422, W422, st422⟩ := stC X419 hx hZ e419 Ar422 (j := (6 : Int32)) (inb_of Sz422 ⟨by decide, by decide⟩) (g := (mkF m 114 #[.val (.int i0), .val (.int i1), .val (.int i2), .val (.int i3), .val (.int i4), .val (.int bs), .val (.int lm), .val (.int un), .val (.ref b2), .unset, .unset, .unset, .unset, .unset, .unset, .unset, .unset, .unset] [(.int (52 : Int32)), (.int (6 : Int32)), (.ref b2)])) rfl rfl (hb hby at_114)
          refine own_go st422 ?_
          have V422 : Arv Z h422 b2 k2 .char (8 : Int32) [(.int (115 : Int32)), (.int (104 : Int32)), (.int (97 : Int32)), (.int (45 : Int32)), (.int (51 : Int32)), (.int (56 : Int32)), (.int (52 : Int32)), (.int (0 : Int32))] (.int (0 : Int32)) := Arv.set Ar422 q422 Sz422 Nn422 Hs422 G422 rfl W422 6 rfl (Nat.le_of_ble_eq_true rfl)
          have N422 := Fr.snoc X422 N419 gn2
          have sf423 : Safe Z consts_1 s.vm h419 b2 := Safe.arv hZ.alike V419 (by decide)
          have sz424 : h419.size ≤ h422.size := Nat.le_of_eq (Wr.size W422).symm
          have cr424 : CHr Z consts_1 s.vm h419 s.vm h422 := CHr.wr W422 sf423 CR421.1
          have CR424 := CR421.trans cr424
          show own_Rn p e below _ (T422.setTop (mkF m 115 #[.val (.int i0), .val (.int i1), .val (.int i2), .val (.int i3), .val (.int i4), .val (.int bs), .val (.int lm), .val (.int un), .val (.ref b2), .unset, .unset, .unset, .unset, .unset, .unset, .unset, .unset, .unset] []))
          refine own_gt X422 hx 137 (hb hby at_115) (by decide) (by decide) ?_
          refine own_al X422 hx 139 (hb hby at_137) rfl rfl rfl ?_
          refine own_bp X422 hx (7 : Int32) 141 (hb hby at_139) rfl rfl ?_
          refine own_iln X422 hx 142 (hb hby at_141) rfl rfl ?_
          refine own_bp X422 hx (8 : Int32) 144 (hb hby at_142) rfl rfl ?_
          refine own_iushr X422 hx 145 (hb hby at_144) rfl ?_
          refine own_sp X422 hx (255 : Int32) 148 (hb hby at_145) rfl rfl ?_
          refine own_iand X422 hx 149 (hb hby at_148) rfl ?_
          refine own_i2c X422 hx 150 (hb hby at_149) rfl ?_
          obtain ⟨d7, hd7⟩ : ∃ z : Int32, z = ((((i2.toUInt32 >>> ((8 : Int32) &&& 31).toUInt32).toInt32) &&& (255 : Int32)).toUInt32.toUInt16.toUInt32.toInt32) := ⟨_, rfl⟩
          rw [← hd7]
          show own_Rn p e below _ (T422.setTop (mkF m 150 #[.val (.int i0), .val (.int i1), .val (.int i2), .val (.int i3), .val (.int i4), .val (.int bs), .val (.int lm), .val (.int un), .val (.ref b2), .unset, .unset, .unset, .unset, .unset, .unset, .unset, .unset, .unset] [(.int d7), (.int (7 : Int32)), (.ref b2)]))
          have rd7 : ¬ d7 < 0 ∧ ¬ (255 : Int32) < d7 := by rw [hd7]; exact own_chr_rng _
          have nd7 := own_narC d7 rd7
          obtain ⟨cl425, Ar425, q425, Sz425, Nn425, Hs425, G425⟩ := id V422
          obtain ⟨T425, h425, X425, e425, W425, st425⟩ := stC X422 hx hZ e422 Ar425 (j := (7 : Int32)) (inb_of Sz425 ⟨by decide, by decide⟩) (g := (mkF m 150 #[.val (.int i0), .val (.int i1), .val (.int i2), .val (.int i3), .val (.int i4), .val (.int bs), .val (.int lm), .val (.int un), .val (.ref b2), .unset, .unset, .unset, .unset, .unset, .unset, .unset, .unset, .unset] [(.int d7), (.int (7 : Int32)), (.ref b2)])) rfl rfl (hb hby at_150)
          rw [nd7] at W425
          refine own_go st425 ?_
          have V425 : Arv Z h425 b2 k2 .char (8 : Int32) [(.int (115 : Int32)), (.int (104 : Int32)), (.int (97 : Int32)), (.int (45 : Int32)), (.int (51 : Int32)), (.int (56 : Int32)), (.int (52 : Int32)), (.int d7)] (.int (0 : Int32)) := Arv.set Ar425 q425 Sz425 Nn425 Hs425 G425 (by rw [← nd7]; exact fits_nar_char _) W425 7 rfl (Nat.le_of_ble_eq_true rfl)
          have N425 := Fr.snoc X425 N422 gn2
          have sf426 : Safe Z consts_1 s.vm h422 b2 := Safe.arv hZ.alike V422 (by decide)
          have sz427 : h422.size ≤ h425.size := Nat.le_of_eq (Wr.size W425).symm
          have cr427 : CHr Z consts_1 s.vm h422 s.vm h425 := CHr.wr W425 sf426 CR424.1
          have CR427 := CR424.trans cr427
          show own_Rn p e below _ (T425.setTop (mkF m 151 #[.val (.int i0), .val (.int i1), .val (.int i2), .val (.int i3), .val (.int i4), .val (.int bs), .val (.int lm), .val (.int un), .val (.ref b2), .unset, .unset, .unset, .unset, .unset, .unset, .unset, .unset, .unset] []))
          refine own_gt X425 hx 258 (hb hby at_151) (by decide) (by decide) ?_
          have F428 : Old Z n0 h425 := (((((((((X00.ext E2).wr W389 gn2).wr W392 gn2).wr W395 gn2).wr W398 gn2).wr W416 gn2).wr W419 gn2).wr W422 gn2).wr W425 gn2)
          exact j1 _ _ _ b2 k2 (115 : Int32) (104 : Int32) (97 : Int32) (45 : Int32) (51 : Int32) (56 : Int32) (52 : Int32) d7 X425 e425 N425 (by omega) CR427 F428 gn2 V425 ⟨(by decide), (by decide), (by decide), (by decide), (by decide), (by decide), (by decide), rd7⟩
        · skip
          refine own_icY X398 hx 118 (hb hby at_93) (feq (hc415 : ¬ (bs = (1 : Int32)))).2 (by decide) (by decide) ?_
          refine own_al X398 hx 120 (hb hby at_118) rfl rfl rfl ?_
          refine own_ic X398 hx (4 : Int32) 121 (hb hby at_120) rfl rfl ?_
          refine own_bp X398 hx (53 : Int32) 123 (hb hby at_121) rfl rfl ?_
          obtain ⟨cl429, Ar429, q429, Sz429, Nn429, Hs429, G429⟩ := id V398
          obtain ⟨T429, h429, X429, e429, W429, st429⟩ := stC X398 hx hZ e398 Ar429 (j := (4 : Int32)) (inb_of Sz429 ⟨by decide, by decide⟩) (g := (mkF m 123 #[.val (.int i0), .val (.int i1), .val (.int i2), .val (.int i3), .val (.int i4), .val (.int bs), .val (.int lm), .val (.int un), .val (.ref b2), .unset, .unset, .unset, .unset, .unset, .unset, .unset, .unset, .unset] [(.int (53 : Int32)), (.int (4 : Int32)), (.ref b2)])) rfl rfl (hb hby at_123)
          refine own_go st429 ?_
          have V429 : Arv Z h429 b2 k2 .char (8 : Int32) [(.int (115 : Int32)), (.int (104 : Int32)), (.int (97 : Int32)), (.int (45 : Int32)), (.int (53 : Int32)), (.int (0 : Int32)), (.int (0 : Int32)), (.int (0 : Int32))] (.int (0 : Int32)) := Arv.set Ar429 q429 Sz429 Nn429 Hs429 G429 rfl W429 4 rfl (Nat.le_of_ble_eq_true rfl)
          have N429 := Fr.snoc X429 N398 gn2
          have sf430 : Safe Z consts_1 s.vm h398 b2 := Safe.arv hZ.alike V398 (by decide)
          have sz431 : h398.size ≤ h429.size := Nat.le_of_eq (Wr.size W429).symm
          have cr431 : CHr Z consts_1 s.vm h398 s.vm h429 := CHr.wr W429 sf430 CR400.1
          have CR431 := CR400.trans cr431
          show own_Rn p e below _ (T429.setTop (mkF m 124 #[.val (.int i0), .val (.int i1), .val (.int i2), .val (.int i3), .val (.int i4), .val (.int bs), .val (.int lm), .val (.int un), .val (.ref b2), .unset, .unset, .unset, .unset, .unset, .unset, .unset, .unset, .unset] []))
          refine own_al X429 hx 126 (hb hby at_124) rfl rfl rfl ?_
          refine own_ic X429 hx (5 : Int32) 127 (hb hby at_126) rfl rfl ?_
          refine own_bp X429 hx (49 : Int32) 129 (hb hby at_127) rfl rfl ?_
          obtain ⟨cl432, Ar432, q432, Sz432, Nn432, Hs432, G432⟩ := id V429
          obtain ⟨T432, h432, X432, e432, W432, st432⟩ := stC X429 hx hZ e429 Ar432 (j := (5 : Int32)) (inb_of Sz432 ⟨by decide, by decide⟩) (g := (mkF m 129 #[.val (.int i0), .val (.int i1), .val (.int i2), .val (.int i3), .val (.int i4), .val (.int bs), .val (.int lm), .val (.int un), .val (.ref b2), .unset, .unset, .unset, .unset, .unset, .unset, .unset, .unset, .unset] [(.int (49 : Int32)), (.int (5 : Int32)), (.ref b2)])) rfl rfl (hb hby at_129)
          refine own_go st432 ?_
          have V432 : Arv Z h432 b2 k2 .char (8 : Int32) [(.int (115 : Int32)), (.int (104 : Int32)), (.int (97 : Int32)), (.int (45 : Int32)), (.int (53 : Int32)), (.int (49 : Int32)), (.int (0 : Int32)), (.int (0 : Int32))] (.int (0 : Int32)) := Arv.set Ar432 q432 Sz432 Nn432 Hs432 G432 rfl W432 5 rfl (Nat.le_of_ble_eq_true rfl)
          have N432 := Fr.snoc X432 N429 gn2
          have sf433 : Safe Z consts_1 s.vm h429 b2 := Safe.arv hZ.alike V429 (by decide)
          have sz434 : h429.size ≤ h432.size := Nat.le_of_eq (Wr.size W432).symm
          have cr434 : CHr Z consts_1 s.vm h429 s.vm h432 := CHr.wr W432 sf433 CR431.1
          have CR434 := CR431.trans cr434
          show own_Rn p e below _ (T432.setTop (mkF m 130 #[.val (.int i0), .val (.int i1), .val (.int i2), .val (.int i3), .val (.int i4), .val (.int bs), .val (.int lm), .val (.int un), .val (.ref b2), .unset, .unset, .unset, .unset, .unset, .unset, .unset, .unset, .unset] []))
          refine own_al X432 hx 132 (hb hby at_130) rfl rfl rfl ?_
          refine own_bp X432 hx (6 : Int32) 134 (hb hby at_132) rfl rfl ?_
          refine own_bp X432 hx (50 : Int32) 136 (hb hby at_134) rfl rfl ?_
          obtain ⟨cl435, Ar435, q435, Sz435, Nn435, Hs435, G435⟩ := id V432
          obtain ⟨T435, h435, X435, e435, W435, st435⟩ := stC X432 hx hZ e432 Ar435 (j := (6 : Int32)) (inb_of Sz435 ⟨by decide, by decide⟩) (g := (mkF m 136 #[.val (.int i0), .val (.int i1), .val (.int i2), .val (.int i3), .val (.int i4), .val (.int bs), .val (.int lm), .val (.int un), .val (.ref b2), .unset, .unset, .unset, .unset, .unset, .unset, .unset, .unset, .unset] [(.int (50 : Int32)), (.int (6 : Int32)), (.ref b2)])) rfl rfl (hb hby at_136)
          refine own_go st435 ?_
          have V435 : Arv Z h435 b2 k2 .char (8 : Int32) [(.int (115 : Int32)), (.int (104 : Int32)), (.int (97 : Int32)), (.int (45 : Int32)), (.int (53 : Int32)), (.int (49 : Int32)), (.int (50 : Int32)), (.int (0 : Int32))] (.int (0 : Int32)) := Arv.set Ar435 q435 Sz435 Nn435 Hs435 G435 rfl W435 6 rfl (Nat.le_of_ble_eq_true rfl)
          have N435 := Fr.snoc X435 N432 gn2
          have sf436 : Safe Z consts_1 s.vm h432 b2 := Safe.arv hZ.alike V432 (by decide)
          have sz437 : h432.size ≤ h435.size := Nat.le_of_eq (Wr.size W435).symm
          have cr437 : CHr Z consts_1 s.vm h432 s.vm h435 := CHr.wr W435 sf436 CR434.1
          have CR437 := CR434.trans cr437
          show own_Rn p e below _ (T435.setTop (mkF m 137 #[.val (.int i0), .val (.int i1), .val (.int i2), .val (.int i3), .val (.int i4), .val (.int bs), .val (.int lm), .val (.int un), .val (.ref b2), .unset, .unset, .unset, .unset, .unset, .unset, .unset, .unset, .unset] []))
          refine own_al X435 hx 139 (hb hby at_137) rfl rfl rfl ?_
          refine own_bp X435 hx (7 : Int32) 141 (hb hby at_139) rfl rfl ?_
          refine own_iln X435 hx 142 (hb hby at_141) rfl rfl ?_
          refine own_bp X435 hx (8 : Int32) 144 (hb hby at_142) rfl rfl ?_
          refine own_iushr X435 hx 145 (hb hby at_144) rfl ?_
          refine own_sp X435 hx (255 : Int32) 148 (hb hby at_145) rfl rfl ?_
          refine own_iand X435 hx 149 (hb hby at_148) rfl ?_
          refine own_i2c X435 hx 150 (hb hby at_149) rfl ?_
          obtain ⟨d7, hd7⟩ : ∃ z : Int32, z = ((((i2.toUInt32 >>> ((8 : Int32) &&& 31).toUInt32).toInt32) &&& (255 : Int32)).toUInt32.toUInt16.toUInt32.toInt32) := ⟨_, rfl⟩
          rw [← hd7]
          show own_Rn p e below _ (T435.setTop (mkF m 150 #[.val (.int i0), .val (.int i1), .val (.int i2), .val (.int i3), .val (.int i4), .val (.int bs), .val (.int lm), .val (.int un), .val (.ref b2), .unset, .unset, .unset, .unset, .unset, .unset, .unset, .unset, .unset] [(.int d7), (.int (7 : Int32)), (.ref b2)]))
          have rd7 : ¬ d7 < 0 ∧ ¬ (255 : Int32) < d7 := by rw [hd7]; exact own_chr_rng _
          have nd7 := own_narC d7 rd7
          obtain ⟨cl438, Ar438, q438, Sz438, Nn438, Hs438, G438⟩ := id V435
          obtain ⟨T438, h438, X438, e438, W438, st438⟩ := stC X435 hx hZ e435 Ar438 (j := (7 : Int32)) (inb_of Sz438 ⟨by decide, by decide⟩) (g := (mkF m 150 #[.val (.int i0), .val (.int i1), .val (.int i2), .val (.int i3), .val (.int i4), .val (.int bs), .val (.int lm), .val (.int un), .val (.ref b2), .unset, .unset, .unset, .unset, .unset, .unset, .unset, .unset, .unset] [(.int d7), (.int (7 : Int32)), (.ref b2)])) rfl rfl (hb hby at_150)
          rw [nd7] at W438
          refine own_go st438 ?_
          have V438 : Arv Z h438 b2 k2 .char (8 : Int32) [(.int (115 : Int32)), (.int (104 : Int32)), (.int (97 : Int32)), (.int (45 : Int32)), (.int (53 : Int32)), (.int (49 : Int32)), (.int (50 : Int32)), (.int d7)] (.int (0 : Int32)) := Arv.set Ar438 q438 Sz438 Nn438 Hs438 G438 (by rw [← nd7]; exact fits_nar_char _) W438 7 rfl (Nat.le_of_ble_eq_true rfl)
          have N438 := Fr.snoc X438 N435 gn2
          have sf439 : Safe Z consts_1 s.vm h435 b2 := Safe.arv hZ.alike V435 (by decide)
          have sz440 : h435.size ≤ h438.size := Nat.le_of_eq (Wr.size W438).symm
          have cr440 : CHr Z consts_1 s.vm h435 s.vm h438 := CHr.wr W438 sf439 CR437.1
          have CR440 := CR437.trans cr440
          show own_Rn p e below _ (T438.setTop (mkF m 151 #[.val (.int i0), .val (.int i1), .val (.int i2), .val (.int i3), .val (.int i4), .val (.int bs), .val (.int lm), .val (.int un), .val (.ref b2), .unset, .unset, .unset, .unset, .unset, .unset, .unset, .unset, .unset] []))
          refine own_gt X438 hx 258 (hb hby at_151) (by decide) (by decide) ?_
          have F441 : Old Z n0 h438 := (((((((((X00.ext E2).wr W389 gn2).wr W392 gn2).wr W395 gn2).wr W398 gn2).wr W429 gn2).wr W432 gn2).wr W435 gn2).wr W438 gn2)
          exact j1 _ _ _ b2 k2 (115 : Int32) (104 : Int32) (97 : Int32) (45 : Int32) (53 : Int32) (49 : Int32) (50 : Int32) d7 X438 e438 N438 (by omega) CR440 F441 gn2 V438 ⟨(by decide), (by decide), (by decide), (by decide), (by decide), (by decide), (by decide), rd7⟩
    · skip
      refine own_icY X2 hx 154 (hb hby at_36) (flt (hc388 : ¬ (bs < (3 : Int32)))).2.1 (by decide) (by decide) ?_
      refine own_al X2 hx 156 (hb hby at_154) rfl rfl rfl ?_
      refine own_ic X2 hx (0 : Int32) 157 (hb hby at_156) rfl rfl ?_
      refine own_iln X2 hx 158 (hb hby at_157) rfl rfl ?_
      refine own_sp X2 hx (255 : Int32) 161 (hb hby at_158) rfl rfl ?_
      refine own_iand X2 hx 162 (hb hby at_161) rfl ?_
      refine own_i2c X2 hx 163 (hb hby at_162) rfl ?_
      obtain ⟨d0, hd0⟩ : ∃ z : Int32, z = ((i3 &&& (255 : Int32)).toUInt32.toUInt16.toUInt32.toInt32) := ⟨_, rfl⟩
      rw [← hd0]
      show own_Rn p e below _ (T2.setTop (mkF m 163 #[.val (.int i0), .val (.int i1), .val (.int i2), .val (.int i3), .val (.int i4), .val (.int bs), .val (.int lm), .val (.int un), .val (.ref b2), .unset, .unset, .unset, .unset, .unset, .unset, .unset, .unset, .unset] [(.int d0), (.int (0 : Int32)), (.ref b2)]))
      have rd0 : ¬ d0 < 0 ∧ ¬ (255 : Int32) < d0 := by rw [hd0]; exact own_chr_rng _
      have nd0 := own_narC d0 rd0
      obtain ⟨cl442, Ar442, q442, Sz442, Nn442, Hs442, G442⟩ := id V2
      obtain ⟨T442, h442, X442, e442, W442, st442⟩ := stC X2 hx hZ e2 Ar442 (j := (0 : Int32)) (inb_of Sz442 ⟨by decide, by decide⟩) (g := (mkF m 163 #[.val (.int i0), .val (.int i1), .val (.int i2), .val (.int i3), .val (.int i4), .val (.int bs), .val (.int lm), .val (.int un), .val (.ref b2), .unset, .unset, .unset, .unset, .unset, .unset, .unset, .unset, .unset] [(.int d0), (.int (0 : Int32)), (.ref b2)])) rfl rfl (hb hby at_163)
      rw [nd0] at W442
      refine own_go st442 ?_
      have V442 : Arv Z h442 b2 k2 .char (8 : Int32) [(.int d0), (.int (0 : Int32)), (.int (0 : Int32)), (.int (0 : Int32)), (.int (0 : Int32)), (.int (0 : Int32)), (.int (0 : Int32)), (.int (0 : Int32))] (.int (0 : Int32)) := Arv.set Ar442 q442 Sz442 Nn442 Hs442 G442 (by rw [← nd0]; exact fits_nar_char _) W442 0 rfl (Nat.le_of_ble_eq_true rfl)
      have N442 := Fr.snoc X442 N0 gn2
      have sf443 : Safe Z consts_1 s.vm h2 b2 := Safe.arv hZ.alike V2 (by decide)
      have sz444 : h2.size ≤ h442.size := Nat.le_of_eq (Wr.size W442).symm
      have cr444 : CHr Z consts_1 s.vm h2 s.vm h442 := CHr.wr W442 sf443 CR3.1
      have CR444 := CR3.trans cr444
      show own_Rn p e below _ (T442.setTop (mkF m 164 #[.val (.int i0), .val (.int i1), .val (.int i2), .val (.int i3), .val (.int i4), .val (.int bs), .val (.int lm), .val (.int un), .val (.ref b2), .unset, .unset, .unset, .unset, .unset, .unset, .unset, .unset, .unset] []))
      refine own_al X442 hx 166 (hb hby at_164) rfl rfl rfl ?_
      refine own_ic X442 hx (1 : Int32) 167 (hb hby at_166) rfl rfl ?_
      refine own_iln X442 hx 168 (hb hby at_167) rfl rfl ?_
      refine own_bp X442 hx (8 : Int32) 170 (hb hby at_168) rfl rfl ?_
      refine own_iushr X442 hx 171 (hb hby at_170) rfl ?_
      refine own_sp X442 hx (255 : Int32) 174 (hb hby at_171) rfl rfl ?_
      refine own_iand X442 hx 175 (hb hby at_174) rfl ?_
      refine own_i2c X442 hx 176 (hb hby at_175) rfl ?_
      obtain ⟨d1, hd1⟩ : ∃ z : Int32, z = ((((i3.toUInt32 >>> ((8 : Int32) &&& 31).toUInt32).toInt32) &&& (255 : Int32)).toUInt32.toUInt16.toUInt32.toInt32) := ⟨_, rfl⟩
      rw [← hd1]
      show own_Rn p e below _ (T442.setTop (mkF m 176 #[.val (.int i0), .val (.int i1), .val (.int i2), .val (.int i3), .val (.int i4), .val (.int bs), .val (.int lm), .val (.int un), .val (.ref b2), .unset, .unset, .unset, .unset, .unset, .unset, .unset, .unset, .unset] [(.int d1), (.int (1 : Int32)), (.ref b2)]))
      have rd1 : ¬ d1 < 0 ∧ ¬ (255 : Int32) < d1 := by rw [hd1]; exact own_chr_rng _
      have nd1 := own_narC d1 rd1
      obtain ⟨cl445, Ar445, q445, Sz445, Nn445, Hs445, G445⟩ := id V442
      obtain ⟨T445, h445, X445, e445, W445, st445⟩ := stC X442 hx hZ e442 Ar445 (j := (1 : Int32)) (inb_of Sz445 ⟨by decide, by decide⟩) (g := (mkF m 176 #[.val (.int i0), .val (.int i1), .val (.int i2), .val (.int i3), .val (.int i4), .val (.int bs), .val (.int lm), .val (.int un), .val (.ref b2), .unset, .unset, .unset, .unset, .unset, .unset, .unset, .unset, .unset] [(.int d1), (.int (1 : Int32)), (.ref b2)])) rfl rfl (hb hby at_176)
      rw [nd1] at W445
      refine own_go st445 ?_
      have V445 : Arv Z h445 b2 k2 .char (8 : Int32) [(.int d0), (.int d1), (.int (0 : Int32)), (.int (0 : Int32)), (.int (0 : Int32)), (.int (0 : Int32)), (.int (0 : Int32)), (.int (0 : Int32))] (.int (0 : Int32)) := Arv.set Ar445 q445 Sz445 Nn445 Hs445 G445 (by rw [← nd1]; exact fits_nar_char _) W445 1 rfl (Nat.le_of_ble_eq_true rfl)
      have N445 := Fr.snoc X445 N442 gn2
      have sf446 : Safe Z consts_1 s.vm h442 b2 := Safe.arv hZ.alike V442 (by decide)
      have sz447 : h442.size ≤ h445.size := Nat.le_of_eq (Wr.size W445).symm
      have cr447 : CHr Z consts_1 s.vm h442 s.vm h445 := CHr.wr W445 sf446 CR444.1
      have CR447 := CR444.trans cr447
      show own_Rn p e below _ (T445.setTop (mkF m 177 #[.val (.int i0), .val (.int i1), .val (.int i2), .val (.int i3), .val (.int i4), .val (.int bs), .val (.int lm), .val (.int un), .val (.ref b2), .unset, .unset, .unset, .unset, .unset, .unset, .unset, .unset, .unset] []))
      refine own_al X445 hx 179 (hb hby at_177) rfl rfl rfl ?_
      refine own_ic X445 hx (2 : Int32) 180 (hb hby at_179) rfl rfl ?_
      refine own_iln X445 hx 181 (hb hby at_180) rfl rfl ?_
      refine own_bp X445 hx (16 : Int32) 183 (hb hby at_181) rfl rfl ?_
      refine own_iushr X445 hx 184 (hb hby at_183) rfl ?_
      refine own_sp X445 hx (255 : Int32) 187 (hb hby at_184) rfl rfl ?_
      refine own_iand X445 hx 188 (hb hby at_187) rfl ?_
      refine own_i2c X445 hx 189 (hb hby at_188) rfl ?_
      obtain ⟨d2, hd2⟩ : ∃ z : Int32, z = ((((i3.toUInt32 >>> ((16 : Int32) &&& 31).toUInt32).toInt32) &&& (255 : Int32)).toUInt32.toUInt16.toUInt32.toInt32) := ⟨_, rfl⟩
      rw [← hd2]
      show own_Rn p e below _ (T445.setTop (mkF m 189 #[.val (.int i0), .val (.int i1), .val (.int i2), .val (.int i3), .val (.int i4), .val (.int bs), .val (.int lm), .val (.int un), .val (.ref b2), .unset, .unset, .unset, .unset, .unset, .unset, .unset, .unset, .unset] [(.int d2), (.int (2 : Int32)), (.ref b2)]))
      have rd2 : ¬ d2 < 0 ∧ ¬ (255 : Int32) < d2 := by rw [hd2]; exact own_chr_rng _
      have nd2 := own_narC d2 rd2
      obtain ⟨cl448, Ar448, q448, Sz448, Nn448, Hs448, G448⟩ := id V445
      obtain ⟨T448, h448, X448, e448, W448, st448⟩ := stC X445 hx hZ e445 Ar448 (j := (2 : Int32)) (inb_of Sz448 ⟨by decide, by decide⟩) (g := (mkF m 189 #[.val (.int i0), .val (.int i1), .val (.int i2), .val (.int i3), .val (.int i4), .val (.int bs), .val (.int lm), .val (.int un), .val (.ref b2), .unset, .unset, .unset, .unset, .unset, .unset, .unset, .unset, .unset] [(.int d2), (.int (2 : Int32)), (.ref b2)])) rfl rfl (hb hby at_189)
      rw [nd2] at W448
      refine own_go st448 ?_
      have V448 : Arv Z h448 b2 k2 .char (8 : Int32) [(.int d0), (.int d1), (.int d2), (.int (0 : Int32)), (.int (0 : Int32)), (.int (0 : Int32)), (.int (0 : Int32)), (.int (0 : Int32))] (.int (0 : Int32)) := Arv.set Ar448 q448 Sz448 Nn448 Hs448 G448 (by rw [← nd2]; exact fits_nar_char _) W448 2 rfl (Nat.le_of_ble_eq_true rfl)
      have N448 := Fr.snoc X448 N445 gn2
      have sf449 : Safe Z consts_1 s.vm h445 b2 := Safe.arv hZ.alike V445 (by decide)
      have sz450 : h445.size ≤ h448.size := Nat.le_of_eq (Wr.size W448).symm
      have cr450 : CHr Z consts_1 s.vm h445 s.vm h448 := CHr.wr W448 sf449 CR447.1
      have CR450 := CR447.trans cr450
      show own_Rn p e below _ (T448.setTop (mkF m 190 #[.val (.int i0), .val (.int i1), .val (.int i2), .val (.int i3), .val (.int i4), .val (.int bs), .val (.int lm), .val (.int un), .val (.ref b2), .unset, .unset, .unset, .unset, .unset, .unset, .unset, .unset, .unset] []))
      refine own_al X448 hx 192 (hb hby at_190) rfl rfl rfl ?_
      refine own_ic X448 hx (3 : Int32) 193 (hb hby at_192) rfl rfl ?_
      refine own_iln X448 hx 194 (hb hby at_193) rfl rfl ?_
      refine own_bp X448 hx (24 : Int32) 196 (hb hby at_194) rfl rfl ?_
      refine own_iushr X448 hx 197 (hb hby at_196) rfl ?_
      refine own_sp X448 hx (255 : Int32) 200 (hb hby at_197) rfl rfl ?_
      refine own_iand X448 hx 201 (hb hby at_200) rfl ?_
      refine own_i2c X448 hx 202 (hb hby at_201) rfl ?_
      obtain ⟨d3, hd3⟩ : ∃ z : Int32, z = ((((i3.toUInt32 >>> ((24 : Int32) &&& 31).toUInt32).toInt32) &&& (255 : Int32)).toUInt32.toUInt16.toUInt32.toInt32) := ⟨_, rfl⟩
      rw [← hd3]
      show own_Rn p e below _ (T448.setTop (mkF m 202 #[.val (.int i0), .val (.int i1), .val (.int i2), .val (.int i3), .val (.int i4), .val (.int bs), .val (.int lm), .val (.int un), .val (.ref b2), .unset, .unset, .unset, .unset, .unset, .unset, .unset, .unset, .unset] [(.int d3), (.int (3 : Int32)), (.ref b2)]))
      have rd3 : ¬ d3 < 0 ∧ ¬ (255 : Int32) < d3 := by rw [hd3]; exact own_chr_rng _
      have nd3 := own_narC d3 rd3
      obtain ⟨cl451, Ar451, q451, Sz451, Nn451, Hs451, G451⟩ := id V448
      obtain ⟨T451, h451, X451, e451, W451, st451⟩ := stC X448 hx hZ e448 Ar451 (j := (3 : Int32)) (inb_of Sz451 ⟨by decide, by decide⟩) (g := (mkF m 202 #[.val (.int i0), .val (.int i1), .val (.int i2), .val (.int i3), .val (.int i4), .val (.int bs), .val (.int lm), .val (.int un), .val (.ref b2), .unset, .unset, .unset, .unset, .unset, .unset, .unset, .unset, .unset] [(.int d3), (.int (3 : Int32)), (.ref b2)])) rfl rfl (hb hby at_202)
      rw [nd3] at W451
      refine own_go st451 ?_
      have V451 : Arv Z h451 b2 k2 .char (8 : Int32) [(.int d0), (.int d1), (.int d2), (.int d3), (.int (0 : Int32)), (.int (0 : Int32)), (.int (0 : Int32)), (.int (0 : Int32))] (.int (0 : Int32)) := Arv.set Ar451 q451 Sz451 Nn451 Hs451 G451 (by rw [← nd3]; exact fits_nar_char _) W451 3 rfl (Nat.le_of_ble_eq_true rfl)
      have N451 := Fr.snoc X451 N448 gn2
      have sf452 : Safe Z consts_1 s.vm h448 b2 := Safe.arv hZ.alike V448 (by decide)
      have sz453 : h448.size ≤ h451.size := Nat.le_of_eq (Wr.size W451).symm
      have cr453 : CHr Z consts_1 s.vm h448 s.vm h451 := CHr.wr W451 sf452 CR450.1
      have CR453 := CR450.trans cr453
      show own_Rn p e below _ (T451.setTop (mkF m 203 #[.val (.int i0), .val (.int i1), .val (.int i2), .val (.int i3), .val (.int i4), .val (.int bs), .val (.int lm), .val (.int un), .val (.ref b2), .unset, .unset, .unset, .unset, .unset, .unset, .unset, .unset, .unset] []))
      refine own_al X451 hx 205 (hb hby at_203) rfl rfl rfl ?_
      refine own_ic X451 hx (4 : Int32) 206 (hb hby at_205) rfl rfl ?_
      refine own_il X451 hx 208 (hb hby at_206) rfl rfl ?_
      refine own_sp X451 hx (255 : Int32) 211 (hb hby at_208) rfl rfl ?_
      refine own_iand X451 hx 212 (hb hby at_211) rfl ?_
      refine own_i2c X451 hx 213 (hb hby at_212) rfl ?_
      obtain ⟨d4, hd4⟩ : ∃ z : Int32, z = ((i4 &&& (255 : Int32)).toUInt32.toUInt16.toUInt32.toInt32) := ⟨_, rfl⟩
      rw [← hd4]
      show own_Rn p e below _ (T451.setTop (mkF m 213 #[.val (.int i0), .val (.int i1), .val (.int i2), .val (.int i3), .val (.int i4), .val (.int bs), .val (.int lm), .val (.int un), .val (.ref b2), .unset, .unset, .unset, .unset, .unset, .unset, .unset, .unset, .unset] [(.int d4), (.int (4 : Int32)), (.ref b2)]))
      have rd4 : ¬ d4 < 0 ∧ ¬ (255 : Int32) < d4 := by rw [hd4]; exact own_chr_rng _
      have nd4 := own_narC d4 rd4
      obtain ⟨cl454, Ar454, q454, Sz454, Nn454, Hs454, G454⟩ := id V451
      obtain ⟨T454, h454, X454, e454, W454, st454⟩ := stC X451 hx hZ e451 Ar454 (j := (4 : Int32)) (inb_of Sz454 ⟨by decide, by decide⟩) (g := (mkF m 213 #[.val (.int i0), .val (.int i1), .val (.int i2), .val (.int i3), .val (.int i4), .val (.int bs), .val (.int lm), .val (.int un), .val (.ref b2), .unset, .unset, .unset, .unset, .unset, .unset, .unset, .unset, .unset] [(.int d4), (.int (4 : Int32)), (.ref b2)])) rfl rfl (hb hby at_213)
      rw [nd4] at W454
      refine own_go st454 ?_
      have V454 : Arv Z h454 b2 k2 .char (8 : Int32) [(.int d0), (.int d1), (.int d2), (.int d3), (.int d4), (.int (0 : Int32)), (.int (0 : Int32)), (.int (0 : Int32))] (.int (0 : Int32)) := Arv.set Ar454 q454 Sz454 Nn454 Hs454 G454 (by rw [← nd4]; exact fits_nar_char _) W454 4 rfl (Nat.le_of_ble_eq_true rfl)
      have N454 := Fr.snoc X454 N451 gn2
      have sf455 : Safe Z consts_1 s.vm h451 b2 := Safe.arv hZ.alike V451 (by decide)
      have sz456 : h451.size ≤ h454.size := Nat.le_of_eq (Wr.size W454).symm
      have cr456 : CHr Z consts_1 s.vm h451 s.vm h454 := CHr.wr W454 sf455 CR453.1
      have CR456 := CR453.trans cr456
      show own_Rn p e below _ (T454.setTop (mkF m 214 #[.val (.int i0), .val (.int i1), .val (.int i2), .val (.int i3), .val (.int i4), .val (.int bs), .val (.int lm), .val (.int un), .val (.ref b2), .unset, .unset, .unset, .unset, .unset, .unset, .unset, .unset, .unset] []))
      refine own_al X454 hx 216 (hb hby at_214) rfl rfl rfl ?_
      refine own_ic X454 hx (5 : Int32) 217 (hb hby at_216) rfl rfl ?_
      refine own_il X454 hx 219 (hb hby at_217) rfl rfl ?_
      refine own_bp X454 hx (8 : Int32) 221 (hb hby at_219) rfl rfl ?_
      refine own_iushr X454 hx 222 (hb hby at_221) rfl ?_
      refine own_sp X454 hx (255 : Int32) 225 (hb hby at_222) rfl rfl ?_
      refine own_iand X454 hx 226 (hb hby at_225) rfl ?_
      refine own_i2c X454 hx 227 (hb hby at_226) rfl ?_
      obtain ⟨d5, hd5⟩ : ∃ z : Int32, z = ((((i4.toUInt32 >>> ((8 : Int32) &&& 31).toUInt32).toInt32) &&& (255 : Int32)).toUInt32.toUInt16.toUInt32.toInt32) := ⟨_, rfl⟩
      rw [← hd5]
      show own_Rn p e below _ (T454.setTop (mkF m 227 #[.val (.int i0), .val (.int i1), .val (.int i2), .val (.int i3), .val (.int i4), .val (.int bs), .val (.int lm), .val (.int un), .val (.ref b2), .unset, .unset, .unset, .unset, .unset, .unset, .unset, .unset, .unset] [(.int d5), (.int (5 : Int32)), (.ref b2)]))
      have rd5 : ¬ d5 < 0 ∧ ¬ (255 : Int32) < d5 := by rw [hd5]; exact own_chr_rng _
      have nd5 := own_narC d5 rd5
      obtain ⟨cl457, Ar457, q457, Sz457, Nn457, Hs457, G457⟩ := id V454
      obtain ⟨T457, h457, X457, e457, W457, st457⟩ := stC X454 hx hZ e454 Ar457 (j := (5 : Int32)) (inb_of Sz457 ⟨by decide, by decide⟩) (g := (mkF m 227 #[.val (.int i0), .val (.int i1), .val (.int i2), .val (.int i3), .val (.int i4), .val (.int bs), .val (.int lm), .val (.int un), .val (.ref b2), .unset, .unset, .unset, .unset, .unset, .unset, .unset, .unset, .unset] [(.int d5), (.int (5 : Int32)), (.ref b2)])) rfl rfl (hb hby at_227)
      rw [nd5] at W457
      refine own_go st457 ?_
      have V457 : Arv Z h457 b2 k2 .char (8 : Int32) [(.int d0), (.int d1), (.int d2), (.int d3), (.int d4), (.int d5), (.int (0 : Int32)), (.int (0 : Int32))] (.int (0 : Int32)) := Arv.set Ar457 q457 Sz457 Nn457 Hs457 G457 (by rw [← nd5]; exact fits_nar_char _) W457 5 rfl (Nat.le_of_ble_eq_true rfl)
      have N457 := Fr.snoc X457 N454 gn2
      have sf458 : Safe Z consts_1 s.vm h454 b2 := Safe.arv hZ.alike V454 (by decide)
      have sz459 : h454.size ≤ h457.size := Nat.le_of_eq (Wr.size W457).symm
      have cr459 : CHr Z consts_1 s.vm h454 s.vm h457 := CHr.wr W457 sf458 CR456.1
      have CR459 := CR456.trans cr459
      show own_Rn p e below _ (T457.setTop (mkF m 228 #[.val (.int i0), .val (.int i1), .val (.int i2), .val (.int i3), .val (.int i4), .val (.int bs), .val (.int lm), .val (.int un), .val (.ref b2), .unset, .unset, .unset, .unset, .unset, .unset, .unset, .unset, .unset] []))
      refine own_al X457 hx 230 (hb hby at_228) rfl rfl rfl ?_
      refine own_bp X457 hx (6 : Int32) 232 (hb hby at_230) rfl rfl ?_
      refine own_il X457 hx 234 (hb hby at_232) rfl rfl ?_
      refine own_bp X457 hx (16 : Int32) 236 (hb hby at_234) rfl rfl ?_
      refine own_iushr X457 hx 237 (hb hby at_236) rfl ?_
      refine own_sp X457 hx (255 : Int32) 240 (hb hby at_237) rfl rfl ?_
      refine own_iand X457 hx 241 (hb hby at_240) rfl ?_
      refine own_i2c X457 hx 242 (hb hby at_241) rfl ?_
      obtain ⟨d6, hd6⟩ : ∃ z : Int32, z = ((((i4.toUInt32 >>> ((16 : Int32) &&& 31).toUInt32).toInt32) &&& (255 : Int32)).toUInt32.toUInt16.toUInt32.toInt32) := ⟨_, rfl⟩
      rw [← hd6]
      show own_Rn p e below _ (T457.setTop (mkF m 242 #[.val (.int i0), .val (.int i1), .val (.int i2), .val (.int i3), .val (.int i4), .val (.int bs), .val (.int lm), .val (.int un), .val (.ref b2), .unset, .unset, .unset, .unset, .unset, .unset, .unset, .unset, .unset] [(.int d6), (.int (6 : Int32)), (.ref b2)]))
      have rd6 : ¬ d6 < 0 ∧ ¬ (255 : Int32) < d6 := by rw [hd6]; exact own_chr_rng _
      have nd6 := own_narC d6 rd6
      obtain ⟨cl460, Ar460, q460, Sz460, Nn460, Hs460, G460⟩ := id V457
      obtain ⟨T460, h460, X460, e460, W460, st460⟩ := stC X457 hx hZ e457 Ar460 (j := (6 : Int32)) (inb_of Sz460 ⟨by decide, by decide⟩) (g := (mkF m 242 #[.val (.int i0), .val (.int i1), .val (.int i2), .val (.int i3), .val (.int i4), .val (.int bs), .val (.int lm), .val (.int un), .val (.ref b2), .unset, .unset, .unset, .unset, .unset, .unset, .unset, .unset, .unset] [(.int d6), (.int (6 : Int32)), (.ref b2)])) rfl rfl (hb hby at_242)
      rw [nd6] at W460
      refine own_go st460 ?_
      have V460 : Arv Z h460 b2 k2 .char (8 : Int32) [(.int d0), (.int d1), (.int d2), (.int d3), (.int d4), (.int d5), (.int d6), (.int (0 : Int32))] (.int (0 : Int32)) := Arv.set Ar460 q460 Sz460 Nn460 Hs460 G460 (by rw [← nd6]; exact fits_nar_char _) W460 6 rfl (Nat.le_of_ble_eq_true rfl)
      have N460 := Fr.snoc X460 N457 gn2
      have sf461 : Safe Z consts_1 s.vm h457 b2 := Safe.arv hZ.alike V457 (by decide)
      have sz462 : h457.size ≤ h460.size := Nat.le_of_eq (Wr.size W460).symm
      have cr462 : CHr Z consts_1 s.vm h457 s.vm h460 := CHr.wr W460 sf461 CR459.1
      have CR462 := CR459.trans cr462
      show own_Rn p e below _ (T460.setTop (mkF m 243 #[.val (.int i0), .val (.int i1), .val (.int i2), .val (.int i3), .val (.int i4), .val (.int bs), .val (.int lm), .val (.int un), .val (.ref b2), .unset, .unset, .unset, .unset, .unset, .unset, .unset, .unset, .unset] []))
      refine own_al X460 hx 245 (hb hby at_243) rfl rfl rfl ?_
      refine own_bp X460 hx (7 : Int32) 247 (hb hby at_245) rfl rfl ?_
      refine own_il X460 hx 249 (hb hby at_247) rfl rfl ?_
      refine own_bp X460 hx (24 : Int32) 251 (hb hby at_249) rfl rfl ?_
      refine own_iushr X460 hx 252 (hb hby at_251) rfl ?_
      refine own_sp X460 hx (255 : Int32) 255 (hb hby at_252) rfl rfl ?_
      refine own_iand X460 hx 256 (hb hby at_255) rfl ?_
      refine own_i2c X460 hx 257 (hb hby at_256) rfl ?_
      obtain ⟨d7, hd7⟩ : ∃ z : Int32, z = ((((i4.toUInt32 >>> ((24 : Int32) &&& 31).toUInt32).toInt32) &&& (255 : Int32)).toUInt32.toUInt16.toUInt32.toInt32) := ⟨_, rfl⟩
      rw [← hd7]
      show own_Rn p e below _ (T460.setTop (mkF m 257 #[.val (.int i0), .val (.int i1), .val (.int i2), .val (.int i3), .val (.int i4), .val (.int bs), .val (.int lm), .val (.int un), .val (.ref b2), .unset, .unset, .unset, .unset, .unset, .unset, .unset, .unset, .unset] [(.int d7), (.int (7 : Int32)), (.ref b2)]))
      have rd7 : ¬ d7 < 0 ∧ ¬ (255 : Int32) < d7 := by rw [hd7]; exact own_chr_rng _
      have nd7 := own_narC d7 rd7
      obtain ⟨cl463, Ar463, q463, Sz463, Nn463, Hs463, G463⟩ := id V460
      obtain ⟨T463, h463, X463, e463, W463, st463⟩ := stC X460 hx hZ e460 Ar463 (j := (7 : Int32)) (inb_of Sz463 ⟨by decide, by decide⟩) (g := (mkF m 257 #[.val (.int i0), .val (.int i1), .val (.int i2), .val (.int i3), .val (.int i4), .val (.int bs), .val (.int lm), .val (.int un), .val (.ref b2), .unset, .unset, .unset, .unset, .unset, .unset, .unset, .unset, .unset] [(.int d7), (.int (7 : Int32)), (.ref b2)])) rfl rfl (hb hby at_257)
      rw [nd7] at W463
      refine own_go st463 ?_
      have V463 : Arv Z h463 b2 k2 .char (8 : Int32) [(.int d0), (.int d1), (.int d2), (.int d3), (.int d4), (.int d5), (.int d6), (.int d7)] (.int (0 : Int32)) := Arv.set Ar463 q463 Sz463 Nn463 Hs463 G463 (by rw [← nd7]; exact fits_nar_char _) W463 7 rfl (Nat.le_of_ble_eq_true rfl)
      have N463 := Fr.snoc X463 N460 gn2
      have sf464 : Safe Z consts_1 s.vm h460 b2 := Safe.arv hZ.alike V460 (by decide)
      have sz465 : h460.size ≤ h463.size := Nat.le_of_eq (Wr.size W463).symm
      have cr465 : CHr Z consts_1 s.vm h460 s.vm h463 := CHr.wr W463 sf464 CR462.1
      have CR465 := CR462.trans cr465
      show own_Rn p e below _ (T463.setTop (mkF m 258 #[.val (.int i0), .val (.int i1), .val (.int i2), .val (.int i3), .val (.int i4), .val (.int bs), .val (.int lm), .val (.int un), .val (.ref b2), .unset, .unset, .unset, .unset, .unset, .unset, .unset, .unset, .unset] []))
      have F466 : Old Z n0 h463 := (((((((((X00.ext E2).wr W442 gn2).wr W445 gn2).wr W448 gn2).wr W451 gn2).wr W454 gn2).wr W457 gn2).wr W460 gn2).wr W463 gn2)
      exact j1 _ _ _ b2 k2 d0 d1 d2 d3 d4 d5 d6 d7 X463 e463 N463 (by omega) CR465 F466 gn2 V463 ⟨rd0, rd1, rd2, rd3, rd4, rd5, rd6, rd7⟩
  by_cases hc467 : (((i0.toUInt32 >>> ((4 : Int32) &&& 31).toUInt32).toInt32) &&& (1 : Int32)) = (0 : Int32)
  · skip
    refine own_ifY X0 hx 24 (hb hby at_17) ((if0 _ _).trans (teq (hc467 : (((i0.toUInt32 >>> ((4 : Int32) &&& 31).toUInt32).toInt32) &&& (1 : Int32)) = (0 : Int32))).1) (by decide) (by decide) ?_
    refine own_ic X0 hx (0 : Int32) 25 (hb hby at_24) rfl rfl ?_
    exact jU _
  · skip
    refine own_ifN X0 hx 20 (hb hby at_17) rfl ((if0 _ _).trans (feq (hc467 : ¬ ((((i0.toUInt32 >>> ((4 : Int32) &&& 31).toUInt32).toInt32) &&& (1 : Int32)) = (0 : Int32)))).1) ?_
    refine own_ic X0 hx (1 : Int32) 21 (hb hby at_20) rfl rfl ?_
    refine own_gt X0 hx 25 (hb hby at_21) (by decide) (by decide) ?_
    exact jU _
set_option maxRecDepth 65536 in
set_option maxHeartbeats 40000000 in
theorem comes_1 {Post : Tables → Env → Array Value → State → Outcome → State → Prop} (hpost : ∀ tb e args s v u, (limb_1_1.after args s (.returned v) u = true ∧ limb_1_2.after args s (.returned v) u = true ∧ True) → ReturnedEndW s (.returned v) u (Jvm.fieldLocs frame_1_writes args s ++ Jvm.arrayLocs frame_1_arrays args s ++ Jvm.staticLocs frame_1_statics s) 32 1216 → Post tb e args s (.returned v) u) :
    ArmFor flags0 classFile x code maxLocals ret World_1 tables_1 room_1 Calls_1 rest_1 Pre_1 Post := by
  intro l hfl _ _ p e ha hc hk s m args below hf hA hF happ hP
  obtain ⟨hcalls, hrest, hpre⟩ := hP
  obtain ⟨-, -, -, hnamed, -, -, -, hat⟩ := (Spec.applies_iff hf).mp happ
  obtain ⟨hg, hn⟩ := and_e (Cond.before_iff.mp (show (Jvm.Cond.and given_1 narrow_1).before args s = true from hpre))
  obtain ⟨h1, hr⟩ := and_e hg
  obtain ⟨w0, w1, w2, w3, w4, rfl⟩ : ∃ w0 w1 w2 w3 w4 : Value, args = #[w0, w1, w2, w3, w4] := by
    have hs : args.size = 5 := by simpa [Cond.value, given_1] using h1
    obtain ⟨L⟩ := args
    match L, hs with
    | [w0, w1, w2, w3, w4], _ => exact ⟨w0, w1, w2, w3, w4, rfl⟩
  have hw := fun d (hd : d ∈ tables_1) => atoms_spec (ws := Jvm.Cond.code x code maxLocals ret :: tables_1) hat d (List.mem_cons_of_mem _ hd)
  have hfit : Fit s := fun {y c} hc i hi => by
    obtain ⟨ha, rfl⟩ := Array.getElem?_eq_some_iff.mp hc
    have q := List.all_eq_true.mp ((Array.all_eq_true_iff_forall_mem.mp hF) _ (Array.getElem_mem ha)) i (List.mem_range.mpr hi)
    simpa [Array.getElem?_eq_getElem hi] using q
  obtain ⟨ha0, hr⟩ := and_e hr
  obtain ⟨i0, ee0⟩ := is_v ha0
  obtain rfl : w0 = (.int i0) := Option.some.inj ee0
  obtain ⟨ha1, hr⟩ := and_e hr
  obtain ⟨i1, ee1⟩ := is_v ha1
  obtain rfl : w1 = (.int i1) := Option.some.inj ee1
  obtain ⟨ha2, hr⟩ := and_e hr
  obtain ⟨i2, ee2⟩ := is_v ha2
  obtain rfl : w2 = (.int i2) := Option.some.inj ee2
  obtain ⟨ha3, hr⟩ := and_e hr
  obtain ⟨i3, ee3⟩ := is_v ha3
  obtain rfl : w3 = (.int i3) := Option.some.inj ee3
  obtain ⟨i4, ee4⟩ := is_v hr
  obtain rfl : w4 = (.int i4) := Option.some.inj ee4
  obtain ⟨hsets, hown0⟩ := atoms_of _ (rest_1_c_eq ▸ (show rest_1_c.before _ s = true from hrest))
  have n5 := not_v (Cond.before_iff.mp (hsets _ (List.mem_of_getElem? (i := 2) rfl)))
  obtain ⟨G1, e10⟩ := is_v (Cond.before_iff.mp (hsets _ (List.mem_of_getElem? (i := 1) rfl)))
  have O2 : Sta s s.heap "java/lang/String" "COMPACT_STRINGS" "Z" (.int G1) := Sta.start e10 (Or.inl (hsets _ (List.mem_of_getElem? (i := 0) rfl)))
  obtain ⟨G3, e14, rG3⟩ := isR_v (Cond.before_iff.mp (hsets _ (List.mem_of_getElem? (i := 8) rfl)))
  have O4 : Sta s s.heap "jdk/internal/util/Preconditions" "SIOOBE_FORMATTER" "Ljava/util/function/BiFunction;" G3 := Sta.start e14 (Or.inl (hsets _ (List.mem_of_getElem? (i := 7) rfl)))
  have P5 : ¬ (G1 = (0 : Int32)) := gotF (Cond.eq_ints e10 (Term.int_eval (0))) n5
  obtain ⟨q0, hn⟩ := and_e hn
  obtain ⟨q1, hn⟩ := and_e hn
  obtain ⟨q2, hn⟩ := and_e hn
  obtain ⟨q3, hn⟩ := and_e hn
  obtain ⟨q4, hn⟩ := and_e hn
  obtain ⟨q5, hn⟩ := and_e hn
  obtain ⟨q6, hn⟩ := and_e hn
  obtain ⟨q7, hn⟩ := and_e hn
  obtain ⟨q8, hn⟩ := and_e hn
  obtain ⟨q9, hn⟩ := and_e hn
  obtain ⟨q10, hn⟩ := and_e hn
  obtain ⟨q11, hn⟩ := and_e hn
  obtain ⟨q12, hn⟩ := and_e hn
  obtain ⟨q13, hn⟩ := and_e hn
  obtain ⟨q14, hn⟩ := and_e hn
  obtain ⟨q15, hn⟩ := and_e hn
  obtain ⟨q16, hn⟩ := and_e hn
  obtain ⟨q17, hn⟩ := and_e hn
  obtain ⟨q18, hn⟩ := and_e hn
  obtain ⟨q19, hn⟩ := and_e hn
  obtain ⟨q20, hn⟩ := and_e hn
  obtain ⟨q21, hn⟩ := and_e hn
  obtain ⟨q22, hn⟩ := and_e hn
  obtain ⟨q23, hn⟩ := and_e hn
  obtain ⟨q24, hn⟩ := and_e hn
  obtain ⟨q25, hn⟩ := and_e hn
  obtain ⟨q26, hn⟩ := and_e hn
  obtain ⟨q27, hn⟩ := and_e hn
  obtain ⟨q28, hn⟩ := and_e hn
  obtain ⟨q29, hn⟩ := and_e hn
  obtain ⟨q30, hn⟩ := and_e hn
  obtain ⟨q31, hn⟩ := and_e hn
  obtain ⟨q32, hn⟩ := and_e hn
  obtain ⟨q33, hn⟩ := and_e hn
  obtain ⟨q34, hn⟩ := and_e hn
  obtain ⟨q35, hn⟩ := and_e hn
  obtain ⟨q36, hn⟩ := and_e hn
  obtain ⟨q37, hn⟩ := and_e hn
  obtain ⟨q38, hn⟩ := and_e hn
  obtain ⟨q39, hn⟩ := and_e hn
  obtain ⟨q40, hn⟩ := and_e hn
  have q41 := hn
  obtain ⟨va, eva⟩ := exa_v q1
  obtain ⟨t0, et0⟩ := exa_v q3
  obtain ⟨t1, et1⟩ := exa_v q5
  obtain ⟨t2, et2⟩ := exa_v q7
  obtain ⟨x0, ex0⟩ := exa_v q9
  obtain ⟨x1, ex1⟩ := exa_v q13
  obtain ⟨x2, ex2⟩ := exa_v q17
  have OV : Sta s s.heap "com/example/cartiglio/cartiglio/core/HashAlgorithm" "$VALUES" "[Lcom/example/cartiglio/cartiglio/core/HashAlgorithm;" (.ref va) := Sta.start eva (Or.inr ⟨(hw _ (own_mi 33 rfl)), (hw _ (own_mi 39 rfl))⟩)
  have EV : Exa s s.heap va "[Lcom/example/cartiglio/cartiglio/core/HashAlgorithm;" := Exa.start eva q1
  obtain ⟨kv, AV⟩ := own_arvZ (vs := [(.ref t0), (.ref t1), (.ref t2)]) (dv := .null) hfit eva q0 (eqv_i (Term.int_eval _) q2) (by decide) rfl (by simp) (by
    intro i v hv
    match i, hv with
    | 0, hv => cases hv; exact own_eqR et0 q4
    | 1, hv => cases hv; exact own_eqR et1 q6
    | 2, hv => cases hv; exact own_eqR et2 q8
    | i + 3, hv => exact nomatch hv)
  have OT0 : Sta s s.heap "com/example/cartiglio/cartiglio/core/HashAlgorithm" "SHA_256" "Lcom/example/cartiglio/cartiglio/core/HashAlgorithm;" (.ref t0) := Sta.start et0 (Or.inr ⟨(hw _ (own_mi 33 rfl)), (hw _ (own_mi 47 rfl))⟩)
  have OT1 : Sta s s.heap "com/example/cartiglio/cartiglio/core/HashAlgorithm" "SHA_384" "Lcom/example/cartiglio/cartiglio/core/HashAlgorithm;" (.ref t1) := Sta.start et1 (Or.inr ⟨(hw _ (own_mi 33 rfl)), (hw _ (own_mi 48 rfl))⟩)
  have OT2 : Sta s s.heap "com/example/cartiglio/cartiglio/core/HashAlgorithm" "SHA_512" "Lcom/example/cartiglio/cartiglio/core/HashAlgorithm;" (.ref t2) := Sta.start et2 (Or.inr ⟨(hw _ (own_mi 33 rfl)), (hw _ (own_mi 49 rfl))⟩)
  have ZT0 : Exa s s.heap t0 "com/example/cartiglio/cartiglio/core/HashAlgorithm" := Exa.start et0 q3
  have ZN0 : Fld s s.heap t0 "com/example/cartiglio/cartiglio/core/HashAlgorithm" "ianaName" "Ljava/lang/String;" (.ref x0) := Fld.start (by rw [← fld_at et0]; exact ex0)
  obtain ⟨y0, kz0, ZX00, ZX01, ZX02, ZX03⟩ := own_strZ (cs := ([115, 104, 97, 45, 50, 53, 54] : List Int32)) hfit ex0 q9 q10 q11 q12 (by decide) rfl (by decide) (by
    intro i v hv
    match i, hv with
    | 0, hv => cases hv; exact eqv_i (Term.int_eval _) q21
    | 1, hv => cases hv; exact eqv_i (Term.int_eval _) q22
    | 2, hv => cases hv; exact eqv_i (Term.int_eval _) q23
    | 3, hv => cases hv; exact eqv_i (Term.int_eval _) q24
    | 4, hv => cases hv; exact eqv_i (Term.int_eval _) q25
    | 5, hv => cases hv; exact eqv_i (Term.int_eval _) q26
    | 6, hv => cases hv; exact eqv_i (Term.int_eval _) q27
    | i + 7, hv => exact nomatch hv)
  have ZT1 : Exa s s.heap t1 "com/example/cartiglio/cartiglio/core/HashAlgorithm" := Exa.start et1 q5
  have ZN1 : Fld s s.heap t1 "com/example/cartiglio/cartiglio/core/HashAlgorithm" "ianaName" "Ljava/lang/String;" (.ref x1) := Fld.start (by rw [← fld_at et1]; exact ex1)
  obtain ⟨y1, kz1, ZX10, ZX11, ZX12, ZX13⟩ := own_strZ (cs := ([115, 104, 97, 45, 51, 56, 52] : List Int32)) hfit ex1 q13 q14 q15 q16 (by decide) rfl (by decide) (by
    intro i v hv
    match i, hv with
    | 0, hv => cases hv; exact eqv_i (Term.int_eval _) q28
    | 1, hv => cases hv; exact eqv_i (Term.int_eval _) q29
    | 2, hv => cases hv; exact eqv_i (Term.int_eval _) q30
    | 3, hv => cases hv; exact eqv_i (Term.int_eval _) q31
    | 4, hv => cases hv; exact eqv_i (Term.int_eval _) q32
    | 5, hv => cases hv; exact eqv_i (Term.int_eval _) q33
    | 6, hv => cases hv; exact eqv_i (Term.int_eval _) q34
    | i + 7, hv => exact nomatch hv)
  have ZT2 : Exa s s.heap t2 "com/example/cartiglio/cartiglio/core/HashAlgorithm" := Exa.start et2 q7
  have ZN2 : Fld s s.heap t2 "com/example/cartiglio/cartiglio/core/HashAlgorithm" "ianaName" "Ljava/lang/String;" (.ref x2) := Fld.start (by rw [← fld_at et2]; exact ex2)
  obtain ⟨y2, kz2, ZX20, ZX21, ZX22, ZX23⟩ := own_strZ (cs := ([115, 104, 97, 45, 53, 49, 50] : List Int32)) hfit ex2 q17 q18 q19 q20 (by decide) rfl (by decide) (by
    intro i v hv
    match i, hv with
    | 0, hv => cases hv; exact eqv_i (Term.int_eval _) q35
    | 1, hv => cases hv; exact eqv_i (Term.int_eval _) q36
    | 2, hv => cases hv; exact eqv_i (Term.int_eval _) q37
    | 3, hv => cases hv; exact eqv_i (Term.int_eval _) q38
    | 4, hv => cases hv; exact eqv_i (Term.int_eval _) q39
    | 5, hv => cases hv; exact eqv_i (Term.int_eval _) q40
    | 6, hv => cases hv; exact eqv_i (Term.int_eval _) q41
    | i + 7, hv => exact nomatch hv)
  have u11 := Cond.before_iff.mp (hsets _ (List.mem_of_getElem? (i := 11) rfl))
  have u12 := Cond.before_iff.mp (hsets _ (List.mem_of_getElem? (i := 12) rfl))
  obtain ⟨oe, eoe⟩ := exa_v u11
  have OE : Sta s s.heap "java/util/Optional" "EMPTY" "Ljava/util/Optional;" (.ref oe) := Sta.start eoe (Or.inl (hsets _ (List.mem_of_getElem? (i := 10) rfl)))
  have ZE : Exa s s.heap oe "java/util/Optional" := Exa.start eoe u11
  have ZF : Fld s s.heap oe "java/util/Optional" "value" "Ljava/lang/Object;" .null := Fld.start (by rw [← fld_at eoe]; exact null_v u12)
  have hEL : EW s #[(.int i0), (.int i1), (.int i2), (.int i3), (.int i4)] consts_1 := (EW.cons (hw _ (own_mi 77 rfl)) (by decide) EW.nil)
  have hH : CHv s consts_1 s.vm s.heap := CHv.start hEL (fun p hp => hcalls.1 p hp) (hsets _ (List.mem_of_getElem? (i := 2) rfl)) (hw _ (own_mi 20 rfl)) (hw _ (own_mi 3 rfl))
  obtain ⟨n, o, h1, h2, h3, _, L, rfl, ⟨rfl, N⟩, -, hq⟩ := rm0 l s _ hw tables_1 i0 i1 i2 i3 i4 G1 va kv t0 t1 t2 x0 y0 kz0 x1 y1 kz1 x2 y2 kz2 oe s.heap s.heap.size (Nat.le_refl _) hEL O2 P5 (Old.start s) OV EV AV OE ZE ZF ZT0 ZN0 ZX00 ZX01 ZX02 ZX03 ZT1 ZN1 ZX10 ZX11 ZX12 ZX13 ZT2 ZN2 ZX20 ZX21 ZX22 ZX23 OT0 OT1 OT2 p e ha hc hk s m _ below hf ((Spec.applies_iff_loose hf).mp happ).1 ⟨rfl, State.Warmed39.refl s, rfl, hH, fun x hx => nomatch hx⟩ trivial
  refine ⟨n, _, h1, h2, h3, hpost _ _ _ _ _ _ ⟨Cond.after_iff.mpr rfl, Cond.after_iff.mpr (eq_i res_at (Term.int_eval (1)) rfl), trivial⟩ ⟨hq.1, hq.2.1, hq.2.2.1, (hq.2.2.2.sift fun y hy => Or.inr (N y hy)).mono (by decide) (by decide)⟩⟩
theorem main_1_1 : Claimed_1_1 := comes_1 fun _ _ _ _ _ _ h hF => ⟨h.1, hF⟩
theorem main_1_2 : Claimed_1_2 := comes_1 fun _ _ _ _ _ _ h hF => ⟨h.2.1, hF⟩
end Jvm.Pilot.@@N@@
namespace Jvm.Pilot.@@N@@
open Jvm Jvm.ClassFile Sem Op Lib Jvm.Free Jvm.Stand Jvm.Pilot.@@N@@.Jvm.D
/-! MADE BY PROGRAM (witnessworld.py) out of the Statement's table words and the real class files: 24 classes; the members and pool entries that the words name. The judged class is class 1, her method 1. -/
namespace start1
open Jvm.ClassFile
def u (s : String) : CpInfo := .utf8 (stringToUtf16 s)
/-- a pool by its gaps: so many unusable entries, then the entry; so many at the end -/
def gap : Nat → List CpInfo → List CpInfo
  | 0, r => r
  | n + 1, r => .unusable :: gap n r
def poolList (es : List (Nat × CpInfo)) (last : Nat) : List CpInfo := es.foldr (fun e r => gap e.1 (e.2 :: r)) (gap last [])
def pool (es : List (Nat × CpInfo)) (last : Nat) : Array CpInfo := ⟨poolList es last⟩
def fileOf (pool : Array CpInfo) (this : Nat) (attrs : Array Attribute := #[]) (ms : Array MethodInfo := #[]) (fl : Nat := 33) (sup : Nat := 0) (ifs : Array Nat := #[]) (fds : Array FieldInfo := #[]) : ClassFile where
  minorVersion := 0
  majorVersion := 65
  constantPool := pool
  accessFlags := fl
  thisClass := this
  superClass := sup
  interfaces := ifs
  fields := fds
  methods := ms
  attributes := attrs
def plain (name : String) (sup : Option ClassId) : Class where
  name := name
  kind := .ordinary
  loader := none
  accessFlags := 33
  super := sup
  interfaces := #[]
  cf := none
  fields := #[]
  methods := #[]
  instanceTypes := #[]
  staticTypes := #[]
  resolved := #[]
  callSites := []
  init := .initialized
  statics := none
  mirror := none

def pool0 : Array CpInfo := pool [(5, u "<init>"), (0, u "()V"), (1, .class_ 10), (1, u "java/lang/Object"), (85, u "clone"), (0, u "()Ljava/lang/Object;")] 26

def k0c0 : Code := { maxStack := 0, maxLocals := 1, code := object_method_1_code, exceptionTable := #[], attributes := #[] }
def k0m0 : Method := { name := "<init>", desc := "()V", sig := { parameters := [], returnType := none }, accessFlags := 1, code := some k0c0 }
def k0m1 : Method := { name := "clone", desc := "()Ljava/lang/Object;", sig := { parameters := [], returnType := some (.object "java/lang/Object") }, accessFlags := 260, code := none }
/-- java/lang/Object -/
def k0 : Class := { plain "java/lang/Object" none with
  accessFlags := 33
  interfaces := #[]
  cf := some (fileOf pool0 8 #[] #[{ accessFlags := 1, nameIndex := 5, descriptorIndex := 6, attributes := #[] }, { accessFlags := 260, nameIndex := 96, descriptorIndex := 97, attributes := #[] }] 33 0 #[] #[])
  fields := #[]
  methods := #[k0m0, k0m1]
  instanceTypes := #[]
  staticTypes := #[]
  resolved := Array.replicate 124 none
  statics := none }

def pool1 : Array CpInfo := pool [(2, .class_ 4), (1, u "java/lang/Object"), (0, u "<init>"), (0, u "()V"), (0, .integer 2147483647), (0, .class_ 9), (0, u "java/lang/String"), (0, .methodref 8 11), (0, .nameAndType 5 12), (0, u "([C)V"), (0, .methodref 14 15), (0, .class_ 16), (0, .nameAndType 17 18), (0, u "com/example/cartiglio/cartiglio/core/HashAlgorithm"), (0, u "byIanaName"), (0, u "(Ljava/lang/String;)Ljava/util/Optional;"), (0, .methodref 20 21), (0, .class_ 22), (0, .nameAndType 23 24), (0, u "java/util/Optional"), (0, u "isPresent"), (0, u "()Z"), (0, .methodref 20 26), (0, .nameAndType 27 28), (0, u "get"), (0, u "()Ljava/lang/Object;"), (0, .fieldref 14 30), (0, .nameAndType 31 32), (0, u "SHA_256"), (0, u "Lcom/example/cartiglio/cartiglio/core/HashAlgorithm;"), (0, .fieldref 14 34), (0, .nameAndType 35 32), (0, u "SHA_384"), (0, .fieldref 14 37), (0, .nameAndType 38 32), (0, u "SHA_512"), (0, .methodref 14 40), (0, .nameAndType 41 42), (0, u "ianaName"), (0, u "()Ljava/lang/String;"), (0, .methodref 8 44), (0, .nameAndType 45 46), (0, u "equals"), (0, u "(Ljava/lang/Object;)Z"), (0, .class_ 48), (0, u "com/example/cartiglio/cartiglio/core/HashAlgorithmByIanaNamePinLaw"), (2, u "law"), (0, u "(IIIII)Z")] 5

def k1m0 : Method := { name := "<init>", desc := "()V", sig := { parameters := [], returnType := none }, accessFlags := 2, code := none }
def k1c1 : Code := { maxStack := 5, maxLocals := 18, code := code, exceptionTable := #[], attributes := #[] }
def k1m1 : Method := { name := "law", desc := "(IIIII)Z", sig := { parameters := [.int, .int, .int, .int, .int], returnType := some .boolean }, accessFlags := 9, code := some k1c1 }
/-- com/example/cartiglio/cartiglio/core/HashAlgorithmByIanaNamePinLaw -/
def k1 : Class := { plain "com/example/cartiglio/cartiglio/core/HashAlgorithmByIanaNamePinLaw" (some 0) with
  accessFlags := 49
  interfaces := #[]
  cf := some (fileOf pool1 47 #[] #[{ accessFlags := 2, nameIndex := 5, descriptorIndex := 6, attributes := #[] }, { accessFlags := 9, nameIndex := 51, descriptorIndex := 52, attributes := #[] }] 49 2 #[] #[])
  fields := #[]
  methods := #[k1m0, k1m1]
  instanceTypes := #[]
  staticTypes := #[]
  resolved := Array.replicate 58 none
  statics := none }

def pool2 : Array CpInfo := pool [(1, .class_ 2), (0, u "java/io/Serializable"), (0, .class_ 4), (0, u "java/lang/Object")] 2

/-- java/io/Serializable -/
def k2 : Class := { plain "java/io/Serializable" (some 0) with
  accessFlags := 1537
  interfaces := #[]
  cf := some (fileOf pool2 1 #[] #[] 1537 3 #[] #[])
  fields := #[]
  methods := #[]
  instanceTypes := #[]
  staticTypes := #[]
  resolved := Array.replicate 7 none
  statics := none }

def pool3 : Array CpInfo := pool [(1, .class_ 2), (0, u "java/lang/Comparable"), (0, .class_ 4), (0, u "java/lang/Object")] 7

/-- java/lang/Comparable -/
def k3 : Class := { plain "java/lang/Comparable" (some 0) with
  accessFlags := 1537
  interfaces := #[]
  cf := some (fileOf pool3 1 #[] #[] 1537 3 #[] #[])
  fields := #[]
  methods := #[]
  instanceTypes := #[]
  staticTypes := #[]
  resolved := Array.replicate 12 none
  statics := none }

def pool4 : Array CpInfo := pool [(2, .class_ 4), (1, u "java/lang/CharSequence"), (42, .class_ 48), (0, u "java/lang/CharSequence$1CodePointIterator"), (10, .class_ 60), (0, u "java/lang/CharSequence$1CharIterator"), (5, .class_ 67), (0, u "java/lang/Object")] 63

/-- java/lang/CharSequence -/
def k4 : Class := { plain "java/lang/CharSequence" (some 0) with
  accessFlags := 1537
  interfaces := #[]
  cf := some (fileOf pool4 2 #[.nestMembers #[47, 59]] #[] 1537 66 #[] #[])
  fields := #[]
  methods := #[]
  instanceTypes := #[]
  staticTypes := #[]
  resolved := Array.replicate 131 none
  statics := none }

def pool5 : Array CpInfo := pool [(1, .class_ 2), (0, u "java/lang/constant/Constable"), (0, .class_ 4), (0, u "java/lang/Object")] 6

/-- java/lang/constant/Constable -/
def k5 : Class := { plain "java/lang/constant/Constable" (some 0) with
  accessFlags := 1537
  interfaces := #[]
  cf := some (fileOf pool5 1 #[] #[] 1537 3 #[] #[])
  fields := #[]
  methods := #[]
  instanceTypes := #[]
  staticTypes := #[]
  resolved := Array.replicate 11 none
  statics := none }

def pool6 : Array CpInfo := pool [(1, .class_ 2), (0, u "java/lang/constant/ConstantDesc"), (0, .class_ 4), (0, u "java/lang/Object")] 32

/-- java/lang/constant/ConstantDesc -/
def k6 : Class := { plain "java/lang/constant/ConstantDesc" (some 0) with
  accessFlags := 1537
  interfaces := #[]
  cf := some (fileOf pool6 1 #[] #[] 1537 3 #[] #[])
  fields := #[]
  methods := #[]
  instanceTypes := #[]
  staticTypes := #[]
  resolved := Array.replicate 37 none
  statics := none }

def pool7 : Array CpInfo := pool [(1, .methodref 2 3), (0, .class_ 4), (0, .nameAndType 5 6), (0, u "java/lang/Object"), (0, u "<init>"), (0, u "()V"), (0, .string 8), (0, u ""), (0, .fieldref 10 11), (0, .class_ 12), (0, .nameAndType 13 14), (0, u "java/lang/String"), (0, u "value"), (0, u "[B"), (0, .fieldref 10 16), (0, .nameAndType 17 18), (0, u "coder"), (0, u "B"), (2, u "hash"), (0, u "I"), (2, u "hashIsZero"), (0, u "Z"), (0, .methodref 10 28), (0, .nameAndType 5 29), (0, u "([CIILjava/lang/Void;)V"), (8, .fieldref 10 39), (0, .nameAndType 40 26), (0, u "COMPACT_STRINGS"), (1, .class_ 44), (1, u "java/lang/StringUTF16"), (0, u "compress"), (1, .methodref 42 48), (0, .nameAndType 49 50), (0, u "coderFromArrayLen"), (0, u "([BI)B"), (56, .class_ 109), (1, u "java/lang/StringLatin1"), (67, .methodref 42 178), (0, .nameAndType 45 179), (0, u "([CII)[B"), (361, .methodref 107 542), (0, .nameAndType 543 544), (0, u "equals"), (0, u "([B[B)Z"), (28, u "(Ljava/lang/Object;)Z"), (1, .class_ 576), (0, u "java/lang/CharSequence"), (22, u "CASE_INSENSITIVE_ORDER"), (0, u "Ljava/util/Comparator;"), (409, u "([C)V"), (90, u "serialPersistentFields"), (0, u "[Ljava/io/ObjectStreamField;"), (0, .class_ 1104), (0, u "java/lang/String$CaseInsensitiveComparator"), (1, .class_ 1107), (0, u "java/io/Serializable"), (0, .class_ 1109), (0, u "java/lang/Comparable"), (0, .class_ 1111), (0, u "java/lang/constant/Constable"), (0, .class_ 1113), (0, u "java/lang/constant/ConstantDesc"), (2, u "serialVersionUID"), (0, u "J"), (3, u "REPL"), (0, u "C"), (2, u "LATIN1"), (1, u "UTF16")] 323

def k7m0 : Method := { name := "<init>", desc := "()V", sig := { parameters := [], returnType := none }, accessFlags := 1, code := none }
def k7c1 : Code := { maxStack := 5, maxLocals := 2, code := jdk_42_method_3_code, exceptionTable := #[], attributes := #[] }
def k7m1 : Method := { name := "<init>", desc := "([C)V", sig := { parameters := [(.array .char)], returnType := none }, accessFlags := 1, code := some k7c1 }
def k7c2 : Code := { maxStack := 2, maxLocals := 3, code := jdk_42_method_66_code, exceptionTable := #[], attributes := #[] }
def k7m2 : Method := { name := "equals", desc := "(Ljava/lang/Object;)Z", sig := { parameters := [(.object "java/lang/Object")], returnType := some .boolean }, accessFlags := 1, code := some k7c2 }
def k7c3 : Code := { maxStack := 4, maxLocals := 6, code := jdk_42_method_149_code, exceptionTable := #[], attributes := #[] }
def k7m3 : Method := { name := "<init>", desc := "([CIILjava/lang/Void;)V", sig := { parameters := [(.array .char), .int, .int, (.object "java/lang/Void")], returnType := none }, accessFlags := 2, code := some k7c3 }
/-- java/lang/String -/
def k7 : Class := { plain "java/lang/String" (some 0) with
  accessFlags := 49
  interfaces := #[2, 3, 4, 5, 6]
  cf := some (fileOf pool7 10 #[.nestMembers #[1103]] #[{ accessFlags := 1, nameIndex := 5, descriptorIndex := 6, attributes := #[] }, { accessFlags := 1, nameIndex := 5, descriptorIndex := 1010, attributes := #[] }, { accessFlags := 1, nameIndex := 543, descriptorIndex := 573, attributes := #[] }, { accessFlags := 2, nameIndex := 5, descriptorIndex := 29, attributes := #[] }] 49 2 #[1106, 1108, 575, 1110, 1112] #[{ accessFlags := 18, nameIndex := 13, descriptorIndex := 14, attributes := #[] }, { accessFlags := 18, nameIndex := 17, descriptorIndex := 18, attributes := #[] }, { accessFlags := 2, nameIndex := 21, descriptorIndex := 22, attributes := #[] }, { accessFlags := 2, nameIndex := 25, descriptorIndex := 26, attributes := #[] }, { accessFlags := 26, nameIndex := 1116, descriptorIndex := 1117, attributes := #[] }, { accessFlags := 24, nameIndex := 40, descriptorIndex := 26, attributes := #[] }, { accessFlags := 26, nameIndex := 1101, descriptorIndex := 1102, attributes := #[] }, { accessFlags := 26, nameIndex := 1121, descriptorIndex := 1122, attributes := #[] }, { accessFlags := 25, nameIndex := 599, descriptorIndex := 600, attributes := #[] }, { accessFlags := 24, nameIndex := 1125, descriptorIndex := 18, attributes := #[] }, { accessFlags := 24, nameIndex := 1127, descriptorIndex := 18, attributes := #[] }])
  fields := #[{ name := "value", type := (.array .byte), accessFlags := 18, slot := 0, constantValue := 0 }, { name := "coder", type := .byte, accessFlags := 18, slot := 1, constantValue := 0 }, { name := "hash", type := .int, accessFlags := 2, slot := 2, constantValue := 0 }, { name := "hashIsZero", type := .boolean, accessFlags := 2, slot := 3, constantValue := 0 }, { name := "serialVersionUID", type := .long, accessFlags := 26, slot := 0, constantValue := 0 }, { name := "COMPACT_STRINGS", type := .boolean, accessFlags := 24, slot := 1, constantValue := 0 }, { name := "serialPersistentFields", type := (.array (.object "java/io/ObjectStreamField")), accessFlags := 26, slot := 2, constantValue := 0 }, { name := "REPL", type := .char, accessFlags := 26, slot := 3, constantValue := 0 }, { name := "CASE_INSENSITIVE_ORDER", type := (.object "java/util/Comparator"), accessFlags := 25, slot := 4, constantValue := 0 }, { name := "LATIN1", type := .byte, accessFlags := 24, slot := 5, constantValue := 0 }, { name := "UTF16", type := .byte, accessFlags := 24, slot := 6, constantValue := 0 }]
  methods := #[k7m0, k7m1, k7m2, k7m3]
  instanceTypes := #[(.array .byte), .byte, .int, .boolean]
  staticTypes := #[.long, .boolean, (.array (.object "java/io/ObjectStreamField")), .char, (.object "java/util/Comparator"), .byte, .byte]
  resolved := Array.replicate 1451 none
  statics := some 0 }

def pool8 : Array CpInfo := pool [(6, .class_ 8), (1, u "java/lang/Object"), (0, u "<init>"), (0, u "()V"), (1, .class_ 14), (1, u "java/lang/StringUTF16"), (31, u "$assertionsDisabled"), (0, u "Z"), (13, u "HI_BYTE_SHIFT"), (0, u "I"), (2, u "LO_BYTE_SHIFT"), (49, .methodref 12 116), (0, .nameAndType 117 118), (0, u "compress"), (0, u "([CI[BII)I"), (3, u "([CII)[B"), (138, u "coderFromArrayLen"), (0, u "([BI)B"), (106, .class_ 371), (1, u "java/lang/StringUTF16$LinesSpliterator"), (58, u "MAX_LENGTH"), (196, .class_ 628), (0, u "java/lang/StringUTF16$CodePointsSpliterator"), (0, .class_ 630), (0, u "java/lang/StringUTF16$CharsSpliterator")] 4

def k8m0 : Method := { name := "<init>", desc := "()V", sig := { parameters := [], returnType := none }, accessFlags := 0, code := none }
def k8c1 : Code := { maxStack := 2, maxLocals := 2, code := jdk_52_method_15_code, exceptionTable := #[], attributes := #[] }
def k8m1 : Method := { name := "coderFromArrayLen", desc := "([BI)B", sig := { parameters := [(.array .byte), .int], returnType := some .byte }, accessFlags := 8, code := some k8c1 }
def k8c2 : Code := { maxStack := 5, maxLocals := 6, code := jdk_52_method_16_code, exceptionTable := #[], attributes := #[] }
def k8m2 : Method := { name := "compress", desc := "([CII)[B", sig := { parameters := [(.array .char), .int, .int], returnType := some (.array .byte) }, accessFlags := 9, code := some k8c2 }
def k8c3 : Code := { maxStack := 3, maxLocals := 7, code := jdk_52_method_21_code, exceptionTable := #[], attributes := #[] }
def k8m3 : Method := { name := "compress", desc := "([CI[BII)I", sig := { parameters := [(.array .char), .int, (.array .byte), .int, .int], returnType := some .int }, accessFlags := 9, code := some k8c3 }
/-- java/lang/StringUTF16 -/
def k8 : Class := { plain "java/lang/StringUTF16" (some 0) with
  accessFlags := 48
  interfaces := #[]
  cf := some (fileOf pool8 12 #[.nestMembers #[627, 629, 369]] #[{ accessFlags := 0, nameIndex := 9, descriptorIndex := 10, attributes := #[] }, { accessFlags := 8, nameIndex := 261, descriptorIndex := 262, attributes := #[] }, { accessFlags := 9, nameIndex := 117, descriptorIndex := 122, attributes := #[] }, { accessFlags := 9, nameIndex := 117, descriptorIndex := 118, attributes := #[] }] 48 6 #[] #[{ accessFlags := 26, nameIndex := 61, descriptorIndex := 62, attributes := #[] }, { accessFlags := 26, nameIndex := 65, descriptorIndex := 62, attributes := #[] }, { accessFlags := 24, nameIndex := 430, descriptorIndex := 62, attributes := #[] }, { accessFlags := 4120, nameIndex := 46, descriptorIndex := 47, attributes := #[] }])
  fields := #[{ name := "HI_BYTE_SHIFT", type := .int, accessFlags := 26, slot := 0, constantValue := 0 }, { name := "LO_BYTE_SHIFT", type := .int, accessFlags := 26, slot := 1, constantValue := 0 }, { name := "MAX_LENGTH", type := .int, accessFlags := 24, slot := 2, constantValue := 0 }, { name := "$assertionsDisabled", type := .boolean, accessFlags := 4120, slot := 3, constantValue := 0 }]
  methods := #[k8m0, k8m1, k8m2, k8m3]
  instanceTypes := #[]
  staticTypes := #[.int, .int, .int, .boolean]
  resolved := Array.replicate 635 none
  statics := none }

def pool9 : Array CpInfo := pool [(2, .class_ 4), (1, u "java/lang/Enum"), (0, u "name"), (0, u "Ljava/lang/String;"), (2, u "ordinal"), (0, u "I"), (1, .class_ 14), (1, u "java/lang/Object"), (4, u "hash"), (86, .class_ 108), (1, u "java/lang/Enum$EnumDesc"), (2, .class_ 112), (0, u "java/lang/constant/Constable"), (0, .class_ 114), (0, u "java/lang/Comparable"), (0, .class_ 116), (0, u "java/io/Serializable")] 87

/-- java/lang/Enum -/
def k9 : Class := { plain "java/lang/Enum" (some 0) with
  accessFlags := 1057
  interfaces := #[5, 3, 2]
  cf := some (fileOf pool9 2 #[.nestMembers #[106]] #[] 1057 12 #[111, 113, 115] #[{ accessFlags := 18, nameIndex := 5, descriptorIndex := 6, attributes := #[] }, { accessFlags := 18, nameIndex := 9, descriptorIndex := 10, attributes := #[] }, { accessFlags := 2, nameIndex := 19, descriptorIndex := 10, attributes := #[] }])
  fields := #[{ name := "name", type := (.object "java/lang/String"), accessFlags := 18, slot := 0, constantValue := 0 }, { name := "ordinal", type := .int, accessFlags := 18, slot := 1, constantValue := 0 }, { name := "hash", type := .int, accessFlags := 2, slot := 2, constantValue := 0 }]
  methods := #[]
  instanceTypes := #[(.object "java/lang/String"), .int, .int]
  staticTypes := #[]
  resolved := Array.replicate 204 none
  statics := none }

def pool10 : Array CpInfo := pool [(1, .class_ 2), (0, u "com/example/cartiglio/cartiglio/core/HashAlgorithm"), (2, u "SHA_256"), (0, u "Lcom/example/cartiglio/cartiglio/core/HashAlgorithm;"), (2, u "SHA_384"), (2, u "SHA_512"), (0, .fieldref 1 14), (0, .nameAndType 15 16), (0, u "$VALUES"), (0, u "[Lcom/example/cartiglio/cartiglio/core/HashAlgorithm;"), (0, .methodref 18 19), (0, .class_ 16), (0, .nameAndType 20 21), (0, u "clone"), (0, u "()Ljava/lang/Object;"), (1, .class_ 25), (1, u "java/lang/Enum"), (6, .fieldref 1 33), (0, .nameAndType 34 35), (0, u "ianaName"), (0, u "Ljava/lang/String;"), (2, u "mdocName"), (2, u "jcaName"), (0, .methodref 1 43), (0, .nameAndType 44 45), (0, u "values"), (0, u "()[Lcom/example/cartiglio/cartiglio/core/HashAlgorithm;"), (0, .methodref 47 48), (0, .class_ 49), (0, .nameAndType 50 51), (0, u "java/lang/String"), (0, u "equals"), (0, u "(Ljava/lang/Object;)Z"), (0, .methodref 53 54), (0, .class_ 55), (0, .nameAndType 56 57), (0, u "java/util/Optional"), (0, u "of"), (0, u "(Ljava/lang/Object;)Ljava/util/Optional;"), (0, .methodref 53 59), (0, .nameAndType 60 61), (0, u "empty"), (0, u "()Ljava/util/Optional;"), (65, u "byIanaName"), (0, u "(Ljava/lang/String;)Ljava/util/Optional;"), (3, u "()Ljava/lang/String;")] 21

def k10c0 : Code := { maxStack := 1, maxLocals := 0, code := prog_5_method_1_code, exceptionTable := #[], attributes := #[] }
def k10m0 : Method := { name := "values", desc := "()[Lcom/example/cartiglio/cartiglio/core/HashAlgorithm;", sig := { parameters := [], returnType := some (.array (.object "com/example/cartiglio/cartiglio/core/HashAlgorithm")) }, accessFlags := 9, code := some k10c0 }
def k10c1 : Code := { maxStack := 2, maxLocals := 5, code := prog_5_method_4_code, exceptionTable := #[], attributes := #[] }
def k10m1 : Method := { name := "byIanaName", desc := "(Ljava/lang/String;)Ljava/util/Optional;", sig := { parameters := [(.object "java/lang/String")], returnType := some (.object "java/util/Optional") }, accessFlags := 9, code := some k10c1 }
def k10c2 : Code := { maxStack := 1, maxLocals := 1, code := prog_5_method_6_code, exceptionTable := #[], attributes := #[] }
def k10m2 : Method := { name := "ianaName", desc := "()Ljava/lang/String;", sig := { parameters := [], returnType := some (.object "java/lang/String") }, accessFlags := 1, code := some k10c2 }
/-- com/example/cartiglio/cartiglio/core/HashAlgorithm -/
def k10 : Class := { plain "com/example/cartiglio/cartiglio/core/HashAlgorithm" (some 9) with
  accessFlags := 16433
  interfaces := #[]
  cf := some (fileOf pool10 1 #[] #[{ accessFlags := 9, nameIndex := 44, descriptorIndex := 45, attributes := #[] }, { accessFlags := 9, nameIndex := 127, descriptorIndex := 128, attributes := #[] }, { accessFlags := 1, nameIndex := 34, descriptorIndex := 132, attributes := #[] }] 16433 23 #[] #[{ accessFlags := 16409, nameIndex := 5, descriptorIndex := 6, attributes := #[] }, { accessFlags := 16409, nameIndex := 9, descriptorIndex := 6, attributes := #[] }, { accessFlags := 16409, nameIndex := 12, descriptorIndex := 6, attributes := #[] }, { accessFlags := 18, nameIndex := 34, descriptorIndex := 35, attributes := #[] }, { accessFlags := 18, nameIndex := 38, descriptorIndex := 35, attributes := #[] }, { accessFlags := 18, nameIndex := 41, descriptorIndex := 35, attributes := #[] }, { accessFlags := 4122, nameIndex := 15, descriptorIndex := 16, attributes := #[] }])
  fields := #[{ name := "SHA_256", type := (.object "com/example/cartiglio/cartiglio/core/HashAlgorithm"), accessFlags := 16409, slot := 0, constantValue := 0 }, { name := "SHA_384", type := (.object "com/example/cartiglio/cartiglio/core/HashAlgorithm"), accessFlags := 16409, slot := 1, constantValue := 0 }, { name := "SHA_512", type := (.object "com/example/cartiglio/cartiglio/core/HashAlgorithm"), accessFlags := 16409, slot := 2, constantValue := 0 }, { name := "ianaName", type := (.object "java/lang/String"), accessFlags := 18, slot := 3, constantValue := 0 }, { name := "mdocName", type := (.object "java/lang/String"), accessFlags := 18, slot := 4, constantValue := 0 }, { name := "jcaName", type := (.object "java/lang/String"), accessFlags := 18, slot := 5, constantValue := 0 }, { name := "$VALUES", type := (.array (.object "com/example/cartiglio/cartiglio/core/HashAlgorithm")), accessFlags := 4122, slot := 3, constantValue := 0 }]
  methods := #[k10m0, k10m1, k10m2]
  instanceTypes := #[(.object "java/lang/String"), .int, .int, (.object "java/lang/String"), (.object "java/lang/String"), (.object "java/lang/String")]
  staticTypes := #[(.object "com/example/cartiglio/cartiglio/core/HashAlgorithm"), (.object "com/example/cartiglio/cartiglio/core/HashAlgorithm"), (.object "com/example/cartiglio/cartiglio/core/HashAlgorithm"), (.array (.object "com/example/cartiglio/cartiglio/core/HashAlgorithm"))]
  resolved := Array.replicate 154 none
  statics := some 1 }

def pool11 : Array CpInfo := pool [(1, .class_ 2), (0, u "java/lang/Cloneable"), (0, .class_ 4), (0, u "java/lang/Object")] 2

/-- java/lang/Cloneable -/
def k11 : Class := { plain "java/lang/Cloneable" (some 0) with
  accessFlags := 1537
  interfaces := #[]
  cf := some (fileOf pool11 1 #[] #[] 1537 3 #[] #[])
  fields := #[]
  methods := #[]
  instanceTypes := #[]
  staticTypes := #[]
  resolved := Array.replicate 7 none
  statics := none }

def pool12 : Array CpInfo := pool [(4, .class_ 6), (1, u "java/lang/Object"), (0, u "<init>"), (0, u "()V"), (5, .class_ 16), (1, u "java/lang/StringLatin1"), (104, u "$assertionsDisabled"), (0, u "Z"), (98, .class_ 223), (1, u "java/lang/StringLatin1$LinesSpliterator"), (57, u "equals"), (0, u "([B[B)Z"), (107, .class_ 391), (0, u "java/lang/StringLatin1$CharsSpliterator")] 3

def k12m0 : Method := { name := "<init>", desc := "()V", sig := { parameters := [], returnType := none }, accessFlags := 0, code := none }
def k12c1 : Code := { maxStack := 3, maxLocals := 3, code := jdk_43_method_13_code, exceptionTable := #[], attributes := #[] }
def k12m1 : Method := { name := "equals", desc := "([B[B)Z", sig := { parameters := [(.array .byte), (.array .byte)], returnType := some .boolean }, accessFlags := 9, code := some k12c1 }
/-- java/lang/StringLatin1 -/
def k12 : Class := { plain "java/lang/StringLatin1" (some 0) with
  accessFlags := 48
  interfaces := #[]
  cf := some (fileOf pool12 14 #[.nestMembers #[390, 221]] #[{ accessFlags := 0, nameIndex := 7, descriptorIndex := 8, attributes := #[] }, { accessFlags := 9, nameIndex := 281, descriptorIndex := 282, attributes := #[] }] 48 4 #[] #[{ accessFlags := 4120, nameIndex := 121, descriptorIndex := 122, attributes := #[] }])
  fields := #[{ name := "$assertionsDisabled", type := .boolean, accessFlags := 4120, slot := 0, constantValue := 0 }]
  methods := #[k12m0, k12m1]
  instanceTypes := #[]
  staticTypes := #[.boolean]
  resolved := Array.replicate 395 none
  statics := none }

def pool13 : Array CpInfo := pool [(1, .fieldref 2 3), (0, .class_ 4), (0, .nameAndType 5 6), (0, u "java/util/Optional"), (0, u "EMPTY"), (0, u "Ljava/util/Optional;"), (0, .methodref 8 9), (0, .class_ 10), (0, .nameAndType 11 12), (0, u "java/lang/Object"), (0, u "<init>"), (0, u "()V"), (0, .fieldref 2 14), (0, .nameAndType 15 16), (0, u "value"), (0, u "Ljava/lang/Object;"), (0, .methodref 18 19), (0, .class_ 20), (0, .nameAndType 21 22), (0, u "java/util/Objects"), (0, u "requireNonNull"), (0, u "(Ljava/lang/Object;)Ljava/lang/Object;"), (0, .methodref 2 24), (0, .nameAndType 11 25), (0, u "(Ljava/lang/Object;)V"), (20, u "()Z"), (8, u "empty"), (0, u "()Ljava/util/Optional;"), (8, u "(Ljava/lang/Object;)Ljava/util/Optional;"), (2, u "isPresent"), (4, u "get"), (0, u "()Ljava/lang/Object;"), (7, u "of")] 104

def k13c0 : Code := { maxStack := 1, maxLocals := 1, code := jdk_32_method_1_code, exceptionTable := #[], attributes := #[] }
def k13m0 : Method := { name := "empty", desc := "()Ljava/util/Optional;", sig := { parameters := [], returnType := some (.object "java/util/Optional") }, accessFlags := 9, code := some k13c0 }
def k13c1 : Code := { maxStack := 2, maxLocals := 2, code := jdk_32_method_2_code, exceptionTable := #[], attributes := #[] }
def k13m1 : Method := { name := "<init>", desc := "(Ljava/lang/Object;)V", sig := { parameters := [(.object "java/lang/Object")], returnType := none }, accessFlags := 2, code := some k13c1 }
def k13c2 : Code := { maxStack := 3, maxLocals := 1, code := jdk_32_method_3_code, exceptionTable := #[], attributes := #[] }
def k13m2 : Method := { name := "of", desc := "(Ljava/lang/Object;)Ljava/util/Optional;", sig := { parameters := [(.object "java/lang/Object")], returnType := some (.object "java/util/Optional") }, accessFlags := 9, code := some k13c2 }
def k13c3 : Code := { maxStack := 3, maxLocals := 1, code := jdk_32_method_5_code, exceptionTable := #[], attributes := #[] }
def k13m3 : Method := { name := "get", desc := "()Ljava/lang/Object;", sig := { parameters := [], returnType := some (.object "java/lang/Object") }, accessFlags := 1, code := some k13c3 }
def k13c4 : Code := { maxStack := 1, maxLocals := 1, code := jdk_32_method_6_code, exceptionTable := #[], attributes := #[] }
def k13m4 : Method := { name := "isPresent", desc := "()Z", sig := { parameters := [], returnType := some .boolean }, accessFlags := 1, code := some k13c4 }
/-- java/util/Optional -/
def k13 : Class := { plain "java/util/Optional" (some 0) with
  accessFlags := 49
  interfaces := #[]
  cf := some (fileOf pool13 2 #[] #[{ accessFlags := 9, nameIndex := 55, descriptorIndex := 56, attributes := #[] }, { accessFlags := 2, nameIndex := 11, descriptorIndex := 25, attributes := #[] }, { accessFlags := 9, nameIndex := 82, descriptorIndex := 65, attributes := #[] }, { accessFlags := 1, nameIndex := 73, descriptorIndex := 74, attributes := #[] }, { accessFlags := 1, nameIndex := 68, descriptorIndex := 46, attributes := #[] }] 49 8 #[] #[{ accessFlags := 26, nameIndex := 5, descriptorIndex := 6, attributes := #[] }, { accessFlags := 18, nameIndex := 15, descriptorIndex := 16, attributes := #[] }])
  fields := #[{ name := "EMPTY", type := (.object "java/util/Optional"), accessFlags := 26, slot := 0, constantValue := 0 }, { name := "value", type := (.object "java/lang/Object"), accessFlags := 18, slot := 0, constantValue := 0 }]
  methods := #[k13m0, k13m1, k13m2, k13m3, k13m4]
  instanceTypes := #[(.object "java/lang/Object")]
  staticTypes := #[(.object "java/util/Optional")]
  resolved := Array.replicate 187 none
  statics := some 2 }

def pool14 : Array CpInfo := pool [(2, .class_ 4), (1, u "java/lang/Object"), (0, u "<init>"), (0, u "()V"), (35, .class_ 44), (1, u "java/util/Objects"), (0, u "requireNonNull"), (0, u "(Ljava/lang/Object;)Ljava/lang/Object;")] 137

def k14m0 : Method := { name := "<init>", desc := "()V", sig := { parameters := [], returnType := none }, accessFlags := 2, code := none }
def k14c1 : Code := { maxStack := 2, maxLocals := 1, code := jdk_31_method_10_code, exceptionTable := #[], attributes := #[] }
def k14m1 : Method := { name := "requireNonNull", desc := "(Ljava/lang/Object;)Ljava/lang/Object;", sig := { parameters := [(.object "java/lang/Object")], returnType := some (.object "java/lang/Object") }, accessFlags := 9, code := some k14c1 }
/-- java/util/Objects -/
def k14 : Class := { plain "java/util/Objects" (some 0) with
  accessFlags := 49
  interfaces := #[]
  cf := some (fileOf pool14 42 #[] #[{ accessFlags := 2, nameIndex := 5, descriptorIndex := 6, attributes := #[] }, { accessFlags := 9, nameIndex := 45, descriptorIndex := 46, attributes := #[] }] 49 2 #[] #[])
  fields := #[]
  methods := #[k14m0, k14m1]
  instanceTypes := #[]
  staticTypes := #[]
  resolved := Array.replicate 184 none
  statics := none }

def pool15 : Array CpInfo := pool [(2, .class_ 4), (1, u "java/lang/Object"), (0, u "<init>"), (0, u "()V"), (17, .class_ 26), (1, u "jdk/internal/util/Preconditions"), (28, .class_ 56), (0, u "jdk/internal/util/Preconditions$4"), (57, .class_ 115), (0, u "jdk/internal/util/Preconditions$1"), (7, u "SIOOBE_FORMATTER"), (0, u "Ljava/util/function/BiFunction;"), (0, .class_ 126), (0, u "jdk/internal/util/Preconditions$2"), (3, u "AIOOBE_FORMATTER"), (0, .class_ 132), (0, u "jdk/internal/util/Preconditions$3"), (3, u "IOOBE_FORMATTER")] 57

def k15m0 : Method := { name := "<init>", desc := "()V", sig := { parameters := [], returnType := none }, accessFlags := 1, code := none }
/-- jdk/internal/util/Preconditions -/
def k15 : Class := { plain "jdk/internal/util/Preconditions" (some 0) with
  accessFlags := 33
  interfaces := #[]
  cf := some (fileOf pool15 24 #[.nestMembers #[55, 131, 125, 114]] #[{ accessFlags := 1, nameIndex := 5, descriptorIndex := 6, attributes := #[] }] 33 2 #[] #[{ accessFlags := 25, nameIndex := 123, descriptorIndex := 124, attributes := #[] }, { accessFlags := 25, nameIndex := 130, descriptorIndex := 124, attributes := #[] }, { accessFlags := 25, nameIndex := 136, descriptorIndex := 124, attributes := #[] }])
  fields := #[{ name := "SIOOBE_FORMATTER", type := (.object "java/util/function/BiFunction"), accessFlags := 25, slot := 0, constantValue := 0 }, { name := "AIOOBE_FORMATTER", type := (.object "java/util/function/BiFunction"), accessFlags := 25, slot := 1, constantValue := 0 }, { name := "IOOBE_FORMATTER", type := (.object "java/util/function/BiFunction"), accessFlags := 25, slot := 2, constantValue := 0 }]
  methods := #[k15m0]
  instanceTypes := #[]
  staticTypes := #[(.object "java/util/function/BiFunction"), (.object "java/util/function/BiFunction"), (.object "java/util/function/BiFunction")]
  resolved := Array.replicate 194 none
  statics := some 3 }

def pool16 : Array CpInfo := pool [(9, u "<init>"), (6, .class_ 18), (1, u "java/lang/Object"), (0, u "()V"), (1, .class_ 23), (1, u "jdk/internal/util/ArraysSupport"), (0, u "LOG2_ARRAY_LONG_INDEX_SCALE"), (0, u "I"), (2, u "U"), (0, u "Ljdk/internal/misc/Unsafe;"), (8, u "BIG_ENDIAN"), (0, u "Z"), (8, u "LOG2_BYTE_BIT_SIZE"), (4, u "LOG2_ARRAY_INT_INDEX_SCALE"), (54, u "JLA"), (0, u "Ljdk/internal/access/JavaLangAccess;"), (11, u "LOG2_ARRAY_BOOLEAN_INDEX_SCALE"), (9, u "LOG2_ARRAY_BYTE_INDEX_SCALE"), (5, u "LOG2_ARRAY_CHAR_INDEX_SCALE"), (5, u "LOG2_ARRAY_SHORT_INDEX_SCALE"), (18, u "LOG2_ARRAY_FLOAT_INDEX_SCALE"), (24, u "LOG2_ARRAY_DOUBLE_INDEX_SCALE"), (89, u "T_BOOLEAN"), (2, u "T_CHAR"), (1, u "T_FLOAT"), (1, u "T_DOUBLE"), (1, u "T_BYTE"), (1, u "T_SHORT"), (1, u "T_INT"), (1, u "T_LONG"), (1, u "SOFT_MAX_ARRAY_LENGTH")] 83

def k16m0 : Method := { name := "<init>", desc := "()V", sig := { parameters := [], returnType := none }, accessFlags := 2, code := none }
/-- jdk/internal/util/ArraysSupport -/
def k16 : Class := { plain "jdk/internal/util/ArraysSupport" (some 0) with
  accessFlags := 33
  interfaces := #[]
  cf := some (fileOf pool16 21 #[] #[{ accessFlags := 2, nameIndex := 9, descriptorIndex := 19, attributes := #[] }] 33 16 #[] #[{ accessFlags := 24, nameIndex := 28, descriptorIndex := 29, attributes := #[] }, { accessFlags := 26, nameIndex := 38, descriptorIndex := 39, attributes := #[] }, { accessFlags := 25, nameIndex := 121, descriptorIndex := 25, attributes := #[] }, { accessFlags := 25, nameIndex := 131, descriptorIndex := 25, attributes := #[] }, { accessFlags := 25, nameIndex := 137, descriptorIndex := 25, attributes := #[] }, { accessFlags := 25, nameIndex := 143, descriptorIndex := 25, attributes := #[] }, { accessFlags := 25, nameIndex := 53, descriptorIndex := 25, attributes := #[] }, { accessFlags := 25, nameIndex := 24, descriptorIndex := 25, attributes := #[] }, { accessFlags := 25, nameIndex := 162, descriptorIndex := 25, attributes := #[] }, { accessFlags := 25, nameIndex := 187, descriptorIndex := 25, attributes := #[] }, { accessFlags := 26, nameIndex := 48, descriptorIndex := 25, attributes := #[] }, { accessFlags := 25, nameIndex := 277, descriptorIndex := 25, attributes := #[] }, { accessFlags := 25, nameIndex := 280, descriptorIndex := 25, attributes := #[] }, { accessFlags := 25, nameIndex := 282, descriptorIndex := 25, attributes := #[] }, { accessFlags := 25, nameIndex := 284, descriptorIndex := 25, attributes := #[] }, { accessFlags := 25, nameIndex := 286, descriptorIndex := 25, attributes := #[] }, { accessFlags := 25, nameIndex := 288, descriptorIndex := 25, attributes := #[] }, { accessFlags := 25, nameIndex := 290, descriptorIndex := 25, attributes := #[] }, { accessFlags := 25, nameIndex := 292, descriptorIndex := 25, attributes := #[] }, { accessFlags := 26, nameIndex := 108, descriptorIndex := 109, attributes := #[] }, { accessFlags := 25, nameIndex := 294, descriptorIndex := 25, attributes := #[] }])
  fields := #[{ name := "U", type := (.object "jdk/internal/misc/Unsafe"), accessFlags := 24, slot := 0, constantValue := 0 }, { name := "BIG_ENDIAN", type := .boolean, accessFlags := 26, slot := 1, constantValue := 0 }, { name := "LOG2_ARRAY_BOOLEAN_INDEX_SCALE", type := .int, accessFlags := 25, slot := 2, constantValue := 0 }, { name := "LOG2_ARRAY_BYTE_INDEX_SCALE", type := .int, accessFlags := 25, slot := 3, constantValue := 0 }, { name := "LOG2_ARRAY_CHAR_INDEX_SCALE", type := .int, accessFlags := 25, slot := 4, constantValue := 0 }, { name := "LOG2_ARRAY_SHORT_INDEX_SCALE", type := .int, accessFlags := 25, slot := 5, constantValue := 0 }, { name := "LOG2_ARRAY_INT_INDEX_SCALE", type := .int, accessFlags := 25, slot := 6, constantValue := 0 }, { name := "LOG2_ARRAY_LONG_INDEX_SCALE", type := .int, accessFlags := 25, slot := 7, constantValue := 0 }, { name := "LOG2_ARRAY_FLOAT_INDEX_SCALE", type := .int, accessFlags := 25, slot := 8, constantValue := 0 }, { name := "LOG2_ARRAY_DOUBLE_INDEX_SCALE", type := .int, accessFlags := 25, slot := 9, constantValue := 0 }, { name := "LOG2_BYTE_BIT_SIZE", type := .int, accessFlags := 26, slot := 10, constantValue := 0 }, { name := "T_BOOLEAN", type := .int, accessFlags := 25, slot := 11, constantValue := 0 }, { name := "T_CHAR", type := .int, accessFlags := 25, slot := 12, constantValue := 0 }, { name := "T_FLOAT", type := .int, accessFlags := 25, slot := 13, constantValue := 0 }, { name := "T_DOUBLE", type := .int, accessFlags := 25, slot := 14, constantValue := 0 }, { name := "T_BYTE", type := .int, accessFlags := 25, slot := 15, constantValue := 0 }, { name := "T_SHORT", type := .int, accessFlags := 25, slot := 16, constantValue := 0 }, { name := "T_INT", type := .int, accessFlags := 25, slot := 17, constantValue := 0 }, { name := "T_LONG", type := .int, accessFlags := 25, slot := 18, constantValue := 0 }, { name := "JLA", type := (.object "jdk/internal/access/JavaLangAccess"), accessFlags := 26, slot := 19, constantValue := 0 }, { name := "SOFT_MAX_ARRAY_LENGTH", type := .int, accessFlags := 25, slot := 20, constantValue := 0 }]
  methods := #[k16m0]
  instanceTypes := #[]
  staticTypes := #[(.object "jdk/internal/misc/Unsafe"), .boolean, .int, .int, .int, .int, .int, .int, .int, .int, .int, .int, .int, .int, .int, .int, .int, .int, .int, (.object "jdk/internal/access/JavaLangAccess"), .int]
  resolved := Array.replicate 378 none
  statics := none }

/-- the primitive byte -/
def k17 : Class := { plain "byte" none with kind := .primitive 'B', accessFlags := 0x411 }
/-- [B -/
def k18 : Class := { plain "[B" (some 0) with kind := .array 17 .byte, interfaces := #[11, 2], accessFlags := 1041 }

/-- the primitive char -/
def k19 : Class := { plain "char" none with kind := .primitive 'C', accessFlags := 0x411 }
/-- [C -/
def k20 : Class := { plain "[C" (some 0) with kind := .array 19 .char, interfaces := #[11, 2], accessFlags := 1041 }

/-- the primitive int -/
def k21 : Class := { plain "int" none with kind := .primitive 'I', accessFlags := 0x411 }
/-- [I -/
def k22 : Class := { plain "[I" (some 0) with kind := .array 21 .int, interfaces := #[11, 2], accessFlags := 1041 }

/-- [Lcom/example/cartiglio/cartiglio/core/HashAlgorithm; -/
def k23 : Class := { plain "[Lcom/example/cartiglio/cartiglio/core/HashAlgorithm;" (some 0) with kind := .array 10 (.object "com/example/cartiglio/cartiglio/core/HashAlgorithm"), interfaces := #[11, 2], accessFlags := 1041 }

def heap : Heap := #[{ cls := 7, slots := #[.long 0, .int 1, .null, .int 0, .null, .int 0, .int 0], vm := .statics 7 },
  { cls := 10, slots := #[.ref 5, .ref 6, .ref 7, .ref 4], vm := .statics 10 },
  { cls := 13, slots := #[.ref 14], vm := .statics 13 },
  { cls := 15, slots := #[.null, .null, .null], vm := .statics 15 },
  { cls := 23, slots := #[.ref 5, .ref 6, .ref 7], vm := .none },
  { cls := 10, slots := #[.null, .int 0, .int 0, .ref 8, .null, .null], vm := .none },
  { cls := 10, slots := #[.null, .int 1, .int 0, .ref 9, .null, .null], vm := .none },
  { cls := 10, slots := #[.null, .int 2, .int 0, .ref 10, .null, .null], vm := .none },
  { cls := 7, slots := #[.ref 11, .int 0, .int 0, .int 0], vm := .none },
  { cls := 7, slots := #[.ref 12, .int 0, .int 0, .int 0], vm := .none },
  { cls := 7, slots := #[.ref 13, .int 0, .int 0, .int 0], vm := .none },
  { cls := 18, slots := #[.int 115, .int 104, .int 97, .int 45, .int 50, .int 53, .int 54], vm := .none },
  { cls := 18, slots := #[.int 115, .int 104, .int 97, .int 45, .int 51, .int 56, .int 52], vm := .none },
  { cls := 18, slots := #[.int 115, .int 104, .int 97, .int 45, .int 53, .int 49, .int 50], vm := .none },
  { cls := 13, slots := #[.null], vm := .none }]
def classes : Array Class := #[k0, k1, k2, k3, k4, k5, k6, k7, k8, k9, k10, k11, k12, k13, k14, k15, k16, k17, k18, k19, k20, k21, k22, k23]
def interned : List (Array UInt16 × Addr) := []
def slotsUsed : Nat := 70
def theMethod : MethodId := ⟨1, 1⟩
def args0 : Array Value := #[.int 5, .int 3, .int 7, .int 8, .int 1]
def aboutOver (below : List Frame) : State where
  vm := { classes := classes, interned := interned.toArray }
  heap := heap
  slotsUsed := slotsUsed
  threads := #[{ frames := .invoking theMethod args0 :: below }]
def below0 : List Frame := [.native { method := ⟨0, 0⟩, args := #[] }]
def about1 : State := aboutOver below0
def p0 : Program := .bare "" "" ""
def e0 : Env := launch0.env 0 0 0
theorem w_frames : about1.frames = Frame.invoking theMethod args0 :: below0 := rfl
set_option maxRecDepth 65536 in
theorem w_args : argsFit about1.vm theMethod args0 = true := by decide +kernel
set_option maxRecDepth 65536 in
theorem w_heap : heapFits about1 = true := by decide +kernel
set_option maxRecDepth 65536 in
theorem w_runnable : about1.curStatus? = some .runnable := by decide +kernel
set_option maxRecDepth 65536 in
theorem w_alone : about1.alone = true := by decide +kernel
set_option maxRecDepth 65536 in
theorem w_named : about1.methodNamed? x = some theMethod := by decide +kernel
set_option maxRecDepth 65536 in
theorem w_hears : about1.hears theMethod below0 = true := by decide +kernel
set_option maxRecDepth 65536 in
theorem w_ripe : about1.ripe theMethod args0 below0 = true := by decide +kernel
theorem w_running : about1.status = .running := rfl
set_option maxRecDepth 65536 in
theorem w_room : about1.hasRoom e0.platform room_1 = true :=
  launch0.hasRoom_least _ room_1 (by decide +kernel) (by decide +kernel) (by decide +kernel) (by decide +kernel) (by decide +kernel) (by decide +kernel)
theorem allAtoms_all (ts : List Jvm.Cond) (a : Array Jvm.Value) (st : Jvm.State) : (allAtoms ts).before a st = ts.all (fun c => c.before a st) := by
  induction ts with
  | nil => rfl
  | cons c t ih =>
    show (Jvm.Cond.and c (allAtoms t)).before a st = _
    rw [Jvm.Cond.before_and, ih, List.all_cons]
def words1 : List Jvm.Cond := Jvm.Cond.code x code maxLocals ret :: tables_1
/-- a 'code' word, met by the world's own term for the bytes: nothing is compared byte by byte -/
theorem code_word {y : MethodName} {bytes : ByteArray} {mx : Nat} {rt : Option FieldType} {a : Array Value} {s : State} {m : MethodId} {meth : Method} {c : Code} (h1 : s.methodNamed? y = some m) (h2 : s.vm.method? m = some meth) (h3 : meth.code = some c) (h4 : c.code = bytes)
    (h5 : (c.maxLocals == mx && c.exceptionTable.isEmpty && decide (c.maxStack ≤ mostOperands) && decide (meth.sig.returnType = rt) && !meth.locks && decide (parseMethodDescriptor y.desc = some meth.sig)) = true) : (Jvm.Cond.code y bytes mx rt).before a s = true := by
  simp only [Bool.and_eq_true, beq_iff_eq, Bool.not_eq_true', decide_eq_true_eq] at h5
  obtain ⟨⟨⟨⟨⟨g1, g2⟩, g3⟩, g4⟩, g5⟩, g6⟩ := h5
  simp [Cond.before, Cond.holds, Cond.value, h1, h2, h3, h4, g1, g2, g3, g4, g5, g6]
def isCode : Jvm.Cond → Bool
  | .code _ _ _ _ => true
  | _ => false
theorem all_split {L : List Jvm.Cond} {P : Jvm.Cond → Bool} (h1 : L.all (fun c => isCode c || P c) = true) (h2 : ∀ c ∈ L.filter isCode, P c = true) : L.all P = true := by
  refine List.all_eq_true.mpr fun c hc => ?_
  have h := List.all_eq_true.mp h1 c hc
  rcases Bool.eq_false_or_eq_true (isCode c) with hi | hi
  · exact h2 c (List.mem_filter.mpr ⟨hc, hi⟩)
  · simpa [hi] using h
set_option maxRecDepth 65536 in
theorem w_c0 : (Jvm.Cond.code x code maxLocals ret).before args0 about1 = true := code_word (m := ⟨1, 1⟩) (meth := k1m1) (c := k1c1) (by decide +kernel) rfl rfl rfl (by decide +kernel)
set_option maxRecDepth 65536 in
theorem w_c1 : (Jvm.Cond.code ({ cls := "java/lang/String", name := "<init>", desc := "([C)V" } : Jvm.MethodName) jdk_42_method_3_code (2 : Nat) (Option.none : Option Jvm.ClassFile.FieldType)).before args0 about1 = true := code_word (m := ⟨7, 1⟩) (meth := k7m1) (c := k7c1) (by decide +kernel) rfl rfl rfl (by decide +kernel)
set_option maxRecDepth 65536 in
theorem w_c2 : (Jvm.Cond.code ({ cls := "java/lang/String", name := "<init>", desc := "([CIILjava/lang/Void;)V" } : Jvm.MethodName) jdk_42_method_149_code (6 : Nat) (Option.none : Option Jvm.ClassFile.FieldType)).before args0 about1 = true := code_word (m := ⟨7, 3⟩) (meth := k7m3) (c := k7c3) (by decide +kernel) rfl rfl rfl (by decide +kernel)
set_option maxRecDepth 65536 in
theorem w_c3 : (Jvm.Cond.code ({ cls := "java/lang/Object", name := "<init>", desc := "()V" } : Jvm.MethodName) object_method_1_code (1 : Nat) (Option.none : Option Jvm.ClassFile.FieldType)).before args0 about1 = true := code_word (m := ⟨0, 0⟩) (meth := k0m0) (c := k0c0) (by decide +kernel) rfl rfl rfl (by decide +kernel)
set_option maxRecDepth 65536 in
theorem w_c4 : (Jvm.Cond.code ({ cls := "java/lang/StringUTF16", name := "compress", desc := "([CII)[B" } : Jvm.MethodName) jdk_52_method_16_code (6 : Nat) (Option.some (Jvm.ClassFile.FieldType.array Jvm.ClassFile.FieldType.byte))).before args0 about1 = true := code_word (m := ⟨8, 2⟩) (meth := k8m2) (c := k8c2) (by decide +kernel) rfl rfl rfl (by decide +kernel)
set_option maxRecDepth 65536 in
theorem w_c5 : (Jvm.Cond.code ({ cls := "java/lang/StringUTF16", name := "compress", desc := "([CI[BII)I" } : Jvm.MethodName) jdk_52_method_21_code (7 : Nat) (Option.some Jvm.ClassFile.FieldType.int)).before args0 about1 = true := code_word (m := ⟨8, 3⟩) (meth := k8m3) (c := k8c3) (by decide +kernel) rfl rfl rfl (by decide +kernel)
set_option maxRecDepth 65536 in
theorem w_c6 : (Jvm.Cond.code ({ cls := "java/lang/StringUTF16", name := "coderFromArrayLen", desc := "([BI)B" } : Jvm.MethodName) jdk_52_method_15_code (2 : Nat) (Option.some Jvm.ClassFile.FieldType.byte)).before args0 about1 = true := code_word (m := ⟨8, 1⟩) (meth := k8m1) (c := k8c1) (by decide +kernel) rfl rfl rfl (by decide +kernel)
set_option maxRecDepth 65536 in
theorem w_c7 : (Jvm.Cond.code ({ cls := "com/example/cartiglio/cartiglio/core/HashAlgorithm", name := "byIanaName", desc := "(Ljava/lang/String;)Ljava/util/Optional;" } : Jvm.MethodName) prog_5_method_4_code (5 : Nat) (Option.some (Jvm.ClassFile.FieldType.object "java/util/Optional"))).before args0 about1 = true := code_word (m := ⟨10, 1⟩) (meth := k10m1) (c := k10c1) (by decide +kernel) rfl rfl rfl (by decide +kernel)
set_option maxRecDepth 65536 in
theorem w_c8 : (Jvm.Cond.code ({ cls := "com/example/cartiglio/cartiglio/core/HashAlgorithm", name := "values", desc := "()[Lcom/example/cartiglio/cartiglio/core/HashAlgorithm;" } : Jvm.MethodName) prog_5_method_1_code (0 : Nat) (Option.some (Jvm.ClassFile.FieldType.array (Jvm.ClassFile.FieldType.object "com/example/cartiglio/cartiglio/core/HashAlgorithm")))).before args0 about1 = true := code_word (m := ⟨10, 0⟩) (meth := k10m0) (c := k10c0) (by decide +kernel) rfl rfl rfl (by decide +kernel)
set_option maxRecDepth 65536 in
theorem w_c9 : (Jvm.Cond.code ({ cls := "java/lang/String", name := "equals", desc := "(Ljava/lang/Object;)Z" } : Jvm.MethodName) jdk_42_method_66_code (3 : Nat) (Option.some Jvm.ClassFile.FieldType.boolean)).before args0 about1 = true := code_word (m := ⟨7, 2⟩) (meth := k7m2) (c := k7c2) (by decide +kernel) rfl rfl rfl (by decide +kernel)
set_option maxRecDepth 65536 in
theorem w_c10 : (Jvm.Cond.code ({ cls := "java/lang/StringLatin1", name := "equals", desc := "([B[B)Z" } : Jvm.MethodName) jdk_43_method_13_code (3 : Nat) (Option.some Jvm.ClassFile.FieldType.boolean)).before args0 about1 = true := code_word (m := ⟨12, 1⟩) (meth := k12m1) (c := k12c1) (by decide +kernel) rfl rfl rfl (by decide +kernel)
set_option maxRecDepth 65536 in
theorem w_c11 : (Jvm.Cond.code ({ cls := "java/util/Optional", name := "empty", desc := "()Ljava/util/Optional;" } : Jvm.MethodName) jdk_32_method_1_code (1 : Nat) (Option.some (Jvm.ClassFile.FieldType.object "java/util/Optional"))).before args0 about1 = true := code_word (m := ⟨13, 0⟩) (meth := k13m0) (c := k13c0) (by decide +kernel) rfl rfl rfl (by decide +kernel)
set_option maxRecDepth 65536 in
theorem w_c12 : (Jvm.Cond.code ({ cls := "java/util/Optional", name := "isPresent", desc := "()Z" } : Jvm.MethodName) jdk_32_method_6_code (1 : Nat) (Option.some Jvm.ClassFile.FieldType.boolean)).before args0 about1 = true := code_word (m := ⟨13, 4⟩) (meth := k13m4) (c := k13c4) (by decide +kernel) rfl rfl rfl (by decide +kernel)
set_option maxRecDepth 65536 in
theorem w_c13 : (Jvm.Cond.code ({ cls := "java/util/Optional", name := "of", desc := "(Ljava/lang/Object;)Ljava/util/Optional;" } : Jvm.MethodName) jdk_32_method_3_code (1 : Nat) (Option.some (Jvm.ClassFile.FieldType.object "java/util/Optional"))).before args0 about1 = true := code_word (m := ⟨13, 2⟩) (meth := k13m2) (c := k13c2) (by decide +kernel) rfl rfl rfl (by decide +kernel)
set_option maxRecDepth 65536 in
theorem w_c14 : (Jvm.Cond.code ({ cls := "java/util/Objects", name := "requireNonNull", desc := "(Ljava/lang/Object;)Ljava/lang/Object;" } : Jvm.MethodName) jdk_31_method_10_code (1 : Nat) (Option.some (Jvm.ClassFile.FieldType.object "java/lang/Object"))).before args0 about1 = true := code_word (m := ⟨14, 1⟩) (meth := k14m1) (c := k14c1) (by decide +kernel) rfl rfl rfl (by decide +kernel)
set_option maxRecDepth 65536 in
theorem w_c15 : (Jvm.Cond.code ({ cls := "java/util/Optional", name := "<init>", desc := "(Ljava/lang/Object;)V" } : Jvm.MethodName) jdk_32_method_2_code (2 : Nat) (Option.none : Option Jvm.ClassFile.FieldType)).before args0 about1 = true := code_word (m := ⟨13, 1⟩) (meth := k13m1) (c := k13c1) (by decide +kernel) rfl rfl rfl (by decide +kernel)
set_option maxRecDepth 65536 in
theorem w_c16 : (Jvm.Cond.code ({ cls := "java/util/Optional", name := "get", desc := "()Ljava/lang/Object;" } : Jvm.MethodName) jdk_32_method_5_code (1 : Nat) (Option.some (Jvm.ClassFile.FieldType.object "java/lang/Object"))).before args0 about1 = true := code_word (m := ⟨13, 3⟩) (meth := k13m3) (c := k13c3) (by decide +kernel) rfl rfl rfl (by decide +kernel)
set_option maxRecDepth 65536 in
theorem w_c17 : (Jvm.Cond.code ({ cls := "com/example/cartiglio/cartiglio/core/HashAlgorithm", name := "ianaName", desc := "()Ljava/lang/String;" } : Jvm.MethodName) prog_5_method_6_code (1 : Nat) (Option.some (Jvm.ClassFile.FieldType.object "java/lang/String"))).before args0 about1 = true := code_word (m := ⟨10, 2⟩) (meth := k10m2) (c := k10c2) (by decide +kernel) rfl rfl rfl (by decide +kernel)
def codes1 : List Jvm.Cond := [Jvm.Cond.code x code maxLocals ret, Jvm.Cond.code ({ cls := "java/lang/String", name := "<init>", desc := "([C)V" } : Jvm.MethodName) jdk_42_method_3_code (2 : Nat) (Option.none : Option Jvm.ClassFile.FieldType), Jvm.Cond.code ({ cls := "java/lang/String", name := "<init>", desc := "([CIILjava/lang/Void;)V" } : Jvm.MethodName) jdk_42_method_149_code (6 : Nat) (Option.none : Option Jvm.ClassFile.FieldType), Jvm.Cond.code ({ cls := "java/lang/Object", name := "<init>", desc := "()V" } : Jvm.MethodName) object_method_1_code (1 : Nat) (Option.none : Option Jvm.ClassFile.FieldType), Jvm.Cond.code ({ cls := "java/lang/StringUTF16", name := "compress", desc := "([CII)[B" } : Jvm.MethodName) jdk_52_method_16_code (6 : Nat) (Option.some (Jvm.ClassFile.FieldType.array Jvm.ClassFile.FieldType.byte)), Jvm.Cond.code ({ cls := "java/lang/StringUTF16", name := "compress", desc := "([CI[BII)I" } : Jvm.MethodName) jdk_52_method_21_code (7 : Nat) (Option.some Jvm.ClassFile.FieldType.int), Jvm.Cond.code ({ cls := "java/lang/StringUTF16", name := "coderFromArrayLen", desc := "([BI)B" } : Jvm.MethodName) jdk_52_method_15_code (2 : Nat) (Option.some Jvm.ClassFile.FieldType.byte), Jvm.Cond.code ({ cls := "com/example/cartiglio/cartiglio/core/HashAlgorithm", name := "byIanaName", desc := "(Ljava/lang/String;)Ljava/util/Optional;" } : Jvm.MethodName) prog_5_method_4_code (5 : Nat) (Option.some (Jvm.ClassFile.FieldType.object "java/util/Optional")), Jvm.Cond.code ({ cls := "com/example/cartiglio/cartiglio/core/HashAlgorithm", name := "values", desc := "()[Lcom/example/cartiglio/cartiglio/core/HashAlgorithm;" } : Jvm.MethodName) prog_5_method_1_code (0 : Nat) (Option.some (Jvm.ClassFile.FieldType.array (Jvm.ClassFile.FieldType.object "com/example/cartiglio/cartiglio/core/HashAlgorithm"))), Jvm.Cond.code ({ cls := "java/lang/String", name := "equals", desc := "(Ljava/lang/Object;)Z" } : Jvm.MethodName) jdk_42_method_66_code (3 : Nat) (Option.some Jvm.ClassFile.FieldType.boolean), Jvm.Cond.code ({ cls := "java/lang/StringLatin1", name := "equals", desc := "([B[B)Z" } : Jvm.MethodName) jdk_43_method_13_code (3 : Nat) (Option.some Jvm.ClassFile.FieldType.boolean), Jvm.Cond.code ({ cls := "java/util/Optional", name := "empty", desc := "()Ljava/util/Optional;" } : Jvm.MethodName) jdk_32_method_1_code (1 : Nat) (Option.some (Jvm.ClassFile.FieldType.object "java/util/Optional")), Jvm.Cond.code ({ cls := "java/util/Optional", name := "isPresent", desc := "()Z" } : Jvm.MethodName) jdk_32_method_6_code (1 : Nat) (Option.some Jvm.ClassFile.FieldType.boolean), Jvm.Cond.code ({ cls := "java/util/Optional", name := "of", desc := "(Ljava/lang/Object;)Ljava/util/Optional;" } : Jvm.MethodName) jdk_32_method_3_code (1 : Nat) (Option.some (Jvm.ClassFile.FieldType.object "java/util/Optional")), Jvm.Cond.code ({ cls := "java/util/Objects", name := "requireNonNull", desc := "(Ljava/lang/Object;)Ljava/lang/Object;" } : Jvm.MethodName) jdk_31_method_10_code (1 : Nat) (Option.some (Jvm.ClassFile.FieldType.object "java/lang/Object")), Jvm.Cond.code ({ cls := "java/util/Optional", name := "<init>", desc := "(Ljava/lang/Object;)V" } : Jvm.MethodName) jdk_32_method_2_code (2 : Nat) (Option.none : Option Jvm.ClassFile.FieldType), Jvm.Cond.code ({ cls := "java/util/Optional", name := "get", desc := "()Ljava/lang/Object;" } : Jvm.MethodName) jdk_32_method_5_code (1 : Nat) (Option.some (Jvm.ClassFile.FieldType.object "java/lang/Object")), Jvm.Cond.code ({ cls := "com/example/cartiglio/cartiglio/core/HashAlgorithm", name := "ianaName", desc := "()Ljava/lang/String;" } : Jvm.MethodName) prog_5_method_6_code (1 : Nat) (Option.some (Jvm.ClassFile.FieldType.object "java/lang/String"))]
set_option maxRecDepth 65536 in
theorem codes_eq : words1.filter isCode = codes1 := rfl
theorem w_codes : ∀ c ∈ words1.filter isCode, c.before args0 about1 = true := by
  rw [codes_eq]
  intro c hc
  simp only [codes1, List.mem_cons, List.not_mem_nil, or_false] at hc
  rcases hc with rfl | rfl | rfl | rfl | rfl | rfl | rfl | rfl | rfl | rfl | rfl | rfl | rfl | rfl | rfl | rfl | rfl | rfl
  · exact w_c0
  · exact w_c1
  · exact w_c2
  · exact w_c3
  · exact w_c4
  · exact w_c5
  · exact w_c6
  · exact w_c7
  · exact w_c8
  · exact w_c9
  · exact w_c10
  · exact w_c11
  · exact w_c12
  · exact w_c13
  · exact w_c14
  · exact w_c15
  · exact w_c16
  · exact w_c17
set_option maxRecDepth 65536 in
theorem w_t1 : (words1.take 24).all (fun c => isCode c || c.before args0 about1) = true := by decide +kernel
set_option maxRecDepth 65536 in
theorem w_t2 : ((words1.drop 24).take 24).all (fun c => isCode c || c.before args0 about1) = true := by decide +kernel
set_option maxRecDepth 65536 in
theorem w_t3 : (((words1.drop 24).drop 24).take 24).all (fun c => isCode c || c.before args0 about1) = true := by decide +kernel
set_option maxRecDepth 65536 in
theorem w_t4 : ((((words1.drop 24).drop 24).drop 24).take 24).all (fun c => isCode c || c.before args0 about1) = true := by decide +kernel
set_option maxRecDepth 65536 in
theorem w_t5 : ((((words1.drop 24).drop 24).drop 24).drop 24).all (fun c => isCode c || c.before args0 about1) = true := by decide +kernel
theorem w_tables : (allAtoms (Jvm.Cond.code x code maxLocals ret :: tables_1)).before args0 about1 = true := by
  rw [allAtoms_all]
  show words1.all (fun c => c.before args0 about1) = true
  refine all_split ?_ w_codes
  rw [← List.take_append_drop 24 words1, List.all_append, w_t1, ← List.take_append_drop 24 (words1.drop 24), List.all_append, w_t2, ← List.take_append_drop 24 ((words1.drop 24).drop 24), List.all_append, w_t3, ← List.take_append_drop 24 (((words1.drop 24).drop 24).drop 24), List.all_append, w_t4, w_t5]
  rfl
set_option maxRecDepth 65536 in
theorem w_rest : rest_1_c.before args0 about1 = true := by decide +kernel
set_option maxRecDepth 65536 in
theorem w_case : (Jvm.Cond.and given_1 narrow_1).before args0 about1 = true := by decide +kernel
set_option maxRecDepth 65536 in
theorem w_consts : constsHeld consts_1 about1 := Jvm.Lit.constsHeldB_iff.mp (by decide +kernel)
theorem w_applies : (headSpec (Jvm.Cond.code x code maxLocals ret :: tables_1) room_1).applies x e0.platform about1 = true :=
  (Spec.applies_iff w_frames).mpr ⟨w_running, w_runnable, w_alone, w_named, w_hears, w_ripe, w_room, w_tables⟩
theorem atStart : AtStart classFile x code maxLocals ret World_1 tables_1 room_1 Calls_1 rest_1 Pre_1 launch0 p0 e0 about1 theMethod args0 below0 :=
  ⟨lists_1, trivial, launch0.admits_env _ _ _, launch0.least_env, fairChoices_fair.cas, fairChoices_fair.clock, w_frames, w_args, w_heap, w_applies, ⟨w_consts, trivial⟩, w_rest, w_case⟩
end start1
theorem witness_1 : WitnessClaimed_1 := ⟨start1.p0, start1.e0, start1.about1, start1.theMethod, start1.args0, start1.below0, start1.atStart⟩
end Jvm.Pilot.@@N@@
