import JvmDerived
import JvmDerived.Pilot.@@N@@Statement
import JvmDerived.Pilot.@@N@@Code
set_option linter.unusedVariables false
set_option linter.unusedSimpArgs false
namespace Jvm.RoadKit
open Sem ClassFile Op Lib Jvm.Stand Jvm.Free Jvm.LawKit
section New
variable {p : Program} {l : Launch} {e : Env} {R : Room} {s : State} {m : MethodId} {args : Array Value} {below : List Frame} {meth : Method} {c : Code} {T : State} {locs : List Loc} {cells slots : Nat}
theorem retI (X : Stand p l e R s m args below meth c T locs cells slots) (hx : p.tables.exec = Jvm.exec) {pc : Nat} {Ls : Array Slot} {z : Int32} {rest : List Value} (hret : meth.sig.returnType = some .int) (hd : decode c.code pc = .ok (.ireturn, 1)) {fs : List Frame}
    (hl : ∀ (f : JFrame) (acts : List Action), f.method = m → f.locked = none → f.entered = [] → (doReturn e (T.setTop f) acts (some (.int z))).1 = T.setFrames fs) : Steps p.tables e below (T.setTop (mkF m pc Ls (.int z :: rest))) (T.setFrames fs) := by
  have hm' : T.vm.method? m = some meth := X.method'
  have hn : narrow .int (.int z) = .int z := rfl
  show Steps p.tables e below (T.setTop { method := m, pc := pc, locals := Ls, stack := _ :: rest, locked := none }) _
  jvm_step X.here [X.here.top, hx, hd, hm', hret, hn]
  first | (intro acts; rw [hl _ acts rfl rfl rfl]) | rw [hl _ _ rfl rfl rfl]
  exact Steps.refl _
end New
end Jvm.RoadKit
/- laws to paste: Road.backV (cut by pick.py; bodies as the Statement names them) -/
namespace Jvm.Pilot.@@N@@
namespace StrChars
open Jvm Sem ClassFile Op Lib Jvm.Stand Jvm.Free.XT Jvm.Free.ALB Jvm.Free.JM Jvm.Free
open Jvm.Lib.Cold (StaticIs)
/-- a char array whose places are chars -/
def Ch (a : Addr) (A : Cell) (U : State) : Prop := Arr .char a A U ∧ Typed .char A
theorem Ch.mv {a : Addr} {A : Cell} {U U' : State} (h : Ch a A U) (hal : U.vm.Alike U'.vm) (hh : U'.heap = U.heap) : Ch a A U' := ⟨h.1.mv hal hh, h.2⟩
theorem Ch.keep {a : Addr} {A : Cell} {U U' : State} (h : Ch a A U) (hal : U.vm.Alike U'.vm) (hk : U'.heap[a]? = some A) : Ch a A U' := ⟨h.1.keep hal hk, h.2⟩
/-- what place i of a char[]'s cell holds -/
def cv (A : Cell) (i : Nat) : Int32 := match A.slots[i]? with | some (.int x) => x | _ => 0
theorem Ch.get {a : Addr} {A : Cell} {U : State} (h : Ch a A U) {i : Nat} (hi : i < A.slots.size) : A.slots[i]? = some (.int (cv A i)) := by
  have e := Array.getElem?_eq_getElem hi
  have f := h.2 i _ e
  unfold cv; rw [e]
  generalize A.slots[i] = v at f
  cases v <;> simp [fits] at f ⊢
/-- the byte that i2b leaves of a char -/
def lo8 (x : Int32) : Int32 := x.toInt8.toInt32
theorem fits_lo8 (y : Int32) : fits .byte (.int (lo8 y)) = true := by
  have h1 := y.toInt8.le_toInt
  have h2 := y.toInt8.toInt_lt
  simp only [lo8, fits, Bool.and_eq_true, decide_eq_true_eq, Int32.le_iff_toInt_le, Int8.toInt_toInt32, show (-128 : Int32).toInt = -128 from by decide, show (127 : Int32).toInt = 127 from by decide]
  omega
/-- A' is A but that each place j of lo .. hi - 1 holds f j -/
def Laid (A A' : Cell) (lo hi : Nat) (f : Nat → Value) : Prop := A'.cls = A.cls ∧ A'.vm = A.vm ∧ A'.slots.size = A.slots.size ∧ ∀ i, A'.slots[i]? = if lo ≤ i ∧ i < hi then some (f i) else A.slots[i]?
theorem Laid.zero (A : Cell) (lo : Nat) (f : Nat → Value) : Laid A A lo (lo + 0) f := ⟨rfl, rfl, rfl, fun i => by rw [if_neg (by omega)]⟩
theorem Laid.step {A Ak : Cell} {lo k : Nat} {f : Nat → Value} {v : Value} (h : Laid A Ak lo k f) (hlo : lo ≤ k) (hk : k < Ak.slots.size) (hv : v = f k) : Laid A (Ak.setSlot k v) lo (k + 1) f := by
  refine ⟨h.1, h.2.1, by simpa [Cell.setSlot] using h.2.2.1, fun i => ?_⟩
  by_cases e : k = i
  · subst e; rw [Cell.slots_setSlot_self v hk, if_pos (by omega), hv]
  · rw [Cell.slots_setSlot_ne v e, h.2.2.2 i]
    by_cases q : lo ≤ i ∧ i < k
    · rw [if_pos q, if_pos (by omega)]
    · rw [if_neg q, if_neg (by omega)]
def U16 : String := "java/lang/StringUTF16"
namespace Cmp5
def yN : MethodName := ⟨"java/lang/StringUTF16", "compress", "([CI[BII)I"⟩
abbrev yB : ByteArray := jdk_52_method_21_code
theorem d0 : decode yB 0 = .ok (.iconst 0, 1) := by decide +kernel
theorem d1 : decode yB 1 = .ok (.istore 5, 2) := by decide +kernel
theorem d3 : decode yB 3 = .ok (.iload 5, 2) := by decide +kernel
theorem d5 : decode yB 5 = .ok (.iload 4, 2) := by decide +kernel
theorem d7 : decode yB 7 = .ok (.if_icmp (.ge) 37, 3) := by decide +kernel
theorem d10 : decode yB 10 = .ok (.aload_n 0, 1) := by decide +kernel
theorem d11 : decode yB 11 = .ok (.iload_n 1, 1) := by decide +kernel
theorem d12 : decode yB 12 = .ok (.caload, 1) := by decide +kernel
theorem d13 : decode yB 13 = .ok (.istore 6, 2) := by decide +kernel
theorem d15 : decode yB 15 = .ok (.iload 6, 2) := by decide +kernel
theorem d17 : decode yB 17 = .ok (.sipush 255, 3) := by decide +kernel
theorem d20 : decode yB 20 = .ok (.if_icmp (.le) 6, 3) := by decide +kernel
theorem d26 : decode yB 26 = .ok (.aload_n 2, 1) := by decide +kernel
theorem d27 : decode yB 27 = .ok (.iload_n 3, 1) := by decide +kernel
theorem d28 : decode yB 28 = .ok (.iload 6, 2) := by decide +kernel
theorem d30 : decode yB 30 = .ok (.i2b, 1) := by decide +kernel
theorem d31 : decode yB 31 = .ok (.bastore, 1) := by decide +kernel
theorem d32 : decode yB 32 = .ok (.iinc 1 1, 3) := by decide +kernel
theorem d35 : decode yB 35 = .ok (.iinc 3 1, 3) := by decide +kernel
theorem d38 : decode yB 38 = .ok (.iinc 5 1, 3) := by decide +kernel
theorem d41 : decode yB 41 = .ok (.goto (-38), 3) := by decide +kernel
theorem d44 : decode yB 44 = .ok (.iload 4, 2) := by decide +kernel
theorem d46 : decode yB 46 = .ok (.ireturn, 1) := by decide +kernel
def site : List Cond := []
def tab : Cond := tabOf yN yB 7 (some .int) site
def P (b : Addr) (A : Cell) (d : Addr) (B : Cell) (o q len : Nat) (args : Array Value) (s : State) : Prop := args = #[.ref b, .int (Int32.ofNat o), .ref d, .int (Int32.ofNat q), .int (Int32.ofNat len)] ∧ Ch b A s ∧ Arr .byte d B s ∧ b ≠ d ∧ o + len ≤ A.slots.size ∧ q + len ≤ B.slots.size ∧ ∀ i, i < len → ¬ 255 < cv A (o + i)
def E (b : Addr) (A : Cell) (d : Addr) (B : Cell) (o q len : Nat) (r : Option Value) (s u : State) : Prop := r = some (.int (Int32.ofNat len)) ∧ ∃ B', Put d B' s u ∧ Laid B B' q (q + len) (fun j => Value.int (lo8 (cv A (o + (j - q)))))
/-- no char of the range above 255: len; the places written hold each char's low byte -/
theorem law (l : Launch) (b : Addr) (A : Cell) (d : Addr) (B : Cell) (o q len : Nat) : Law l yN 5 5 0 0 yB 7 (some .int) site (P b A d B o q len) (E b A d B o q len) (copyLocs d q len) 0 0 := by
  refine Law.of_walk (plainFor_of_name (by decide +kernel)) (by decide +kernel) (by decide +kernel) (by decide) (fun _ _ h => by rw [h.1]; rfl) (fun _ U U' hal hh h => ⟨h.1, h.2.1.mv hal hh, h.2.2.1.mv hal hh, h.2.2.2⟩) (fun r U U' V V' h1 hal h2 h => ⟨h.1, h.2.elim fun B' q => ⟨B', q.1.mv h1 h2, q.2⟩⟩) ?_
  intro p e s m args below meth c s₁ X0 hexec hbytes hml hret hlk hnm hown hh0 W hP
  obtain ⟨rfl, hA, hB, hne, l1, l2, hp⟩ := hP
  have c1 : Steps p.tables e below (s₁.setTop (entryFrame m #[.ref b, .int (Int32.ofNat o), .ref d, .int (Int32.ofNat q), .int (Int32.ofNat len)] 7)) (s₁.setTop (mkF m 0 #[.val (.ref b), .val (.int (Int32.ofNat o)), .val (.ref d), .val (.int (Int32.ofNat q)), .val (.int (Int32.ofNat len)), .unset, .unset] [])) := entry rfl
  have hA0 := hA.1.mv X0.warmed.alike hh0
  have hB0 := hB.mv X0.warmed.alike hh0
  have a31 := hA.1.2.2.2
  have c2 : Steps p.tables e below (s₁.setTop (entryFrame m #[.ref b, .int (Int32.ofNat o), .ref d, .int (Int32.ofNat q), .int (Int32.ofNat len)] 7)) (s₁.setTop (mkF m 3 #[.val (.ref b), .val (.int (Int32.ofNat o)), .val (.ref d), .val (.int (Int32.ofNat q)), .val (.int (Int32.ofNat len)), .val (.int 0), .unset] [])) := c1.trans (by
    refine iconstV X0.here hexec rfl 0 (hb hbytes d0) (by decide) ?_
    refine XS.istore X0.here hexec rfl (hb hbytes d1) rfl rfl ?_
    exact Steps.refl _)
  have loop : ∀ (r i : Nat), i + r = len → ∀ (z : Slot), (z = .unset ∨ ∃ w, z = .val w ∧ w.category = 1) → ∀ (Tl : State) (Bk : Cell), Stand p l e { frames := 0, locals := 0, cells := 0, slots := 0 } s m #[.ref b, .int (Int32.ofNat o), .ref d, .int (Int32.ofNat q), .int (Int32.ofNat len)] below meth c Tl ([] ++ copyLocs d q i) 0 0 → Put d Bk s₁ Tl → Laid B Bk q (q + i) (fun j => Value.int (lo8 (cv A (o + (j - q))))) →
      Steps p.tables e below (s₁.setTop (entryFrame m #[.ref b, .int (Int32.ofNat o), .ref d, .int (Int32.ofNat q), .int (Int32.ofNat len)] 7)) (Tl.setTop (mkF m 3 #[.val (.ref b), .val (.int (Int32.ofNat (o + i))), .val (.ref d), .val (.int (Int32.ofNat (q + i))), .val (.int (Int32.ofNat len)), .val (.int (Int32.ofNat i)), z] [])) → ∃ (T' : State) (B' : Cell) (z' : Slot), Stand p l e { frames := 0, locals := 0, cells := 0, slots := 0 } s m #[.ref b, .int (Int32.ofNat o), .ref d, .int (Int32.ofNat q), .int (Int32.ofNat len)] below meth c T' ([] ++ copyLocs d q len) 0 0 ∧ Put d B' s₁ T' ∧ Laid B B' q (q + len) (fun j => Value.int (lo8 (cv A (o + (j - q))))) ∧
      Steps p.tables e below (s₁.setTop (entryFrame m #[.ref b, .int (Int32.ofNat o), .ref d, .int (Int32.ofNat q), .int (Int32.ofNat len)] 7)) (T'.setTop (mkF m 3 #[.val (.ref b), .val (.int (Int32.ofNat (o + len))), .val (.ref d), .val (.int (Int32.ofNat (q + len))), .val (.int (Int32.ofNat len)), .val (.int (Int32.ofNat len)), z'] [])) := by
    intro r
    induction r with
    | zero =>
      intro i hi z hz Tl Bk Xl pl fl cl
      have hil : i = len := by omega
      rw [hil] at Xl fl cl
      exact ⟨Tl, Bk, z, Xl, pl, fl, cl⟩
    | succ r ih =>
      intro i hi z hz Tl Bk Xl pl fl cl
      have all := X0.warmed.alike.symm.trans Xl.warmed.alike
      have hAl := hA0.keep all (pl.other hne hA0.1)
      have hBk := hB0.like all pl.1 fl.1 fl.2.1 fl.2.2.1
      have hlt : q + i < Bk.slots.size := by rw [fl.2.2.1]; omega
      have c3 : Steps p.tables e below (s₁.setTop (entryFrame m #[.ref b, .int (Int32.ofNat o), .ref d, .int (Int32.ofNat q), .int (Int32.ofNat len)] 7)) (Tl.setTop (mkF m 12 #[.val (.ref b), .val (.int (Int32.ofNat (o + i))), .val (.ref d), .val (.int (Int32.ofNat (q + i))), .val (.int (Int32.ofNat len)), .val (.int (Int32.ofNat i)), z] [.int (Int32.ofNat (o + i)), .ref b])) := cl.trans (by
        refine XS.iload Xl.here hexec rfl (hb hbytes d3) rfl ?_
        refine XS.iload Xl.here hexec rfl (hb hbytes d5) rfl ?_
        refine XS.icmpNo Xl.here hexec rfl (hb hbytes d7) rfl (ii_ge_f (lt32 (by omega) (by omega))) ?_
        refine XS.aloadN Xl.here hexec rfl (hb hbytes d10) rfl rfl ?_
        refine XS.iloadN Xl.here hexec rfl (hb hbytes d11) rfl ?_
        exact Steps.refl _)
      have c4 : Steps p.tables e below (s₁.setTop (entryFrame m #[.ref b, .int (Int32.ofNat o), .ref d, .int (Int32.ofNat q), .int (Int32.ofNat len)] 7)) (Tl.setTop (mkF m 13 #[.val (.ref b), .val (.int (Int32.ofNat (o + i))), .val (.ref d), .val (.int (Int32.ofNat (q + i))), .val (.int (Int32.ofNat len)), .val (.int (Int32.ofNat i)), z] [.int (cv A (o + i))])) := c3.trans (by
        refine Xl.aget hexec hAl rfl (hA.get (i := o + i) (by omega)) rfl rfl (hb hbytes d12) ?_
        exact Steps.refl _)
      have c5 : Steps p.tables e below (s₁.setTop (entryFrame m #[.ref b, .int (Int32.ofNat o), .ref d, .int (Int32.ofNat q), .int (Int32.ofNat len)] 7)) (Tl.setTop (mkF m 15 #[.val (.ref b), .val (.int (Int32.ofNat (o + i))), .val (.ref d), .val (.int (Int32.ofNat (q + i))), .val (.int (Int32.ofNat len)), .val (.int (Int32.ofNat i)), .val (.int (cv A (o + i)))] [])) := c4.trans (by
        refine XS.istoreS Xl.here hexec rfl (hb hbytes d13) rfl rfl hz ?_
        exact Steps.refl _)
      have c6 : Steps p.tables e below (s₁.setTop (entryFrame m #[.ref b, .int (Int32.ofNat o), .ref d, .int (Int32.ofNat q), .int (Int32.ofNat len)] 7)) (Tl.setTop (mkF m 31 #[.val (.ref b), .val (.int (Int32.ofNat (o + i))), .val (.ref d), .val (.int (Int32.ofNat (q + i))), .val (.int (Int32.ofNat len)), .val (.int (Int32.ofNat i)), .val (.int (cv A (o + i)))] [.int (lo8 (cv A (o + i))), .int (Int32.ofNat (q + i)), .ref d])) := c5.trans (by
        refine XS.iload Xl.here hexec rfl (hb hbytes d15) rfl ?_
        refine sipushV Xl.here hexec rfl 255 (hb hbytes d17) (by decide) ?_
        refine XS.icmpYes Xl.here hexec rfl (pc0 := 20) rfl (hb hbytes d20) rfl (ii_le_t (hp i (by omega))) (by decide) rfl ?_
        refine XS.aloadN Xl.here hexec rfl (hb hbytes d26) rfl rfl ?_
        refine XS.iloadN Xl.here hexec rfl (hb hbytes d27) rfl ?_
        refine XS.iload Xl.here hexec rfl (hb hbytes d28) rfl ?_
        refine i2b Xl.here hexec rfl (hb hbytes d30) rfl ?_
        exact Steps.refl _)
      obtain ⟨T7, X7, p7, st7⟩ := Xl.aput hexec hBk rfl hlt rfl (fits_lo8 (cv A (o + i))) (g := (mkF m 31 #[.val (.ref b), .val (.int (Int32.ofNat (o + i))), .val (.ref d), .val (.int (Int32.ofNat (q + i))), .val (.int (Int32.ofNat len)), .val (.int (Int32.ofNat i)), .val (.int (cv A (o + i)))] [.int (lo8 (cv A (o + i))), .int (Int32.ofNat (q + i)), .ref d])) rfl (rest := []) rfl (hb hbytes d31)
      have c8 : Steps p.tables e below (s₁.setTop (entryFrame m #[.ref b, .int (Int32.ofNat o), .ref d, .int (Int32.ofNat q), .int (Int32.ofNat len)] 7)) (T7.setTop (mkF m 32 #[.val (.ref b), .val (.int (Int32.ofNat (o + i))), .val (.ref d), .val (.int (Int32.ofNat (q + i))), .val (.int (Int32.ofNat len)), .val (.int (Int32.ofNat i)), .val (.int (cv A (o + i)))] [])) := c6.trans (st7 _ (Steps.refl _))
      have c9 : Steps p.tables e below (s₁.setTop (entryFrame m #[.ref b, .int (Int32.ofNat o), .ref d, .int (Int32.ofNat q), .int (Int32.ofNat len)] 7)) (T7.setTop (mkF m 3 #[.val (.ref b), .val (.int (Int32.ofNat (o + i) + 1)), .val (.ref d), .val (.int (Int32.ofNat (q + i) + 1)), .val (.int (Int32.ofNat len)), .val (.int (Int32.ofNat i + 1)), .val (.int (cv A (o + i)))] [])) := c8.trans (by
        refine iincV X7.here hexec rfl 1 (hb hbytes d32) (by decide) rfl rfl ?_
        refine iincV X7.here hexec rfl 1 (hb hbytes d35) (by decide) rfl rfl ?_
        refine iincV X7.here hexec rfl 1 (hb hbytes d38) (by decide) rfl rfl ?_
        refine XS.goto X7.here hexec rfl (pc0 := 41) rfl (hb hbytes d41) (by decide) rfl ?_
        exact Steps.refl _)
      have c10 : Steps p.tables e below (s₁.setTop (entryFrame m #[.ref b, .int (Int32.ofNat o), .ref d, .int (Int32.ofNat q), .int (Int32.ofNat len)] 7)) (T7.setTop (mkF m 3 #[.val (.ref b), .val (.int (Int32.ofNat (o + (i + 1)))), .val (.ref d), .val (.int (Int32.ofNat (q + (i + 1)))), .val (.int (Int32.ofNat len)), .val (.int (Int32.ofNat (i + 1))), .val (.int (cv A (o + i)))] [])) := by
        have := c9
        rw [succ32, succ32, succ32] at this
        exact this
      exact ih (i + 1) (by omega) _ (Or.inr ⟨_, rfl, rfl⟩) T7 _ (by rw [copyLocs_step, ← List.append_assoc]; exact X7) (pl.trans p7) (fl.step (by omega) hlt (by simp)) c10
  obtain ⟨T9, B9, z9, X9, p9, f9, g9⟩ := loop len 0 (by omega) .unset (Or.inl rfl) s₁ B (by simpa [copyLocs] using X0) ⟨hB0.1, fun _ _ => rfl, rfl⟩ (Laid.zero _ _ _) c2
  have c11 : Steps p.tables e below (s₁.setTop (entryFrame m #[.ref b, .int (Int32.ofNat o), .ref d, .int (Int32.ofNat q), .int (Int32.ofNat len)] 7)) (T9.setTop (mkF m 46 #[.val (.ref b), .val (.int (Int32.ofNat (o + len))), .val (.ref d), .val (.int (Int32.ofNat (q + len))), .val (.int (Int32.ofNat len)), .val (.int (Int32.ofNat len)), z9] [.int (Int32.ofNat len)])) := g9.trans (by
    refine XS.iload X9.here hexec rfl (hb hbytes d3) rfl ?_
    refine XS.iload X9.here hexec rfl (hb hbytes d5) rfl ?_
    refine XS.icmpYes X9.here hexec rfl (pc0 := 7) rfl (hb hbytes d7) rfl (ii_ge_t (nlt32 (by omega) (Nat.le_refl _))) (by decide) rfl ?_
    refine XS.iload X9.here hexec rfl (hb hbytes d44) rfl ?_
    exact Steps.refl _)
  exact ⟨T9, some (.int (Int32.ofNat len)), _, _, _, X9, by simp, rfl, rfl, (fun h => by cases h), ⟨rfl, B9, p9.from hh0, f9⟩, fun fs hl => c11.trans (X9.ireturnOut hexec hret rfl (Or.inl rfl) (hb hbytes d46) hl)⟩
end Cmp5
namespace Cmp3
def yN : MethodName := ⟨"java/lang/StringUTF16", "compress", "([CII)[B"⟩
abbrev yB : ByteArray := jdk_52_method_16_code
theorem d0 : decode yB 0 = .ok (.iload_n 2, 1) := by decide +kernel
theorem d1 : decode yB 1 = .ok (.newarray .byte, 2) := by decide +kernel
theorem d3 : decode yB 3 = .ok (.astore_n 3, 1) := by decide +kernel
theorem d4 : decode yB 4 = .ok (.aload_n 0, 1) := by decide +kernel
theorem d5 : decode yB 5 = .ok (.iload_n 1, 1) := by decide +kernel
theorem d6 : decode yB 6 = .ok (.aload_n 3, 1) := by decide +kernel
theorem d7 : decode yB 7 = .ok (.iconst 0, 1) := by decide +kernel
theorem d8 : decode yB 8 = .ok (.iload_n 2, 1) := by decide +kernel
theorem d9 : decode yB 9 = .ok (.invokestatic 115, 3) := by decide +kernel
theorem d12 : decode yB 12 = .ok (.istore 4, 2) := by decide +kernel
theorem d14 : decode yB 14 = .ok (.iload 4, 2) := by decide +kernel
theorem d16 : decode yB 16 = .ok (.iload_n 2, 1) := by decide +kernel
theorem d17 : decode yB 17 = .ok (.if_icmp (.eq) 40, 3) := by decide +kernel
theorem d57 : decode yB 57 = .ok (.aload_n 3, 1) := by decide +kernel
theorem d58 : decode yB 58 = .ok (.areturn, 1) := by decide +kernel
def site : List Cond := [.arrayClass .byte, Cmp5.tab] ++ staticW U16 115 Cmp5.yN
def tab : Cond := tabOf yN yB 6 (some (.array .byte)) site
def P (b : Addr) (A : Cell) (o len : Nat) (args : Array Value) (s : State) : Prop := args = #[.ref b, .int (Int32.ofNat o), .int (Int32.ofNat len)] ∧ Ch b A s ∧ o + len ≤ A.slots.size ∧ len ≤ 536870912 ∧ ∀ i, i < len → ¬ 255 < cv A (o + i)
def E (b : Addr) (A : Cell) (o len : Nat) (r : Option Value) (s u : State) : Prop := NewArr .byte "[B" len (fun j => .int (lo8 (cv A (o + j)))) r s u ∧ u.heap.size = s.heap.size + 1
/-- no char of the range above 255: a new byte[] of their low bytes -/
theorem law (l : Launch) (b : Addr) (A : Cell) (o len : Nat) : Law l yN 3 3 1 18 yB 6 (some (.array .byte)) site (P b A o len) (E b A o len) [] 1 len := by
  refine Law.of_walk (plainFor_of_name (by decide +kernel)) (by decide +kernel) (by decide +kernel) (by decide) (fun _ _ h => by rw [h.1]; rfl) (fun _ U U' hal hh h => ⟨h.1, h.2.1.mv hal hh, h.2.2⟩) (fun r U U' V V' h1 hal h2 h => ⟨NewArr.mv r U U' V V' h1 hal h2 h.1, by rw [h1, h2]; exact h.2⟩) ?_
  intro p e s m args below meth c s₁ X0 hexec hbytes hml hret hlk hnm hown hh0 W hP
  obtain ⟨rfl, hA, l1, l2, hp⟩ := hP
  have a31 := hA.1.2.2.2
  have c1 : Steps p.tables e below (s₁.setTop (entryFrame m #[.ref b, .int (Int32.ofNat o), .int (Int32.ofNat len)] 6)) (s₁.setTop (mkF m 0 #[.val (.ref b), .val (.int (Int32.ofNat o)), .val (.int (Int32.ofNat len)), .unset, .unset, .unset] [])) := entry rfl
  have c2 : Steps p.tables e below (s₁.setTop (entryFrame m #[.ref b, .int (Int32.ofNat o), .int (Int32.ofNat len)] 6)) (s₁.setTop (mkF m 1 #[.val (.ref b), .val (.int (Int32.ofNat o)), .val (.int (Int32.ofNat len)), .unset, .unset, .unset] [.int (Int32.ofNat len)])) := c1.trans (by
    refine XS.iloadN X0.here hexec rfl (hb hbytes d0) rfl ?_
    exact Steps.refl _)
  obtain ⟨T3, B3, X3, ba3, bs3, bv3, bh3, bf3, st3⟩ := X0.anew hexec (atype := .byte) (wk W (.arrayClass .byte)) rfl (by show len * 1 ≤ _; omega) (by omega) (g := (mkF m 1 #[.val (.ref b), .val (.int (Int32.ofNat o)), .val (.int (Int32.ofNat len)), .unset, .unset, .unset] [.int (Int32.ofNat len)])) rfl (hb hbytes d1) (rest := []) rfl (Nat.le_refl _) (by show 0 + len ≤ len; omega)
  rw [hh0] at ba3 st3
  have kp3 : XT.Kept s T3 := (XT.Kept.of_eq hh0).push bh3
  have hA3 := hA.keep X3.warmed.alike (kp3 _ _ hA.1.1)
  have hne : b ≠ s.heap.size := hA.1.ne
  have c4 : Steps p.tables e below (s₁.setTop (entryFrame m #[.ref b, .int (Int32.ofNat o), .int (Int32.ofNat len)] 6)) (T3.setTop (mkF m 3 #[.val (.ref b), .val (.int (Int32.ofNat o)), .val (.int (Int32.ofNat len)), .unset, .unset, .unset] [.ref s.heap.size])) := c2.trans (st3 _ (Steps.refl _))
  have c5 : Steps p.tables e below (s₁.setTop (entryFrame m #[.ref b, .int (Int32.ofNat o), .int (Int32.ofNat len)] 6)) (T3.setTop (mkF m 9 #[.val (.ref b), .val (.int (Int32.ofNat o)), .val (.int (Int32.ofNat len)), .val (.ref s.heap.size), .unset, .unset] [.int (Int32.ofNat len), .int 0, .ref s.heap.size, .int (Int32.ofNat o), .ref b])) := c4.trans (by
    refine XS.astoreN X3.here hexec rfl (hb hbytes d3) rfl rfl rfl ?_
    refine XS.aloadN X3.here hexec rfl (hb hbytes d4) rfl rfl ?_
    refine XS.iloadN X3.here hexec rfl (hb hbytes d5) rfl ?_
    refine XS.aloadN X3.here hexec rfl (hb hbytes d6) rfl rfl ?_
    refine iconstV X3.here hexec rfl 0 (hb hbytes d7) (by decide) ?_
    refine XS.iloadN X3.here hexec rfl (hb hbytes d8) rfl ?_
    exact Steps.refl _)
  obtain ⟨v6, T6, X6, E6, g6⟩ := X3.callS hexec (Cmp5.law l b A s.heap.size B3 o 0 len) hown (wks W (staticW U16 115 Cmp5.yN)) (wk W Cmp5.tab) (W := 0) (Nat.le_of_ble_eq_true rfl) (Nat.le_of_ble_eq_true rfl) (Nat.le_refl _) (by show 0 + len + 0 ≤ len; omega) (g := (mkF m 9 #[.val (.ref b), .val (.int (Int32.ofNat o)), .val (.int (Int32.ofNat len)), .val (.ref s.heap.size), .unset, .unset] [.int (Int32.ofNat len), .int (Int32.ofNat 0), .ref s.heap.size, .int (Int32.ofNat o), .ref b])) rfl (by rw [hml]; rfl) c5 (argsL := [.ref b, .int (Int32.ofNat o), .ref s.heap.size, .int (Int32.ofNat 0), .int (Int32.ofNat len)]) (rest := []) rfl rfl (by show 2 * 0 + 0 ≤ _; decide) (hb hbytes d9) (⟨rfl, hA3, ba3, hne, l1, by rw [bs3]; simp, hp⟩)
  obtain ⟨rfl, B6, p6, f6⟩ := E6
  have c7 : Steps p.tables e below (s₁.setTop (entryFrame m #[.ref b, .int (Int32.ofNat o), .int (Int32.ofNat len)] 6)) (T6.setTop (mkF m 12 #[.val (.ref b), .val (.int (Int32.ofNat o)), .val (.int (Int32.ofNat len)), .val (.ref s.heap.size), .unset, .unset] [.int (Int32.ofNat len)])) := g6
  have c8 : Steps p.tables e below (s₁.setTop (entryFrame m #[.ref b, .int (Int32.ofNat o), .int (Int32.ofNat len)] 6)) (T6.setTop (mkF m 58 #[.val (.ref b), .val (.int (Int32.ofNat o)), .val (.int (Int32.ofNat len)), .val (.ref s.heap.size), .val (.int (Int32.ofNat len)), .unset] [.ref s.heap.size])) := c7.trans (by
    refine XS.istore X6.here hexec rfl (hb hbytes d12) rfl rfl ?_
    refine XS.iload X6.here hexec rfl (hb hbytes d14) rfl ?_
    refine XS.iloadN X6.here hexec rfl (hb hbytes d16) rfl ?_
    refine XS.icmpYes X6.here hexec rfl (pc0 := 17) rfl (hb hbytes d17) rfl (ii_eq_t rfl) (by decide) rfl ?_
    refine XS.aloadN X6.here hexec rfl (hb hbytes d57) rfl rfl ?_
    exact Steps.refl _)
  have X8 := X6.wide (L' := []) (cells' := 1) (slots' := len) (fun x hx hlt => by
    simp only [List.nil_append, copyLocs, List.mem_map, List.mem_range] at hx
    obtain ⟨i, -, rfl⟩ := hx
    exact absurd hlt (Nat.lt_irrefl _)) (Nat.le_refl _) (by omega)
  exact ⟨T6, some (.ref s.heap.size), _, _, _, X8, rfl, rfl, rfl, (fun h => by cases h), ⟨⟨rfl, B6, ba3.like (X3.warmed.alike.symm.trans X6.warmed.alike) p6.1 f6.1 f6.2.1 f6.2.2.1, f6.2.1.trans bv3, by rw [X6.warmed.alike.findClass, f6.1]; exact bf3, by rw [f6.2.2.1, bs3]; simp, fun j hj => by rw [f6.2.2.2 j, if_pos (by omega)]; rfl, kp3.put p6 (Nat.le_refl _)⟩, by rw [p6.2.2, bh3, hh0]; simp⟩, fun fs hl => c8.trans (X8.areturnOut hexec rfl hret rfl (hb hbytes d58) hl)⟩
end Cmp3
namespace CodL
def yN : MethodName := ⟨"java/lang/StringUTF16", "coderFromArrayLen", "([BI)B"⟩
abbrev yB : ByteArray := jdk_52_method_15_code
theorem d0 : decode yB 0 = .ok (.iload_n 1, 1) := by decide +kernel
theorem d1 : decode yB 1 = .ok (.aload_n 0, 1) := by decide +kernel
theorem d2 : decode yB 2 = .ok (.arraylength, 1) := by decide +kernel
theorem d3 : decode yB 3 = .ok (.isub, 1) := by decide +kernel
theorem d4 : decode yB 4 = .ok (.bipush 31, 2) := by decide +kernel
theorem d6 : decode yB 6 = .ok (.iushr, 1) := by decide +kernel
theorem d7 : decode yB 7 = .ok (.i2b, 1) := by decide +kernel
theorem d8 : decode yB 8 = .ok (.ireturn, 1) := by decide +kernel
def site : List Cond := []
def tab : Cond := tabOf yN yB 2 (some .byte) site
def P (d : Addr) (B : Cell) (args : Array Value) (s : State) : Prop := args = #[.ref d, .int (Int32.ofNat B.slots.size)] ∧ Arr .byte d B s
def E (r : Option Value) (s u : State) : Prop := XT.PureE (some (.int 0)) r s u
/-- an array as long as the number of chars: LATIN1 -/
theorem law (l : Launch) (d : Addr) (B : Cell) : Law l yN 2 2 0 0 yB 2 (some .byte) site (P d B) E [] 0 0 := by
  refine Law.of_walk (plainFor_of_name (by decide +kernel)) (by decide +kernel) (by decide +kernel) (by decide) (fun _ _ h => by rw [h.1]; rfl) (fun _ U U' hal hh h => ⟨h.1, h.2.mv hal hh⟩) (fun r U U' V V' h1 hal h2 h => XT.PureE.mv r U U' V V' h1 hal h2 h) ?_
  intro p e s m args below meth c s₁ X0 hexec hbytes hml hret hlk hnm hown hh0 W hP
  obtain ⟨rfl, hB⟩ := hP
  have hB0 := hB.mv X0.warmed.alike hh0
  have c1 : Steps p.tables e below (s₁.setTop (entryFrame m #[.ref d, .int (Int32.ofNat B.slots.size)] 2)) (s₁.setTop (mkF m 0 #[.val (.ref d), .val (.int (Int32.ofNat B.slots.size))] [])) := entry rfl
  have c2 : Steps p.tables e below (s₁.setTop (entryFrame m #[.ref d, .int (Int32.ofNat B.slots.size)] 2)) (s₁.setTop (mkF m 2 #[.val (.ref d), .val (.int (Int32.ofNat B.slots.size))] [.ref d, .int (Int32.ofNat B.slots.size)])) := c1.trans (by
    refine XS.iloadN X0.here hexec rfl (hb hbytes d0) rfl ?_
    refine XS.aloadN X0.here hexec rfl (hb hbytes d1) rfl rfl ?_
    exact Steps.refl _)
  have c3 : Steps p.tables e below (s₁.setTop (entryFrame m #[.ref d, .int (Int32.ofNat B.slots.size)] 2)) (s₁.setTop (mkF m 8 #[.val (.ref d), .val (.int (Int32.ofNat B.slots.size))] [.int (lo8 (ushr (Int32.ofNat B.slots.size - Int32.ofNat B.slots.size) 31))])) := c2.trans (by
    refine X0.alen hexec hB0 rfl rfl (hb hbytes d2) ?_
    refine XS.isub X0.here hexec rfl (hb hbytes d3) rfl ?_
    refine bipushV X0.here hexec rfl 31 (hb hbytes d4) (by decide) ?_
    refine iushr X0.here hexec rfl (hb hbytes d6) rfl ?_
    refine i2b X0.here hexec rfl (hb hbytes d7) rfl ?_
    exact Steps.refl _)
  have e0 : lo8 (ushr (Int32.ofNat B.slots.size - Int32.ofNat B.slots.size) 31) = 0 := by rw [Int32.sub_self]; decide
  rw [e0] at c3
  exact ⟨s₁, some (.int 0), _, _, _, X0, rfl, rfl, rfl, (fun h => by cases h), ⟨rfl, hh0⟩, fun fs hl => c3.trans (X0.ireturnOut hexec hret rfl (Or.inr (Or.inr (Or.inl rfl))) (hb hbytes d8) hl)⟩
end CodL
/-- the String at a is Latin-1 over a new byte[] (the heap's one new cell): the low bytes of the len chars of A from o on; every cell but a is kept -/
def Got (a : Addr) (D : Cell) (fV fC : Field) (A : Cell) (o len : Nat) (r : Option Value) (s u : State) : Prop := r = none ∧ ∃ D' V : Cell, Blank "java/lang/String" a D' u ∧ Same D D' [fV.slot, fC.slot] ∧ D'.slots[fV.slot]? = some (.ref s.heap.size) ∧ D'.slots[fC.slot]? = some (.int 0) ∧ Arr .byte s.heap.size V u ∧ V.vm = .none ∧ u.vm.findClass "[B" = some V.cls ∧ V.slots.size = len ∧ (∀ j, j < len → V.slots[j]? = some (.int (lo8 (cv A (o + j))))) ∧ (∀ (y : Addr) (c : Cell), y ≠ a → s.heap[y]? = some c → u.heap[y]? = some c) ∧ u.heap.size = s.heap.size + 1
theorem Got.mv {a : Addr} {D A : Cell} {fV fC : Field} {o len : Nat} : ∀ r (U U' V V' : State), U'.heap = U.heap → V.vm.Alike V'.vm → V'.heap = V.heap → Got a D fV fC A o len r U V → Got a D fV fC A o len r U' V' :=
  fun r U U' V V' h1 hal h2 ⟨e0, D', X, a1, a2, a3, a4, a5, a6, a7, a8, a9, a10, a11⟩ => ⟨e0, D', X, a1.mv hal h2, a2, by rw [h1]; exact a3, a4, by rw [h1]; exact a5.mv hal h2, a6, by rw [hal.findClass]; exact a7, a8, a9, by rw [h1, h2]; exact a10, by rw [h1, h2]; exact a11⟩
namespace New4
def yN : MethodName := ⟨"java/lang/String", "<init>", "([CIILjava/lang/Void;)V"⟩
abbrev yB : ByteArray := jdk_42_method_149_code
theorem d0 : decode yB 0 = .ok (.aload_n 0, 1) := by decide +kernel
theorem d1 : decode yB 1 = .ok (.invokespecial 1, 3) := by decide +kernel
theorem d4 : decode yB 4 = .ok (.iload_n 3, 1) := by decide +kernel
theorem d5 : decode yB 5 = .ok (.ifCond (.ne) 22, 3) := by decide +kernel
theorem d27 : decode yB 27 = .ok (.getstatic 38, 3) := by decide +kernel
theorem d30 : decode yB 30 = .ok (.ifCond (.eq) 28, 3) := by decide +kernel
theorem d33 : decode yB 33 = .ok (.aload_n 1, 1) := by decide +kernel
theorem d34 : decode yB 34 = .ok (.iload_n 2, 1) := by decide +kernel
theorem d35 : decode yB 35 = .ok (.iload_n 3, 1) := by decide +kernel
theorem d36 : decode yB 36 = .ok (.invokestatic 177, 3) := by decide +kernel
theorem d39 : decode yB 39 = .ok (.astore 5, 2) := by decide +kernel
theorem d41 : decode yB 41 = .ok (.aload_n 0, 1) := by decide +kernel
theorem d42 : decode yB 42 = .ok (.aload 5, 2) := by decide +kernel
theorem d44 : decode yB 44 = .ok (.iload_n 3, 1) := by decide +kernel
theorem d45 : decode yB 45 = .ok (.invokestatic 47, 3) := by decide +kernel
theorem d48 : decode yB 48 = .ok (.putfield 15, 3) := by decide +kernel
theorem d51 : decode yB 51 = .ok (.aload_n 0, 1) := by decide +kernel
theorem d52 : decode yB 52 = .ok (.aload 5, 2) := by decide +kernel
theorem d54 : decode yB 54 = .ok (.putfield 9, 3) := by decide +kernel
theorem d57 : decode yB 57 = .ok (.return_, 1) := by decide +kernel
def site : List Cond := [.fieldLink "java/lang/String" 38 "java/lang/String" "COMPACT_STRINGS" "Z", Cmp3.tab, CodL.tab, .laysFinal "java/lang/String" "java/lang/String" "value" "[B", .fieldLink "java/lang/String" 9 "java/lang/String" "value" "[B", .laysFinal "java/lang/String" "java/lang/String" "coder" "B", .fieldLink "java/lang/String" 15 "java/lang/String" "coder" "B"] ++ objW "java/lang/String" 1 ++ staticW "java/lang/String" 177 Cmp3.yN ++ staticW "java/lang/String" 47 CodL.yN
def tab : Cond := tabOf yN yB 6 none site
def P (a : Addr) (D : Cell) (fV fC : Field) (b : Addr) (A : Cell) (z : Int32) (o len : Nat) (args : Array Value) (s : State) : Prop := args = #[.ref a, .ref b, .int (Int32.ofNat o), .int (Int32.ofNat len), .null] ∧ Blank "java/lang/String" a D s ∧ Found "java/lang/String" "value" "[B" fV s ∧ Found "java/lang/String" "coder" "B" fC s ∧ Ch b A s ∧ StaticIs s "java/lang/String" "COMPACT_STRINGS" "Z" (.int z) ∧ ¬ z = 0 ∧ 0 < len ∧ o + len ≤ A.slots.size ∧ len ≤ 536870912 ∧ ∀ i, i < len → ¬ 255 < cv A (o + i)
def E (a : Addr) (D : Cell) (fV fC : Field) (A : Cell) (o len : Nat) (r : Option Value) (s u : State) : Prop := Got a D fV fC A o len r s u
/-- len > 0, no char of the range above 255: a Latin-1 String of their low bytes -/
theorem law (l : Launch) (a : Addr) (D : Cell) (fV fC : Field) (b : Addr) (A : Cell) (z : Int32) (o len : Nat) : Law l yN 5 4 2 35 yB 6 none site (P a D fV fC b A z o len) (E a D fV fC A o len) [⟨a, fC.slot⟩, ⟨a, fV.slot⟩] 1 len := by
  refine Law.of_walk (plainFor_of_name (by decide +kernel)) (by decide +kernel) (by decide +kernel) (by decide) (fun _ _ h => by rw [h.1]; rfl) (fun _ U U' hal hh h => ⟨h.1, h.2.1.mv hal hh, h.2.2.1.al hal, h.2.2.2.1.al hal, h.2.2.2.2.1.mv hal hh, h.2.2.2.2.2.1.there hal hh, h.2.2.2.2.2.2⟩) (fun r U U' V V' h1 hal h2 h => Got.mv r U U' V V' h1 hal h2 h) ?_
  intro p e s m args below meth c s₁ X0 hexec hbytes hml hret hlk hnm hown hh0 W hP
  obtain ⟨rfl, hB, f1, f2, hA, s1, hz, l0, l1, l2, hp⟩ := hP
  have a31 := hA.1.2.2.2
  have c1 : Steps p.tables e below (s₁.setTop (entryFrame m #[.ref a, .ref b, .int (Int32.ofNat o), .int (Int32.ofNat len), .null] 6)) (s₁.setTop (mkF m 0 #[.val (.ref a), .val (.ref b), .val (.int (Int32.ofNat o)), .val (.int (Int32.ofNat len)), .val .null, .unset] [])) := entry rfl
  have c2 : Steps p.tables e below (s₁.setTop (entryFrame m #[.ref a, .ref b, .int (Int32.ofNat o), .int (Int32.ofNat len), .null] 6)) (s₁.setTop (mkF m 1 #[.val (.ref a), .val (.ref b), .val (.int (Int32.ofNat o)), .val (.int (Int32.ofNat len)), .val .null, .unset] [.ref a])) := c1.trans (by
    refine XS.aloadN X0.here hexec rfl (hb hbytes d0) rfl rfl ?_
    exact Steps.refl _)
  obtain ⟨T3, X3, q3, st3⟩ := X0.oinit hexec hown (wks W (objW "java/lang/String" 1)) (g := (mkF m 1 #[.val (.ref a), .val (.ref b), .val (.int (Int32.ofNat o)), .val (.int (Int32.ofNat len)), .val .null, .unset] [.ref a])) rfl (by rw [hml]; rfl) (rest := []) rfl (hb hbytes d1) (W := 0) (by show 2 * 0 + 0 ≤ _; decide) (Nat.le_of_ble_eq_true rfl) (Nat.le_of_ble_eq_true rfl)
  have hh3 := q3.trans hh0
  have c4 : Steps p.tables e below (s₁.setTop (entryFrame m #[.ref a, .ref b, .int (Int32.ofNat o), .int (Int32.ofNat len), .null] 6)) (T3.setTop (mkF m 27 #[.val (.ref a), .val (.ref b), .val (.int (Int32.ofNat o)), .val (.int (Int32.ofNat len)), .val .null, .unset] [])) := (c2.trans (st3 _ (Steps.refl _))).trans (by
    refine XS.iloadN X3.here hexec rfl (hb hbytes d4) rfl ?_
    refine XS.ifYes X3.here hexec rfl (pc0 := 5) rfl (hb hbytes d5) rfl (i0_ne_t (nz32 (by omega) l0)) (by decide) rfl ?_
    exact Steps.refl _)
  obtain ⟨T5, X5, q5, st5⟩ := X3.sget hexec hown (wk W (.fieldLink "java/lang/String" 38 "java/lang/String" "COMPACT_STRINGS" "Z")) s1 (fun _ _ h => by rw [hh3]; exact h) (g := (mkF m 27 #[.val (.ref a), .val (.ref b), .val (.int (Int32.ofNat o)), .val (.int (Int32.ofNat len)), .val .null, .unset] [])) rfl (hb hbytes d27)
  have hh5 := q5.trans hh3
  have c6 : Steps p.tables e below (s₁.setTop (entryFrame m #[.ref a, .ref b, .int (Int32.ofNat o), .int (Int32.ofNat len), .null] 6)) (T5.setTop (mkF m 30 #[.val (.ref a), .val (.ref b), .val (.int (Int32.ofNat o)), .val (.int (Int32.ofNat len)), .val .null, .unset] [.int z])) := c4.trans (st5 _ (Steps.refl _))
  have c7 : Steps p.tables e below (s₁.setTop (entryFrame m #[.ref a, .ref b, .int (Int32.ofNat o), .int (Int32.ofNat len), .null] 6)) (T5.setTop (mkF m 36 #[.val (.ref a), .val (.ref b), .val (.int (Int32.ofNat o)), .val (.int (Int32.ofNat len)), .val .null, .unset] [.int (Int32.ofNat len), .int (Int32.ofNat o), .ref b])) := c6.trans (by
    refine XS.ifNo X5.here hexec rfl (hb hbytes d30) rfl (i0_eq_f hz) ?_
    refine XS.aloadN X5.here hexec rfl (hb hbytes d33) rfl rfl ?_
    refine XS.iloadN X5.here hexec rfl (hb hbytes d34) rfl ?_
    refine XS.iloadN X5.here hexec rfl (hb hbytes d35) rfl ?_
    exact Steps.refl _)
  obtain ⟨v8, T8, X8, E8, g8⟩ := X5.callS hexec (Cmp3.law l b A o len) hown (wks W (staticW "java/lang/String" 177 Cmp3.yN)) (wk W Cmp3.tab) (W := 0) (Nat.le_of_ble_eq_true rfl) (Nat.le_of_ble_eq_true rfl) (Nat.le_refl _) (by show 0 + len ≤ len; omega) (g := (mkF m 36 #[.val (.ref a), .val (.ref b), .val (.int (Int32.ofNat o)), .val (.int (Int32.ofNat len)), .val .null, .unset] [.int (Int32.ofNat len), .int (Int32.ofNat o), .ref b])) rfl (by rw [hml]; rfl) c7 (argsL := [.ref b, .int (Int32.ofNat o), .int (Int32.ofNat len)]) (rest := []) rfl rfl (by show 2 * 0 + 0 ≤ _; decide) (hb hbytes d36) (⟨rfl, hA.mv X5.warmed.alike hh5, l1, l2, hp⟩)
  obtain ⟨e8, z8⟩ := E8
  obtain ⟨rfl, N, n1, n2, n3, n4, n5, n6⟩ := NewArr.mv _ T5 s _ _ hh5.symm (Vm.Alike.refl _) rfl e8
  rw [hh5] at z8
  have hB1 := hB.keep X8.warmed.alike (n6 _ _ hB.1)
  have hne : s.heap.size ≠ a := (Nat.ne_of_lt (Array.getElem?_eq_some_iff.mp hB.1).1).symm
  have c9 : Steps p.tables e below (s₁.setTop (entryFrame m #[.ref a, .ref b, .int (Int32.ofNat o), .int (Int32.ofNat len), .null] 6)) (T8.setTop (mkF m 39 #[.val (.ref a), .val (.ref b), .val (.int (Int32.ofNat o)), .val (.int (Int32.ofNat len)), .val .null, .unset] [.ref s.heap.size])) := g8
  have c10 : Steps p.tables e below (s₁.setTop (entryFrame m #[.ref a, .ref b, .int (Int32.ofNat o), .int (Int32.ofNat len), .null] 6)) (T8.setTop (mkF m 45 #[.val (.ref a), .val (.ref b), .val (.int (Int32.ofNat o)), .val (.int (Int32.ofNat len)), .val .null, .val (.ref s.heap.size)] [.int (Int32.ofNat N.slots.size), .ref s.heap.size, .ref a])) := by
    have hc : Steps p.tables e below (s₁.setTop (entryFrame m #[.ref a, .ref b, .int (Int32.ofNat o), .int (Int32.ofNat len), .null] 6)) (T8.setTop (mkF m 45 #[.val (.ref a), .val (.ref b), .val (.int (Int32.ofNat o)), .val (.int (Int32.ofNat len)), .val .null, .val (.ref s.heap.size)] [.int (Int32.ofNat len), .ref s.heap.size, .ref a])) := c9.trans (by
      refine XS.astore X8.here hexec rfl (hb hbytes d39) rfl rfl rfl ?_
      refine XS.aloadN X8.here hexec rfl (hb hbytes d41) rfl rfl ?_
      refine XS.aload X8.here hexec rfl (hb hbytes d42) rfl rfl ?_
      refine XS.iloadN X8.here hexec rfl (hb hbytes d44) rfl ?_
      exact Steps.refl _)
    rw [n4]; exact hc
  obtain ⟨v11, T11, X11, E11, g11⟩ := X8.callS hexec (CodL.law l s.heap.size N) hown (wks W (staticW "java/lang/String" 47 CodL.yN)) (wk W CodL.tab) (W := 1) (Nat.le_of_ble_eq_true rfl) (Nat.le_of_ble_eq_true rfl) (Nat.le_refl _) (by show 0 + len + 0 ≤ len; omega) (g := (mkF m 45 #[.val (.ref a), .val (.ref b), .val (.int (Int32.ofNat o)), .val (.int (Int32.ofNat len)), .val .null, .val (.ref s.heap.size)] [.int (Int32.ofNat N.slots.size), .ref s.heap.size, .ref a])) rfl (by rw [hml]; rfl) c10 (argsL := [.ref s.heap.size, .int (Int32.ofNat N.slots.size)]) (rest := [.ref a]) rfl rfl (by show 2 * 0 + (1 + 0) ≤ _; decide) (hb hbytes d45) (⟨rfl, n1⟩)
  obtain ⟨rfl, q11⟩ := E11
  have hB11 := hB1.mv (X8.warmed.alike.symm.trans X11.warmed.alike) q11
  have c12 : Steps p.tables e below (s₁.setTop (entryFrame m #[.ref a, .ref b, .int (Int32.ofNat o), .int (Int32.ofNat len), .null] 6)) (T11.setTop (mkF m 48 #[.val (.ref a), .val (.ref b), .val (.int (Int32.ofNat o)), .val (.int (Int32.ofNat len)), .val .null, .val (.ref s.heap.size)] [.int 0, .ref a])) := g11
  obtain ⟨T13, X13, p13, bl13, sl13, st13⟩ := X11.finit hexec hown (wk W (.fieldLink "java/lang/String" 15 "java/lang/String" "coder" "B")) (Or.inr ⟨_, (wk W (.laysFinal "java/lang/String" "java/lang/String" "coder" "B"))⟩) (Or.inl ⟨rfl, hnm⟩) f2 (Or.inl rfl) hB11 (t := .byte) (by decide +kernel) rfl (g := (mkF m 48 #[.val (.ref a), .val (.ref b), .val (.int (Int32.ofNat o)), .val (.int (Int32.ofNat len)), .val .null, .val (.ref s.heap.size)] [.int 0, .ref a])) rfl (rest := []) rfl (hb hbytes d48)
  have c14 : Steps p.tables e below (s₁.setTop (entryFrame m #[.ref a, .ref b, .int (Int32.ofNat o), .int (Int32.ofNat len), .null] 6)) (T13.setTop (mkF m 54 #[.val (.ref a), .val (.ref b), .val (.int (Int32.ofNat o)), .val (.int (Int32.ofNat len)), .val .null, .val (.ref s.heap.size)] [.ref s.heap.size, .ref a])) := (c12.trans (st13 _ (Steps.refl _))).trans (by
    refine XS.aloadN X13.here hexec rfl (hb hbytes d51) rfl rfl ?_
    refine XS.aload X13.here hexec rfl (hb hbytes d52) rfl rfl ?_
    exact Steps.refl _)
  obtain ⟨T15, X15, p15, bl15, sl15, st15⟩ := X13.finit hexec hown (wk W (.fieldLink "java/lang/String" 9 "java/lang/String" "value" "[B")) (Or.inr ⟨_, (wk W (.laysFinal "java/lang/String" "java/lang/String" "value" "[B"))⟩) (Or.inl ⟨rfl, hnm⟩) f1 (Or.inl rfl) bl13 (t := (.array .byte)) (by decide +kernel) rfl (g := (mkF m 54 #[.val (.ref a), .val (.ref b), .val (.int (Int32.ofNat o)), .val (.int (Int32.ofNat len)), .val .null, .val (.ref s.heap.size)] [.ref s.heap.size, .ref a])) rfl (rest := []) rfl (hb hbytes d54)
  have c16 : Steps p.tables e below (s₁.setTop (entryFrame m #[.ref a, .ref b, .int (Int32.ofNat o), .int (Int32.ofNat len), .null] 6)) (T15.setTop (mkF m 57 #[.val (.ref a), .val (.ref b), .val (.int (Int32.ofNat o)), .val (.int (Int32.ofNat len)), .val .null, .val (.ref s.heap.size)] [])) := c14.trans (st15 _ (Steps.refl _))
  have ap := apart (Or.inr ⟨_, (wk W (.laysFinal "java/lang/String" "java/lang/String" "value" "[B"))⟩) (Or.inr ⟨_, (wk W (.laysFinal "java/lang/String" "java/lang/String" "coder" "B"))⟩) f1 f2 (t₁ := .array .byte) (t₂ := .byte) (by decide +kernel) (by decide +kernel) (by decide)
  have al := X8.warmed.alike.symm.trans X15.warmed.alike
  have n7 : T11.heap[s.heap.size]? = some N := by rw [q11]; exact n1.1
  exact ⟨T15, none, _, _, _, X15, by simp, rfl, by omega, (fun _ => rfl), ⟨rfl, _, N, bl15, ((Same.refl D _).set _ (by simp)).set _ (by simp), sl15, (Cell.slots_setSlot_ne _ ap).trans sl13, n1.keep al (p15.other hne (p13.other hne n7)), n2, by rw [al.findClass]; exact n3, n4, n5, fun y c h1 h2 => p15.other h1 (p13.other h1 (by rw [q11]; exact n6 y c h2)), by rw [p15.2.2, p13.2.2, q11]; exact z8⟩, fun fs hl => c16.trans (X15.returnOut hexec hret (hb hbytes d57) hl)⟩
end New4
namespace New1
def yN : MethodName := ⟨"java/lang/String", "<init>", "([C)V"⟩
abbrev yB : ByteArray := jdk_42_method_3_code
theorem d0 : decode yB 0 = .ok (.aload_n 0, 1) := by decide +kernel
theorem d1 : decode yB 1 = .ok (.aload_n 1, 1) := by decide +kernel
theorem d2 : decode yB 2 = .ok (.iconst 0, 1) := by decide +kernel
theorem d3 : decode yB 3 = .ok (.aload_n 1, 1) := by decide +kernel
theorem d4 : decode yB 4 = .ok (.arraylength, 1) := by decide +kernel
theorem d5 : decode yB 5 = .ok (.aconst_null, 1) := by decide +kernel
theorem d6 : decode yB 6 = .ok (.invokespecial 27, 3) := by decide +kernel
theorem d9 : decode yB 9 = .ok (.return_, 1) := by decide +kernel
def site : List Cond := [New4.tab] ++ initW "java/lang/String" 27 New4.yN
def tab : Cond := tabOf yN yB 2 none site
def P (a : Addr) (D : Cell) (fV fC : Field) (b : Addr) (A : Cell) (z : Int32) (args : Array Value) (s : State) : Prop := args = #[.ref a, .ref b] ∧ Blank "java/lang/String" a D s ∧ Found "java/lang/String" "value" "[B" fV s ∧ Found "java/lang/String" "coder" "B" fC s ∧ Ch b A s ∧ StaticIs s "java/lang/String" "COMPACT_STRINGS" "Z" (.int z) ∧ ¬ z = 0 ∧ 0 < A.slots.size ∧ A.slots.size ≤ 536870912 ∧ ∀ i, i < A.slots.size → ¬ 255 < cv A i
def E (a : Addr) (D : Cell) (fV fC : Field) (A : Cell) (r : Option Value) (s u : State) : Prop := Got a D fV fC A 0 A.slots.size r s u
/-- new String(chars), not empty, no char above 255: a Latin-1 String of their low bytes -/
theorem law (l : Launch) (a : Addr) (D : Cell) (fV fC : Field) (b : Addr) (A : Cell) (z : Int32) : Law l yN 2 1 3 52 yB 2 none site (P a D fV fC b A z) (E a D fV fC A) [⟨a, fC.slot⟩, ⟨a, fV.slot⟩] 1 A.slots.size := by
  refine Law.of_walk (plainFor_of_name (by decide +kernel)) (by decide +kernel) (by decide +kernel) (by decide) (fun _ _ h => by rw [h.1]; rfl) (fun _ U U' hal hh h => ⟨h.1, h.2.1.mv hal hh, h.2.2.1.al hal, h.2.2.2.1.al hal, h.2.2.2.2.1.mv hal hh, h.2.2.2.2.2.1.there hal hh, h.2.2.2.2.2.2⟩) (fun r U U' V V' h1 hal h2 h => Got.mv r U U' V V' h1 hal h2 h) ?_
  intro p e s m args below meth c s₁ X0 hexec hbytes hml hret hlk hnm hown hh0 W hP
  obtain ⟨rfl, hB, f1, f2, hA, s1, hz, l0, l2, hp⟩ := hP
  have c1 : Steps p.tables e below (s₁.setTop (entryFrame m #[.ref a, .ref b] 2)) (s₁.setTop (mkF m 0 #[.val (.ref a), .val (.ref b)] [])) := entry rfl
  have c2 : Steps p.tables e below (s₁.setTop (entryFrame m #[.ref a, .ref b] 2)) (s₁.setTop (mkF m 6 #[.val (.ref a), .val (.ref b)] [.null, .int (Int32.ofNat A.slots.size), .int 0, .ref b, .ref a])) := c1.trans (by
    refine XS.aloadN X0.here hexec rfl (hb hbytes d0) rfl rfl ?_
    refine XS.aloadN X0.here hexec rfl (hb hbytes d1) rfl rfl ?_
    refine iconstV X0.here hexec rfl 0 (hb hbytes d2) (by decide) ?_
    refine XS.aloadN X0.here hexec rfl (hb hbytes d3) rfl rfl ?_
    refine X0.alen hexec (hA.1.mv X0.warmed.alike hh0) rfl rfl (hb hbytes d4) ?_
    refine XS.aconstNull X0.here hexec rfl (hb hbytes d5) ?_
    exact Steps.refl _)
  obtain ⟨v3, T3, X3, E3, g3⟩ := X0.callN hexec (New4.law l a D fV fC b A z 0 A.slots.size) rfl hown (wks W (initW "java/lang/String" 27 New4.yN)) (W New4.tab (by simp only [site, List.mem_cons, List.mem_append, true_or, or_true])) (W := 0) (Nat.le_of_ble_eq_true rfl) (Nat.le_of_ble_eq_true rfl) (Nat.le_refl _) (by show 0 + A.slots.size ≤ A.slots.size; omega) (g := (mkF m 6 #[.val (.ref a), .val (.ref b)] [.null, .int (Int32.ofNat A.slots.size), .int (Int32.ofNat 0), .ref b, .ref a])) rfl (by rw [hml]; rfl) c2 (argsL := [.ref b, .int (Int32.ofNat 0), .int (Int32.ofNat A.slots.size), .null]) (rest := []) rfl rfl (by show 2 * 0 + 0 ≤ _; decide) (hb hbytes d6) (⟨rfl, hB.mv X0.warmed.alike hh0, f1.al X0.warmed.alike, f2.al X0.warmed.alike, hA.mv X0.warmed.alike hh0, s1.there X0.warmed.alike hh0, hz, l0, by omega, l2, fun i hi => by rw [Nat.zero_add]; exact hp i hi⟩)
  have e0 := Got.mv _ s₁ s _ _ hh0.symm (Vm.Alike.refl _) rfl E3
  obtain rfl := e0.1
  have c4 : Steps p.tables e below (s₁.setTop (entryFrame m #[.ref a, .ref b] 2)) (T3.setTop (mkF m 9 #[.val (.ref a), .val (.ref b)] [])) := g3
  exact ⟨T3, none, _, _, _, X3, by simp, rfl, by omega, (fun _ => rfl), e0, fun fs hl => c4.trans (X3.returnOut hexec hret (hb hbytes d9) hl)⟩
theorem pays {l : Launch} {R : Room} {p : Program} {e : Env} {below : List Frame} {s : State} {sargs : Array Value} {len W : Nat} (a : Addr) (D : Cell) (fV fC : Field) (b : Addr) (A : Cell) (z : Int32) (htab : tab.before sargs s = true) (hfr : 4 ≤ R.frames) (hlo : W + 65 ≤ R.locals) :
    Back l R p e below s sargs yN len W (fun A₁ a₁ => A₁.cells + 1 ≤ R.cells ∧ A₁.slots + A.slots.size ≤ R.slots ∧ P a D fV fC b A z a₁ A₁.U) (fun A₁ _ v₁ B₁ => E a D fV fC A v₁ A₁.U B₁.U ∧ B₁.locs = A₁.locs ++ [⟨a, fC.slot⟩, ⟨a, fV.slot⟩] ∧ B₁.cells = A₁.cells + 1 ∧ B₁.slots = A₁.slots + A.slots.size) :=
  (law l a D fV fC b A z).pays htab hfr (by omega)
end New1
end StrChars
namespace StrChars.Road
open Jvm Sem ClassFile Op Lib Jvm.Stand Jvm.Free Jvm.Free.XT
open Jvm.Lib.Cold (StaticIs)
abbrev ST : String := "java/lang/String"
/-- every table word that New1's law asks, flat -/
abbrev words : List Jvm.Cond := [.code New1.yN New1.yB 2 none, .initialized ST, .methodLink ST 27 New4.yN, .instanceMethod New4.yN,
  .code New4.yN New4.yB 6 none, .fieldLink ST 38 ST "COMPACT_STRINGS" "Z", .laysFinal ST ST "value" "[B", .fieldLink ST 9 ST "value" "[B", .laysFinal ST ST "coder" "B", .fieldLink ST 15 ST "coder" "B",
  .methodLink ST 1 Lib.objectInit, .instanceMethod Lib.objectInit, .code Lib.objectInit ⟨#[0xb1]⟩ 1 none, .methodLink ST 177 Cmp3.yN, .static Cmp3.yN, .methodLink ST 47 CodL.yN, .static CodL.yN,
  .code Cmp3.yN Cmp3.yB 6 (some (.array .byte)), .initialized U16, .arrayClass .byte, .methodLink U16 115 Cmp5.yN, .static Cmp5.yN, .code Cmp5.yN Cmp5.yB 7 (some .int), .code CodL.yN CodL.yB 2 (some .byte)]
theorem tab_of {a : Array Value} {s : State} (h : ∀ w ∈ words, w.before a s = true) : New1.tab.before a s = true := by
  have h5 : Cmp5.tab.before a s = true := unparts (wk h (.code Cmp5.yN Cmp5.yB 7 (some .int))) (wks h (.initialized Cmp5.yN.cls :: Cmp5.site))
  have hc : CodL.tab.before a s = true := unparts (wk h (.code CodL.yN CodL.yB 2 (some .byte))) (wks h (.initialized CodL.yN.cls :: CodL.site))
  have q5 : ∀ w ∈ Cmp5.tab :: words, w.before a s = true := fun w hw => (List.mem_cons.mp hw).elim (fun e => e ▸ h5) (h w)
  have h3 : Cmp3.tab.before a s = true := unparts (wk q5 (.code Cmp3.yN Cmp3.yB 6 (some (.array .byte)))) (wks q5 (.initialized Cmp3.yN.cls :: Cmp3.site))
  have q3 : ∀ w ∈ Cmp3.tab :: CodL.tab :: words, w.before a s = true := fun w hw => (List.mem_cons.mp hw).elim (fun e => e ▸ h3) fun hw => (List.mem_cons.mp hw).elim (fun e => e ▸ hc) (h w)
  have h4 : New4.tab.before a s = true := unparts (wk q3 (.code New4.yN New4.yB 6 none)) (wks q3 (.initialized New4.yN.cls :: New4.site))
  have q4 : ∀ w ∈ New4.tab :: words, w.before a s = true := fun w hw => (List.mem_cons.mp hw).elim (fun e => e ▸ h4) (h w)
  exact unparts (wk q4 (.code New1.yN New1.yB 2 none)) (wks q4 (.initialized New1.yN.cls :: New1.site))
/-- the words ride from the start Z to the walk's own state -/
theorem moved {Z s : State} {a0 args : Array Value} (hZ : Z.Warmed39 s.vm) (hw : ∀ d ∈ words, d.before a0 Z = true) : ∀ d ∈ words, d.before args s = true := fun d hd => by
  have q := hw d hd
  have t : ∀ d ∈ words, d = .arrayClass .byte ∨ (d.onTables && d.keepsFace) = true := by decide +kernel
  rcases t d hd with rfl | t
  · exact RoadKit.mvA hZ q
  · exact RoadKit.mv hZ q t
/-- WHAT COMES BACK, over the tables of the start Z: h the heap at the call, h' behind it -/
def Q (Z : State) (x : Addr) (A : Cell) (h : Heap) (v : Option Value) (h' : Heap) (L : List Loc) : Prop := v = none ∧ (∀ y ∈ L, y.base = x) ∧ RoadKit.Keep h h' [x] ∧ h'.size = h.size + 1 ∧ RoadKit.Exa Z h' x ST ∧ RoadKit.Fld Z h' x ST "value" "[B" (.ref h.size) ∧ RoadKit.Fld Z h' x ST "coder" "B" (.int 0) ∧
  (∃ V : Cell, RoadKit.Arr Z h' h.size V .byte ∧ V.vm = .none ∧ Z.vm.findClass "[B" = some V.cls ∧ V.slots.size = A.slots.size ∧ ∀ j, j < A.slots.size → V.slots[j]? = some (.int (lo8 (cv A j)))) ∧
  ∀ (O n d : String) (w : Value), RoadKit.Fld Z h x O n d w → RoadKit.slotOf Z O n d ≠ RoadKit.slotOf Z ST "value" "[B" → RoadKit.slotOf Z O n d ≠ RoadKit.slotOf Z ST "coder" "B" → RoadKit.Fld Z h' x O n d w
/-- **new String(chars) AT A CALL, IN THE ROAD'S FORM**: for specialBack behind newO: x the fresh String, b the char[] with the cell A -/
theorem back {p : Program} {l : Launch} {e : Env} {R : Room} {s : State} {args : Array Value} {below : List Frame} {len W : Nat} {Z : State} {a0 : Array Value} {h : Heap} (hZ : Z.Warmed39 s.vm) (hw : ∀ d ∈ words, d.before a0 Z = true) {kI : Nat} (wi : (Jvm.Cond.instantiable ST kI).before a0 Z = true)
    {x b : Addr} {A : Cell} {z : Int32} {v0 c0 : Value} (E : RoadKit.Exa Z h x ST) (V : RoadKit.Fld Z h x ST "value" "[B" v0) (C : RoadKit.Fld Z h x ST "coder" "B" c0) (K : RoadKit.Arr Z h b A .char) (hty : Typed .char A) (S : RoadKit.Sta Z h ST "COMPACT_STRINGS" "Z" (.int z)) (hz : ¬ z = 0)
    (l0 : 0 < A.slots.size) (l2 : A.slots.size ≤ 536870912) (hp : ∀ i, i < A.slots.size → ¬ 255 < cv A i) (hfr : 4 ≤ R.frames) (hlo : W + 65 ≤ R.locals) :
    Back l R p e below s args New1.yN len W (fun P a => a = #[.ref x, .ref b] ∧ P.U.heap = h ∧ P.cells + 1 ≤ R.cells ∧ P.slots + A.slots.size ≤ R.slots)
      (fun P _ v B => ∃ L, Q Z x A h v B.U.heap L ∧ B.locs = P.locs ++ L ∧ B.cells = P.cells + 1 ∧ B.slots = P.slots + A.slots.size) := by
  intro m meth c P g ig mk a X hg hsize hdg hW hn hp'
  obtain ⟨rfl, rfl, r1, r2⟩ := hp'
  have al : Z.vm.Alike P.U.vm := hZ.alike.trans X.warmed.alike
  obtain ⟨D, cfV, kV, iV, fV, hD, gV, stV, knV, obV, asV, slV⟩ := id V
  obtain ⟨D', cfC, kC, iC, fC, hD', gC, stC, -, -, asC, slC⟩ := id C
  cases hD.symm.trans hD'
  obtain ⟨D2, kD, e1, e2, e3, e4, e5⟩ := id E
  cases hD.symm.trans e1
  obtain ⟨c2, k2, i1, i2, i3, -⟩ := Cond.instantiable_spec wi
  cases e2.symm.trans i1
  cases e3.symm.trans i2
  obtain ⟨kU, u1, u2⟩ := al.2.2 _ _ e3
  have hB : Blank ST x D P.U := ⟨hD, ⟨knV, fun q hq => by rw [hq] at obV; cases obV⟩, by rw [al.findClass]; exact e2, kU, u1, by rw [u2]; exact i3, by rw [u2]; exact e5 i3⟩
  have F1 : Found ST "value" "[B" fV P.U := ⟨SBG.found_only al ⟨cfV, kV, iV, gV⟩, stV⟩
  have F2 : Found ST "coder" "B" fC P.U := ⟨SBG.found_only al ⟨cfC, kC, iC, gC⟩, stC⟩
  have hA : Ch b A P.U := ⟨⟨K.1, State.isArrayOf_alike al K.2.1, K.2.2, by omega⟩, hty⟩
  have hS : StaticIs P.U ST "COMPACT_STRINGS" "Z" (.int z) := by
    obtain ⟨cfS, iS, kS, fS, st, cS, t1, t2, t3, t4, t5, t6, t7⟩ := S
    exact StaticIs.there (s := { Z with heap := P.U.heap }) ⟨cfS, iS, kS, fS, st, cS, t1, t2, t3, t4, t5, (fun q => by rw [q] at t6; cases t6), t7⟩ al rfl
  obtain ⟨v, B, X', ⟨⟨hv, E', V', q1, q2, q3, q4, q5, q6, q7, q8, q9, q10, q11⟩, hl, hc, hs⟩, st⟩ := New1.pays x D fV fC b A z (tab_of (moved hZ hw)) hfr hlo m meth c P g ig mk _ X hg hsize hdg hW hn ⟨r1, r2, rfl, hB, F1, F2, hA, hS, hz, l0, l2, hp⟩
  have al' : Z.vm.Alike B.U.vm := hZ.alike.trans X'.warmed.alike
  have hsz : E'.slots.size = D.slots.size := by
    obtain ⟨-, -, -, kB, w1, w2, w3⟩ := q1
    obtain ⟨kB', y1, y2⟩ := al'.2.2 _ _ e3
    rw [q2.2.1] at w1
    cases w1.symm.trans y1
    rw [w3, e5 i3, y2]
  refine ⟨v, B, X', ⟨_, ⟨hv, ?_, ⟨by omega, fun y cy hy hn' => q10 y cy (by simpa using hn') hy, fun y cy hy => ?_⟩, q11, ⟨E', _, q1.1, by rw [q2.2.1]; exact e2, by rw [q2.2.1]; exact e3, by rw [q2.1]; exact obV, fun _ => by rw [hsz]; exact e5 i3⟩,
    ⟨E', cfV, kV, iV, fV, q1.1, gV, stV, by rw [q2.1]; exact knV, by rw [q2.1]; exact obV, by rw [q2.2.1]; exact asV, q3⟩, ⟨E', cfC, kC, iC, fC, q1.1, gC, stC, by rw [q2.1]; exact knV, by rw [q2.1]; exact obV, by rw [q2.2.1]; exact asC, q4⟩,
    ⟨V', ⟨q5.1, State.isArrayOf_alike al'.symm q5.2.1, q5.2.2.1⟩, q6, by rw [← al'.findClass]; exact q7, q8, fun j hj => by have := q9 j hj; rwa [Nat.zero_add] at this⟩, fun O n d w F n1 n2 => ?_⟩, hl, hc, hs⟩, st⟩
  · intro y hy
    simp only [List.mem_cons, List.not_mem_nil, or_false] at hy
    rcases hy with rfl | rfl <;> rfl
  · by_cases q : y = x
    · subst q
      cases hD.symm.trans hy
      exact ⟨E', q1.1, q2.2.1, q2.1, hsz⟩
    · exact ⟨cy, q10 y cy q hy, rfl, rfl, rfl⟩
  · obtain ⟨D3, cf, k, i, f, g1, g2, g3, g4, g5, g6, g7⟩ := F
    cases hD.symm.trans g1
    simp only [RoadKit.slotOf, g2, gV, gC, Option.map_some, Option.getD_some] at n1 n2
    exact ⟨E', cf, k, i, f, q1.1, g2, g3, by rw [q2.1]; exact g4, by rw [q2.1]; exact g5, by rw [q2.2.1]; exact g6, by rw [q2.2.2 f.slot (by simp [n1, n2])]; exact g7⟩
end StrChars.Road
namespace StrChars.Road
open Jvm Sem ClassFile Op Lib Jvm.Stand Jvm.Free Jvm.Free.XT
/-- WHAT COMES BACK, the byte[] as a list of values -/
def QA (Z : State) (x : Addr) (zn : Int32) (cs : List Int32) (h : Heap) (v : Option Value) (h' : Heap) (L : List Loc) : Prop := v = none ∧ (∀ y ∈ L, y.base = x) ∧ RoadKit.Keep h h' [x] ∧ h'.size = h.size + 1 ∧ RoadKit.Exa Z h' x ST ∧ RoadKit.Fld Z h' x ST "value" "[B" (.ref h.size) ∧ RoadKit.Fld Z h' x ST "coder" "B" (.int 0) ∧
  (∃ kb, Z.vm.findClass "[B" = some kb ∧ RoadKit.Arv Z h' h.size kb .byte zn (cs.map fun c => .int (lo8 c)) (.int 0)) ∧
  ∀ (O n d : String) (w : Value), RoadKit.Fld Z h x O n d w → RoadKit.slotOf Z O n d ≠ RoadKit.slotOf Z ST "value" "[B" → RoadKit.slotOf Z O n d ≠ RoadKit.slotOf Z ST "coder" "B" → RoadKit.Fld Z h' x O n d w
/-- **new String(chars) AT A CALL, THE ARRAYS AS LISTS**: the char[] at b holds cs, not empty, no char above 255 -/
theorem backArv {p : Program} {l : Launch} {e : Env} {R : Room} {s : State} {args : Array Value} {below : List Frame} {len W : Nat} {Z : State} {a0 : Array Value} {h : Heap} (hZ : Z.Warmed39 s.vm) (hw : ∀ d ∈ words, d.before a0 Z = true) {kI : Nat} (wi : (Jvm.Cond.instantiable ST kI).before a0 Z = true)
    {x b : Addr} {k : ClassId} {zn z : Int32} {cs : List Int32} {dv v0 c0 : Value} (E : RoadKit.Exa Z h x ST) (V : RoadKit.Fld Z h x ST "value" "[B" v0) (C : RoadKit.Fld Z h x ST "coder" "B" c0) (K : RoadKit.Arv Z h b k .char zn (cs.map Value.int) dv) (S : RoadKit.Sta Z h ST "COMPACT_STRINGS" "Z" (.int z)) (hz : ¬ z = 0)
    (hlen : zn.toNatClampNeg = cs.length) (h0 : 0 < cs.length) (hbig : cs.length ≤ 536870912) (hall : ∀ c ∈ cs, ¬ 255 < c) (hfr : 4 ≤ R.frames) (hlo : W + 65 ≤ R.locals) :
    Back l R p e below s args New1.yN len W (fun P a => a = #[.ref x, .ref b] ∧ P.U.heap = h ∧ P.cells + 1 ≤ R.cells ∧ P.slots + cs.length ≤ R.slots)
      (fun P _ v B => ∃ L, QA Z x zn cs h v B.U.heap L ∧ B.locs = P.locs ++ L ∧ B.cells = P.cells + 1 ∧ B.slots = P.slots + cs.length) := by
  obtain ⟨A, K1, K2, K3, K4, K5, K6⟩ := K
  have e : A.slots.size = cs.length := K3.trans hlen
  have hat : ∀ (i : Nat) (hi : i < cs.length), A.slots[i]? = some (.int cs[i]) := fun i hi => by rw [K5 i (by omega)]; simp [List.getD_eq_getElem?_getD, hi]
  have hcv : ∀ (i : Nat) (hi : i < cs.length), cv A i = cs[i] := fun i hi => by unfold cv; rw [hat i hi]
  have hty : Typed .char A := fun i v hv => by
    have hi : i < A.slots.size := (Array.getElem?_eq_some_iff.mp hv).1
    have q := K5 i hi
    rw [hv] at q
    rw [Option.some.inj q]
    exact K6 i hi
  refine Back.mono (back hZ hw wi E V C K1 hty S hz (by omega) (by omega) (fun i hi => by rw [hcv i (by omega)]; exact hall _ (List.getElem_mem _)) hfr hlo) (fun P a hp => ⟨hp.1, hp.2.1, hp.2.2.1, by rw [e]; exact hp.2.2.2⟩) (fun P a v B hp hq => ?_)
  obtain ⟨L, ⟨q1, q2, q3, q4, q5, q6, q7, ⟨V', v1, v2, v3, v4, v5⟩, q9⟩, hl, hc, hs⟩ := hq
  refine ⟨L, ⟨q1, q2, q3, q4, q5, q6, q7, ⟨V'.cls, v3, V', v1, rfl, by rw [v4, e, hlen], K4, fun i hi => ?_, fun i hi => ?_⟩, q9⟩, hl, hc, by rw [hs, e]⟩
  · have hi' : i < cs.length := by omega
    rw [v5 i (by omega), hcv i hi']; simp [List.getD_eq_getElem?_getD, hi']
  · have hi' : i < cs.length := by omega
    simp only [List.getD_eq_getElem?_getD, List.getElem?_map, List.getElem?_eq_getElem hi', Option.map_some, Option.getD_some]
    exact fits_lo8 _
end StrChars.Road
namespace StrChars.Road
open Jvm Sem ClassFile Op Lib Jvm.Stand Jvm.Free Jvm.Free.XT
/-- WHAT COMES BACK, in the writer's own shape -/
def QV (Z : State) (x : Addr) (N : Int32) (bs : List Int32) (h : Heap) (n0 : Nat) (v : Option Value) (h' : Heap) (L : List Loc) : Prop := v = none ∧ RoadKit.Fr n0 L ∧ RoadKit.Keep h h' [x] ∧ RoadKit.Exa Z h' x ST ∧ RoadKit.Fld Z h' x ST "coder" "B" (.int 0) ∧
  ∃ (t : Addr) (kb : ClassId), n0 ≤ t ∧ h.size ≤ t ∧ ¬ t = x ∧ RoadKit.Fld Z h' x ST "value" "[B" (.ref t) ∧ RoadKit.Arv Z h' t kb .byte N (bs.map Value.int) (.int 0)
/-- **new String(chars) AT A CALL, FOR THE WRITER**: a char[] of n known ints, each 0 to 255 -/
theorem backV {p : Program} {l : Launch} {e : Env} {R : Room} {s : State} {args : Array Value} {below : List Frame} {len W : Nat} {Z : State} {a0 : Array Value} {h : Heap} (hZ : Z.Warmed39 s.vm) (hw : ∀ d ∈ words, d.before a0 Z = true) {kI : Nat} (wi : (Jvm.Cond.instantiable ST kI).before a0 Z = true)
    {x b : Addr} {kC : ClassId} {cs bs : List Int32} {d v0 c0 : Value} {z N : Int32} {n n0 : Nat} (hx0 : n0 ≤ x) (hh0 : n0 ≤ h.size) (E : RoadKit.Exa Z h x ST) (V : RoadKit.Fld Z h x ST "value" "[B" v0) (C : RoadKit.Fld Z h x ST "coder" "B" c0) (K : RoadKit.Arv Z h b kC .char N (cs.map Value.int) d) (S : RoadKit.Sta Z h ST "COMPACT_STRINGS" "Z" (.int z)) (hz : ¬ z = 0)
    (hn : cs.length = n) (hN : N = Int32.ofNat n) (l0 : 0 < n) (l2 : n ≤ 4000) (hp : ∀ c ∈ cs, ¬ c < 0 ∧ ¬ (255 : Int32) < c) (hb : bs = cs.map (fun c => c.toInt8.toInt32)) (hfr : 4 ≤ R.frames) (hlo : W + 65 ≤ R.locals) :
    Back l R p e below s args (⟨"java/lang/String", "<init>", "([C)V"⟩ : MethodName) len W (fun P a => a = #[.ref x, .ref b] ∧ P.U.heap = h ∧ P.cells + 1 ≤ R.cells ∧ P.slots + n ≤ R.slots)
      (fun P _ v B => ∃ L, QV Z x N bs h n0 v B.U.heap L ∧ B.locs = P.locs ++ L ∧ B.cells = P.cells + 1 ∧ B.slots = P.slots + n) := by
  subst hn hN hb
  refine Back.mono (backArv hZ hw wi E V C K S hz (n32 (by omega)) l0 (by omega) (fun c hc => (hp c hc).2) hfr hlo) (fun P a hp => hp) (fun P a v B hp hq => ?_)
  obtain ⟨L, ⟨q1, q2, q3, q4, q5, q6, q7, ⟨kb, v1, v2⟩, q9⟩, hl, hc, hs⟩ := hq
  exact ⟨L, ⟨q1, fun y hy => by rw [q2 y hy]; exact hx0, q3, q5, q7, h.size, kb, hh0, Nat.le_refl _, Nat.ne_of_gt E.lt, q6, by rw [List.map_map]; exact v2⟩, hl, hc, hs⟩
end StrChars.Road
end Jvm.Pilot.@@N@@

namespace Jvm.Pilot.@@N@@
open Jvm Jvm.ClassFile Sem Op Lib Jvm.Free Jvm.Stand Jvm.LawKit Jvm.RoadKit Bundle Jvm.Pilot.@@N@@.Jvm.D
theorem own_mi {α : Type} {l : List α} {a : α} (i : Nat) (h : l[i]? = some a) : a ∈ l := List.mem_of_getElem? h
def own_Rn (p : Program) (e : Env) (below : List Frame) (P : Outcome → State → Prop) (S : State) : Prop := ∃ U o, Steps p.tables e below S U ∧ U.status = .running ∧ Ended U below o ∧ P o U
theorem own_go {p : Program} {e : Env} {below : List Frame} {P : Outcome → State → Prop} {S S' : State} (k : ∀ t, Steps p.tables e below S' t → Steps p.tables e below S t) (h : own_Rn p e below P S') : own_Rn p e below P S := by
  obtain ⟨U, o, h1, h2⟩ := h
  exact ⟨U, o, k U h1, h2⟩
theorem own_ret {p : Program} {l : Launch} {e : Env} {R : Room} {s : State} {m : MethodId} {args : Array Value} {below : List Frame} {meth : Method} {c : Code} {T : State} {locs : List Loc} {cells slots : Nat} (X : Stand p l e R s m args below meth c T locs cells slots)
    {v : Option Value} (hv : meth.sig.returnType = none → v = none) {S : State} {Q : Option Value → Heap → List Loc → Prop} {C N : Nat}
    (k : ∀ fs, (∀ (f : JFrame) (acts : List Action), f.method = m → f.locked = none → f.entered = [] → (doReturn e (T.setTop f) acts v).1 = T.setFrames fs) → Steps p.tables e below S (T.setFrames fs)) (hq : Q v T.heap locs) (hc : cells ≤ C) (hs : slots ≤ N)
    (hlocks : meth.locks = false := by first | assumption | exact BodyLoose.notSynchronized (by assumption) | exact Body.notSynchronized (by assumption)) :
    own_Rn p e below (fun o U' => ∃ v L, o = .returned v ∧ Q v U'.heap L ∧ FrameEnd s o U' L C N) S := by
  obtain ⟨fs, hr, hrun, hended, hW, hsame⟩ := X.leave hv hlocks
  exact ⟨_, _, k fs hr, hrun, hended, _, _, rfl, hq, ⟨_, rfl⟩, hW, hsame.mono hc hs⟩
theorem own_nea {a b : Addr} (h : @LT.lt Nat _ a b ∨ @LT.lt Nat _ b a) : a ≠ b := by
  intro e
  have e' : @Eq Nat a b := e
  omega
theorem own_fits_byte (x : Int32) : fits .byte (.int (nar .byte x)) = true := by
  have h := c_i2b x
  have h1 : (-128 : Int32) ≤ x.toInt8.toInt32 := by rw [Int32.le_iff_toInt_le]; exact h.2.1
  have h2 : x.toInt8.toInt32 ≤ (127 : Int32) := by rw [Int32.le_iff_toInt_le]; exact Int.le_of_lt_add_one h.2.2
  simp only [fits, Bool.and_eq_true]
  exact ⟨decide_eq_true h1, decide_eq_true h2⟩
theorem own_fitsB (x : Int32) : fits .byte (.int x.toInt8.toInt32) = true := own_fits_byte x
theorem own_retS {p : Program} {l : Launch} {e : Env} {R : Room} {s : State} {m : MethodId} {args : Array Value} {below : List Frame} {meth : Method} {c : Code} {T : State} {locs : List Loc} {cells slots : Nat} {vm₁ : Vm} (X : Stand p l e R (s.setVm vm₁) m args below meth c T locs cells slots) {n : Nat} (hS : s.Since vm₁ n) (hn : n ≤ T.heap.size)
    {v : Option Value} (hv : meth.sig.returnType = none → v = none) {S : State} {Z : State} {EL : List (String × Nat)} {Q : Option Value → Heap → List Loc → Prop} {C N : Nat}
    (k : ∀ fs, (∀ (f : JFrame) (acts : List Action), f.method = m → f.locked = none → f.entered = [] → (doReturn e (T.setTop f) acts v).1 = T.setFrames fs) → Steps p.tables e below S (T.setFrames fs)) (hq : Q v T.heap locs) (hR : CHr Z EL s.vm s.heap T.vm T.heap) (hc : cells ≤ C) (hs : slots ≤ N)
    (hlocks : meth.locks = false := by first | assumption | exact BodyLoose.notSynchronized (by assumption) | exact Body.notSynchronized (by assumption)) :
    own_Rn p e below (fun o U' => ∃ v L, o = .returned v ∧ Q v U'.heap L ∧ CHr Z EL s.vm s.heap U'.vm U'.heap ∧ ReturnedEndW s o U' L C N) S := by
  obtain ⟨fs, hr, hrun, hended, h1, h2, h3, h4⟩ := X.leaveW hS hn hv hlocks
  exact ⟨_, _, k fs hr, hrun, hended, _, _, rfl, hq, hR, h1, h2, h3, h4.mono hc hs⟩
theorem own_safeAt {Z : State} {EL : List (String × Nat)} {vm vm1 : Vm} {h : Heap} {x : Addr} (A : CHr Z EL vm h vm1 h) (S : Safe Z EL vm h x) : Safe Z EL vm1 h x := by
  rcases Nat.lt_or_ge x h.size with hx | hx
  · exact A.safe hx S
  · exact Safe.new hx
theorem own_backSH {p : Program} {l : Launch} {e : Env} {R : Room} {s : State} {args : Array Value} {below : List Frame} {Z : State} {a0 : Array Value} {EL : List (String × Nat)} {h : Heap} {vm0 : Vm} {sf : List Addr}
    {y : MethodName} {bytes : ByteArray} {maxL : Nat} {ret : Option FieldType} {rm : Room} {len W : Nat} {as' : Array Value} {Q : Option Value → Heap → List Loc → Prop}
    (hM : MetFree l y (head1 [Cond.code y bytes maxL ret] rm) (fun a U => a = as' ∧ Z.Warmed39 U.vm ∧ U.heap = h ∧ CHv Z EL U.vm h ∧ ∀ x ∈ sf, Safe Z EL U.vm h x) (fun _ _ _ _ _ => True) (fun _ U o U' => ∃ v L, o = .returned v ∧ Q v U'.heap L ∧ CHr Z EL U.vm U.heap U'.vm U'.heap ∧ ReturnedEndW U o U' L rm.cells rm.slots))
    (hZ : Z.Warmed39 vm0) (wc : (Cond.code y bytes maxL ret).before a0 Z = true) (wz : (Cond.initialized y.cls).before a0 Z = true) (hf : rm.frames + 1 ≤ R.frames) (hl : W + (maxL + 11) + rm.locals ≤ R.locals) (hEL : EW Z a0 EL) (H : CHv Z EL vm0 h) (hsf : ∀ x ∈ sf, Safe Z EL vm0 h x) :
    BackS l R p e below (s.setVm vm0) args y len W (fun A a => a = as' ∧ A.U.heap = h ∧ A.cells + rm.cells ≤ R.cells ∧ A.slots + rm.slots ≤ R.slots)
      (fun A _ v B => ∃ L, Q v B.U.heap L ∧ B.locs = A.locs ++ L ∧ B.cells = A.cells + rm.cells ∧ B.slots = A.slots + rm.slots ∧ CHr Z EL vm0 h B.U.vm B.U.heap) :=
  BackS.of_freeW (bytes := bytes) (maxL := maxL) (ret := ret) (E := fun _ first o t L k n => k = rm.cells ∧ n = rm.slots ∧ (∃ v, o = .returned v ∧ Q v t.heap L) ∧ CHr Z EL first.vm first.heap t.vm t.heap) hM hf hl
    (fun m meth c A a Y hp => have hU : Z.Warmed39 A.U.vm := wtrans (s := s.setVm vm0) hZ Y.warmed
      ⟨by show (Cond.and _ .tt).before a A.U = true; rw [Cond.before_and, mv hU wc]; rfl, mv hU wc, mv hU wz, hp.2.2.1, hp.2.2.2⟩)
    (fun m meth c A a g mk Y hp => ⟨hp.1, wtrans (s := s.setVm vm0) hZ Y.warmed, hp.2.1, (CHv.at Y hZ hEL H).1, fun x hx => show Safe Z EL A.U.vm h x from own_safeAt (CHv.at Y hZ hEL H) (hsf x hx)⟩) (fun _ _ _ _ _ _ _ _ _ => trivial)
    (fun _ _ _ _ ⟨v, L, h1, h2, h3, h4⟩ => ⟨L, _, _, h4, rfl, rfl, ⟨v, h1, h2⟩, h3⟩)
    (fun m meth c A a g mk v t L k n Y hp _ _ ⟨e1, e2, ⟨v', e3, e4⟩, e5⟩ => by
      cases e3; subst e1 e2
      refine ⟨L, e4, rfl, rfl, rfl, (CHv.at Y hZ hEL H).trans ?_⟩
      rw [← hp.2.1]; exact e5)
theorem own_and255 (x : Int32) : ¬ (x &&& (255 : Int32)) < 0 ∧ ¬ (255 : Int32) < (x &&& (255 : Int32)) := by
  have h := c_and x 255 (by decide)
  have e2 : (255 : Int32).toInt = 255 := rfl
  rw [Int32.lt_iff_toInt_lt, Int32.lt_iff_toInt_lt]
  have e0 : (0 : Int32).toInt = 0 := rfl
  omega
theorem own_c16 (r : Int32) (h : ¬ r < 0 ∧ ¬ (65535 : Int32) < r) : r.toUInt32.toUInt16.toUInt32.toInt32 = r := by
  have h1 := c_i2c r
  rw [Int32.lt_iff_toInt_lt, Int32.lt_iff_toInt_lt] at h
  have e2 : (65535 : Int32).toInt = 65535 := rfl
  have e0 : (0 : Int32).toInt = 0 := rfl
  apply Int32.toInt_inj.mp
  omega
theorem own_up (r : Int32) (h : ¬ r < 0 ∧ ¬ (255 : Int32) < r) : ¬ r < 0 ∧ ¬ (65535 : Int32) < r := by
  rw [Int32.lt_iff_toInt_lt, Int32.lt_iff_toInt_lt] at *
  have e2 : (65535 : Int32).toInt = 65535 := rfl
  have e3 : (255 : Int32).toInt = 255 := rfl
  have e0 : (0 : Int32).toInt = 0 := rfl
  omega
theorem own_narC (r : Int32) (h : ¬ r < 0 ∧ ¬ (255 : Int32) < r) : nar .char r = r := own_c16 r (own_up r h)
theorem own_chr (x : Int32) : ((x &&& (255 : Int32)).toUInt32.toUInt16.toUInt32.toInt32) = x &&& 255 := own_c16 _ (own_up _ (own_and255 x))
theorem own_chr_rng (x : Int32) : ¬ ((x &&& (255 : Int32)).toUInt32.toUInt16.toUInt32.toInt32) < 0 ∧ ¬ (255 : Int32) < ((x &&& (255 : Int32)).toUInt32.toUInt16.toUInt32.toInt32) := by rw [own_chr]; exact own_and255 x
theorem own_narB (x : Int32) : nar .byte (x.toInt8.toInt32) = x.toInt8.toInt32 := by
  show (x.toInt8.toInt32).toInt8.toInt32 = x.toInt8.toInt32
  rw [Int8.toInt8_toInt32]
theorem own_ef_rmCan (m : MethodId) (ch : Int32) : entryFrame m #[(.int ch)] 1 = mkF m 0 #[.val (.int ch)] [] := by first | (simp [entryFrame, mkF, argsToLocals, Value.category]; done) | rfl
theorem own_pn_java_lang_StringLatin1 : plainName "java/lang/StringLatin1" = true := by first | (simp [plainName, overriddenIn]; done) | decide +kernel
theorem own_d17_0 : decode jdk_43_method_3_code 0 = .ok (.iload_n 0, 1) := by decide +kernel
theorem own_d17_1 : decode jdk_43_method_3_code 1 = .ok (.sipush 255, 3) := by decide +kernel
theorem own_d17_4 : decode jdk_43_method_3_code 4 = .ok (.if_icmp .gt 7, 3) := by decide +kernel
theorem own_d17_7 : decode jdk_43_method_3_code 7 = .ok (.iconst 1, 1) := by decide +kernel
theorem own_d17_8 : decode jdk_43_method_3_code 8 = .ok (.goto 4, 3) := by decide +kernel
theorem own_d17_12 : decode jdk_43_method_3_code 12 = .ok (.ireturn, 1) := by decide +kernel
def Q_rmCan (Z : State) (ch : Int32) (h0 : Heap) (n0 : Nat) (vq : Option Value) (hhq : Heap) (Lq : List Loc) : Prop := vq = some (.int (1 : Int32)) ∧ Fr n0 Lq ∧ hhq = h0
set_option maxRecDepth 65536 in
set_option maxHeartbeats 40000000 in
theorem rmCan (l : Launch) (Z : State) (a0 : Array Value) (hw : ∀ d ∈ tables_1, d.before a0 Z = true) (ws : List Jvm.Cond) (ch : Int32) (h0 : Heap) (n0 : Nat) (Z0 : n0 ≤ h0.size) (hR : (¬ ch < 0 ∧ ¬ (255 : Int32) < ch)) :
    MetFree l (⟨"java/lang/StringLatin1", "canEncode", "(C)Z"⟩ : MethodName) (head1 (Jvm.Cond.code (⟨"java/lang/StringLatin1", "canEncode", "(C)Z"⟩ : MethodName) jdk_43_method_3_code 1 (some .boolean) :: ws) ({ frames := 0, cells := 0, slots := 0, locals := 0 } : Room)) (fun aq U => aq = #[(.int ch)] ∧ Z.Warmed39 U.vm ∧ U.heap = h0) (fun _ _ _ _ _ => True) (fun _ U oq U' => ∃ vq Lq, oq = .returned vq ∧ Q_rmCan Z ch h0 n0 vq U'.heap Lq ∧ FrameEnd U oq U' Lq ({ frames := 0, cells := 0, slots := 0, locals := 0 } : Room).cells ({ frames := 0, cells := 0, slots := 0, locals := 0 } : Room).slots) := by
  refine MetFree.of_bodySF (plainFor_of_name own_pn_java_lang_StringLatin1) hisR ?_
  intro p e s m args below meth c s₁ Bd hml0 hP hK
  obtain ⟨rfl, hZ, hh⟩ := hP
  have hx := Bd.exec
  have hby := Bd.bytes
  have hml : c.maxLocals = 1 := hml0
  have hown : s.vm.findClass "java/lang/StringLatin1" = some m.cls := findClass_of_methodNamed Bd.named
  have hnm := (name_of_methodNamed Bd.named Bd.method).1
  have X0 : Stand p l e ({ frames := 0, cells := 0, slots := 0, locals := 0 } : Room) s m #[(.int ch)] below meth c s₁ [] 0 0 := Stand.of_body Bd
  have e0 : s₁.heap = h0 := by rw [← hh, Bd.state]; rfl
  have N0 := Fr.nil n0
  have K0 : Keep h0 h0 [] := Keep.refl _ _
  refine own_go (S' := s₁.setTop (mkF m 0 #[.val (.int ch)] [])) (fun tq kq => castTop (own_ef_rmCan m ch) kq) ?_
  refine own_go (fun tq kq => XS.iloadN X0.here hx rfl (hb hby own_d17_0) rfl kq) ?_
  show own_Rn p e below _ (s₁.setTop (mkF m 1 #[.val (.int ch)] [(.int ch)]))
  refine own_go (fun tq kq => XS.sipush X0.here hx rfl (hb hby own_d17_1) kq) ?_
  show own_Rn p e below _ (s₁.setTop (mkF m 4 #[.val (.int ch)] [(.int (255 : Int32)), (.int ch)]))
  refine own_go (fun tq kq => XS.icmpNo X0.here hx rfl (hb hby own_d17_4) rfl (flt (hR.2 : ¬ ((255 : Int32) < ch))).2.2.1 kq) ?_
  show own_Rn p e below _ (s₁.setTop (mkF m 7 #[.val (.int ch)] []))
  refine own_go (fun tq kq => XS.iconst X0.here hx rfl (hb hby own_d17_7) kq) ?_
  show own_Rn p e below _ (s₁.setTop (mkF m 8 #[.val (.int ch)] [(.int (1 : Int32))]))
  refine own_go (fun tq kq => XS.goto X0.here hx rfl (pc0 := 8) (pc' := 12) rfl (hb hby own_d17_8) (by decide) (by decide) kq) ?_
  show own_Rn p e below _ (s₁.setTop (mkF m 12 #[.val (.int ch)] [(.int (1 : Int32))]))
  exact own_ret X0 (v := some (.int (nar .boolean (1 : Int32)))) (fun h => by rw [Bd.returns] at h; cases h) (fun fs hr => retN X0 hx (t := .boolean) Bd.returns (by simp) (hb hby own_d17_12) hr) (by rw [e0]; exact ⟨rfl, N0, rfl⟩) (by decide) (by decide)
theorem own_ef_rmToB (m : MethodId) (ch : Int32) : entryFrame m #[(.int ch)] 1 = mkF m 0 #[.val (.int ch)] [] := by first | (simp [entryFrame, mkF, argsToLocals, Value.category]; done) | rfl
theorem own_d18_0 : decode jdk_43_method_46_code 0 = .ok (.iconst 1, 1) := by decide +kernel
theorem own_d18_1 : decode jdk_43_method_46_code 1 = .ok (.newarray .byte, 2) := by decide +kernel
theorem own_d18_3 : decode jdk_43_method_46_code 3 = .ok (.dup, 1) := by decide +kernel
theorem own_d18_4 : decode jdk_43_method_46_code 4 = .ok (.iconst 0, 1) := by decide +kernel
theorem own_d18_5 : decode jdk_43_method_46_code 5 = .ok (.iload_n 0, 1) := by decide +kernel
theorem own_d18_6 : decode jdk_43_method_46_code 6 = .ok (.i2b, 1) := by decide +kernel
theorem own_d18_7 : decode jdk_43_method_46_code 7 = .ok (.bastore, 1) := by decide +kernel
theorem own_d18_8 : decode jdk_43_method_46_code 8 = .ok (.areturn, 1) := by decide +kernel
def Q_rmToB (Z : State) (ch : Int32) (h0 : Heap) (n0 : Nat) (vq : Option Value) (hhq : Heap) (Lq : List Loc) : Prop := ∃ (t : Addr), ∃ (kb : ClassId), vq = some (.ref t) ∧ Fr n0 Lq ∧ Keep h0 hhq [] ∧ h0.size ≤ t ∧ n0 ≤ t ∧ Arv Z hhq t kb .byte (1 : Int32) [(.int (ch.toInt8.toInt32))] (.int (0 : Int32))
set_option maxRecDepth 65536 in
set_option maxHeartbeats 40000000 in
theorem rmToB (l : Launch) (Z : State) (a0 : Array Value) (hw : ∀ d ∈ tables_1, d.before a0 Z = true) (ws : List Jvm.Cond) (ch : Int32) (h0 : Heap) (n0 : Nat) (Z0 : n0 ≤ h0.size)  :
    MetFree l (⟨"java/lang/StringLatin1", "toBytes", "(C)[B"⟩ : MethodName) (head1 (Jvm.Cond.code (⟨"java/lang/StringLatin1", "toBytes", "(C)[B"⟩ : MethodName) jdk_43_method_46_code 1 (some (.array .byte)) :: ws) ({ frames := 0, cells := 1, slots := 1, locals := 0 } : Room)) (fun aq U => aq = #[(.int ch)] ∧ Z.Warmed39 U.vm ∧ U.heap = h0) (fun _ _ _ _ _ => True) (fun _ U oq U' => ∃ vq Lq, oq = .returned vq ∧ Q_rmToB Z ch h0 n0 vq U'.heap Lq ∧ FrameEnd U oq U' Lq ({ frames := 0, cells := 1, slots := 1, locals := 0 } : Room).cells ({ frames := 0, cells := 1, slots := 1, locals := 0 } : Room).slots) := by
  refine MetFree.of_bodySF (plainFor_of_name own_pn_java_lang_StringLatin1) hisR ?_
  intro p e s m args below meth c s₁ Bd hml0 hP hK
  obtain ⟨rfl, hZ, hh⟩ := hP
  have hx := Bd.exec
  have hby := Bd.bytes
  have hml : c.maxLocals = 1 := hml0
  have hown : s.vm.findClass "java/lang/StringLatin1" = some m.cls := findClass_of_methodNamed Bd.named
  have hnm := (name_of_methodNamed Bd.named Bd.method).1
  have X0 : Stand p l e ({ frames := 0, cells := 1, slots := 1, locals := 0 } : Room) s m #[(.int ch)] below meth c s₁ [] 0 0 := Stand.of_body Bd
  have e0 : s₁.heap = h0 := by rw [← hh, Bd.state]; rfl
  have N0 := Fr.nil n0
  have K0 : Keep h0 h0 [] := Keep.refl _ _
  refine own_go (S' := s₁.setTop (mkF m 0 #[.val (.int ch)] [])) (fun tq kq => castTop (own_ef_rmToB m ch) kq) ?_
  refine own_go (fun tq kq => XS.iconst X0.here hx rfl (hb hby own_d18_0) kq) ?_
  show own_Rn p e below _ (s₁.setTop (mkF m 1 #[.val (.int ch)] [(.int (1 : Int32))]))
  obtain ⟨T2, h2, k2, X2, e2, E2, A2, st2⟩ := newP X0 hx hZ (hw _ (own_mi 19 rfl)) e0 (g := (mkF m 1 #[.val (.int ch)] [(.int (1 : Int32))])) rfl (hb hby own_d18_1) rfl (by decide) (cap := 1) (by decide) (by decide) (by decide) (by decide)
  obtain ⟨b2, g2⟩ : ∃ z, z = h0.size := ⟨_, rfl⟩
  rw [← g2] at A2 st2
  refine own_go st2 ?_
  have sz3 : h0.size ≤ h2.size := E2.1
  have K3 := K0.ext E2
  have gn2 : n0 ≤ b2 := by omega
  have V2 : Arv Z h2 b2 k2 .byte (1 : Int32) [(.int (0 : Int32))] (.int (0 : Int32)) := (Arv.new A2 (by decide)).pad (pad_rep [] _ 1)
  have lt4 : @LT.lt Nat _ b2 h2.size := V2.lt
  show own_Rn p e below _ (T2.setTop (mkF m 3 #[.val (.int ch)] [(.ref b2)]))
  refine own_go (fun tq kq => XS.dup X2.here hx rfl (hb hby own_d18_3) rfl rfl kq) ?_
  show own_Rn p e below _ (T2.setTop (mkF m 4 #[.val (.int ch)] [(.ref b2), (.ref b2)]))
  refine own_go (fun tq kq => XS.iconst X2.here hx rfl (hb hby own_d18_4) kq) ?_
  show own_Rn p e below _ (T2.setTop (mkF m 5 #[.val (.int ch)] [(.int (0 : Int32)), (.ref b2), (.ref b2)]))
  refine own_go (fun tq kq => XS.iloadN X2.here hx rfl (hb hby own_d18_5) rfl kq) ?_
  show own_Rn p e below _ (T2.setTop (mkF m 6 #[.val (.int ch)] [(.int ch), (.int (0 : Int32)), (.ref b2), (.ref b2)]))
  refine own_go (fun tq kq => XS.i2b X2.here hx rfl (hb hby own_d18_6) rfl kq) ?_
  show own_Rn p e below _ (T2.setTop (mkF m 7 #[.val (.int ch)] [(.int (ch.toInt8.toInt32)), (.int (0 : Int32)), (.ref b2), (.ref b2)]))
  obtain ⟨cl5, Ar5, q5, Sz5, Nn5, Hs5, G5⟩ := id V2
  obtain ⟨T5, h5, X5, e5, W5, st5⟩ := stB X2 hx hZ e2 Ar5 (j := (0 : Int32)) (inb_of Sz5 ⟨by decide, by decide⟩) (g := (mkF m 7 #[.val (.int ch)] [(.int (ch.toInt8.toInt32)), (.int (0 : Int32)), (.ref b2), (.ref b2)])) rfl rfl (hb hby own_d18_7)
  refine own_go st5 ?_
  have V5 : Arv Z h5 b2 k2 .byte (1 : Int32) [(.int (nar .byte (ch.toInt8.toInt32)))] (.int (0 : Int32)) := Arv.set Ar5 q5 Sz5 Nn5 Hs5 G5 (own_fits_byte _) W5 0 rfl (Nat.le_of_ble_eq_true rfl)
  have N5 := Fr.snoc X5 N0 gn2
  have sz6 : h2.size ≤ h5.size := Nat.le_of_eq (Wr.size W5).symm
  have K6 := K3.wr W5 (Or.inr (by omega))
  show own_Rn p e below _ (T5.setTop (mkF m 8 #[.val (.int ch)] [(.ref b2)]))
  rw [own_narB] at V5
  exact own_ret X5 (v := some (.ref b2)) (fun h => by rw [Bd.returns] at h; cases h) (fun fs hr => X5.areturnOut hx rfl Bd.returns rfl (hb hby own_d18_8) hr) (by rw [e5]; exact ⟨b2, k2, rfl, N5, K6, (by omega), gn2, V5⟩) (by decide) (by decide)
theorem own_ef_rmSBB (m : MethodId) (x : Addr) (t : Addr) : entryFrame m #[(.ref x), (.ref t), (.int (0 : Int32))] 3 = mkF m 0 #[.val (.ref x), .val (.ref t), .val (.int (0 : Int32))] [] := by first | (simp [entryFrame, mkF, argsToLocals, Value.category]; done) | rfl
theorem own_pn_java_lang_String : plainName "java/lang/String" = true := by first | (simp [plainName, overriddenIn]; done) | decide +kernel
theorem own_d19_0 : decode jdk_42_method_151_code 0 = .ok (.aload_n 0, 1) := by decide +kernel
theorem own_d19_1 : decode jdk_42_method_151_code 1 = .ok (.invokespecial 1, 3) := by decide +kernel
theorem own_d19_4 : decode jdk_42_method_151_code 4 = .ok (.aload_n 0, 1) := by decide +kernel
theorem own_d19_5 : decode jdk_42_method_151_code 5 = .ok (.aload_n 1, 1) := by decide +kernel
theorem own_d19_6 : decode jdk_42_method_151_code 6 = .ok (.putfield 9, 3) := by decide +kernel
theorem own_fd_5bB : parseFieldDescriptor "[B" = some (.array .byte) := by decide +kernel
theorem own_d19_9 : decode jdk_42_method_151_code 9 = .ok (.aload_n 0, 1) := by decide +kernel
theorem own_d19_10 : decode jdk_42_method_151_code 10 = .ok (.iload_n 2, 1) := by decide +kernel
theorem own_d19_11 : decode jdk_42_method_151_code 11 = .ok (.putfield 15, 3) := by decide +kernel
theorem own_fd_B : parseFieldDescriptor "B" = some .byte := by decide +kernel
theorem own_d19_14 : decode jdk_42_method_151_code 14 = .ok (.return_, 1) := by decide +kernel
def Q_rmSBB (Z : State) (x : Addr) (t : Addr) (h0 : Heap) (n0 : Nat) (vq : Option Value) (hhq : Heap) (Lq : List Loc) : Prop := vq = none ∧ Fr n0 Lq ∧ Keep h0 hhq [x] ∧ Fld Z hhq x "java/lang/String" "value" "[B" (.ref t) ∧ Fld Z hhq x "java/lang/String" "coder" "B" (.int (0 : Int32))
set_option maxRecDepth 65536 in
set_option maxHeartbeats 40000000 in
theorem rmSBB (l : Launch) (Z : State) (a0 : Array Value) (hw : ∀ d ∈ tables_1, d.before a0 Z = true) (ws : List Jvm.Cond) (x : Addr) (t : Addr) (h0 : Heap) (n0 : Nat) (Z0 : n0 ≤ h0.size) (Pm0 : Exa Z h0 x "java/lang/String") (Pm1 : Fld Z h0 x "java/lang/String" "value" "[B" .null) (Pm2 : Fld Z h0 x "java/lang/String" "coder" "B" (.int (0 : Int32))) (Pm3 : n0 ≤ x) :
    MetFree l (⟨"java/lang/String", "<init>", "([BB)V"⟩ : MethodName) (head1 (Jvm.Cond.code (⟨"java/lang/String", "<init>", "([BB)V"⟩ : MethodName) jdk_42_method_151_code 3 none :: ws) ({ frames := 1, cells := 0, slots := 0, locals := 12 } : Room)) (fun aq U => aq = #[(.ref x), (.ref t), (.int (0 : Int32))] ∧ Z.Warmed39 U.vm ∧ U.heap = h0) (fun _ _ _ _ _ => True) (fun _ U oq U' => ∃ vq Lq, oq = .returned vq ∧ Q_rmSBB Z x t h0 n0 vq U'.heap Lq ∧ FrameEnd U oq U' Lq ({ frames := 1, cells := 0, slots := 0, locals := 12 } : Room).cells ({ frames := 1, cells := 0, slots := 0, locals := 12 } : Room).slots) := by
  refine MetFree.of_bodySF (plainFor_of_name own_pn_java_lang_String) hisR ?_
  intro p e s m args below meth c s₁ Bd hml0 hP hK
  obtain ⟨rfl, hZ, hh⟩ := hP
  have hx := Bd.exec
  have hby := Bd.bytes
  have hml : c.maxLocals = 3 := hml0
  have hown : s.vm.findClass "java/lang/String" = some m.cls := findClass_of_methodNamed Bd.named
  have hnm := (name_of_methodNamed Bd.named Bd.method).1
  have X0 : Stand p l e ({ frames := 1, cells := 0, slots := 0, locals := 12 } : Room) s m #[(.ref x), (.ref t), (.int (0 : Int32))] below meth c s₁ [] 0 0 := Stand.of_body Bd
  have e0 : s₁.heap = h0 := by rw [← hh, Bd.state]; rfl
  have N0 := Fr.nil n0
  have K0 : Keep h0 h0 [x] := Keep.refl _ _
  refine own_go (S' := s₁.setTop (mkF m 0 #[.val (.ref x), .val (.ref t), .val (.int (0 : Int32))] [])) (fun tq kq => castTop (own_ef_rmSBB m x t) kq) ?_
  have lt1 : @LT.lt Nat _ x h0.size := Pm0.lt
  refine own_go (fun tq kq => XS.aloadN X0.here hx rfl (hb hby own_d19_0) rfl rfl kq) ?_
  show own_Rn p e below _ (s₁.setTop (mkF m 1 #[.val (.ref x), .val (.ref t), .val (.int (0 : Int32))] [(.ref x)]))
  obtain ⟨T2, X2, e2, st2⟩ := initO X0 hx hZ hown (hw _ (own_mi 15 rfl)) (hw _ (own_mi 16 rfl)) (hw _ (own_mi 17 rfl)) e0 (g := (mkF m 1 #[.val (.ref x), .val (.ref t), .val (.int (0 : Int32))] [(.ref x)])) rfl (by rw [hml]; rfl) rfl (hb hby own_d19_1) (by decide) (W := 0) (by show 2 * 0 + _ ≤ _; exact Nat.le_of_eq rfl) (by decide)
  refine own_go st2 ?_
  show own_Rn p e below _ (T2.setTop (mkF m 4 #[.val (.ref x), .val (.ref t), .val (.int (0 : Int32))] []))
  refine own_go (fun tq kq => XS.aloadN X2.here hx rfl (hb hby own_d19_4) rfl rfl kq) ?_
  show own_Rn p e below _ (T2.setTop (mkF m 5 #[.val (.ref x), .val (.ref t), .val (.int (0 : Int32))] [(.ref x)]))
  refine own_go (fun tq kq => XS.aloadN X2.here hx rfl (hb hby own_d19_5) rfl rfl kq) ?_
  show own_Rn p e below _ (T2.setTop (mkF m 6 #[.val (.ref x), .val (.ref t), .val (.int (0 : Int32))] [(.ref t), (.ref x)]))
  obtain ⟨T3, h3, X3, e3, W3, st3⟩ := putF X2 hx hZ hown (host := "") (Or.inl (hw _ (own_mi 24 rfl))) Via.refl e2 Pm1 Pm0 (Or.inr ⟨(hw _ (own_mi 20 rfl)), rfl, hnm⟩) (hw _ (own_mi 5 rfl)) (ty := (.array .byte)) own_fd_5bB rfl rfl (g := (mkF m 6 #[.val (.ref x), .val (.ref t), .val (.int (0 : Int32))] [(.ref t), (.ref x)])) rfl rfl (hb hby own_d19_6)
  refine own_go st3 ?_
  have N3 := Fr.snoc X3 N0 Pm3
  have Fw3 := Pm1.same W3
  have sz4 : h0.size ≤ h3.size := Nat.le_of_eq (Wr.size W3).symm
  have K4 := K0.wr W3 (Or.inl (List.mem_of_getElem? (i := 0) rfl))
  show own_Rn p e below _ (T3.setTop (mkF m 9 #[.val (.ref x), .val (.ref t), .val (.int (0 : Int32))] []))
  refine own_go (fun tq kq => XS.aloadN X3.here hx rfl (hb hby own_d19_9) rfl rfl kq) ?_
  show own_Rn p e below _ (T3.setTop (mkF m 10 #[.val (.ref x), .val (.ref t), .val (.int (0 : Int32))] [(.ref x)]))
  refine own_go (fun tq kq => XS.iloadN X3.here hx rfl (hb hby own_d19_10) rfl kq) ?_
  show own_Rn p e below _ (T3.setTop (mkF m 11 #[.val (.ref x), .val (.ref t), .val (.int (0 : Int32))] [(.int (0 : Int32)), (.ref x)]))
  have F5 : Fld Z h3 x "java/lang/String" "coder" "B" (.int (0 : Int32)) := (Pm2.other W3 (Or.inr (slot_ne (Or.inr (hw _ (own_mi 21 rfl))) (Or.inr (hw _ (own_mi 20 rfl))) (by decide) (t := .byte) (t' := (.array .byte)) own_fd_B own_fd_5bB)))
  have F6 : Exa Z h3 x "java/lang/String" := (Pm0.wr W3)
  obtain ⟨T7, h7, X7, e7, W7, st7⟩ := putFN X3 hx hZ hown (hw _ (own_mi 25 rfl)) Via.refl e3 F5 F6 (Or.inr ⟨(hw _ (own_mi 21 rfl)), rfl, hnm⟩) (hw _ (own_mi 5 rfl)) (ty := .byte) (v' := (.int ((0 : Int32)))) own_fd_B rfl (by decide) (g := (mkF m 11 #[.val (.ref x), .val (.ref t), .val (.int (0 : Int32))] [(.int (0 : Int32)), (.ref x)])) rfl rfl (hb hby own_d19_11)
  refine own_go st7 ?_
  have N7 := Fr.snoc X7 N3 Pm3
  have Fw7 := F5.same W7
  have sz8 : h3.size ≤ h7.size := Nat.le_of_eq (Wr.size W7).symm
  have K8 := K4.wr W7 (Or.inl (List.mem_of_getElem? (i := 0) rfl))
  show own_Rn p e below _ (T7.setTop (mkF m 14 #[.val (.ref x), .val (.ref t), .val (.int (0 : Int32))] []))
  have F9 : Fld Z h7 x "java/lang/String" "value" "[B" (.ref t) := (Fw3.other W7 (Or.inr (slot_ne (Or.inr (hw _ (own_mi 20 rfl))) (Or.inr (hw _ (own_mi 21 rfl))) (by decide) (t := (.array .byte)) (t' := .byte) own_fd_5bB own_fd_B)))
  exact own_ret X7 (v := none) (fun _ => rfl) (fun fs hr => X7.returnOut hx Bd.returns (hb hby own_d19_14) hr) (by rw [e7]; exact ⟨rfl, N7, K8, F9, Fw7⟩) (by decide) (by decide)
theorem own_ef_rmVal (m : MethodId) (ch : Int32) (G1 : Int32) : entryFrame m #[(.int ch)] 1 = mkF m 0 #[.val (.int ch)] [] := by first | (simp [entryFrame, mkF, argsToLocals, Value.category]; done) | rfl
theorem own_d16_0 : decode jdk_42_method_139_code 0 = .ok (.getstatic 38, 3) := by decide +kernel
theorem own_d16_3 : decode jdk_42_method_139_code 3 = .ok (.ifCond .eq 23, 3) := by decide +kernel
theorem own_d16_6 : decode jdk_42_method_139_code 6 = .ok (.iload_n 0, 1) := by decide +kernel
theorem own_d16_7 : decode jdk_42_method_139_code 7 = .ok (.invokestatic 1015, 3) := by decide +kernel
theorem own_pd_28C29Z : parseMethodDescriptor "(C)Z" = some ⟨[.char], some .boolean⟩ := by decide +kernel
theorem own_d16_10 : decode jdk_42_method_139_code 10 = .ok (.ifCond .eq 16, 3) := by decide +kernel
theorem own_d16_13 : decode jdk_42_method_139_code 13 = .ok (.new 10, 3) := by decide +kernel
theorem own_d16_16 : decode jdk_42_method_139_code 16 = .ok (.dup, 1) := by decide +kernel
theorem own_d16_17 : decode jdk_42_method_139_code 17 = .ok (.iload_n 0, 1) := by decide +kernel
theorem own_d16_18 : decode jdk_42_method_139_code 18 = .ok (.invokestatic 1018, 3) := by decide +kernel
theorem own_pd_28C295bB : parseMethodDescriptor "(C)[B" = some ⟨[.char], some (.array .byte)⟩ := by decide +kernel
theorem own_d16_21 : decode jdk_42_method_139_code 21 = .ok (.iconst 0, 1) := by decide +kernel
theorem own_d16_22 : decode jdk_42_method_139_code 22 = .ok (.invokespecial 209, 3) := by decide +kernel
theorem own_pd_285bBB29V : parseMethodDescriptor "([BB)V" = some ⟨[(.array .byte), .byte], none⟩ := by decide +kernel
theorem own_d16_25 : decode jdk_42_method_139_code 25 = .ok (.areturn, 1) := by decide +kernel
def Q_rmVal (Z : State) (ch : Int32) (G1 : Int32) (h0 : Heap) (n0 : Nat) (vq : Option Value) (hhq : Heap) (Lq : List Loc) : Prop := ∃ (x : Addr), ∃ (t : Addr), ∃ (kb : ClassId), vq = some (.ref x) ∧ Fr n0 Lq ∧ Keep h0 hhq [] ∧ h0.size ≤ x ∧ h0.size ≤ t ∧ n0 ≤ x ∧ n0 ≤ t ∧ Exa Z hhq x "java/lang/String" ∧ Fld Z hhq x "java/lang/String" "value" "[B" (.ref t) ∧ Fld Z hhq x "java/lang/String" "coder" "B" (.int (0 : Int32)) ∧ Arv Z hhq t kb .byte (1 : Int32) ((([ch] : List Int32).map (fun c => c.toInt8.toInt32)).map Value.int) (.int 0)
set_option maxRecDepth 65536 in
set_option maxHeartbeats 40000000 in
theorem rmVal (l : Launch) (Z : State) (a0 : Array Value) (hw : ∀ d ∈ tables_1, d.before a0 Z = true) (ws : List Jvm.Cond) (ch : Int32) (G1 : Int32) (h0 : Heap) (n0 : Nat) (Z0 : n0 ≤ h0.size) (hR : (¬ ch < 0 ∧ ¬ (255 : Int32) < ch)) (O2 : Sta Z Z.heap "java/lang/String" "COMPACT_STRINGS" "Z" (.int G1)) (P5 : (¬ (G1 = (0 : Int32)))) (X00 : Old Z n0 h0) :
    MetFree l (⟨"java/lang/String", "valueOf", "(C)Ljava/lang/String;"⟩ : MethodName) (head1 (Jvm.Cond.code (⟨"java/lang/String", "valueOf", "(C)Ljava/lang/String;"⟩ : MethodName) jdk_42_method_139_code 1 (some (.object "java/lang/String")) :: ws) ({ frames := 2, cells := 2, slots := 5, locals := 27 } : Room)) (fun aq U => aq = #[(.int ch)] ∧ Z.Warmed39 U.vm ∧ U.heap = h0) (fun _ _ _ _ _ => True) (fun _ U oq U' => ∃ vq Lq, oq = .returned vq ∧ Q_rmVal Z ch G1 h0 n0 vq U'.heap Lq ∧ FrameEnd U oq U' Lq ({ frames := 2, cells := 2, slots := 5, locals := 27 } : Room).cells ({ frames := 2, cells := 2, slots := 5, locals := 27 } : Room).slots) := by
  refine MetFree.of_bodySF (plainFor_of_name own_pn_java_lang_String) hisR ?_
  intro p e s m args below meth c s₁ Bd hml0 hP hK
  obtain ⟨rfl, hZ, hh⟩ := hP
  have hx := Bd.exec
  have hby := Bd.bytes
  have hml : c.maxLocals = 1 := hml0
  have hown : s.vm.findClass "java/lang/String" = some m.cls := findClass_of_methodNamed Bd.named
  have hnm := (name_of_methodNamed Bd.named Bd.method).1
  have X0 : Stand p l e ({ frames := 2, cells := 2, slots := 5, locals := 27 } : Room) s m #[(.int ch)] below meth c s₁ [] 0 0 := Stand.of_body Bd
  have e0 : s₁.heap = h0 := by rw [← hh, Bd.state]; rfl
  have N0 := Fr.nil n0
  have K0 : Keep h0 h0 [] := Keep.refl _ _
  refine own_go (S' := s₁.setTop (mkF m 0 #[.val (.int ch)] [])) (fun tq kq => castTop (own_ef_rmVal m ch G1) kq) ?_
  obtain ⟨T1, X1, e1, st1⟩ := getS2 X0 hx hZ hown (host := "") (Or.inl (hw _ (own_mi 113 rfl))) Via.refl e0 (O2.ext X00.2) (g := (mkF m 0 #[.val (.int ch)] [])) rfl (hb hby own_d16_0)
  refine own_go st1 ?_
  show own_Rn p e below _ (T1.setTop (mkF m 3 #[.val (.int ch)] [(.int G1)]))
  refine own_go (fun tq kq => XS.ifNo X1.here hx rfl (hb hby own_d16_3) rfl ((if0 _ _).trans (feq (P5 : ¬ (G1 = (0 : Int32)))).1) kq) ?_
  show own_Rn p e below _ (T1.setTop (mkF m 6 #[.val (.int ch)] []))
  refine own_go (fun tq kq => XS.iloadN X1.here hx rfl (hb hby own_d16_6) rfl kq) ?_
  show own_Rn p e below _ (T1.setTop (mkF m 7 #[.val (.int ch)] [(.int ch)]))
  have Zn2 : n0 ≤ h0.size := by omega
  obtain ⟨rv2, _, ⟨T2, L2, k2, n2⟩, -, X2, ⟨Lc2, hQ2, l2, y2, z2⟩, st2⟩ := Jvm.LawKit.callS X1 hx (y := (⟨"java/lang/StringLatin1", "canEncode", "(C)Z"⟩ : MethodName)) hown (mvT hZ (hw _ (own_mi 114 rfl))) (mvT hZ (hw _ (own_mi 115 rfl))) (mvT hZ (hw _ (own_mi 116 rfl))) (mvT hZ (hw _ (own_mi 117 rfl))) (by decide) (backOf (W := 0) (rmCan l Z a0 hw [] (ch) h0 n0 Zn2 (hR)) hZ (hw _ (own_mi 117 rfl)) (hw _ (own_mi 116 rfl)) (by decide) (by decide)) (g := (mkF m 7 #[.val (.int ch)] [(.int ch)])) rfl (by rw [hml]; rfl) (argsL := [(.int ch)]) (rest := []) (lenOf own_pd_28C29Z rfl) rfl (by show 2 * 0 + _ ≤ _; exact Nat.le_of_eq rfl) (hb hby own_d16_7) (fun _ _ => ⟨rfl, e1, (by decide : 0 + 0 ≤ _), (by decide : 0 + 0 ≤ _)⟩)
  dsimp only [Pt.U, Pt.locs, Pt.cells, Pt.slots] at X2 l2 y2 z2 st2 hQ2
  subst l2 y2 z2
  obtain ⟨rfl, Nq2, eh2⟩ := hQ2
  have N2 := Fr.app N0 Nq2
  refine own_go st2 ?_
  show own_Rn p e below _ (T2.setTop (mkF m 10 #[.val (.int ch)] [(.int (1 : Int32))]))
  refine own_go (fun tq kq => XS.ifNo X2.here hx rfl (hb hby own_d16_10) rfl ((if0 _ _).trans (feq ((by decide : ¬ ((1 : Int32) = (0 : Int32))) : ¬ ((1 : Int32) = (0 : Int32)))).1) kq) ?_
  show own_Rn p e below _ (T2.setTop (mkF m 13 #[.val (.int ch)] []))
  obtain ⟨T3, h3, X3, e3, E3, A3, D3, -, st3⟩ := newO X2 hx hZ hown (hw _ (own_mi 118 rfl)) (hw _ (own_mi 5 rfl)) (hw _ (own_mi 6 rfl)) eh2 (g := (mkF m 13 #[.val (.int ch)] [])) rfl (hb hby own_d16_13) (by decide) (by decide)
  obtain ⟨b3, g3⟩ : ∃ z, z = h0.size := ⟨_, rfl⟩
  rw [← g3] at A3 D3 st3
  refine own_go st3 ?_
  have sz4 : h0.size ≤ h3.size := E3.1
  have K4 := K0.ext E3
  have lt5 : @LT.lt Nat _ b3 h3.size := A3.lt
  have gn3 : n0 ≤ b3 := by omega
  have D3_value : Fld Z h3 b3 "java/lang/String" "value" "[B" .null := D3 (Or.inr (hw _ (own_mi 20 rfl))) (ty := (.array .byte)) own_fd_5bB
  have D3_coder : Fld Z h3 b3 "java/lang/String" "coder" "B" (.int (0 : Int32)) := D3 (Or.inr (hw _ (own_mi 21 rfl))) (ty := .byte) own_fd_B
  show own_Rn p e below _ (T3.setTop (mkF m 16 #[.val (.int ch)] [(.ref b3)]))
  refine own_go (fun tq kq => XS.dup X3.here hx rfl (hb hby own_d16_16) rfl rfl kq) ?_
  show own_Rn p e below _ (T3.setTop (mkF m 17 #[.val (.int ch)] [(.ref b3), (.ref b3)]))
  refine own_go (fun tq kq => XS.iloadN X3.here hx rfl (hb hby own_d16_17) rfl kq) ?_
  show own_Rn p e below _ (T3.setTop (mkF m 18 #[.val (.int ch)] [(.int ch), (.ref b3), (.ref b3)]))
  have Zn6 : n0 ≤ h3.size := by omega
  obtain ⟨rv6, _, ⟨T6, L6, k6, n6⟩, -, X6, ⟨Lc6, hQ6, l6, y6, z6⟩, st6⟩ := Jvm.LawKit.callS X3 hx (y := (⟨"java/lang/StringLatin1", "toBytes", "(C)[B"⟩ : MethodName)) hown (mvT hZ (hw _ (own_mi 119 rfl))) (mvT hZ (hw _ (own_mi 120 rfl))) (mvT hZ (hw _ (own_mi 116 rfl))) (mvT hZ (hw _ (own_mi 121 rfl))) (by decide) (backOf (W := 2) (rmToB l Z a0 hw [] (ch) h3 n0 Zn6 ) hZ (hw _ (own_mi 121 rfl)) (hw _ (own_mi 116 rfl)) (by decide) (by decide)) (g := (mkF m 18 #[.val (.int ch)] [(.int ch), (.ref b3), (.ref b3)])) rfl (by rw [hml]; rfl) (argsL := [(.int ch)]) (rest := [(.ref b3), (.ref b3)]) (lenOf own_pd_28C295bB rfl) rfl (by show 2 * 0 + _ ≤ _; exact Nat.le_of_eq rfl) (hb hby own_d16_18) (fun _ _ => ⟨rfl, e3, (by decide : 1 + 1 ≤ _), (by decide : 4 + 1 ≤ _)⟩)
  dsimp only [Pt.U, Pt.locs, Pt.cells, Pt.slots] at X6 l6 y6 z6 st6 hQ6
  subst l6 y6 z6
  obtain ⟨tt, kk, rfl, Nq6, Kq6, G0_6, G1_6, G2_6⟩ := hQ6
  have N6 := Fr.app N2 Nq6
  have sz7 : h3.size ≤ T6.heap.size := Kq6.1
  have K7 := K4.trans Kq6 all0
  have lt8 : @LT.lt Nat _ tt T6.heap.size := G2_6.lt
  refine own_go st6 ?_
  show own_Rn p e below _ (T6.setTop (mkF m 21 #[.val (.int ch)] [(.ref tt), (.ref b3), (.ref b3)]))
  refine own_go (fun tq kq => XS.iconst X6.here hx rfl (hb hby own_d16_21) kq) ?_
  show own_Rn p e below _ (T6.setTop (mkF m 22 #[.val (.int ch)] [(.int (0 : Int32)), (.ref tt), (.ref b3), (.ref b3)]))
  have Zn9 : n0 ≤ T6.heap.size := by omega
  have F10 : Exa Z T6.heap b3 "java/lang/String" := (A3.keep Kq6)
  have F11 : Fld Z T6.heap b3 "java/lang/String" "value" "[B" .null := (D3_value.keep Kq6 nin0)
  have F12 : Fld Z T6.heap b3 "java/lang/String" "coder" "B" (.int (0 : Int32)) := (D3_coder.keep Kq6 nin0)
  obtain ⟨rv9, _, ⟨T9, L9, k9, n9⟩, -, X9, ⟨Lc9, hQ9, l9, y9, z9⟩, st9⟩ := X6.specialBack hx (y := (⟨"java/lang/String", "<init>", "([BB)V"⟩ : MethodName)) rfl hown (mvT hZ (hw _ (own_mi 122 rfl))) (mvT hZ (hw _ (own_mi 123 rfl))) (mvT hZ (hw _ (own_mi 124 rfl))) (by decide) (backOf (W := 1) (rmSBB l Z a0 hw [] (b3) (tt) T6.heap n0 Zn9 F10 F11 F12 gn3) hZ (hw _ (own_mi 124 rfl)) (hw _ (own_mi 6 rfl)) (by decide) (by decide)) (g := (mkF m 22 #[.val (.int ch)] [(.int (0 : Int32)), (.ref tt), (.ref b3), (.ref b3)])) rfl (by rw [hml]; rfl) (Steps.refl _) (a := b3) (argsL := [(.ref tt), (.int (0 : Int32))]) (rest := [(.ref b3)]) (lenOf own_pd_285bBB29V rfl) rfl (by show 2 * 0 + _ ≤ _; exact Nat.le_of_eq rfl) (hb hby own_d16_22) (fun _ _ => ⟨rfl, rfl, (by decide : 2 + 0 ≤ _), (by decide : 5 + 0 ≤ _)⟩)
  dsimp only [Pt.U, Pt.locs, Pt.cells, Pt.slots] at X9 l9 y9 z9 st9 hQ9
  subst l9 y9 z9
  obtain ⟨rfl, Nq9, Kq9, G0_9, G1_9⟩ := hQ9
  have N9 := Fr.app N6 Nq9
  have sz13 : T6.heap.size ≤ T9.heap.size := Kq9.1
  have K13 := K7.trans Kq9 (allS (Or.inr (by omega)) all0)
  refine own_go (fun tq kq => st9.trans kq) ?_
  show own_Rn p e below _ (T9.setTop (mkF m 25 #[.val (.int ch)] [(.ref b3)]))
  have F14 : Exa Z T9.heap b3 "java/lang/String" := (F10.keep Kq9)
  have ne15 : tt ≠ b3 := own_nea (by omega)
  have F16 : Arv Z T9.heap tt kk .byte (1 : Int32) [(.int (ch.toInt8.toInt32))] (.int (0 : Int32)) := (G2_6.keep Kq9 (ninS ne15 nin0))
  exact own_ret X9 (v := some (.ref b3)) (fun h => by rw [Bd.returns] at h; cases h) (fun fs hr => X9.areturnOut hx rfl Bd.returns rfl (hb hby own_d16_25) hr) (⟨b3, tt, kk, rfl, N9, K13, (by omega), (by omega), gn3, G1_6, F14, G0_9, G1_9, F16⟩) (by decide) (by decide)
theorem own_ef_rmSI4 (m : MethodId) (x : Addr) (b : Addr) : entryFrame m #[(.ref x), (.ref b), (.int (0 : Int32)), (.int (0 : Int32)), .null] 6 = mkF m 0 #[.val (.ref x), .val (.ref b), .val (.int (0 : Int32)), .val (.int (0 : Int32)), .val .null, .unset] [] := by first | (simp [entryFrame, mkF, argsToLocals, Value.category]; done) | rfl
theorem own_d2_0 : decode jdk_42_method_149_code 0 = .ok (.aload_n 0, 1) := by decide +kernel
theorem own_d2_1 : decode jdk_42_method_149_code 1 = .ok (.invokespecial 1, 3) := by decide +kernel
theorem own_d2_4 : decode jdk_42_method_149_code 4 = .ok (.iload_n 3, 1) := by decide +kernel
theorem own_d2_5 : decode jdk_42_method_149_code 5 = .ok (.ifCond .ne 22, 3) := by decide +kernel
theorem own_d2_8 : decode jdk_42_method_149_code 8 = .ok (.aload_n 0, 1) := by decide +kernel
theorem own_d2_9 : decode jdk_42_method_149_code 9 = .ok (.ldc 7, 2) := by decide +kernel
theorem own_d2_11 : decode jdk_42_method_149_code 11 = .ok (.getfield 9, 3) := by decide +kernel
theorem own_d2_14 : decode jdk_42_method_149_code 14 = .ok (.putfield 9, 3) := by decide +kernel
theorem own_d2_17 : decode jdk_42_method_149_code 17 = .ok (.aload_n 0, 1) := by decide +kernel
theorem own_d2_18 : decode jdk_42_method_149_code 18 = .ok (.ldc 7, 2) := by decide +kernel
theorem own_d2_20 : decode jdk_42_method_149_code 20 = .ok (.getfield 15, 3) := by decide +kernel
theorem own_d2_23 : decode jdk_42_method_149_code 23 = .ok (.putfield 15, 3) := by decide +kernel
theorem own_d2_26 : decode jdk_42_method_149_code 26 = .ok (.return_, 1) := by decide +kernel
def Q_rmSI4 (Z : State) (x : Addr) (b : Addr) (h0 : Heap) (n0 : Nat) (vq : Option Value) (hhq : Heap) (Lq : List Loc) : Prop := ∃ (t : Addr), ∃ (kb : ClassId), vq = none ∧ Fr n0 Lq ∧ Keep h0 hhq [x] ∧ Fld Z hhq x "java/lang/String" "value" "[B" (.ref t) ∧ Fld Z hhq x "java/lang/String" "coder" "B" (.int (0 : Int32)) ∧ Arv Z hhq t kb .byte (0 : Int32) ((([] : List Int32).map (fun c => c.toInt8.toInt32)).map Value.int) (.int 0)
set_option maxRecDepth 65536 in
set_option maxHeartbeats 40000000 in
theorem rmSI4 (l : Launch) (Z : State) (a0 : Array Value) (hw : ∀ d ∈ tables_1, d.before a0 Z = true) (ws : List Jvm.Cond) (x : Addr) (b : Addr) (h0 : Heap) (n0 : Nat) (Z0 : n0 ≤ h0.size) (hEL : EW Z a0 consts_1) (Pm0 : Exa Z h0 x "java/lang/String") (Pm1 : Fld Z h0 x "java/lang/String" "value" "[B" .null) (Pm2 : Fld Z h0 x "java/lang/String" "coder" "B" (.int (0 : Int32))) (Pm3 : n0 ≤ x) :
    MetFree l (⟨"java/lang/String", "<init>", "([CIILjava/lang/Void;)V"⟩ : MethodName) (head1 (Jvm.Cond.code (⟨"java/lang/String", "<init>", "([CIILjava/lang/Void;)V"⟩ : MethodName) jdk_42_method_149_code 6 none :: ws) ({ frames := 1, cells := 4, slots := 8, locals := 12 } : Room)) (fun aq U => aq = #[(.ref x), (.ref b), (.int (0 : Int32)), (.int (0 : Int32)), .null] ∧ Z.Warmed39 U.vm ∧ U.heap = h0 ∧ CHv Z consts_1 U.vm h0 ∧ ∀ ax ∈ ([x] : List Addr), Safe Z consts_1 U.vm h0 ax) (fun _ _ _ _ _ => True) (fun _ U oq U' => ∃ vq Lq, oq = .returned vq ∧ Q_rmSI4 Z x b h0 n0 vq U'.heap Lq ∧ CHr Z consts_1 U.vm U.heap U'.vm U'.heap ∧ ReturnedEndW U oq U' Lq ({ frames := 1, cells := 4, slots := 8, locals := 12 } : Room).cells ({ frames := 1, cells := 4, slots := 8, locals := 12 } : Room).slots) := by
  refine MetFree.of_bodySF (plainFor_of_name own_pn_java_lang_String) hisR ?_
  intro p e s m args below meth c s₁ Bd hml0 hP hK
  obtain ⟨rfl, hZ, hh, hH, hSf⟩ := hP
  have hx := Bd.exec
  have hby := Bd.bytes
  have hml : c.maxLocals = 6 := hml0
  have hown : s.vm.findClass "java/lang/String" = some m.cls := findClass_of_methodNamed Bd.named
  have hnm := (name_of_methodNamed Bd.named Bd.method).1
  have X0 : Stand p l e ({ frames := 1, cells := 4, slots := 8, locals := 12 } : Room) (s.setVm s.vm) m #[(.ref x), (.ref b), (.int (0 : Int32)), (.int (0 : Int32)), .null] below meth c s₁ [] 0 0 := Stand.of_body Bd
  have e0 : s₁.heap = h0 := by rw [← hh, Bd.state]; rfl
  have N0 := Fr.nil n0
  have K0 : Keep h0 h0 [x] := Keep.refl _ _
  refine own_go (S' := s₁.setTop (mkF m 0 #[.val (.ref x), .val (.ref b), .val (.int (0 : Int32)), .val (.int (0 : Int32)), .val .null, .unset] [])) (fun tq kq => castTop (own_ef_rmSI4 m x b) kq) ?_
  have lt1 : @LT.lt Nat _ x h0.size := Pm0.lt
  have hS0 : s.Since s.vm h0.size := (State.WarmedH.refl s).since _
  have CR0 : CHr Z consts_1 s.vm h0 s.vm h0 := CHr.refl hH
  have hwS : ∀ d ∈ Bundle.stringAtoms, d.before a0 Z = true := fun d hd => hw d ((by decide +kernel : ∀ d ∈ Bundle.stringAtoms, d ∈ tables_1) d hd)
  have sf_x : Safe Z consts_1 s.vm h0 x := hSf _ (List.mem_of_getElem? (i := 0) rfl)
  refine own_go (fun tq kq => XS.aloadN X0.here hx rfl (hb hby own_d2_0) rfl rfl kq) ?_
  show own_Rn p e below _ (s₁.setTop (mkF m 1 #[.val (.ref x), .val (.ref b), .val (.int (0 : Int32)), .val (.int (0 : Int32)), .val .null, .unset] [(.ref x)]))
  obtain ⟨T2, X2, e2, st2⟩ := initO X0 hx hZ hown (hw _ (own_mi 15 rfl)) (hw _ (own_mi 16 rfl)) (hw _ (own_mi 17 rfl)) e0 (g := (mkF m 1 #[.val (.ref x), .val (.ref b), .val (.int (0 : Int32)), .val (.int (0 : Int32)), .val .null, .unset] [(.ref x)])) rfl (by rw [hml]; rfl) rfl (hb hby own_d2_1) (by decide) (W := 0) (by show 2 * 0 + _ ≤ _; exact Nat.le_of_eq rfl) (by decide)
  refine own_go st2 ?_
  show own_Rn p e below _ (T2.setTop (mkF m 4 #[.val (.ref x), .val (.ref b), .val (.int (0 : Int32)), .val (.int (0 : Int32)), .val .null, .unset] []))
  refine own_go (fun tq kq => XS.iloadN X2.here hx rfl (hb hby own_d2_4) rfl kq) ?_
  show own_Rn p e below _ (T2.setTop (mkF m 5 #[.val (.ref x), .val (.ref b), .val (.int (0 : Int32)), .val (.int (0 : Int32)), .val .null, .unset] [(.int (0 : Int32))]))
  refine own_go (fun tq kq => XS.ifNo X2.here hx rfl (hb hby own_d2_5) rfl ((if0 _ _).trans (teq ((by decide : (0 : Int32) = (0 : Int32)) : (0 : Int32) = (0 : Int32))).2) kq) ?_
  show own_Rn p e below _ (T2.setTop (mkF m 8 #[.val (.ref x), .val (.ref b), .val (.int (0 : Int32)), .val (.int (0 : Int32)), .val .null, .unset] []))
  refine own_go (fun tq kq => XS.aloadN X2.here hx rfl (hb hby own_d2_8) rfl rfl kq) ?_
  show own_Rn p e below _ (T2.setTop (mkF m 9 #[.val (.ref x), .val (.ref b), .val (.int (0 : Int32)), .val (.int (0 : Int32)), .val .null, .unset] [(.ref x)]))
  obtain ⟨a3, T3, h3, kk3, bb3, kc3, X3, e3, E3, hS3, hk3, hZ3, hown3, Ex3, Co3, Va3, Ab3, la3, lb3, crq3, Li3, sn3, st3⟩ := ldcCH X2 hx hZ hown (hw _ (own_mi 18 rfl)) hwS e2 hS0 (by omega) hEL (List.mem_of_getElem? (i := 0) rfl) CR0.1 (vs := ((([] : List Int32).map (fun c => c.toInt8.toInt32)).map Value.int)) (z := (0 : Int32)) ⟨by decide, by decide⟩ (by decide) (by decide) (g := (mkF m 9 #[.val (.ref x), .val (.ref b), .val (.int (0 : Int32)), .val (.int (0 : Int32)), .val .null, .unset] [(.ref x)])) rfl (hb hby own_d2_9) (n := 0) (by decide) (by decide) (by decide) (by decide)
  refine own_go st3 ?_
  have sz4 : h0.size ≤ h3.size := E3.1
  have K4 := K0.ext E3
  have cr4 : CHr Z consts_1 s.vm h0 T3.vm h3 := crq3
  have CR4 := CR0.trans cr4
  have sf6 : Safe Z consts_1 T3.vm h3 x := (CHr.safe cr4 (show @LT.lt Nat _ _ _ by omega) sf_x)
  obtain ⟨na3_x, nb3_x⟩ := sn3 x sf6
  have lt7 : @LT.lt Nat _ a3 h3.size := Ex3.lt
  have lt8 : @LT.lt Nat _ bb3 h3.size := Ab3.lt
  show own_Rn p e below _ (T3.setTop (mkF m 11 #[.val (.ref x), .val (.ref b), .val (.int (0 : Int32)), .val (.int (0 : Int32)), .val .null, .unset] [(.ref a3), (.ref x)]))
  obtain ⟨T9, X9, e9, st9⟩ := getF X3 hx hZ3 hown3 (host := "") (Or.inl (hw _ (own_mi 24 rfl))) Via.refl e3 Va3 (g := (mkF m 11 #[.val (.ref x), .val (.ref b), .val (.int (0 : Int32)), .val (.int (0 : Int32)), .val .null, .unset] [(.ref a3), (.ref x)])) rfl rfl (hb hby own_d2_11)
  refine own_go st9 ?_
  show own_Rn p e below _ (T9.setTop (mkF m 14 #[.val (.ref x), .val (.ref b), .val (.int (0 : Int32)), .val (.int (0 : Int32)), .val .null, .unset] [(.ref bb3), (.ref x)]))
  have F10 : Fld Z h3 x "java/lang/String" "value" "[B" .null := (Pm1.ext E3)
  have F11 : Exa Z h3 x "java/lang/String" := (Pm0.ext E3)
  obtain ⟨T12, h12, X12, e12, W12, st12⟩ := putF X9 hx hZ3 hown3 (host := "") (Or.inl (hw _ (own_mi 24 rfl))) Via.refl e9 F10 F11 (Or.inr ⟨(hw _ (own_mi 20 rfl)), rfl, hnm⟩) (hw _ (own_mi 5 rfl)) (ty := (.array .byte)) own_fd_5bB rfl rfl (g := (mkF m 14 #[.val (.ref x), .val (.ref b), .val (.int (0 : Int32)), .val (.int (0 : Int32)), .val .null, .unset] [(.ref bb3), (.ref x)])) rfl rfl (hb hby own_d2_14)
  refine own_go st12 ?_
  have N12 := Fr.snoc X12 N0 Pm3
  have Fw12 := F10.same W12
  have sz14 : h3.size ≤ h12.size := Nat.le_of_eq (Wr.size W12).symm
  have K14 := K4.wr W12 (Or.inl (List.mem_of_getElem? (i := 0) rfl))
  have cr14 : CHr Z consts_1 T3.vm h3 T3.vm h12 := CHr.wr W12 sf6 CR4.1
  have CR14 := CR4.trans cr14
  show own_Rn p e below _ (T12.setTop (mkF m 17 #[.val (.ref x), .val (.ref b), .val (.int (0 : Int32)), .val (.int (0 : Int32)), .val .null, .unset] []))
  refine own_go (fun tq kq => XS.aloadN X12.here hx rfl (hb hby own_d2_17) rfl rfl kq) ?_
  show own_Rn p e below _ (T12.setTop (mkF m 18 #[.val (.ref x), .val (.ref b), .val (.int (0 : Int32)), .val (.int (0 : Int32)), .val .null, .unset] [(.ref x)]))
  obtain ⟨a15, T15, h15, kk15, bb15, kc15, X15, e15, E15, hS15, hk15, hZ15, hown15, Ex15, Co15, Va15, Ab15, la15, lb15, crq15, Li15, sn15, st15⟩ := ldcCH X12 hx hZ3 hown3 (hw _ (own_mi 18 rfl)) hwS e12 hS3 (by omega) hEL (List.mem_of_getElem? (i := 0) rfl) CR14.1 (vs := ((([] : List Int32).map (fun c => c.toInt8.toInt32)).map Value.int)) (z := (0 : Int32)) ⟨by decide, by decide⟩ (by decide) (by decide) (g := (mkF m 18 #[.val (.ref x), .val (.ref b), .val (.int (0 : Int32)), .val (.int (0 : Int32)), .val .null, .unset] [(.ref x)])) rfl (hb hby own_d2_18) (n := 0) (by decide) (by decide) (by decide) (by decide)
  refine own_go st15 ?_
  have sz16 : h12.size ≤ h15.size := E15.1
  have K16 := K14.ext E15
  have cr16 : CHr Z consts_1 T3.vm h12 T15.vm h15 := crq15
  have CR16 := CR14.trans cr16
  have sf18 : Safe Z consts_1 T15.vm h15 x := (CHr.safe cr16 (show @LT.lt Nat _ _ _ by omega) (CHr.safe cr14 (show @LT.lt Nat _ _ _ by omega) sf6))
  obtain ⟨na15_x, nb15_x⟩ := sn15 x sf18
  have lt19 : @LT.lt Nat _ a15 h15.size := Ex15.lt
  have lt20 : @LT.lt Nat _ bb15 h15.size := Ab15.lt
  show own_Rn p e below _ (T15.setTop (mkF m 20 #[.val (.ref x), .val (.ref b), .val (.int (0 : Int32)), .val (.int (0 : Int32)), .val .null, .unset] [(.ref a15), (.ref x)]))
  obtain ⟨T21, X21, e21, st21⟩ := getF X15 hx hZ15 hown15 (host := "") (Or.inl (hw _ (own_mi 25 rfl))) Via.refl e15 Co15 (g := (mkF m 20 #[.val (.ref x), .val (.ref b), .val (.int (0 : Int32)), .val (.int (0 : Int32)), .val .null, .unset] [(.ref a15), (.ref x)])) rfl rfl (hb hby own_d2_20)
  refine own_go st21 ?_
  show own_Rn p e below _ (T21.setTop (mkF m 23 #[.val (.ref x), .val (.ref b), .val (.int (0 : Int32)), .val (.int (0 : Int32)), .val .null, .unset] [(.int (0 : Int32)), (.ref x)]))
  have F22 : Fld Z h15 x "java/lang/String" "coder" "B" (.int (0 : Int32)) := (((Pm2.ext E3).other W12 (Or.inr (slot_ne (Or.inr (hw _ (own_mi 21 rfl))) (Or.inr (hw _ (own_mi 20 rfl))) (by decide) (t := .byte) (t' := (.array .byte)) own_fd_B own_fd_5bB))).ext E15)
  have F23 : Exa Z h15 x "java/lang/String" := ((F11.wr W12).ext E15)
  obtain ⟨T24, h24, X24, e24, W24, st24⟩ := putFN X21 hx hZ15 hown15 (hw _ (own_mi 25 rfl)) Via.refl e21 F22 F23 (Or.inr ⟨(hw _ (own_mi 21 rfl)), rfl, hnm⟩) (hw _ (own_mi 5 rfl)) (ty := .byte) (v' := (.int ((0 : Int32)))) own_fd_B rfl (by decide) (g := (mkF m 23 #[.val (.ref x), .val (.ref b), .val (.int (0 : Int32)), .val (.int (0 : Int32)), .val .null, .unset] [(.int (0 : Int32)), (.ref x)])) rfl rfl (hb hby own_d2_23)
  refine own_go st24 ?_
  have N24 := Fr.snoc X24 N12 Pm3
  have Fw24 := F22.same W24
  have sz26 : h15.size ≤ h24.size := Nat.le_of_eq (Wr.size W24).symm
  have K26 := K16.wr W24 (Or.inl (List.mem_of_getElem? (i := 0) rfl))
  have cr26 : CHr Z consts_1 T15.vm h15 T15.vm h24 := CHr.wr W24 sf18 CR16.1
  have CR26 := CR16.trans cr26
  show own_Rn p e below _ (T24.setTop (mkF m 26 #[.val (.ref x), .val (.ref b), .val (.int (0 : Int32)), .val (.int (0 : Int32)), .val .null, .unset] []))
  have F27 : Fld Z h24 x "java/lang/String" "value" "[B" (.ref bb3) := ((Fw12.ext E15).other W24 (Or.inr (slot_ne (Or.inr (hw _ (own_mi 20 rfl))) (Or.inr (hw _ (own_mi 21 rfl))) (by decide) (t := (.array .byte)) (t' := .byte) own_fd_5bB own_fd_B)))
  have F28 : Arv Z h24 bb3 kc3 .byte (0 : Int32) ((([] : List Int32).map (fun c => c.toInt8.toInt32)).map Value.int) (.int 0) := (((Ab3.other W12 (Ne.symm nb3_x)).ext E15).other W24 (Ne.symm nb3_x))
  exact own_retS X24 hS15 (by rw [e24]; omega) (v := none) (fun _ => rfl) (fun fs hr => X24.returnOut hx Bd.returns (hb hby own_d2_26) hr) (by rw [e24]; exact ⟨bb3, kc3, rfl, N24, K26, F27, Fw24, F28⟩) (by rw [hh, e24]; exact CR26.trans (CHv.at X24 hZ15 hEL CR26.1)) (by decide) (by decide)
theorem own_ef_rmSI1 (m : MethodId) (x : Addr) (b : Addr) (kz : ClassId) : entryFrame m #[(.ref x), (.ref b)] 2 = mkF m 0 #[.val (.ref x), .val (.ref b)] [] := by first | (simp [entryFrame, mkF, argsToLocals, Value.category]; done) | rfl
theorem own_d1_0 : decode jdk_42_method_3_code 0 = .ok (.aload_n 0, 1) := by decide +kernel
theorem own_d1_1 : decode jdk_42_method_3_code 1 = .ok (.aload_n 1, 1) := by decide +kernel
theorem own_d1_2 : decode jdk_42_method_3_code 2 = .ok (.iconst 0, 1) := by decide +kernel
theorem own_d1_3 : decode jdk_42_method_3_code 3 = .ok (.aload_n 1, 1) := by decide +kernel
theorem own_d1_4 : decode jdk_42_method_3_code 4 = .ok (.arraylength, 1) := by decide +kernel
theorem own_d1_5 : decode jdk_42_method_3_code 5 = .ok (.aconst_null, 1) := by decide +kernel
theorem own_d1_6 : decode jdk_42_method_3_code 6 = .ok (.invokespecial 27, 3) := by decide +kernel
theorem own_pd_285bCIILjava2flang2fVoid3b29V : parseMethodDescriptor "([CIILjava/lang/Void;)V" = some ⟨[(.array .char), .int, .int, (.object "java/lang/Void")], none⟩ := by decide +kernel
theorem own_d1_9 : decode jdk_42_method_3_code 9 = .ok (.return_, 1) := by decide +kernel
def Q_rmSI1 (Z : State) (x : Addr) (b : Addr) (kz : ClassId) (h0 : Heap) (n0 : Nat) (vq : Option Value) (hhq : Heap) (Lq : List Loc) : Prop := ∃ (t : Addr), ∃ (kb : ClassId), vq = none ∧ Fr n0 Lq ∧ Keep h0 hhq [x] ∧ Fld Z hhq x "java/lang/String" "value" "[B" (.ref t) ∧ Fld Z hhq x "java/lang/String" "coder" "B" (.int (0 : Int32)) ∧ Arv Z hhq t kb .byte (0 : Int32) ((([] : List Int32).map (fun c => c.toInt8.toInt32)).map Value.int) (.int 0)
set_option maxRecDepth 65536 in
set_option maxHeartbeats 40000000 in
theorem rmSI1 (l : Launch) (Z : State) (a0 : Array Value) (hw : ∀ d ∈ tables_1, d.before a0 Z = true) (ws : List Jvm.Cond) (x : Addr) (b : Addr) (kz : ClassId) (h0 : Heap) (n0 : Nat) (Z0 : n0 ≤ h0.size) (hEL : EW Z a0 consts_1) (Pm0 : Exa Z h0 x "java/lang/String") (Pm1 : Fld Z h0 x "java/lang/String" "value" "[B" .null) (Pm2 : Fld Z h0 x "java/lang/String" "coder" "B" (.int (0 : Int32))) (Pm3 : n0 ≤ x) (Pm4 : Arv Z h0 b kz .char (0 : Int32) [] (.int (0 : Int32))) :
    MetFree l (⟨"java/lang/String", "<init>", "([C)V"⟩ : MethodName) (head1 (Jvm.Cond.code (⟨"java/lang/String", "<init>", "([C)V"⟩ : MethodName) jdk_42_method_3_code 2 none :: ws) ({ frames := 2, cells := 4, slots := 8, locals := 29 } : Room)) (fun aq U => aq = #[(.ref x), (.ref b)] ∧ Z.Warmed39 U.vm ∧ U.heap = h0 ∧ CHv Z consts_1 U.vm h0 ∧ ∀ ax ∈ ([x] : List Addr), Safe Z consts_1 U.vm h0 ax) (fun _ _ _ _ _ => True) (fun _ U oq U' => ∃ vq Lq, oq = .returned vq ∧ Q_rmSI1 Z x b kz h0 n0 vq U'.heap Lq ∧ CHr Z consts_1 U.vm U.heap U'.vm U'.heap ∧ ReturnedEndW U oq U' Lq ({ frames := 2, cells := 4, slots := 8, locals := 29 } : Room).cells ({ frames := 2, cells := 4, slots := 8, locals := 29 } : Room).slots) := by
  refine MetFree.of_bodySF (plainFor_of_name own_pn_java_lang_String) hisR ?_
  intro p e s m args below meth c s₁ Bd hml0 hP hK
  obtain ⟨rfl, hZ, hh, hH, hSf⟩ := hP
  have hx := Bd.exec
  have hby := Bd.bytes
  have hml : c.maxLocals = 2 := hml0
  have hown : s.vm.findClass "java/lang/String" = some m.cls := findClass_of_methodNamed Bd.named
  have hnm := (name_of_methodNamed Bd.named Bd.method).1
  have X0 : Stand p l e ({ frames := 2, cells := 4, slots := 8, locals := 29 } : Room) (s.setVm s.vm) m #[(.ref x), (.ref b)] below meth c s₁ [] 0 0 := Stand.of_body Bd
  have e0 : s₁.heap = h0 := by rw [← hh, Bd.state]; rfl
  have N0 := Fr.nil n0
  have K0 : Keep h0 h0 [x] := Keep.refl _ _
  refine own_go (S' := s₁.setTop (mkF m 0 #[.val (.ref x), .val (.ref b)] [])) (fun tq kq => castTop (own_ef_rmSI1 m x b kz) kq) ?_
  have lt1 : @LT.lt Nat _ x h0.size := Pm0.lt
  have lt2 : @LT.lt Nat _ b h0.size := Pm4.lt
  have hS0 : s.Since s.vm h0.size := (State.WarmedH.refl s).since _
  have CR0 : CHr Z consts_1 s.vm h0 s.vm h0 := CHr.refl hH
  have hwS : ∀ d ∈ Bundle.stringAtoms, d.before a0 Z = true := fun d hd => hw d ((by decide +kernel : ∀ d ∈ Bundle.stringAtoms, d ∈ tables_1) d hd)
  have sf_x : Safe Z consts_1 s.vm h0 x := hSf _ (List.mem_of_getElem? (i := 0) rfl)
  refine own_go (fun tq kq => XS.aloadN X0.here hx rfl (hb hby own_d1_0) rfl rfl kq) ?_
  show own_Rn p e below _ (s₁.setTop (mkF m 1 #[.val (.ref x), .val (.ref b)] [(.ref x)]))
  refine own_go (fun tq kq => XS.aloadN X0.here hx rfl (hb hby own_d1_1) rfl rfl kq) ?_
  show own_Rn p e below _ (s₁.setTop (mkF m 2 #[.val (.ref x), .val (.ref b)] [(.ref b), (.ref x)]))
  refine own_go (fun tq kq => XS.iconst X0.here hx rfl (hb hby own_d1_2) kq) ?_
  show own_Rn p e below _ (s₁.setTop (mkF m 3 #[.val (.ref x), .val (.ref b)] [(.int (0 : Int32)), (.ref b), (.ref x)]))
  refine own_go (fun tq kq => XS.aloadN X0.here hx rfl (hb hby own_d1_3) rfl rfl kq) ?_
  show own_Rn p e below _ (s₁.setTop (mkF m 4 #[.val (.ref x), .val (.ref b)] [(.ref b), (.int (0 : Int32)), (.ref b), (.ref x)]))
  obtain ⟨cl3, Ar3, -, Sz3, Nn3, -, -⟩ := id Pm4
  refine own_go (fun tq kq => X0.arraylength hx (cell := cl3) (by rw [e0]; exact Ar3.1) (State.isArrayOf_alike hZ.alike Ar3.2.1) (g := (mkF m 4 #[.val (.ref x), .val (.ref b)] [(.ref b), (.int (0 : Int32)), (.ref b), (.ref x)])) rfl rfl (hb hby own_d1_4) tq kq) ?_
  rw [len_of Sz3 Nn3]
  show own_Rn p e below _ (s₁.setTop (mkF m 5 #[.val (.ref x), .val (.ref b)] [(.int (0 : Int32)), (.int (0 : Int32)), (.ref b), (.ref x)]))
  refine own_go (fun tq kq => XS.aconstNull X0.here hx rfl (hb hby own_d1_5) kq) ?_
  show own_Rn p e below _ (s₁.setTop (mkF m 6 #[.val (.ref x), .val (.ref b)] [.null, (.int (0 : Int32)), (.int (0 : Int32)), (.ref b), (.ref x)]))
  have Zn4 : n0 ≤ h0.size := by omega
  obtain ⟨rv4, _, ⟨T4, L4, k4, n4⟩, -, X4, hS4, hG4, ⟨Lc4, hQ4, l4, y4, z4, CR4q⟩, st4⟩ := X0.specialBackS hx (y := (⟨"java/lang/String", "<init>", "([CIILjava/lang/Void;)V"⟩ : MethodName)) rfl hown (mvT hZ (hw _ (own_mi 11 rfl))) (mvT hZ (hw _ (own_mi 12 rfl))) (mvT hZ (hw _ (own_mi 14 rfl))) (by decide) (own_backSH (W := 0) (rm := ({ frames := 1, cells := 4, slots := 8, locals := 12 } : Room)) (sf := [x]) (h := h0) (rmSI4 l Z a0 hw [] (x) (b) h0 n0 Zn4 hEL Pm0 Pm1 Pm2 Pm3) hZ (hw _ (own_mi 14 rfl)) (hw _ (own_mi 6 rfl)) (by decide) (by decide) hEL CR0.1 (sfS sf_x sf0)) (g := (mkF m 6 #[.val (.ref x), .val (.ref b)] [.null, (.int (0 : Int32)), (.int (0 : Int32)), (.ref b), (.ref x)])) rfl (by rw [hml]; rfl) (Steps.refl _) (a := x) (argsL := [(.ref b), (.int (0 : Int32)), (.int (0 : Int32)), .null]) (rest := []) (lenOf own_pd_285bCIILjava2flang2fVoid3b29V rfl) rfl (by show 2 * 0 + _ ≤ _; exact Nat.le_of_eq rfl) (hb hby own_d1_6) (fun _ _ => ⟨rfl, e0, (by decide : 0 + 4 ≤ _), (by decide : 0 + 8 ≤ _)⟩)
  dsimp only [Pt.U, Pt.locs, Pt.cells, Pt.slots] at X4 l4 y4 z4 st4 hQ4 hS4 hG4 CR4q
  subst l4 y4 z4
  obtain ⟨tt, kk, rfl, Nq4, Kq4, G0_4, G1_4, G2_4⟩ := hQ4
  have N4 := Fr.app N0 Nq4
  obtain ⟨Xr4, hSr4, hZ4, hown4⟩ := rebS hS0 (n1 := s₁.heap.size) (by rw [e0]; omega) X4 hS4 hG4 hZ hown
  have sz6 : h0.size ≤ T4.heap.size := Kq4.1
  have K6 := K0.trans Kq4 (allS (Or.inl (List.mem_of_getElem? (i := 0) rfl)) all0)
  have cr6 : CHr Z consts_1 s.vm h0 T4.vm T4.heap := CR4q
  have CR6 := CR0.trans cr6
  have lt7 : @LT.lt Nat _ tt T4.heap.size := G2_4.lt
  refine own_go (fun tq kq => st4.trans kq) ?_
  show own_Rn p e below _ (T4.setTop (mkF m 9 #[.val (.ref x), .val (.ref b)] []))
  exact own_retS Xr4 hSr4 (by omega) (v := none) (fun _ => rfl) (fun fs hr => Xr4.returnOut hx Bd.returns (hb hby own_d1_9) hr) (⟨tt, kk, rfl, N4, K6, G0_4, G1_4, G2_4⟩) (by rw [hh]; exact CR6.trans (CHv.at Xr4 hZ4 hEL CR6.1)) (by decide) (by decide)
theorem own_ef_rmEqS (m : MethodId) (x : Addr) : entryFrame m #[(.ref x), (.ref x)] 3 = mkF m 0 #[.val (.ref x), .val (.ref x), .unset] [] := by first | (simp [entryFrame, mkF, argsToLocals, Value.category]; done) | rfl
theorem own_d8_0 : decode jdk_42_method_66_code 0 = .ok (.aload_n 0, 1) := by decide +kernel
theorem own_d8_1 : decode jdk_42_method_66_code 1 = .ok (.aload_n 1, 1) := by decide +kernel
theorem own_d8_2 : decode jdk_42_method_66_code 2 = .ok (.if_acmp .ne 5, 3) := by decide +kernel
theorem own_d8_5 : decode jdk_42_method_66_code 5 = .ok (.iconst 1, 1) := by decide +kernel
theorem own_d8_6 : decode jdk_42_method_66_code 6 = .ok (.ireturn, 1) := by decide +kernel
def Q_rmEqS (Z : State) (x : Addr) (h0 : Heap) (n0 : Nat) (vq : Option Value) (hhq : Heap) (Lq : List Loc) : Prop := vq = some (.int (1 : Int32)) ∧ Fr n0 Lq ∧ hhq = h0
set_option maxRecDepth 65536 in
set_option maxHeartbeats 40000000 in
theorem rmEqS (l : Launch) (Z : State) (a0 : Array Value) (hw : ∀ d ∈ tables_1, d.before a0 Z = true) (ws : List Jvm.Cond) (x : Addr) (h0 : Heap) (n0 : Nat) (Z0 : n0 ≤ h0.size)  :
    MetFree l (⟨"java/lang/String", "equals", "(Ljava/lang/Object;)Z"⟩ : MethodName) (head1 (Jvm.Cond.code (⟨"java/lang/String", "equals", "(Ljava/lang/Object;)Z"⟩ : MethodName) jdk_42_method_66_code 3 (some .boolean) :: ws) ({ frames := 0, cells := 0, slots := 0, locals := 0 } : Room)) (fun aq U => aq = #[(.ref x), (.ref x)] ∧ Z.Warmed39 U.vm ∧ U.heap = h0) (fun _ _ _ _ _ => True) (fun _ U oq U' => ∃ vq Lq, oq = .returned vq ∧ Q_rmEqS Z x h0 n0 vq U'.heap Lq ∧ FrameEnd U oq U' Lq ({ frames := 0, cells := 0, slots := 0, locals := 0 } : Room).cells ({ frames := 0, cells := 0, slots := 0, locals := 0 } : Room).slots) := by
  refine MetFree.of_bodySF (plainFor_of_name own_pn_java_lang_String) hisR ?_
  intro p e s m args below meth c s₁ Bd hml0 hP hK
  obtain ⟨rfl, hZ, hh⟩ := hP
  have hx := Bd.exec
  have hby := Bd.bytes
  have hml : c.maxLocals = 3 := hml0
  have hown : s.vm.findClass "java/lang/String" = some m.cls := findClass_of_methodNamed Bd.named
  have hnm := (name_of_methodNamed Bd.named Bd.method).1
  have X0 : Stand p l e ({ frames := 0, cells := 0, slots := 0, locals := 0 } : Room) s m #[(.ref x), (.ref x)] below meth c s₁ [] 0 0 := Stand.of_body Bd
  have e0 : s₁.heap = h0 := by rw [← hh, Bd.state]; rfl
  have N0 := Fr.nil n0
  have K0 : Keep h0 h0 [] := Keep.refl _ _
  refine own_go (S' := s₁.setTop (mkF m 0 #[.val (.ref x), .val (.ref x), .unset] [])) (fun tq kq => castTop (own_ef_rmEqS m x) kq) ?_
  refine own_go (fun tq kq => XS.aloadN X0.here hx rfl (hb hby own_d8_0) rfl rfl kq) ?_
  show own_Rn p e below _ (s₁.setTop (mkF m 1 #[.val (.ref x), .val (.ref x), .unset] [(.ref x)]))
  refine own_go (fun tq kq => XS.aloadN X0.here hx rfl (hb hby own_d8_1) rfl rfl kq) ?_
  show own_Rn p e below _ (s₁.setTop (mkF m 2 #[.val (.ref x), .val (.ref x), .unset] [(.ref x), (.ref x)]))
  refine own_go (fun tq kq => Jvm.RoadKit.acmp (g := (mkF m 2 #[.val (.ref x), .val (.ref x), .unset] [(.ref x), (.ref x)])) X0 hx rfl rfl rfl (pc0 := 2) (pc' := 5) (same := true) rfl (hb hby own_d8_2) rfl (decide_eq_true rfl) (by decide) (by decide) kq) ?_
  show own_Rn p e below _ (s₁.setTop (mkF m 5 #[.val (.ref x), .val (.ref x), .unset] []))
  refine own_go (fun tq kq => XS.iconst X0.here hx rfl (hb hby own_d8_5) kq) ?_
  show own_Rn p e below _ (s₁.setTop (mkF m 6 #[.val (.ref x), .val (.ref x), .unset] [(.int (1 : Int32))]))
  exact own_ret X0 (v := some (.int (nar .boolean (1 : Int32)))) (fun h => by rw [Bd.returns] at h; cases h) (fun fs hr => retN X0 hx (t := .boolean) Bd.returns (by simp) (hb hby own_d8_6) hr) (by rw [e0]; exact ⟨rfl, N0, rfl⟩) (by decide) (by decide)
theorem own_ef_rmDraw (m : MethodId) (xx : Int32) (G1 : Int32) : entryFrame m #[(.int xx)] 5 = mkF m 0 #[.val (.int xx), .unset, .unset, .unset, .unset] [] := by first | (simp [entryFrame, mkF, argsToLocals, Value.category]; done) | rfl
theorem own_pn_com_example_elodea_elodea_cli_ParameterArgumentPinLaw : plainName "com/example/elodea/elodea/cli/ParameterArgumentPinLaw" = true := by first | (simp [plainName, overriddenIn]; done) | decide +kernel
theorem own_d0_0 : decode method_3_code 0 = .ok (.iload_n 0, 1) := by decide +kernel
theorem own_d0_1 : decode method_3_code 1 = .ok (.sipush 255, 3) := by decide +kernel
theorem own_d0_4 : decode method_3_code 4 = .ok (.iand, 1) := by decide +kernel
theorem own_d0_5 : decode method_3_code 5 = .ok (.i2c, 1) := by decide +kernel
theorem own_d0_6 : decode method_3_code 6 = .ok (.istore_n 1, 1) := by decide +kernel
theorem own_d0_7 : decode method_3_code 7 = .ok (.iload_n 0, 1) := by decide +kernel
theorem own_d0_8 : decode method_3_code 8 = .ok (.bipush 8, 2) := by decide +kernel
theorem own_d0_10 : decode method_3_code 10 = .ok (.iushr, 1) := by decide +kernel
theorem own_d0_11 : decode method_3_code 11 = .ok (.sipush 255, 3) := by decide +kernel
theorem own_d0_14 : decode method_3_code 14 = .ok (.iand, 1) := by decide +kernel
theorem own_d0_15 : decode method_3_code 15 = .ok (.i2c, 1) := by decide +kernel
theorem own_d0_16 : decode method_3_code 16 = .ok (.istore_n 2, 1) := by decide +kernel
theorem own_d0_17 : decode method_3_code 17 = .ok (.iload_n 0, 1) := by decide +kernel
theorem own_d0_18 : decode method_3_code 18 = .ok (.bipush 16, 2) := by decide +kernel
theorem own_d0_20 : decode method_3_code 20 = .ok (.iushr, 1) := by decide +kernel
theorem own_d0_21 : decode method_3_code 21 = .ok (.iconst 3, 1) := by decide +kernel
theorem own_d0_22 : decode method_3_code 22 = .ok (.irem, 1) := by decide +kernel
theorem own_d0_23 : decode method_3_code 23 = .ok (.istore_n 3, 1) := by decide +kernel
theorem own_d0_24 : decode method_3_code 24 = .ok (.iload_n 3, 1) := by decide +kernel
theorem own_d0_25 : decode method_3_code 25 = .ok (.ifCond .ne 14, 3) := by decide +kernel
theorem own_d0_28 : decode method_3_code 28 = .ok (.new 34, 3) := by decide +kernel
theorem own_d0_31 : decode method_3_code 31 = .ok (.dup, 1) := by decide +kernel
theorem own_d0_32 : decode method_3_code 32 = .ok (.iconst 0, 1) := by decide +kernel
theorem own_d0_33 : decode method_3_code 33 = .ok (.newarray .char, 2) := by decide +kernel
theorem own_d0_35 : decode method_3_code 35 = .ok (.invokespecial 59, 3) := by decide +kernel
theorem own_pd_285bC29V : parseMethodDescriptor "([C)V" = some ⟨[(.array .char)], none⟩ := by decide +kernel
theorem own_d0_38 : decode method_3_code 38 = .ok (.areturn, 1) := by decide +kernel
theorem own_d0_39 : decode method_3_code 39 = .ok (.iload_n 3, 1) := by decide +kernel
theorem own_d0_40 : decode method_3_code 40 = .ok (.iconst 1, 1) := by decide +kernel
theorem own_d0_41 : decode method_3_code 41 = .ok (.if_icmp .ne 8, 3) := by decide +kernel
theorem own_d0_44 : decode method_3_code 44 = .ok (.iload_n 1, 1) := by decide +kernel
theorem own_d0_45 : decode method_3_code 45 = .ok (.invokestatic 62, 3) := by decide +kernel
theorem own_pd_28C29Ljava2flang2fString3b : parseMethodDescriptor "(C)Ljava/lang/String;" = some ⟨[.char], some (.object "java/lang/String")⟩ := by decide +kernel
theorem own_d0_48 : decode method_3_code 48 = .ok (.areturn, 1) := by decide +kernel
theorem own_d0_49 : decode method_3_code 49 = .ok (.iconst 2, 1) := by decide +kernel
theorem own_d0_50 : decode method_3_code 50 = .ok (.newarray .char, 2) := by decide +kernel
theorem own_d0_52 : decode method_3_code 52 = .ok (.astore 4, 2) := by decide +kernel
theorem own_d0_54 : decode method_3_code 54 = .ok (.aload 4, 2) := by decide +kernel
theorem own_d0_56 : decode method_3_code 56 = .ok (.iconst 0, 1) := by decide +kernel
theorem own_d0_57 : decode method_3_code 57 = .ok (.iload_n 1, 1) := by decide +kernel
theorem own_d0_58 : decode method_3_code 58 = .ok (.castore, 1) := by decide +kernel
theorem own_d0_59 : decode method_3_code 59 = .ok (.aload 4, 2) := by decide +kernel
theorem own_d0_61 : decode method_3_code 61 = .ok (.iconst 1, 1) := by decide +kernel
theorem own_d0_62 : decode method_3_code 62 = .ok (.iload_n 2, 1) := by decide +kernel
theorem own_d0_63 : decode method_3_code 63 = .ok (.castore, 1) := by decide +kernel
theorem own_d0_64 : decode method_3_code 64 = .ok (.new 34, 3) := by decide +kernel
theorem own_d0_67 : decode method_3_code 67 = .ok (.dup, 1) := by decide +kernel
theorem own_d0_68 : decode method_3_code 68 = .ok (.aload 4, 2) := by decide +kernel
theorem own_d0_70 : decode method_3_code 70 = .ok (.invokespecial 59, 3) := by decide +kernel
theorem own_d0_73 : decode method_3_code 73 = .ok (.areturn, 1) := by decide +kernel
def Q_rmDraw (Z : State) (xx : Int32) (G1 : Int32) (h0 : Heap) (n0 : Nat) (vq : Option Value) (hhq : Heap) (Lq : List Loc) : Prop := ∃ (r : Addr), vq = some (.ref r) ∧ Fr n0 Lq ∧ Keep h0 hhq [] ∧ Exa Z hhq r "java/lang/String"
set_option maxRecDepth 65536 in
set_option maxHeartbeats 40000000 in
theorem rmDraw (l : Launch) (Z : State) (a0 : Array Value) (hw : ∀ d ∈ tables_1, d.before a0 Z = true) (ws : List Jvm.Cond) (xx : Int32) (G1 : Int32) (h0 : Heap) (n0 : Nat) (Z0 : n0 ≤ h0.size) (hEL : EW Z a0 consts_1) (O2 : Sta Z Z.heap "java/lang/String" "COMPACT_STRINGS" "Z" (.int G1)) (P5 : (¬ (G1 = (0 : Int32)))) (X00 : Old Z n0 h0) :
    MetFree l (⟨"com/example/elodea/elodea/cli/ParameterArgumentPinLaw", "draw", "(I)Ljava/lang/String;"⟩ : MethodName) (head1 (Jvm.Cond.code (⟨"com/example/elodea/elodea/cli/ParameterArgumentPinLaw", "draw", "(I)Ljava/lang/String;"⟩ : MethodName) method_3_code 5 (some (.object "java/lang/String")) :: ws) ({ frames := 4, cells := 6, slots := 12, locals := 66 } : Room)) (fun aq U => aq = #[(.int xx)] ∧ Z.Warmed39 U.vm ∧ U.heap = h0 ∧ CHv Z consts_1 U.vm h0 ∧ ∀ ax ∈ ([] : List Addr), Safe Z consts_1 U.vm h0 ax) (fun _ _ _ _ _ => True) (fun _ U oq U' => ∃ vq Lq, oq = .returned vq ∧ Q_rmDraw Z xx G1 h0 n0 vq U'.heap Lq ∧ CHr Z consts_1 U.vm U.heap U'.vm U'.heap ∧ ReturnedEndW U oq U' Lq ({ frames := 4, cells := 6, slots := 12, locals := 66 } : Room).cells ({ frames := 4, cells := 6, slots := 12, locals := 66 } : Room).slots) := by
  refine MetFree.of_bodySF (plainFor_of_name own_pn_com_example_elodea_elodea_cli_ParameterArgumentPinLaw) hisR ?_
  intro p e s m args below meth c s₁ Bd hml0 hP hK
  obtain ⟨rfl, hZ, hh, hH, hSf⟩ := hP
  have hx := Bd.exec
  have hby := Bd.bytes
  have hml : c.maxLocals = 5 := hml0
  have hown : s.vm.findClass "com/example/elodea/elodea/cli/ParameterArgumentPinLaw" = some m.cls := findClass_of_methodNamed Bd.named
  have hnm := (name_of_methodNamed Bd.named Bd.method).1
  have X0 : Stand p l e ({ frames := 4, cells := 6, slots := 12, locals := 66 } : Room) (s.setVm s.vm) m #[(.int xx)] below meth c s₁ [] 0 0 := Stand.of_body Bd
  have e0 : s₁.heap = h0 := by rw [← hh, Bd.state]; rfl
  have N0 := Fr.nil n0
  have K0 : Keep h0 h0 [] := Keep.refl _ _
  refine own_go (S' := s₁.setTop (mkF m 0 #[.val (.int xx), .unset, .unset, .unset, .unset] [])) (fun tq kq => castTop (own_ef_rmDraw m xx G1) kq) ?_
  have hS0 : s.Since s.vm h0.size := (State.WarmedH.refl s).since _
  have CR0 : CHr Z consts_1 s.vm h0 s.vm h0 := CHr.refl hH
  have hwS : ∀ d ∈ Bundle.stringAtoms, d.before a0 Z = true := fun d hd => hw d ((by decide +kernel : ∀ d ∈ Bundle.stringAtoms, d ∈ tables_1) d hd)
  have hws : ∀ d ∈ StrChars.Road.words, d.before a0 Z = true := fun d hd => hw d ((by decide +kernel : ∀ d ∈ StrChars.Road.words, d ∈ tables_1) d hd)
  refine own_go (fun tq kq => XS.iloadN X0.here hx rfl (hb hby own_d0_0) rfl kq) ?_
  show own_Rn p e below _ (s₁.setTop (mkF m 1 #[.val (.int xx), .unset, .unset, .unset, .unset] [(.int xx)]))
  refine own_go (fun tq kq => XS.sipush X0.here hx rfl (hb hby own_d0_1) kq) ?_
  show own_Rn p e below _ (s₁.setTop (mkF m 4 #[.val (.int xx), .unset, .unset, .unset, .unset] [(.int (255 : Int32)), (.int xx)]))
  refine own_go (fun tq kq => XS.iand X0.here hx rfl (hb hby own_d0_4) rfl kq) ?_
  show own_Rn p e below _ (s₁.setTop (mkF m 5 #[.val (.int xx), .unset, .unset, .unset, .unset] [(.int (xx &&& (255 : Int32)))]))
  refine own_go (fun tq kq => XS.i2c X0.here hx rfl (hb hby own_d0_5) rfl kq) ?_
  show own_Rn p e below _ (s₁.setTop (mkF m 6 #[.val (.int xx), .unset, .unset, .unset, .unset] [(.int ((xx &&& (255 : Int32)).toUInt32.toUInt16.toUInt32.toInt32))]))
  obtain ⟨c0, hc0⟩ : ∃ z : Int32, z = ((xx &&& (255 : Int32)).toUInt32.toUInt16.toUInt32.toInt32) := ⟨_, rfl⟩
  rw [← hc0]
  show own_Rn p e below _ (s₁.setTop (mkF m 6 #[.val (.int xx), .unset, .unset, .unset, .unset] [(.int c0)]))
  have rc0 : ¬ c0 < 0 ∧ ¬ (255 : Int32) < c0 := by rw [hc0]; exact own_chr_rng _
  have nc0 := own_narC c0 rc0
  refine own_go (fun tq kq => XS.istoreN X0.here hx rfl (hb hby own_d0_6) rfl (l' := #[.val (.int xx), .val (.int c0), .unset, .unset, .unset]) rfl kq) ?_
  show own_Rn p e below _ (s₁.setTop (mkF m 7 #[.val (.int xx), .val (.int c0), .unset, .unset, .unset] []))
  refine own_go (fun tq kq => XS.iloadN X0.here hx rfl (hb hby own_d0_7) rfl kq) ?_
  show own_Rn p e below _ (s₁.setTop (mkF m 8 #[.val (.int xx), .val (.int c0), .unset, .unset, .unset] [(.int xx)]))
  refine own_go (fun tq kq => XS.bipush X0.here hx rfl (hb hby own_d0_8) kq) ?_
  show own_Rn p e below _ (s₁.setTop (mkF m 10 #[.val (.int xx), .val (.int c0), .unset, .unset, .unset] [(.int (8 : Int32)), (.int xx)]))
  refine own_go (fun tq kq => XS.iushr X0.here hx rfl (hb hby own_d0_10) rfl kq) ?_
  show own_Rn p e below _ (s₁.setTop (mkF m 11 #[.val (.int xx), .val (.int c0), .unset, .unset, .unset] [(.int ((xx.toUInt32 >>> ((8 : Int32) &&& 31).toUInt32).toInt32))]))
  refine own_go (fun tq kq => XS.sipush X0.here hx rfl (hb hby own_d0_11) kq) ?_
  show own_Rn p e below _ (s₁.setTop (mkF m 14 #[.val (.int xx), .val (.int c0), .unset, .unset, .unset] [(.int (255 : Int32)), (.int ((xx.toUInt32 >>> ((8 : Int32) &&& 31).toUInt32).toInt32))]))
  refine own_go (fun tq kq => XS.iand X0.here hx rfl (hb hby own_d0_14) rfl kq) ?_
  show own_Rn p e below _ (s₁.setTop (mkF m 15 #[.val (.int xx), .val (.int c0), .unset, .unset, .unset] [(.int (((xx.toUInt32 >>> ((8 : Int32) &&& 31).toUInt32).toInt32) &&& (255 : Int32)))]))
  refine own_go (fun tq kq => XS.i2c X0.here hx rfl (hb hby own_d0_15) rfl kq) ?_
  show own_Rn p e below _ (s₁.setTop (mkF m 16 #[.val (.int xx), .val (.int c0), .unset, .unset, .unset] [(.int ((((xx.toUInt32 >>> ((8 : Int32) &&& 31).toUInt32).toInt32) &&& (255 : Int32)).toUInt32.toUInt16.toUInt32.toInt32))]))
  obtain ⟨c1, hc1⟩ : ∃ z : Int32, z = ((((xx.toUInt32 >>> ((8 : Int32) &&& 31).toUInt32).toInt32) &&& (255 : Int32)).toUInt32.toUInt16.toUInt32.toInt32) := ⟨_, rfl⟩
  rw [← hc1]
  show own_Rn p e below _ (s₁.setTop (mkF m 16 #[.val (.int xx), .val (.int c0), .unset, .unset, .unset] [(.int c1)]))
  have rc1 : ¬ c1 < 0 ∧ ¬ (255 : Int32) < c1 := by rw [hc1]; exact own_chr_rng _
  have nc1 := own_narC c1 rc1
  refine own_go (fun tq kq => XS.istoreN X0.here hx rfl (hb hby own_d0_16) rfl (l' := #[.val (.int xx), .val (.int c0), .val (.int c1), .unset, .unset]) rfl kq) ?_
  show own_Rn p e below _ (s₁.setTop (mkF m 17 #[.val (.int xx), .val (.int c0), .val (.int c1), .unset, .unset] []))
  refine own_go (fun tq kq => XS.iloadN X0.here hx rfl (hb hby own_d0_17) rfl kq) ?_
  show own_Rn p e below _ (s₁.setTop (mkF m 18 #[.val (.int xx), .val (.int c0), .val (.int c1), .unset, .unset] [(.int xx)]))
  refine own_go (fun tq kq => XS.bipush X0.here hx rfl (hb hby own_d0_18) kq) ?_
  show own_Rn p e below _ (s₁.setTop (mkF m 20 #[.val (.int xx), .val (.int c0), .val (.int c1), .unset, .unset] [(.int (16 : Int32)), (.int xx)]))
  refine own_go (fun tq kq => XS.iushr X0.here hx rfl (hb hby own_d0_20) rfl kq) ?_
  show own_Rn p e below _ (s₁.setTop (mkF m 21 #[.val (.int xx), .val (.int c0), .val (.int c1), .unset, .unset] [(.int ((xx.toUInt32 >>> ((16 : Int32) &&& 31).toUInt32).toInt32))]))
  refine own_go (fun tq kq => XS.iconst X0.here hx rfl (hb hby own_d0_21) kq) ?_
  show own_Rn p e below _ (s₁.setTop (mkF m 22 #[.val (.int xx), .val (.int c0), .val (.int c1), .unset, .unset] [(.int (3 : Int32)), (.int ((xx.toUInt32 >>> ((16 : Int32) &&& 31).toUInt32).toInt32))]))
  refine own_go (fun tq kq => iremM X0 hx rfl (hb hby own_d0_22) rfl (by decide) kq) ?_
  show own_Rn p e below _ (s₁.setTop (mkF m 23 #[.val (.int xx), .val (.int c0), .val (.int c1), .unset, .unset] [(.int (((xx.toUInt32 >>> ((16 : Int32) &&& 31).toUInt32).toInt32) % (3 : Int32)))]))
  obtain ⟨ln, hln⟩ : ∃ z : Int32, z = (((xx.toUInt32 >>> ((16 : Int32) &&& 31).toUInt32).toInt32) % (3 : Int32)) := ⟨_, rfl⟩
  rw [← hln]
  show own_Rn p e below _ (s₁.setTop (mkF m 23 #[.val (.int xx), .val (.int c0), .val (.int c1), .unset, .unset] [(.int ln)]))
  refine own_go (fun tq kq => XS.istoreN X0.here hx rfl (hb hby own_d0_23) rfl (l' := #[.val (.int xx), .val (.int c0), .val (.int c1), .val (.int ln), .unset]) rfl kq) ?_
  show own_Rn p e below _ (s₁.setTop (mkF m 24 #[.val (.int xx), .val (.int c0), .val (.int c1), .val (.int ln), .unset] []))
  refine own_go (fun tq kq => XS.iloadN X0.here hx rfl (hb hby own_d0_24) rfl kq) ?_
  show own_Rn p e below _ (s₁.setTop (mkF m 25 #[.val (.int xx), .val (.int c0), .val (.int c1), .val (.int ln), .unset] [(.int ln)]))
  by_cases hc1 : ln = (0 : Int32)
  · skip
    refine own_go (fun tq kq => XS.ifNo X0.here hx rfl (hb hby own_d0_25) rfl ((if0 _ _).trans (teq (hc1 : ln = (0 : Int32))).2) kq) ?_
    show own_Rn p e below _ (s₁.setTop (mkF m 28 #[.val (.int xx), .val (.int c0), .val (.int c1), .val (.int ln), .unset] []))
    obtain ⟨T2, h2, X2, e2, E2, A2, D2, -, st2⟩ := newO X0 hx hZ hown (hw _ (own_mi 4 rfl)) (hw _ (own_mi 5 rfl)) (hw _ (own_mi 6 rfl)) e0 (g := (mkF m 28 #[.val (.int xx), .val (.int c0), .val (.int c1), .val (.int ln), .unset] [])) rfl (hb hby own_d0_28) (by decide) (by decide)
    obtain ⟨b2, g2⟩ : ∃ z, z = h0.size := ⟨_, rfl⟩
    rw [← g2] at A2 D2 st2
    refine own_go st2 ?_
    have sz3 : h0.size ≤ h2.size := E2.1
    have K3 := K0.ext E2
    have cr3 : CHr Z consts_1 s.vm h0 s.vm h2 := CHr.ext E2 CR0.1
    have CR3 := CR0.trans cr3
    have sf4 : Safe Z consts_1 s.vm h2 b2 := Safe.ext E2 CR0.1 (Safe.new (by omega))
    have lt5 : @LT.lt Nat _ b2 h2.size := A2.lt
    have gn2 : n0 ≤ b2 := by omega
    have D2_value : Fld Z h2 b2 "java/lang/String" "value" "[B" .null := D2 (Or.inr (hw _ (own_mi 20 rfl))) (ty := (.array .byte)) own_fd_5bB
    have D2_coder : Fld Z h2 b2 "java/lang/String" "coder" "B" (.int (0 : Int32)) := D2 (Or.inr (hw _ (own_mi 21 rfl))) (ty := .byte) own_fd_B
    show own_Rn p e below _ (T2.setTop (mkF m 31 #[.val (.int xx), .val (.int c0), .val (.int c1), .val (.int ln), .unset] [(.ref b2)]))
    refine own_go (fun tq kq => XS.dup X2.here hx rfl (hb hby own_d0_31) rfl rfl kq) ?_
    show own_Rn p e below _ (T2.setTop (mkF m 32 #[.val (.int xx), .val (.int c0), .val (.int c1), .val (.int ln), .unset] [(.ref b2), (.ref b2)]))
    refine own_go (fun tq kq => XS.iconst X2.here hx rfl (hb hby own_d0_32) kq) ?_
    show own_Rn p e below _ (T2.setTop (mkF m 33 #[.val (.int xx), .val (.int c0), .val (.int c1), .val (.int ln), .unset] [(.int (0 : Int32)), (.ref b2), (.ref b2)]))
    obtain ⟨T7, h7, k7, X7, e7, E7, A7, st7⟩ := newP X2 hx hZ (hw _ (own_mi 7 rfl)) e2 (g := (mkF m 33 #[.val (.int xx), .val (.int c0), .val (.int c1), .val (.int ln), .unset] [(.int (0 : Int32)), (.ref b2), (.ref b2)])) rfl (hb hby own_d0_33) rfl (by decide) (cap := 0) (by decide) (by decide) (by decide) (by decide)
    obtain ⟨b7, g7⟩ : ∃ z, z = h2.size := ⟨_, rfl⟩
    rw [← g7] at A7 st7
    refine own_go st7 ?_
    have sz8 : h2.size ≤ h7.size := E7.1
    have K8 := K3.ext E7
    have cr8 : CHr Z consts_1 s.vm h2 s.vm h7 := CHr.ext E7 CR3.1
    have CR8 := CR3.trans cr8
    have gn7 : n0 ≤ b7 := by omega
    have V7 : Arv Z h7 b7 k7 .char (0 : Int32) [] (.int (0 : Int32)) := (Arv.new A7 (by decide)).pad (pad_rep [] _ 0)
    have lt9 : @LT.lt Nat _ b7 h7.size := V7.lt
    show own_Rn p e below _ (T7.setTop (mkF m 35 #[.val (.int xx), .val (.int c0), .val (.int c1), .val (.int ln), .unset] [(.ref b7), (.ref b2), (.ref b2)]))
    have Zn10 : n0 ≤ h7.size := by omega
    have F11 : Exa Z h7 b2 "java/lang/String" := (A2.ext E7)
    have F12 : Fld Z h7 b2 "java/lang/String" "value" "[B" .null := (D2_value.ext E7)
    have F13 : Fld Z h7 b2 "java/lang/String" "coder" "B" (.int (0 : Int32)) := (D2_coder.ext E7)
    have sf15 : Safe Z consts_1 s.vm h7 b2 := (CHr.safe cr8 (show @LT.lt Nat _ _ _ by omega) sf4)
    obtain ⟨rv10, _, ⟨T10, L10, k10, n10⟩, -, X10, hS10, hG10, ⟨Lc10, hQ10, l10, y10, z10, CR10q⟩, st10⟩ := X7.specialBackS hx (y := (⟨"java/lang/String", "<init>", "([C)V"⟩ : MethodName)) rfl hown (mvT hZ (hw _ (own_mi 8 rfl))) (mvT hZ (hw _ (own_mi 9 rfl))) (mvT hZ (hw _ (own_mi 10 rfl))) (by decide) (own_backSH (W := 1) (rm := ({ frames := 2, cells := 4, slots := 8, locals := 29 } : Room)) (sf := [b2]) (h := h7) (rmSI1 l Z a0 hw [] (b2) (b7) (k7) h7 n0 Zn10 hEL F11 F12 F13 gn2 V7) hZ (hw _ (own_mi 10 rfl)) (hw _ (own_mi 6 rfl)) (by decide) (by decide) hEL CR8.1 (sfS sf15 sf0)) (g := (mkF m 35 #[.val (.int xx), .val (.int c0), .val (.int c1), .val (.int ln), .unset] [(.ref b7), (.ref b2), (.ref b2)])) rfl (by rw [hml]; rfl) (Steps.refl _) (a := b2) (argsL := [(.ref b7)]) (rest := [(.ref b2)]) (lenOf own_pd_285bC29V rfl) rfl (by show 2 * 0 + _ ≤ _; exact Nat.le_of_eq rfl) (hb hby own_d0_35) (fun _ _ => ⟨rfl, e7, (by decide : 2 + 4 ≤ _), (by decide : 4 + 8 ≤ _)⟩)
    dsimp only [Pt.U, Pt.locs, Pt.cells, Pt.slots] at X10 l10 y10 z10 st10 hQ10 hS10 hG10 CR10q
    subst l10 y10 z10
    obtain ⟨t_10, kb_10, rfl, Nq10, Kq10, G0_10, G1_10, G2_10⟩ := hQ10
    have N10 := Fr.app N0 Nq10
    obtain ⟨Xr10, hSr10, hZ10, hown10⟩ := rebS hS0 (n1 := T7.heap.size) (by rw [e7]; omega) X10 hS10 hG10 hZ hown
    have sz16 : h7.size ≤ T10.heap.size := Kq10.1
    have K16 := K8.trans Kq10 (allS (Or.inr (by omega)) all0)
    have cr16 : CHr Z consts_1 s.vm h7 T10.vm T10.heap := CR10q
    have CR16 := CR8.trans cr16
    have lt17 : @LT.lt Nat _ t_10 T10.heap.size := G2_10.lt
    refine own_go (fun tq kq => st10.trans kq) ?_
    show own_Rn p e below _ (T10.setTop (mkF m 38 #[.val (.int xx), .val (.int c0), .val (.int c1), .val (.int ln), .unset] [(.ref b2)]))
    have F18 : Exa Z T10.heap b2 "java/lang/String" := (F11.keep Kq10)
    exact own_retS Xr10 hSr10 (by omega) (v := some (.ref b2)) (fun h => by rw [Bd.returns] at h; cases h) (fun fs hr => Xr10.areturnOut hx rfl Bd.returns rfl (hb hby own_d0_38) hr) (⟨b2, rfl, N10, K16, F18⟩) (by rw [hh]; exact CR16.trans (CHv.at Xr10 hZ10 hEL CR16.1)) (by decide) (by decide)
  · skip
    refine own_go (fun tq kq => XS.ifYes X0.here hx rfl (pc0 := 25) (pc' := 39) rfl (hb hby own_d0_25) rfl ((if0 _ _).trans (feq (hc1 : ¬ (ln = (0 : Int32)))).2) (by decide) (by decide) kq) ?_
    show own_Rn p e below _ (s₁.setTop (mkF m 39 #[.val (.int xx), .val (.int c0), .val (.int c1), .val (.int ln), .unset] []))
    refine own_go (fun tq kq => XS.iloadN X0.here hx rfl (hb hby own_d0_39) rfl kq) ?_
    show own_Rn p e below _ (s₁.setTop (mkF m 40 #[.val (.int xx), .val (.int c0), .val (.int c1), .val (.int ln), .unset] [(.int ln)]))
    refine own_go (fun tq kq => XS.iconst X0.here hx rfl (hb hby own_d0_40) kq) ?_
    show own_Rn p e below _ (s₁.setTop (mkF m 41 #[.val (.int xx), .val (.int c0), .val (.int c1), .val (.int ln), .unset] [(.int (1 : Int32)), (.int ln)]))
    by_cases hc19 : ln = (1 : Int32)
    · skip
      refine own_go (fun tq kq => XS.icmpNo X0.here hx rfl (hb hby own_d0_41) rfl (teq (hc19 : ln = (1 : Int32))).2 kq) ?_
      show own_Rn p e below _ (s₁.setTop (mkF m 44 #[.val (.int xx), .val (.int c0), .val (.int c1), .val (.int ln), .unset] []))
      refine own_go (fun tq kq => XS.iloadN X0.here hx rfl (hb hby own_d0_44) rfl kq) ?_
      show own_Rn p e below _ (s₁.setTop (mkF m 45 #[.val (.int xx), .val (.int c0), .val (.int c1), .val (.int ln), .unset] [(.int c0)]))
      have Zn20 : n0 ≤ h0.size := by omega
      obtain ⟨rv20, _, ⟨T20, L20, k20, n20⟩, -, X20, ⟨Lc20, hQ20, l20, y20, z20⟩, st20⟩ := Jvm.LawKit.callS X0 hx (y := (⟨"java/lang/String", "valueOf", "(C)Ljava/lang/String;"⟩ : MethodName)) hown (mvT hZ (hw _ (own_mi 110 rfl))) (mvT hZ (hw _ (own_mi 111 rfl))) (mvT hZ (hw _ (own_mi 6 rfl))) (mvT hZ (hw _ (own_mi 112 rfl))) (by decide) (backOf (W := 0) (rmVal l Z a0 hw [] (c0) (G1) h0 n0 Zn20 (rc0) (O2) (P5) X00) hZ (hw _ (own_mi 112 rfl)) (hw _ (own_mi 6 rfl)) (by decide) (by decide)) (g := (mkF m 45 #[.val (.int xx), .val (.int c0), .val (.int c1), .val (.int ln), .unset] [(.int c0)])) rfl (by rw [hml]; rfl) (argsL := [(.int c0)]) (rest := []) (lenOf own_pd_28C29Ljava2flang2fString3b rfl) rfl (by show 2 * 0 + _ ≤ _; exact Nat.le_of_eq rfl) (hb hby own_d0_45) (fun _ _ => ⟨rfl, e0, (by decide : 0 + 2 ≤ _), (by decide : 0 + 5 ≤ _)⟩)
      dsimp only [Pt.U, Pt.locs, Pt.cells, Pt.slots] at X20 l20 y20 z20 st20 hQ20
      subst l20 y20 z20
      obtain ⟨xv, tv, kv, rfl, Nq20, Kq20, G0_20, G1_20, G2_20, G3_20, G4_20, G5_20, G6_20, G7_20⟩ := hQ20
      have N20 := Fr.app N0 Nq20
      have sz21 : h0.size ≤ T20.heap.size := Kq20.1
      have K21 := K0.trans Kq20 all0
      have cr21 : CHr Z consts_1 s.vm h0 s.vm T20.heap := CHr.keep Kq20 sf0 CR0.1
      have CR21 := CR0.trans cr21
      have sf22 : Safe Z consts_1 s.vm T20.heap xv := Safe.keep Kq20 sf0 CR0.1 (Safe.new (by omega))
      have sf23 : Safe Z consts_1 s.vm T20.heap tv := Safe.keep Kq20 sf0 CR0.1 (Safe.new (by omega))
      have lt24 : @LT.lt Nat _ xv T20.heap.size := G4_20.lt
      have lt25 : @LT.lt Nat _ tv T20.heap.size := G7_20.lt
      refine own_go st20 ?_
      show own_Rn p e below _ (T20.setTop (mkF m 48 #[.val (.int xx), .val (.int c0), .val (.int c1), .val (.int ln), .unset] [(.ref xv)]))
      exact own_retS X20 hS0 (by omega) (v := some (.ref xv)) (fun h => by rw [Bd.returns] at h; cases h) (fun fs hr => X20.areturnOut hx rfl Bd.returns rfl (hb hby own_d0_48) hr) (⟨xv, rfl, N20, K21, G4_20⟩) (by rw [hh]; exact CR21.trans (CHv.at X20 hZ hEL CR21.1)) (by decide) (by decide)
    · skip
      refine own_go (fun tq kq => XS.icmpYes X0.here hx rfl (pc0 := 41) (pc' := 49) rfl (hb hby own_d0_41) rfl (feq (hc19 : ¬ (ln = (1 : Int32)))).2 (by decide) (by decide) kq) ?_
      show own_Rn p e below _ (s₁.setTop (mkF m 49 #[.val (.int xx), .val (.int c0), .val (.int c1), .val (.int ln), .unset] []))
      refine own_go (fun tq kq => XS.iconst X0.here hx rfl (hb hby own_d0_49) kq) ?_
      show own_Rn p e below _ (s₁.setTop (mkF m 50 #[.val (.int xx), .val (.int c0), .val (.int c1), .val (.int ln), .unset] [(.int (2 : Int32))]))
      obtain ⟨T27, h27, k27, X27, e27, E27, A27, st27⟩ := newP X0 hx hZ (hw _ (own_mi 7 rfl)) e0 (g := (mkF m 50 #[.val (.int xx), .val (.int c0), .val (.int c1), .val (.int ln), .unset] [(.int (2 : Int32))])) rfl (hb hby own_d0_50) rfl (by decide) (cap := 2) (by decide) (by decide) (by decide) (by decide)
      obtain ⟨b27, g27⟩ : ∃ z, z = h0.size := ⟨_, rfl⟩
      rw [← g27] at A27 st27
      refine own_go st27 ?_
      have sz28 : h0.size ≤ h27.size := E27.1
      have K28 := K0.ext E27
      have cr28 : CHr Z consts_1 s.vm h0 s.vm h27 := CHr.ext E27 CR0.1
      have CR28 := CR0.trans cr28
      have gn27 : n0 ≤ b27 := by omega
      have V27 : Arv Z h27 b27 k27 .char (2 : Int32) [(.int (0 : Int32)), (.int (0 : Int32))] (.int (0 : Int32)) := (Arv.new A27 (by decide)).pad (pad_rep [] _ 2)
      have lt29 : @LT.lt Nat _ b27 h27.size := V27.lt
      show own_Rn p e below _ (T27.setTop (mkF m 52 #[.val (.int xx), .val (.int c0), .val (.int c1), .val (.int ln), .unset] [(.ref b27)]))
      refine own_go (fun tq kq => XS.astore X27.here hx rfl (hb hby own_d0_52) rfl rfl (l' := #[.val (.int xx), .val (.int c0), .val (.int c1), .val (.int ln), .val (.ref b27)]) rfl kq) ?_
      show own_Rn p e below _ (T27.setTop (mkF m 54 #[.val (.int xx), .val (.int c0), .val (.int c1), .val (.int ln), .val (.ref b27)] []))
      refine own_go (fun tq kq => XS.aload X27.here hx rfl (hb hby own_d0_54) rfl rfl kq) ?_
      show own_Rn p e below _ (T27.setTop (mkF m 56 #[.val (.int xx), .val (.int c0), .val (.int c1), .val (.int ln), .val (.ref b27)] [(.ref b27)]))
      refine own_go (fun tq kq => XS.iconst X27.here hx rfl (hb hby own_d0_56) kq) ?_
      show own_Rn p e below _ (T27.setTop (mkF m 57 #[.val (.int xx), .val (.int c0), .val (.int c1), .val (.int ln), .val (.ref b27)] [(.int (0 : Int32)), (.ref b27)]))
      refine own_go (fun tq kq => XS.iloadN X27.here hx rfl (hb hby own_d0_57) rfl kq) ?_
      show own_Rn p e below _ (T27.setTop (mkF m 58 #[.val (.int xx), .val (.int c0), .val (.int c1), .val (.int ln), .val (.ref b27)] [(.int c0), (.int (0 : Int32)), (.ref b27)]))
      obtain ⟨cl30, Ar30, q30, Sz30, Nn30, Hs30, G30⟩ := id V27
      obtain ⟨T30, h30, X30, e30, W30, st30⟩ := stC X27 hx hZ e27 Ar30 (j := (0 : Int32)) (inb_of Sz30 ⟨by decide, by decide⟩) (g := (mkF m 58 #[.val (.int xx), .val (.int c0), .val (.int c1), .val (.int ln), .val (.ref b27)] [(.int c0), (.int (0 : Int32)), (.ref b27)])) rfl rfl (hb hby own_d0_58)
      rw [nc0] at W30
      refine own_go st30 ?_
      have V30 : Arv Z h30 b27 k27 .char (2 : Int32) [(.int c0), (.int (0 : Int32))] (.int (0 : Int32)) := Arv.set Ar30 q30 Sz30 Nn30 Hs30 G30 (by rw [← nc0]; exact fits_nar_char _) W30 0 rfl (Nat.le_of_ble_eq_true rfl)
      have N30 := Fr.snoc X30 N0 gn27
      have sf31 : Safe Z consts_1 s.vm h27 b27 := Safe.arv hZ.alike V27 (by decide)
      have sz32 : h27.size ≤ h30.size := Nat.le_of_eq (Wr.size W30).symm
      have K32 := K28.wr W30 (Or.inr (by omega))
      have cr32 : CHr Z consts_1 s.vm h27 s.vm h30 := CHr.wr W30 sf31 CR28.1
      have CR32 := CR28.trans cr32
      show own_Rn p e below _ (T30.setTop (mkF m 59 #[.val (.int xx), .val (.int c0), .val (.int c1), .val (.int ln), .val (.ref b27)] []))
      refine own_go (fun tq kq => XS.aload X30.here hx rfl (hb hby own_d0_59) rfl rfl kq) ?_
      show own_Rn p e below _ (T30.setTop (mkF m 61 #[.val (.int xx), .val (.int c0), .val (.int c1), .val (.int ln), .val (.ref b27)] [(.ref b27)]))
      refine own_go (fun tq kq => XS.iconst X30.here hx rfl (hb hby own_d0_61) kq) ?_
      show own_Rn p e below _ (T30.setTop (mkF m 62 #[.val (.int xx), .val (.int c0), .val (.int c1), .val (.int ln), .val (.ref b27)] [(.int (1 : Int32)), (.ref b27)]))
      refine own_go (fun tq kq => XS.iloadN X30.here hx rfl (hb hby own_d0_62) rfl kq) ?_
      show own_Rn p e below _ (T30.setTop (mkF m 63 #[.val (.int xx), .val (.int c0), .val (.int c1), .val (.int ln), .val (.ref b27)] [(.int c1), (.int (1 : Int32)), (.ref b27)]))
      obtain ⟨cl33, Ar33, q33, Sz33, Nn33, Hs33, G33⟩ := id V30
      obtain ⟨T33, h33, X33, e33, W33, st33⟩ := stC X30 hx hZ e30 Ar33 (j := (1 : Int32)) (inb_of Sz33 ⟨by decide, by decide⟩) (g := (mkF m 63 #[.val (.int xx), .val (.int c0), .val (.int c1), .val (.int ln), .val (.ref b27)] [(.int c1), (.int (1 : Int32)), (.ref b27)])) rfl rfl (hb hby own_d0_63)
      rw [nc1] at W33
      refine own_go st33 ?_
      have V33 : Arv Z h33 b27 k27 .char (2 : Int32) [(.int c0), (.int c1)] (.int (0 : Int32)) := Arv.set Ar33 q33 Sz33 Nn33 Hs33 G33 (by rw [← nc1]; exact fits_nar_char _) W33 1 rfl (Nat.le_of_ble_eq_true rfl)
      have N33 := Fr.snoc X33 N30 gn27
      have sf34 : Safe Z consts_1 s.vm h30 b27 := Safe.arv hZ.alike V30 (by decide)
      have sz35 : h30.size ≤ h33.size := Nat.le_of_eq (Wr.size W33).symm
      have K35 := K32.wr W33 (Or.inr (by omega))
      have cr35 : CHr Z consts_1 s.vm h30 s.vm h33 := CHr.wr W33 sf34 CR32.1
      have CR35 := CR32.trans cr35
      show own_Rn p e below _ (T33.setTop (mkF m 64 #[.val (.int xx), .val (.int c0), .val (.int c1), .val (.int ln), .val (.ref b27)] []))
      obtain ⟨T36, h36, X36, e36, E36, A36, D36, -, st36⟩ := newO X33 hx hZ hown (hw _ (own_mi 4 rfl)) (hw _ (own_mi 5 rfl)) (hw _ (own_mi 6 rfl)) e33 (g := (mkF m 64 #[.val (.int xx), .val (.int c0), .val (.int c1), .val (.int ln), .val (.ref b27)] [])) rfl (hb hby own_d0_64) (by decide) (by decide)
      obtain ⟨b36, g36⟩ : ∃ z, z = h33.size := ⟨_, rfl⟩
      rw [← g36] at A36 D36 st36
      refine own_go st36 ?_
      have sz37 : h33.size ≤ h36.size := E36.1
      have K37 := K35.ext E36
      have cr37 : CHr Z consts_1 s.vm h33 s.vm h36 := CHr.ext E36 CR35.1
      have CR37 := CR35.trans cr37
      have sf38 : Safe Z consts_1 s.vm h36 b36 := Safe.ext E36 CR35.1 (Safe.new (by omega))
      have lt39 : @LT.lt Nat _ b36 h36.size := A36.lt
      have gn36 : n0 ≤ b36 := by omega
      have D36_value : Fld Z h36 b36 "java/lang/String" "value" "[B" .null := D36 (Or.inr (hw _ (own_mi 20 rfl))) (ty := (.array .byte)) own_fd_5bB
      have D36_coder : Fld Z h36 b36 "java/lang/String" "coder" "B" (.int (0 : Int32)) := D36 (Or.inr (hw _ (own_mi 21 rfl))) (ty := .byte) own_fd_B
      show own_Rn p e below _ (T36.setTop (mkF m 67 #[.val (.int xx), .val (.int c0), .val (.int c1), .val (.int ln), .val (.ref b27)] [(.ref b36)]))
      refine own_go (fun tq kq => XS.dup X36.here hx rfl (hb hby own_d0_67) rfl rfl kq) ?_
      show own_Rn p e below _ (T36.setTop (mkF m 68 #[.val (.int xx), .val (.int c0), .val (.int c1), .val (.int ln), .val (.ref b27)] [(.ref b36), (.ref b36)]))
      refine own_go (fun tq kq => XS.aload X36.here hx rfl (hb hby own_d0_68) rfl rfl kq) ?_
      show own_Rn p e below _ (T36.setTop (mkF m 70 #[.val (.int xx), .val (.int c0), .val (.int c1), .val (.int ln), .val (.ref b27)] [(.ref b27), (.ref b36), (.ref b36)]))
      have hp40 : ∀ c ∈ ([c0, c1] : List Int32), ¬ c < 0 ∧ ¬ (255 : Int32) < c := by
        intro c hc
        simp only [List.mem_cons, List.not_mem_nil, or_false] at hc
        rcases hc with rfl | rfl
        · exact rc0
        · exact rc1
      have F41 : Arv Z h36 b27 k27 .char (2 : Int32) [(.int c0), (.int c1)] (.int (0 : Int32)) := (V33.ext E36)
      have F42 : Old Z n0 h36 := ((((X00.ext E27).wr W30 gn27).wr W33 gn27).ext E36)
      have Zs40 : n0 ≤ h36.size := by omega
      obtain ⟨rv43, _, ⟨T43, L43, k43, n43⟩, -, X43, ⟨Lc43, hQ43, l43, y43, z43⟩, st43⟩ := X36.specialBack hx (y := (⟨"java/lang/String", "<init>", "([C)V"⟩ : MethodName)) rfl hown (mvT hZ (hw _ (own_mi 8 rfl))) (mvT hZ (hw _ (own_mi 9 rfl))) (mvT hZ (hw _ (own_mi 10 rfl))) (by decide) (StrChars.Road.backV (W := 1) hZ hws (kI := 4) (hw _ (own_mi 5 rfl)) (cs := [c0, c1]) (bs := ([c0, c1] : List Int32).map (fun c => c.toInt8.toInt32)) (n := 2) gn36 Zs40 A36 D36_value D36_coder F41 (O2.ext F42.2) P5 rfl rfl (by decide) (by decide) hp40 rfl (by decide) (by decide)) (g := (mkF m 70 #[.val (.int xx), .val (.int c0), .val (.int c1), .val (.int ln), .val (.ref b27)] [(.ref b27), (.ref b36), (.ref b36)])) rfl (by rw [hml]; rfl) (Steps.refl _) (a := b36) (argsL := [(.ref b27)]) (rest := [(.ref b36)]) (lenOf own_pd_285bC29V rfl) rfl (by show 2 * 0 + _ ≤ _; exact Nat.le_of_eq rfl) (hb hby own_d0_70) (fun _ _ => ⟨rfl, e36, (by decide : 2 + 1 ≤ _), (by decide : 6 + 2 ≤ _)⟩)
      dsimp only [Pt.U, Pt.locs, Pt.cells, Pt.slots] at X43 l43 y43 z43 st43 hQ43
      subst l43 y43 z43
      obtain ⟨rfl, Nq43, Kq43, Ex43, Co43, t40, kb40, gt43, hs43, nt43, Va43, Ab43⟩ := hQ43
      have N43 := Fr.app N33 Nq43
      have sz45 : h36.size ≤ T43.heap.size := Kq43.1
      have K45 := K37.trans Kq43 (allS (Or.inr (by omega)) all0)
      have cr45 : CHr Z consts_1 s.vm h36 s.vm T43.heap := CHr.keep Kq43 (sfS sf38 sf0) CR37.1
      have CR45 := CR37.trans cr45
      have sf46 : Safe Z consts_1 s.vm T43.heap t40 := Safe.keep Kq43 (sfS sf38 sf0) CR37.1 (Safe.new (by omega))
      have lt47 : @LT.lt Nat _ t40 T43.heap.size := Ab43.lt
      refine own_go (fun tq kq => st43.trans kq) ?_
      show own_Rn p e below _ (T43.setTop (mkF m 73 #[.val (.int xx), .val (.int c0), .val (.int c1), .val (.int ln), .val (.ref b27)] [(.ref b36)]))
      have hpL40 := hp40
      exact own_retS X43 hS0 (by omega) (v := some (.ref b36)) (fun h => by rw [Bd.returns] at h; cases h) (fun fs hr => X43.areturnOut hx rfl Bd.returns rfl (hb hby own_d0_73) hr) (⟨b36, rfl, N43, K45, Ex43⟩) (by rw [hh]; exact CR45.trans (CHv.at X43 hZ hEL CR45.1)) (by decide) (by decide)
theorem own_ef_rmPI (m : MethodId) (o : Addr) (k : Addr) (a : Addr) (b : Addr) (d : Addr) : entryFrame m #[(.ref o), (.ref k), (.ref a), (.ref b), (.int (1 : Int32)), (.int (1 : Int32)), (.int (0 : Int32)), (.int (0 : Int32)), (.ref d)] 9 = mkF m 0 #[.val (.ref o), .val (.ref k), .val (.ref a), .val (.ref b), .val (.int (1 : Int32)), .val (.int (1 : Int32)), .val (.int (0 : Int32)), .val (.int (0 : Int32)), .val (.ref d)] [] := by first | (simp [entryFrame, mkF, argsToLocals, Value.category]; done) | rfl
theorem own_pn_com_example_elodea_elodea_cli_Parameter : plainName "com/example/elodea/elodea/cli/Parameter" = true := by first | (simp [plainName, overriddenIn]; done) | decide +kernel
theorem own_d5_0 : decode prog_4_method_1_code 0 = .ok (.aload_n 0, 1) := by decide +kernel
theorem own_d5_1 : decode prog_4_method_1_code 1 = .ok (.invokespecial 1, 3) := by decide +kernel
theorem own_d5_4 : decode prog_4_method_1_code 4 = .ok (.aload_n 0, 1) := by decide +kernel
theorem own_d5_5 : decode prog_4_method_1_code 5 = .ok (.aload_n 1, 1) := by decide +kernel
theorem own_d5_6 : decode prog_4_method_1_code 6 = .ok (.putfield 7, 3) := by decide +kernel
theorem own_fd_Lcom2fexample2felodea2felodea2fcli2fParameter24Kind3b : parseFieldDescriptor "Lcom/example/elodea/elodea/cli/Parameter$Kind;" = some (.object "com/example/elodea/elodea/cli/Parameter$Kind") := by decide +kernel
theorem own_d5_9 : decode prog_4_method_1_code 9 = .ok (.aload_n 0, 1) := by decide +kernel
theorem own_d5_10 : decode prog_4_method_1_code 10 = .ok (.aload_n 2, 1) := by decide +kernel
theorem own_d5_11 : decode prog_4_method_1_code 11 = .ok (.putfield 13, 3) := by decide +kernel
theorem own_fd_Ljava2flang2fString3b : parseFieldDescriptor "Ljava/lang/String;" = some (.object "java/lang/String") := by decide +kernel
theorem own_d5_14 : decode prog_4_method_1_code 14 = .ok (.aload_n 0, 1) := by decide +kernel
theorem own_d5_15 : decode prog_4_method_1_code 15 = .ok (.aload_n 3, 1) := by decide +kernel
theorem own_d5_16 : decode prog_4_method_1_code 16 = .ok (.putfield 17, 3) := by decide +kernel
theorem own_d5_19 : decode prog_4_method_1_code 19 = .ok (.aload_n 0, 1) := by decide +kernel
theorem own_d5_20 : decode prog_4_method_1_code 20 = .ok (.iload 4, 2) := by decide +kernel
theorem own_d5_22 : decode prog_4_method_1_code 22 = .ok (.putfield 20, 3) := by decide +kernel
theorem own_fd_Z : parseFieldDescriptor "Z" = some .boolean := by decide +kernel
theorem own_d5_25 : decode prog_4_method_1_code 25 = .ok (.aload_n 0, 1) := by decide +kernel
theorem own_d5_26 : decode prog_4_method_1_code 26 = .ok (.iload 5, 2) := by decide +kernel
theorem own_d5_28 : decode prog_4_method_1_code 28 = .ok (.putfield 24, 3) := by decide +kernel
theorem own_fd_I : parseFieldDescriptor "I" = some .int := by decide +kernel
theorem own_d5_31 : decode prog_4_method_1_code 31 = .ok (.aload_n 0, 1) := by decide +kernel
theorem own_d5_32 : decode prog_4_method_1_code 32 = .ok (.iload 6, 2) := by decide +kernel
theorem own_d5_34 : decode prog_4_method_1_code 34 = .ok (.putfield 28, 3) := by decide +kernel
theorem own_d5_37 : decode prog_4_method_1_code 37 = .ok (.aload_n 0, 1) := by decide +kernel
theorem own_d5_38 : decode prog_4_method_1_code 38 = .ok (.iload 7, 2) := by decide +kernel
theorem own_d5_40 : decode prog_4_method_1_code 40 = .ok (.putfield 31, 3) := by decide +kernel
theorem own_d5_43 : decode prog_4_method_1_code 43 = .ok (.aload_n 0, 1) := by decide +kernel
theorem own_d5_44 : decode prog_4_method_1_code 44 = .ok (.aload 8, 2) := by decide +kernel
theorem own_d5_46 : decode prog_4_method_1_code 46 = .ok (.putfield 34, 3) := by decide +kernel
theorem own_d5_49 : decode prog_4_method_1_code 49 = .ok (.return_, 1) := by decide +kernel
def Q_rmPI (Z : State) (o : Addr) (k : Addr) (a : Addr) (b : Addr) (d : Addr) (h0 : Heap) (n0 : Nat) (vq : Option Value) (hhq : Heap) (Lq : List Loc) : Prop := vq = none ∧ Fr n0 Lq ∧ Keep h0 hhq [o] ∧ Fld Z hhq o "com/example/elodea/elodea/cli/Parameter" "kind" "Lcom/example/elodea/elodea/cli/Parameter$Kind;" (.ref k) ∧ Fld Z hhq o "com/example/elodea/elodea/cli/Parameter" "name" "Ljava/lang/String;" (.ref a) ∧ Fld Z hhq o "com/example/elodea/elodea/cli/Parameter" "placeholder" "Ljava/lang/String;" (.ref b) ∧ Fld Z hhq o "com/example/elodea/elodea/cli/Parameter" "required" "Z" (.int (1 : Int32)) ∧ Fld Z hhq o "com/example/elodea/elodea/cli/Parameter" "least" "I" (.int (1 : Int32)) ∧ Fld Z hhq o "com/example/elodea/elodea/cli/Parameter" "repeated" "Z" (.int (0 : Int32)) ∧ Fld Z hhq o "com/example/elodea/elodea/cli/Parameter" "standIn" "Z" (.int (0 : Int32)) ∧ Fld Z hhq o "com/example/elodea/elodea/cli/Parameter" "description" "Ljava/lang/String;" (.ref d)
set_option maxRecDepth 65536 in
set_option maxHeartbeats 40000000 in
theorem rmPI (l : Launch) (Z : State) (a0 : Array Value) (hw : ∀ d ∈ tables_1, d.before a0 Z = true) (ws : List Jvm.Cond) (o : Addr) (k : Addr) (a : Addr) (b : Addr) (d : Addr) (h0 : Heap) (n0 : Nat) (Z0 : n0 ≤ h0.size) (Pm0 : Exa Z h0 o "com/example/elodea/elodea/cli/Parameter") (Pm1 : n0 ≤ o) (Pm2 : Fld Z h0 o "com/example/elodea/elodea/cli/Parameter" "kind" "Lcom/example/elodea/elodea/cli/Parameter$Kind;" .null) (Pm3 : Fld Z h0 o "com/example/elodea/elodea/cli/Parameter" "name" "Ljava/lang/String;" .null) (Pm4 : Fld Z h0 o "com/example/elodea/elodea/cli/Parameter" "placeholder" "Ljava/lang/String;" .null) (Pm5 : Fld Z h0 o "com/example/elodea/elodea/cli/Parameter" "required" "Z" (.int (0 : Int32))) (Pm6 : Fld Z h0 o "com/example/elodea/elodea/cli/Parameter" "least" "I" (.int (0 : Int32))) (Pm7 : Fld Z h0 o "com/example/elodea/elodea/cli/Parameter" "repeated" "Z" (.int (0 : Int32))) (Pm8 : Fld Z h0 o "com/example/elodea/elodea/cli/Parameter" "standIn" "Z" (.int (0 : Int32))) (Pm9 : Fld Z h0 o "com/example/elodea/elodea/cli/Parameter" "description" "Ljava/lang/String;" .null) :
    MetFree l (⟨"com/example/elodea/elodea/cli/Parameter", "<init>", "(Lcom/example/elodea/elodea/cli/Parameter$Kind;Ljava/lang/String;Ljava/lang/String;ZIZZLjava/lang/String;)V"⟩ : MethodName) (head1 (Jvm.Cond.code (⟨"com/example/elodea/elodea/cli/Parameter", "<init>", "(Lcom/example/elodea/elodea/cli/Parameter$Kind;Ljava/lang/String;Ljava/lang/String;ZIZZLjava/lang/String;)V"⟩ : MethodName) prog_4_method_1_code 9 none :: ws) ({ frames := 1, cells := 0, slots := 0, locals := 12 } : Room)) (fun aq U => aq = #[(.ref o), (.ref k), (.ref a), (.ref b), (.int (1 : Int32)), (.int (1 : Int32)), (.int (0 : Int32)), (.int (0 : Int32)), (.ref d)] ∧ Z.Warmed39 U.vm ∧ U.heap = h0) (fun _ _ _ _ _ => True) (fun _ U oq U' => ∃ vq Lq, oq = .returned vq ∧ Q_rmPI Z o k a b d h0 n0 vq U'.heap Lq ∧ FrameEnd U oq U' Lq ({ frames := 1, cells := 0, slots := 0, locals := 12 } : Room).cells ({ frames := 1, cells := 0, slots := 0, locals := 12 } : Room).slots) := by
  refine MetFree.of_bodySF (plainFor_of_name own_pn_com_example_elodea_elodea_cli_Parameter) hisR ?_
  intro p e s m args below meth c s₁ Bd hml0 hP hK
  obtain ⟨rfl, hZ, hh⟩ := hP
  have hx := Bd.exec
  have hby := Bd.bytes
  have hml : c.maxLocals = 9 := hml0
  have hown : s.vm.findClass "com/example/elodea/elodea/cli/Parameter" = some m.cls := findClass_of_methodNamed Bd.named
  have hnm := (name_of_methodNamed Bd.named Bd.method).1
  have X0 : Stand p l e ({ frames := 1, cells := 0, slots := 0, locals := 12 } : Room) s m #[(.ref o), (.ref k), (.ref a), (.ref b), (.int (1 : Int32)), (.int (1 : Int32)), (.int (0 : Int32)), (.int (0 : Int32)), (.ref d)] below meth c s₁ [] 0 0 := Stand.of_body Bd
  have e0 : s₁.heap = h0 := by rw [← hh, Bd.state]; rfl
  have N0 := Fr.nil n0
  have K0 : Keep h0 h0 [o] := Keep.refl _ _
  refine own_go (S' := s₁.setTop (mkF m 0 #[.val (.ref o), .val (.ref k), .val (.ref a), .val (.ref b), .val (.int (1 : Int32)), .val (.int (1 : Int32)), .val (.int (0 : Int32)), .val (.int (0 : Int32)), .val (.ref d)] [])) (fun tq kq => castTop (own_ef_rmPI m o k a b d) kq) ?_
  have lt1 : @LT.lt Nat _ o h0.size := Pm0.lt
  refine own_go (fun tq kq => XS.aloadN X0.here hx rfl (hb hby own_d5_0) rfl rfl kq) ?_
  show own_Rn p e below _ (s₁.setTop (mkF m 1 #[.val (.ref o), .val (.ref k), .val (.ref a), .val (.ref b), .val (.int (1 : Int32)), .val (.int (1 : Int32)), .val (.int (0 : Int32)), .val (.int (0 : Int32)), .val (.ref d)] [(.ref o)]))
  obtain ⟨T2, X2, e2, st2⟩ := initO X0 hx hZ hown (hw _ (own_mi 38 rfl)) (hw _ (own_mi 16 rfl)) (hw _ (own_mi 17 rfl)) e0 (g := (mkF m 1 #[.val (.ref o), .val (.ref k), .val (.ref a), .val (.ref b), .val (.int (1 : Int32)), .val (.int (1 : Int32)), .val (.int (0 : Int32)), .val (.int (0 : Int32)), .val (.ref d)] [(.ref o)])) rfl (by rw [hml]; rfl) rfl (hb hby own_d5_1) (by decide) (W := 0) (by show 2 * 0 + _ ≤ _; exact Nat.le_of_eq rfl) (by decide)
  refine own_go st2 ?_
  show own_Rn p e below _ (T2.setTop (mkF m 4 #[.val (.ref o), .val (.ref k), .val (.ref a), .val (.ref b), .val (.int (1 : Int32)), .val (.int (1 : Int32)), .val (.int (0 : Int32)), .val (.int (0 : Int32)), .val (.ref d)] []))
  refine own_go (fun tq kq => XS.aloadN X2.here hx rfl (hb hby own_d5_4) rfl rfl kq) ?_
  show own_Rn p e below _ (T2.setTop (mkF m 5 #[.val (.ref o), .val (.ref k), .val (.ref a), .val (.ref b), .val (.int (1 : Int32)), .val (.int (1 : Int32)), .val (.int (0 : Int32)), .val (.int (0 : Int32)), .val (.ref d)] [(.ref o)]))
  refine own_go (fun tq kq => XS.aloadN X2.here hx rfl (hb hby own_d5_5) rfl rfl kq) ?_
  show own_Rn p e below _ (T2.setTop (mkF m 6 #[.val (.ref o), .val (.ref k), .val (.ref a), .val (.ref b), .val (.int (1 : Int32)), .val (.int (1 : Int32)), .val (.int (0 : Int32)), .val (.int (0 : Int32)), .val (.ref d)] [(.ref k), (.ref o)]))
  obtain ⟨T3, h3, X3, e3, W3, st3⟩ := putF X2 hx hZ hown (host := "") (Or.inl (hw _ (own_mi 39 rfl))) Via.refl e2 Pm2 Pm0 (Or.inr ⟨(hw _ (own_mi 40 rfl)), rfl, hnm⟩) (hw _ (own_mi 31 rfl)) (ty := (.object "com/example/elodea/elodea/cli/Parameter$Kind")) own_fd_Lcom2fexample2felodea2felodea2fcli2fParameter24Kind3b rfl rfl (g := (mkF m 6 #[.val (.ref o), .val (.ref k), .val (.ref a), .val (.ref b), .val (.int (1 : Int32)), .val (.int (1 : Int32)), .val (.int (0 : Int32)), .val (.int (0 : Int32)), .val (.ref d)] [(.ref k), (.ref o)])) rfl rfl (hb hby own_d5_6)
  refine own_go st3 ?_
  have N3 := Fr.snoc X3 N0 Pm1
  have Fw3 := Pm2.same W3
  have sz4 : h0.size ≤ h3.size := Nat.le_of_eq (Wr.size W3).symm
  have K4 := K0.wr W3 (Or.inl (List.mem_of_getElem? (i := 0) rfl))
  show own_Rn p e below _ (T3.setTop (mkF m 9 #[.val (.ref o), .val (.ref k), .val (.ref a), .val (.ref b), .val (.int (1 : Int32)), .val (.int (1 : Int32)), .val (.int (0 : Int32)), .val (.int (0 : Int32)), .val (.ref d)] []))
  refine own_go (fun tq kq => XS.aloadN X3.here hx rfl (hb hby own_d5_9) rfl rfl kq) ?_
  show own_Rn p e below _ (T3.setTop (mkF m 10 #[.val (.ref o), .val (.ref k), .val (.ref a), .val (.ref b), .val (.int (1 : Int32)), .val (.int (1 : Int32)), .val (.int (0 : Int32)), .val (.int (0 : Int32)), .val (.ref d)] [(.ref o)]))
  refine own_go (fun tq kq => XS.aloadN X3.here hx rfl (hb hby own_d5_10) rfl rfl kq) ?_
  show own_Rn p e below _ (T3.setTop (mkF m 11 #[.val (.ref o), .val (.ref k), .val (.ref a), .val (.ref b), .val (.int (1 : Int32)), .val (.int (1 : Int32)), .val (.int (0 : Int32)), .val (.int (0 : Int32)), .val (.ref d)] [(.ref a), (.ref o)]))
  have F5 : Fld Z h3 o "com/example/elodea/elodea/cli/Parameter" "name" "Ljava/lang/String;" .null := (Pm3.other W3 (Or.inr (slot_ne (Or.inr (hw _ (own_mi 42 rfl))) (Or.inr (hw _ (own_mi 40 rfl))) (by decide) (t := (.object "java/lang/String")) (t' := (.object "com/example/elodea/elodea/cli/Parameter$Kind")) own_fd_Ljava2flang2fString3b own_fd_Lcom2fexample2felodea2felodea2fcli2fParameter24Kind3b)))
  have F6 : Exa Z h3 o "com/example/elodea/elodea/cli/Parameter" := (Pm0.wr W3)
  obtain ⟨T7, h7, X7, e7, W7, st7⟩ := putF X3 hx hZ hown (host := "") (Or.inl (hw _ (own_mi 41 rfl))) Via.refl e3 F5 F6 (Or.inr ⟨(hw _ (own_mi 42 rfl)), rfl, hnm⟩) (hw _ (own_mi 31 rfl)) (ty := (.object "java/lang/String")) own_fd_Ljava2flang2fString3b rfl rfl (g := (mkF m 11 #[.val (.ref o), .val (.ref k), .val (.ref a), .val (.ref b), .val (.int (1 : Int32)), .val (.int (1 : Int32)), .val (.int (0 : Int32)), .val (.int (0 : Int32)), .val (.ref d)] [(.ref a), (.ref o)])) rfl rfl (hb hby own_d5_11)
  refine own_go st7 ?_
  have N7 := Fr.snoc X7 N3 Pm1
  have Fw7 := F5.same W7
  have sz8 : h3.size ≤ h7.size := Nat.le_of_eq (Wr.size W7).symm
  have K8 := K4.wr W7 (Or.inl (List.mem_of_getElem? (i := 0) rfl))
  show own_Rn p e below _ (T7.setTop (mkF m 14 #[.val (.ref o), .val (.ref k), .val (.ref a), .val (.ref b), .val (.int (1 : Int32)), .val (.int (1 : Int32)), .val (.int (0 : Int32)), .val (.int (0 : Int32)), .val (.ref d)] []))
  refine own_go (fun tq kq => XS.aloadN X7.here hx rfl (hb hby own_d5_14) rfl rfl kq) ?_
  show own_Rn p e below _ (T7.setTop (mkF m 15 #[.val (.ref o), .val (.ref k), .val (.ref a), .val (.ref b), .val (.int (1 : Int32)), .val (.int (1 : Int32)), .val (.int (0 : Int32)), .val (.int (0 : Int32)), .val (.ref d)] [(.ref o)]))
  refine own_go (fun tq kq => XS.aloadN X7.here hx rfl (hb hby own_d5_15) rfl rfl kq) ?_
  show own_Rn p e below _ (T7.setTop (mkF m 16 #[.val (.ref o), .val (.ref k), .val (.ref a), .val (.ref b), .val (.int (1 : Int32)), .val (.int (1 : Int32)), .val (.int (0 : Int32)), .val (.int (0 : Int32)), .val (.ref d)] [(.ref b), (.ref o)]))
  have F9 : Fld Z h7 o "com/example/elodea/elodea/cli/Parameter" "placeholder" "Ljava/lang/String;" .null := ((Pm4.other W3 (Or.inr (slot_ne (Or.inr (hw _ (own_mi 44 rfl))) (Or.inr (hw _ (own_mi 40 rfl))) (by decide) (t := (.object "java/lang/String")) (t' := (.object "com/example/elodea/elodea/cli/Parameter$Kind")) own_fd_Ljava2flang2fString3b own_fd_Lcom2fexample2felodea2felodea2fcli2fParameter24Kind3b))).other W7 (Or.inr (slot_ne (Or.inr (hw _ (own_mi 44 rfl))) (Or.inr (hw _ (own_mi 42 rfl))) (by decide) (t := (.object "java/lang/String")) (t' := (.object "java/lang/String")) own_fd_Ljava2flang2fString3b own_fd_Ljava2flang2fString3b)))
  have F10 : Exa Z h7 o "com/example/elodea/elodea/cli/Parameter" := (F6.wr W7)
  obtain ⟨T11, h11, X11, e11, W11, st11⟩ := putF X7 hx hZ hown (host := "") (Or.inl (hw _ (own_mi 43 rfl))) Via.refl e7 F9 F10 (Or.inr ⟨(hw _ (own_mi 44 rfl)), rfl, hnm⟩) (hw _ (own_mi 31 rfl)) (ty := (.object "java/lang/String")) own_fd_Ljava2flang2fString3b rfl rfl (g := (mkF m 16 #[.val (.ref o), .val (.ref k), .val (.ref a), .val (.ref b), .val (.int (1 : Int32)), .val (.int (1 : Int32)), .val (.int (0 : Int32)), .val (.int (0 : Int32)), .val (.ref d)] [(.ref b), (.ref o)])) rfl rfl (hb hby own_d5_16)
  refine own_go st11 ?_
  have N11 := Fr.snoc X11 N7 Pm1
  have Fw11 := F9.same W11
  have sz12 : h7.size ≤ h11.size := Nat.le_of_eq (Wr.size W11).symm
  have K12 := K8.wr W11 (Or.inl (List.mem_of_getElem? (i := 0) rfl))
  show own_Rn p e below _ (T11.setTop (mkF m 19 #[.val (.ref o), .val (.ref k), .val (.ref a), .val (.ref b), .val (.int (1 : Int32)), .val (.int (1 : Int32)), .val (.int (0 : Int32)), .val (.int (0 : Int32)), .val (.ref d)] []))
  refine own_go (fun tq kq => XS.aloadN X11.here hx rfl (hb hby own_d5_19) rfl rfl kq) ?_
  show own_Rn p e below _ (T11.setTop (mkF m 20 #[.val (.ref o), .val (.ref k), .val (.ref a), .val (.ref b), .val (.int (1 : Int32)), .val (.int (1 : Int32)), .val (.int (0 : Int32)), .val (.int (0 : Int32)), .val (.ref d)] [(.ref o)]))
  refine own_go (fun tq kq => XS.iload X11.here hx rfl (hb hby own_d5_20) rfl kq) ?_
  show own_Rn p e below _ (T11.setTop (mkF m 22 #[.val (.ref o), .val (.ref k), .val (.ref a), .val (.ref b), .val (.int (1 : Int32)), .val (.int (1 : Int32)), .val (.int (0 : Int32)), .val (.int (0 : Int32)), .val (.ref d)] [(.int (1 : Int32)), (.ref o)]))
  have F13 : Fld Z h11 o "com/example/elodea/elodea/cli/Parameter" "required" "Z" (.int (0 : Int32)) := (((Pm5.other W3 (Or.inr (slot_ne (Or.inr (hw _ (own_mi 46 rfl))) (Or.inr (hw _ (own_mi 40 rfl))) (by decide) (t := .boolean) (t' := (.object "com/example/elodea/elodea/cli/Parameter$Kind")) own_fd_Z own_fd_Lcom2fexample2felodea2felodea2fcli2fParameter24Kind3b))).other W7 (Or.inr (slot_ne (Or.inr (hw _ (own_mi 46 rfl))) (Or.inr (hw _ (own_mi 42 rfl))) (by decide) (t := .boolean) (t' := (.object "java/lang/String")) own_fd_Z own_fd_Ljava2flang2fString3b))).other W11 (Or.inr (slot_ne (Or.inr (hw _ (own_mi 46 rfl))) (Or.inr (hw _ (own_mi 44 rfl))) (by decide) (t := .boolean) (t' := (.object "java/lang/String")) own_fd_Z own_fd_Ljava2flang2fString3b)))
  have F14 : Exa Z h11 o "com/example/elodea/elodea/cli/Parameter" := (F10.wr W11)
  obtain ⟨T15, h15, X15, e15, W15, st15⟩ := putFN X11 hx hZ hown (hw _ (own_mi 45 rfl)) Via.refl e11 F13 F14 (Or.inr ⟨(hw _ (own_mi 46 rfl)), rfl, hnm⟩) (hw _ (own_mi 31 rfl)) (ty := .boolean) (v' := (.int ((1 : Int32)))) own_fd_Z rfl (by decide) (g := (mkF m 22 #[.val (.ref o), .val (.ref k), .val (.ref a), .val (.ref b), .val (.int (1 : Int32)), .val (.int (1 : Int32)), .val (.int (0 : Int32)), .val (.int (0 : Int32)), .val (.ref d)] [(.int (1 : Int32)), (.ref o)])) rfl rfl (hb hby own_d5_22)
  refine own_go st15 ?_
  have N15 := Fr.snoc X15 N11 Pm1
  have Fw15 := F13.same W15
  have sz16 : h11.size ≤ h15.size := Nat.le_of_eq (Wr.size W15).symm
  have K16 := K12.wr W15 (Or.inl (List.mem_of_getElem? (i := 0) rfl))
  show own_Rn p e below _ (T15.setTop (mkF m 25 #[.val (.ref o), .val (.ref k), .val (.ref a), .val (.ref b), .val (.int (1 : Int32)), .val (.int (1 : Int32)), .val (.int (0 : Int32)), .val (.int (0 : Int32)), .val (.ref d)] []))
  refine own_go (fun tq kq => XS.aloadN X15.here hx rfl (hb hby own_d5_25) rfl rfl kq) ?_
  show own_Rn p e below _ (T15.setTop (mkF m 26 #[.val (.ref o), .val (.ref k), .val (.ref a), .val (.ref b), .val (.int (1 : Int32)), .val (.int (1 : Int32)), .val (.int (0 : Int32)), .val (.int (0 : Int32)), .val (.ref d)] [(.ref o)]))
  refine own_go (fun tq kq => XS.iload X15.here hx rfl (hb hby own_d5_26) rfl kq) ?_
  show own_Rn p e below _ (T15.setTop (mkF m 28 #[.val (.ref o), .val (.ref k), .val (.ref a), .val (.ref b), .val (.int (1 : Int32)), .val (.int (1 : Int32)), .val (.int (0 : Int32)), .val (.int (0 : Int32)), .val (.ref d)] [(.int (1 : Int32)), (.ref o)]))
  have F17 : Fld Z h15 o "com/example/elodea/elodea/cli/Parameter" "least" "I" (.int (0 : Int32)) := ((((Pm6.other W3 (Or.inr (slot_ne (Or.inr (hw _ (own_mi 48 rfl))) (Or.inr (hw _ (own_mi 40 rfl))) (by decide) (t := .int) (t' := (.object "com/example/elodea/elodea/cli/Parameter$Kind")) own_fd_I own_fd_Lcom2fexample2felodea2felodea2fcli2fParameter24Kind3b))).other W7 (Or.inr (slot_ne (Or.inr (hw _ (own_mi 48 rfl))) (Or.inr (hw _ (own_mi 42 rfl))) (by decide) (t := .int) (t' := (.object "java/lang/String")) own_fd_I own_fd_Ljava2flang2fString3b))).other W11 (Or.inr (slot_ne (Or.inr (hw _ (own_mi 48 rfl))) (Or.inr (hw _ (own_mi 44 rfl))) (by decide) (t := .int) (t' := (.object "java/lang/String")) own_fd_I own_fd_Ljava2flang2fString3b))).other W15 (Or.inr (slot_ne (Or.inr (hw _ (own_mi 48 rfl))) (Or.inr (hw _ (own_mi 46 rfl))) (by decide) (t := .int) (t' := .boolean) own_fd_I own_fd_Z)))
  have F18 : Exa Z h15 o "com/example/elodea/elodea/cli/Parameter" := (F14.wr W15)
  obtain ⟨T19, h19, X19, e19, W19, st19⟩ := putF X15 hx hZ hown (host := "") (Or.inl (hw _ (own_mi 47 rfl))) Via.refl e15 F17 F18 (Or.inr ⟨(hw _ (own_mi 48 rfl)), rfl, hnm⟩) (hw _ (own_mi 31 rfl)) (ty := .int) own_fd_I rfl rfl (g := (mkF m 28 #[.val (.ref o), .val (.ref k), .val (.ref a), .val (.ref b), .val (.int (1 : Int32)), .val (.int (1 : Int32)), .val (.int (0 : Int32)), .val (.int (0 : Int32)), .val (.ref d)] [(.int (1 : Int32)), (.ref o)])) rfl rfl (hb hby own_d5_28)
  refine own_go st19 ?_
  have N19 := Fr.snoc X19 N15 Pm1
  have Fw19 := F17.same W19
  have sz20 : h15.size ≤ h19.size := Nat.le_of_eq (Wr.size W19).symm
  have K20 := K16.wr W19 (Or.inl (List.mem_of_getElem? (i := 0) rfl))
  show own_Rn p e below _ (T19.setTop (mkF m 31 #[.val (.ref o), .val (.ref k), .val (.ref a), .val (.ref b), .val (.int (1 : Int32)), .val (.int (1 : Int32)), .val (.int (0 : Int32)), .val (.int (0 : Int32)), .val (.ref d)] []))
  refine own_go (fun tq kq => XS.aloadN X19.here hx rfl (hb hby own_d5_31) rfl rfl kq) ?_
  show own_Rn p e below _ (T19.setTop (mkF m 32 #[.val (.ref o), .val (.ref k), .val (.ref a), .val (.ref b), .val (.int (1 : Int32)), .val (.int (1 : Int32)), .val (.int (0 : Int32)), .val (.int (0 : Int32)), .val (.ref d)] [(.ref o)]))
  refine own_go (fun tq kq => XS.iload X19.here hx rfl (hb hby own_d5_32) rfl kq) ?_
  show own_Rn p e below _ (T19.setTop (mkF m 34 #[.val (.ref o), .val (.ref k), .val (.ref a), .val (.ref b), .val (.int (1 : Int32)), .val (.int (1 : Int32)), .val (.int (0 : Int32)), .val (.int (0 : Int32)), .val (.ref d)] [(.int (0 : Int32)), (.ref o)]))
  have F21 : Fld Z h19 o "com/example/elodea/elodea/cli/Parameter" "repeated" "Z" (.int (0 : Int32)) := (((((Pm7.other W3 (Or.inr (slot_ne (Or.inr (hw _ (own_mi 50 rfl))) (Or.inr (hw _ (own_mi 40 rfl))) (by decide) (t := .boolean) (t' := (.object "com/example/elodea/elodea/cli/Parameter$Kind")) own_fd_Z own_fd_Lcom2fexample2felodea2felodea2fcli2fParameter24Kind3b))).other W7 (Or.inr (slot_ne (Or.inr (hw _ (own_mi 50 rfl))) (Or.inr (hw _ (own_mi 42 rfl))) (by decide) (t := .boolean) (t' := (.object "java/lang/String")) own_fd_Z own_fd_Ljava2flang2fString3b))).other W11 (Or.inr (slot_ne (Or.inr (hw _ (own_mi 50 rfl))) (Or.inr (hw _ (own_mi 44 rfl))) (by decide) (t := .boolean) (t' := (.object "java/lang/String")) own_fd_Z own_fd_Ljava2flang2fString3b))).other W15 (Or.inr (slot_ne (Or.inr (hw _ (own_mi 50 rfl))) (Or.inr (hw _ (own_mi 46 rfl))) (by decide) (t := .boolean) (t' := .boolean) own_fd_Z own_fd_Z))).other W19 (Or.inr (slot_ne (Or.inr (hw _ (own_mi 50 rfl))) (Or.inr (hw _ (own_mi 48 rfl))) (by decide) (t := .boolean) (t' := .int) own_fd_Z own_fd_I)))
  have F22 : Exa Z h19 o "com/example/elodea/elodea/cli/Parameter" := (F18.wr W19)
  obtain ⟨T23, h23, X23, e23, W23, st23⟩ := putFN X19 hx hZ hown (hw _ (own_mi 49 rfl)) Via.refl e19 F21 F22 (Or.inr ⟨(hw _ (own_mi 50 rfl)), rfl, hnm⟩) (hw _ (own_mi 31 rfl)) (ty := .boolean) (v' := (.int ((0 : Int32)))) own_fd_Z rfl (by decide) (g := (mkF m 34 #[.val (.ref o), .val (.ref k), .val (.ref a), .val (.ref b), .val (.int (1 : Int32)), .val (.int (1 : Int32)), .val (.int (0 : Int32)), .val (.int (0 : Int32)), .val (.ref d)] [(.int (0 : Int32)), (.ref o)])) rfl rfl (hb hby own_d5_34)
  refine own_go st23 ?_
  have N23 := Fr.snoc X23 N19 Pm1
  have Fw23 := F21.same W23
  have sz24 : h19.size ≤ h23.size := Nat.le_of_eq (Wr.size W23).symm
  have K24 := K20.wr W23 (Or.inl (List.mem_of_getElem? (i := 0) rfl))
  show own_Rn p e below _ (T23.setTop (mkF m 37 #[.val (.ref o), .val (.ref k), .val (.ref a), .val (.ref b), .val (.int (1 : Int32)), .val (.int (1 : Int32)), .val (.int (0 : Int32)), .val (.int (0 : Int32)), .val (.ref d)] []))
  refine own_go (fun tq kq => XS.aloadN X23.here hx rfl (hb hby own_d5_37) rfl rfl kq) ?_
  show own_Rn p e below _ (T23.setTop (mkF m 38 #[.val (.ref o), .val (.ref k), .val (.ref a), .val (.ref b), .val (.int (1 : Int32)), .val (.int (1 : Int32)), .val (.int (0 : Int32)), .val (.int (0 : Int32)), .val (.ref d)] [(.ref o)]))
  refine own_go (fun tq kq => XS.iload X23.here hx rfl (hb hby own_d5_38) rfl kq) ?_
  show own_Rn p e below _ (T23.setTop (mkF m 40 #[.val (.ref o), .val (.ref k), .val (.ref a), .val (.ref b), .val (.int (1 : Int32)), .val (.int (1 : Int32)), .val (.int (0 : Int32)), .val (.int (0 : Int32)), .val (.ref d)] [(.int (0 : Int32)), (.ref o)]))
  have F25 : Fld Z h23 o "com/example/elodea/elodea/cli/Parameter" "standIn" "Z" (.int (0 : Int32)) := ((((((Pm8.other W3 (Or.inr (slot_ne (Or.inr (hw _ (own_mi 52 rfl))) (Or.inr (hw _ (own_mi 40 rfl))) (by decide) (t := .boolean) (t' := (.object "com/example/elodea/elodea/cli/Parameter$Kind")) own_fd_Z own_fd_Lcom2fexample2felodea2felodea2fcli2fParameter24Kind3b))).other W7 (Or.inr (slot_ne (Or.inr (hw _ (own_mi 52 rfl))) (Or.inr (hw _ (own_mi 42 rfl))) (by decide) (t := .boolean) (t' := (.object "java/lang/String")) own_fd_Z own_fd_Ljava2flang2fString3b))).other W11 (Or.inr (slot_ne (Or.inr (hw _ (own_mi 52 rfl))) (Or.inr (hw _ (own_mi 44 rfl))) (by decide) (t := .boolean) (t' := (.object "java/lang/String")) own_fd_Z own_fd_Ljava2flang2fString3b))).other W15 (Or.inr (slot_ne (Or.inr (hw _ (own_mi 52 rfl))) (Or.inr (hw _ (own_mi 46 rfl))) (by decide) (t := .boolean) (t' := .boolean) own_fd_Z own_fd_Z))).other W19 (Or.inr (slot_ne (Or.inr (hw _ (own_mi 52 rfl))) (Or.inr (hw _ (own_mi 48 rfl))) (by decide) (t := .boolean) (t' := .int) own_fd_Z own_fd_I))).other W23 (Or.inr (slot_ne (Or.inr (hw _ (own_mi 52 rfl))) (Or.inr (hw _ (own_mi 50 rfl))) (by decide) (t := .boolean) (t' := .boolean) own_fd_Z own_fd_Z)))
  have F26 : Exa Z h23 o "com/example/elodea/elodea/cli/Parameter" := (F22.wr W23)
  obtain ⟨T27, h27, X27, e27, W27, st27⟩ := putFN X23 hx hZ hown (hw _ (own_mi 51 rfl)) Via.refl e23 F25 F26 (Or.inr ⟨(hw _ (own_mi 52 rfl)), rfl, hnm⟩) (hw _ (own_mi 31 rfl)) (ty := .boolean) (v' := (.int ((0 : Int32)))) own_fd_Z rfl (by decide) (g := (mkF m 40 #[.val (.ref o), .val (.ref k), .val (.ref a), .val (.ref b), .val (.int (1 : Int32)), .val (.int (1 : Int32)), .val (.int (0 : Int32)), .val (.int (0 : Int32)), .val (.ref d)] [(.int (0 : Int32)), (.ref o)])) rfl rfl (hb hby own_d5_40)
  refine own_go st27 ?_
  have N27 := Fr.snoc X27 N23 Pm1
  have Fw27 := F25.same W27
  have sz28 : h23.size ≤ h27.size := Nat.le_of_eq (Wr.size W27).symm
  have K28 := K24.wr W27 (Or.inl (List.mem_of_getElem? (i := 0) rfl))
  show own_Rn p e below _ (T27.setTop (mkF m 43 #[.val (.ref o), .val (.ref k), .val (.ref a), .val (.ref b), .val (.int (1 : Int32)), .val (.int (1 : Int32)), .val (.int (0 : Int32)), .val (.int (0 : Int32)), .val (.ref d)] []))
  refine own_go (fun tq kq => XS.aloadN X27.here hx rfl (hb hby own_d5_43) rfl rfl kq) ?_
  show own_Rn p e below _ (T27.setTop (mkF m 44 #[.val (.ref o), .val (.ref k), .val (.ref a), .val (.ref b), .val (.int (1 : Int32)), .val (.int (1 : Int32)), .val (.int (0 : Int32)), .val (.int (0 : Int32)), .val (.ref d)] [(.ref o)]))
  refine own_go (fun tq kq => XS.aload X27.here hx rfl (hb hby own_d5_44) rfl rfl kq) ?_
  show own_Rn p e below _ (T27.setTop (mkF m 46 #[.val (.ref o), .val (.ref k), .val (.ref a), .val (.ref b), .val (.int (1 : Int32)), .val (.int (1 : Int32)), .val (.int (0 : Int32)), .val (.int (0 : Int32)), .val (.ref d)] [(.ref d), (.ref o)]))
  have F29 : Fld Z h27 o "com/example/elodea/elodea/cli/Parameter" "description" "Ljava/lang/String;" .null := (((((((Pm9.other W3 (Or.inr (slot_ne (Or.inr (hw _ (own_mi 54 rfl))) (Or.inr (hw _ (own_mi 40 rfl))) (by decide) (t := (.object "java/lang/String")) (t' := (.object "com/example/elodea/elodea/cli/Parameter$Kind")) own_fd_Ljava2flang2fString3b own_fd_Lcom2fexample2felodea2felodea2fcli2fParameter24Kind3b))).other W7 (Or.inr (slot_ne (Or.inr (hw _ (own_mi 54 rfl))) (Or.inr (hw _ (own_mi 42 rfl))) (by decide) (t := (.object "java/lang/String")) (t' := (.object "java/lang/String")) own_fd_Ljava2flang2fString3b own_fd_Ljava2flang2fString3b))).other W11 (Or.inr (slot_ne (Or.inr (hw _ (own_mi 54 rfl))) (Or.inr (hw _ (own_mi 44 rfl))) (by decide) (t := (.object "java/lang/String")) (t' := (.object "java/lang/String")) own_fd_Ljava2flang2fString3b own_fd_Ljava2flang2fString3b))).other W15 (Or.inr (slot_ne (Or.inr (hw _ (own_mi 54 rfl))) (Or.inr (hw _ (own_mi 46 rfl))) (by decide) (t := (.object "java/lang/String")) (t' := .boolean) own_fd_Ljava2flang2fString3b own_fd_Z))).other W19 (Or.inr (slot_ne (Or.inr (hw _ (own_mi 54 rfl))) (Or.inr (hw _ (own_mi 48 rfl))) (by decide) (t := (.object "java/lang/String")) (t' := .int) own_fd_Ljava2flang2fString3b own_fd_I))).other W23 (Or.inr (slot_ne (Or.inr (hw _ (own_mi 54 rfl))) (Or.inr (hw _ (own_mi 50 rfl))) (by decide) (t := (.object "java/lang/String")) (t' := .boolean) own_fd_Ljava2flang2fString3b own_fd_Z))).other W27 (Or.inr (slot_ne (Or.inr (hw _ (own_mi 54 rfl))) (Or.inr (hw _ (own_mi 52 rfl))) (by decide) (t := (.object "java/lang/String")) (t' := .boolean) own_fd_Ljava2flang2fString3b own_fd_Z)))
  have F30 : Exa Z h27 o "com/example/elodea/elodea/cli/Parameter" := (F26.wr W27)
  obtain ⟨T31, h31, X31, e31, W31, st31⟩ := putF X27 hx hZ hown (host := "") (Or.inl (hw _ (own_mi 53 rfl))) Via.refl e27 F29 F30 (Or.inr ⟨(hw _ (own_mi 54 rfl)), rfl, hnm⟩) (hw _ (own_mi 31 rfl)) (ty := (.object "java/lang/String")) own_fd_Ljava2flang2fString3b rfl rfl (g := (mkF m 46 #[.val (.ref o), .val (.ref k), .val (.ref a), .val (.ref b), .val (.int (1 : Int32)), .val (.int (1 : Int32)), .val (.int (0 : Int32)), .val (.int (0 : Int32)), .val (.ref d)] [(.ref d), (.ref o)])) rfl rfl (hb hby own_d5_46)
  refine own_go st31 ?_
  have N31 := Fr.snoc X31 N27 Pm1
  have Fw31 := F29.same W31
  have sz32 : h27.size ≤ h31.size := Nat.le_of_eq (Wr.size W31).symm
  have K32 := K28.wr W31 (Or.inl (List.mem_of_getElem? (i := 0) rfl))
  show own_Rn p e below _ (T31.setTop (mkF m 49 #[.val (.ref o), .val (.ref k), .val (.ref a), .val (.ref b), .val (.int (1 : Int32)), .val (.int (1 : Int32)), .val (.int (0 : Int32)), .val (.int (0 : Int32)), .val (.ref d)] []))
  have F33 : Fld Z h31 o "com/example/elodea/elodea/cli/Parameter" "kind" "Lcom/example/elodea/elodea/cli/Parameter$Kind;" (.ref k) := (((((((Fw3.other W7 (Or.inr (slot_ne (Or.inr (hw _ (own_mi 40 rfl))) (Or.inr (hw _ (own_mi 42 rfl))) (by decide) (t := (.object "com/example/elodea/elodea/cli/Parameter$Kind")) (t' := (.object "java/lang/String")) own_fd_Lcom2fexample2felodea2felodea2fcli2fParameter24Kind3b own_fd_Ljava2flang2fString3b))).other W11 (Or.inr (slot_ne (Or.inr (hw _ (own_mi 40 rfl))) (Or.inr (hw _ (own_mi 44 rfl))) (by decide) (t := (.object "com/example/elodea/elodea/cli/Parameter$Kind")) (t' := (.object "java/lang/String")) own_fd_Lcom2fexample2felodea2felodea2fcli2fParameter24Kind3b own_fd_Ljava2flang2fString3b))).other W15 (Or.inr (slot_ne (Or.inr (hw _ (own_mi 40 rfl))) (Or.inr (hw _ (own_mi 46 rfl))) (by decide) (t := (.object "com/example/elodea/elodea/cli/Parameter$Kind")) (t' := .boolean) own_fd_Lcom2fexample2felodea2felodea2fcli2fParameter24Kind3b own_fd_Z))).other W19 (Or.inr (slot_ne (Or.inr (hw _ (own_mi 40 rfl))) (Or.inr (hw _ (own_mi 48 rfl))) (by decide) (t := (.object "com/example/elodea/elodea/cli/Parameter$Kind")) (t' := .int) own_fd_Lcom2fexample2felodea2felodea2fcli2fParameter24Kind3b own_fd_I))).other W23 (Or.inr (slot_ne (Or.inr (hw _ (own_mi 40 rfl))) (Or.inr (hw _ (own_mi 50 rfl))) (by decide) (t := (.object "com/example/elodea/elodea/cli/Parameter$Kind")) (t' := .boolean) own_fd_Lcom2fexample2felodea2felodea2fcli2fParameter24Kind3b own_fd_Z))).other W27 (Or.inr (slot_ne (Or.inr (hw _ (own_mi 40 rfl))) (Or.inr (hw _ (own_mi 52 rfl))) (by decide) (t := (.object "com/example/elodea/elodea/cli/Parameter$Kind")) (t' := .boolean) own_fd_Lcom2fexample2felodea2felodea2fcli2fParameter24Kind3b own_fd_Z))).other W31 (Or.inr (slot_ne (Or.inr (hw _ (own_mi 40 rfl))) (Or.inr (hw _ (own_mi 54 rfl))) (by decide) (t := (.object "com/example/elodea/elodea/cli/Parameter$Kind")) (t' := (.object "java/lang/String")) own_fd_Lcom2fexample2felodea2felodea2fcli2fParameter24Kind3b own_fd_Ljava2flang2fString3b)))
  have F34 : Fld Z h31 o "com/example/elodea/elodea/cli/Parameter" "name" "Ljava/lang/String;" (.ref a) := ((((((Fw7.other W11 (Or.inr (slot_ne (Or.inr (hw _ (own_mi 42 rfl))) (Or.inr (hw _ (own_mi 44 rfl))) (by decide) (t := (.object "java/lang/String")) (t' := (.object "java/lang/String")) own_fd_Ljava2flang2fString3b own_fd_Ljava2flang2fString3b))).other W15 (Or.inr (slot_ne (Or.inr (hw _ (own_mi 42 rfl))) (Or.inr (hw _ (own_mi 46 rfl))) (by decide) (t := (.object "java/lang/String")) (t' := .boolean) own_fd_Ljava2flang2fString3b own_fd_Z))).other W19 (Or.inr (slot_ne (Or.inr (hw _ (own_mi 42 rfl))) (Or.inr (hw _ (own_mi 48 rfl))) (by decide) (t := (.object "java/lang/String")) (t' := .int) own_fd_Ljava2flang2fString3b own_fd_I))).other W23 (Or.inr (slot_ne (Or.inr (hw _ (own_mi 42 rfl))) (Or.inr (hw _ (own_mi 50 rfl))) (by decide) (t := (.object "java/lang/String")) (t' := .boolean) own_fd_Ljava2flang2fString3b own_fd_Z))).other W27 (Or.inr (slot_ne (Or.inr (hw _ (own_mi 42 rfl))) (Or.inr (hw _ (own_mi 52 rfl))) (by decide) (t := (.object "java/lang/String")) (t' := .boolean) own_fd_Ljava2flang2fString3b own_fd_Z))).other W31 (Or.inr (slot_ne (Or.inr (hw _ (own_mi 42 rfl))) (Or.inr (hw _ (own_mi 54 rfl))) (by decide) (t := (.object "java/lang/String")) (t' := (.object "java/lang/String")) own_fd_Ljava2flang2fString3b own_fd_Ljava2flang2fString3b)))
  have F35 : Fld Z h31 o "com/example/elodea/elodea/cli/Parameter" "placeholder" "Ljava/lang/String;" (.ref b) := (((((Fw11.other W15 (Or.inr (slot_ne (Or.inr (hw _ (own_mi 44 rfl))) (Or.inr (hw _ (own_mi 46 rfl))) (by decide) (t := (.object "java/lang/String")) (t' := .boolean) own_fd_Ljava2flang2fString3b own_fd_Z))).other W19 (Or.inr (slot_ne (Or.inr (hw _ (own_mi 44 rfl))) (Or.inr (hw _ (own_mi 48 rfl))) (by decide) (t := (.object "java/lang/String")) (t' := .int) own_fd_Ljava2flang2fString3b own_fd_I))).other W23 (Or.inr (slot_ne (Or.inr (hw _ (own_mi 44 rfl))) (Or.inr (hw _ (own_mi 50 rfl))) (by decide) (t := (.object "java/lang/String")) (t' := .boolean) own_fd_Ljava2flang2fString3b own_fd_Z))).other W27 (Or.inr (slot_ne (Or.inr (hw _ (own_mi 44 rfl))) (Or.inr (hw _ (own_mi 52 rfl))) (by decide) (t := (.object "java/lang/String")) (t' := .boolean) own_fd_Ljava2flang2fString3b own_fd_Z))).other W31 (Or.inr (slot_ne (Or.inr (hw _ (own_mi 44 rfl))) (Or.inr (hw _ (own_mi 54 rfl))) (by decide) (t := (.object "java/lang/String")) (t' := (.object "java/lang/String")) own_fd_Ljava2flang2fString3b own_fd_Ljava2flang2fString3b)))
  have F36 : Fld Z h31 o "com/example/elodea/elodea/cli/Parameter" "required" "Z" (.int (1 : Int32)) := ((((Fw15.other W19 (Or.inr (slot_ne (Or.inr (hw _ (own_mi 46 rfl))) (Or.inr (hw _ (own_mi 48 rfl))) (by decide) (t := .boolean) (t' := .int) own_fd_Z own_fd_I))).other W23 (Or.inr (slot_ne (Or.inr (hw _ (own_mi 46 rfl))) (Or.inr (hw _ (own_mi 50 rfl))) (by decide) (t := .boolean) (t' := .boolean) own_fd_Z own_fd_Z))).other W27 (Or.inr (slot_ne (Or.inr (hw _ (own_mi 46 rfl))) (Or.inr (hw _ (own_mi 52 rfl))) (by decide) (t := .boolean) (t' := .boolean) own_fd_Z own_fd_Z))).other W31 (Or.inr (slot_ne (Or.inr (hw _ (own_mi 46 rfl))) (Or.inr (hw _ (own_mi 54 rfl))) (by decide) (t := .boolean) (t' := (.object "java/lang/String")) own_fd_Z own_fd_Ljava2flang2fString3b)))
  have F37 : Fld Z h31 o "com/example/elodea/elodea/cli/Parameter" "least" "I" (.int (1 : Int32)) := (((Fw19.other W23 (Or.inr (slot_ne (Or.inr (hw _ (own_mi 48 rfl))) (Or.inr (hw _ (own_mi 50 rfl))) (by decide) (t := .int) (t' := .boolean) own_fd_I own_fd_Z))).other W27 (Or.inr (slot_ne (Or.inr (hw _ (own_mi 48 rfl))) (Or.inr (hw _ (own_mi 52 rfl))) (by decide) (t := .int) (t' := .boolean) own_fd_I own_fd_Z))).other W31 (Or.inr (slot_ne (Or.inr (hw _ (own_mi 48 rfl))) (Or.inr (hw _ (own_mi 54 rfl))) (by decide) (t := .int) (t' := (.object "java/lang/String")) own_fd_I own_fd_Ljava2flang2fString3b)))
  have F38 : Fld Z h31 o "com/example/elodea/elodea/cli/Parameter" "repeated" "Z" (.int (0 : Int32)) := ((Fw23.other W27 (Or.inr (slot_ne (Or.inr (hw _ (own_mi 50 rfl))) (Or.inr (hw _ (own_mi 52 rfl))) (by decide) (t := .boolean) (t' := .boolean) own_fd_Z own_fd_Z))).other W31 (Or.inr (slot_ne (Or.inr (hw _ (own_mi 50 rfl))) (Or.inr (hw _ (own_mi 54 rfl))) (by decide) (t := .boolean) (t' := (.object "java/lang/String")) own_fd_Z own_fd_Ljava2flang2fString3b)))
  have F39 : Fld Z h31 o "com/example/elodea/elodea/cli/Parameter" "standIn" "Z" (.int (0 : Int32)) := (Fw27.other W31 (Or.inr (slot_ne (Or.inr (hw _ (own_mi 52 rfl))) (Or.inr (hw _ (own_mi 54 rfl))) (by decide) (t := .boolean) (t' := (.object "java/lang/String")) own_fd_Z own_fd_Ljava2flang2fString3b)))
  exact own_ret X31 (v := none) (fun _ => rfl) (fun fs hr => X31.returnOut hx Bd.returns (hb hby own_d5_49) hr) (by rw [e31]; exact ⟨rfl, N31, K32, F33, F34, F35, F36, F37, F38, F39, Fw31⟩) (by decide) (by decide)
theorem own_ef_rmArg (m : MethodId) (a : Addr) (b : Addr) (d : Addr) (ka : Addr) : entryFrame m #[(.ref a), (.ref b), (.ref d)] 3 = mkF m 0 #[.val (.ref a), .val (.ref b), .val (.ref d)] [] := by first | (simp [entryFrame, mkF, argsToLocals, Value.category]; done) | rfl
theorem own_d4_0 : decode prog_4_method_6_code 0 = .ok (.new 8, 3) := by decide +kernel
theorem own_d4_3 : decode prog_4_method_6_code 3 = .ok (.dup, 1) := by decide +kernel
theorem own_d4_4 : decode prog_4_method_6_code 4 = .ok (.getstatic 48, 3) := by decide +kernel
theorem own_d4_7 : decode prog_4_method_6_code 7 = .ok (.aload_n 0, 1) := by decide +kernel
theorem own_d4_8 : decode prog_4_method_6_code 8 = .ok (.aload_n 1, 1) := by decide +kernel
theorem own_d4_9 : decode prog_4_method_6_code 9 = .ok (.iconst 1, 1) := by decide +kernel
theorem own_d4_10 : decode prog_4_method_6_code 10 = .ok (.iconst 1, 1) := by decide +kernel
theorem own_d4_11 : decode prog_4_method_6_code 11 = .ok (.iconst 0, 1) := by decide +kernel
theorem own_d4_12 : decode prog_4_method_6_code 12 = .ok (.iconst 0, 1) := by decide +kernel
theorem own_d4_13 : decode prog_4_method_6_code 13 = .ok (.aload_n 2, 1) := by decide +kernel
theorem own_d4_14 : decode prog_4_method_6_code 14 = .ok (.invokespecial 42, 3) := by decide +kernel
theorem own_pd_28Lcom2fexample2felodea2felodea2fcli2fParameter24Kind3bLjava2flang2fString3bLjava2flang2fString3bZIZZLjava2flang2fString3b29V : parseMethodDescriptor "(Lcom/example/elodea/elodea/cli/Parameter$Kind;Ljava/lang/String;Ljava/lang/String;ZIZZLjava/lang/String;)V" = some ⟨[(.object "com/example/elodea/elodea/cli/Parameter$Kind"), (.object "java/lang/String"), (.object "java/lang/String"), .boolean, .int, .boolean, .boolean, (.object "java/lang/String")], none⟩ := by decide +kernel
theorem own_d4_17 : decode prog_4_method_6_code 17 = .ok (.areturn, 1) := by decide +kernel
def Q_rmArg (Z : State) (a : Addr) (b : Addr) (d : Addr) (ka : Addr) (h0 : Heap) (n0 : Nat) (vq : Option Value) (hhq : Heap) (Lq : List Loc) : Prop := ∃ (o : Addr), vq = some (.ref o) ∧ Fr n0 Lq ∧ Keep h0 hhq [] ∧ Exa Z hhq o "com/example/elodea/elodea/cli/Parameter" ∧ Fld Z hhq o "com/example/elodea/elodea/cli/Parameter" "kind" "Lcom/example/elodea/elodea/cli/Parameter$Kind;" (.ref ka) ∧ Fld Z hhq o "com/example/elodea/elodea/cli/Parameter" "name" "Ljava/lang/String;" (.ref a) ∧ Fld Z hhq o "com/example/elodea/elodea/cli/Parameter" "placeholder" "Ljava/lang/String;" (.ref b) ∧ Fld Z hhq o "com/example/elodea/elodea/cli/Parameter" "required" "Z" (.int (1 : Int32)) ∧ Fld Z hhq o "com/example/elodea/elodea/cli/Parameter" "least" "I" (.int (1 : Int32)) ∧ Fld Z hhq o "com/example/elodea/elodea/cli/Parameter" "repeated" "Z" (.int (0 : Int32)) ∧ Fld Z hhq o "com/example/elodea/elodea/cli/Parameter" "standIn" "Z" (.int (0 : Int32)) ∧ Fld Z hhq o "com/example/elodea/elodea/cli/Parameter" "description" "Ljava/lang/String;" (.ref d)
set_option maxRecDepth 65536 in
set_option maxHeartbeats 40000000 in
theorem rmArg (l : Launch) (Z : State) (a0 : Array Value) (hw : ∀ d ∈ tables_1, d.before a0 Z = true) (ws : List Jvm.Cond) (a : Addr) (b : Addr) (d : Addr) (ka : Addr) (h0 : Heap) (n0 : Nat) (Z0 : n0 ≤ h0.size) (OA : Sta Z Z.heap "com/example/elodea/elodea/cli/Parameter$Kind" "ARGUMENT" "Lcom/example/elodea/elodea/cli/Parameter$Kind;" (.ref ka)) (X00 : Old Z n0 h0) :
    MetFree l (⟨"com/example/elodea/elodea/cli/Parameter", "argument", "(Ljava/lang/String;Ljava/lang/String;Ljava/lang/String;)Lcom/example/elodea/elodea/cli/Parameter;"⟩ : MethodName) (head1 (Jvm.Cond.code (⟨"com/example/elodea/elodea/cli/Parameter", "argument", "(Ljava/lang/String;Ljava/lang/String;Ljava/lang/String;)Lcom/example/elodea/elodea/cli/Parameter;"⟩ : MethodName) prog_4_method_6_code 3 (some (.object "com/example/elodea/elodea/cli/Parameter")) :: ws) ({ frames := 2, cells := 1, slots := 8, locals := 33 } : Room)) (fun aq U => aq = #[(.ref a), (.ref b), (.ref d)] ∧ Z.Warmed39 U.vm ∧ U.heap = h0) (fun _ _ _ _ _ => True) (fun _ U oq U' => ∃ vq Lq, oq = .returned vq ∧ Q_rmArg Z a b d ka h0 n0 vq U'.heap Lq ∧ FrameEnd U oq U' Lq ({ frames := 2, cells := 1, slots := 8, locals := 33 } : Room).cells ({ frames := 2, cells := 1, slots := 8, locals := 33 } : Room).slots) := by
  refine MetFree.of_bodySF (plainFor_of_name own_pn_com_example_elodea_elodea_cli_Parameter) hisR ?_
  intro p e s m args below meth c s₁ Bd hml0 hP hK
  obtain ⟨rfl, hZ, hh⟩ := hP
  have hx := Bd.exec
  have hby := Bd.bytes
  have hml : c.maxLocals = 3 := hml0
  have hown : s.vm.findClass "com/example/elodea/elodea/cli/Parameter" = some m.cls := findClass_of_methodNamed Bd.named
  have hnm := (name_of_methodNamed Bd.named Bd.method).1
  have X0 : Stand p l e ({ frames := 2, cells := 1, slots := 8, locals := 33 } : Room) s m #[(.ref a), (.ref b), (.ref d)] below meth c s₁ [] 0 0 := Stand.of_body Bd
  have e0 : s₁.heap = h0 := by rw [← hh, Bd.state]; rfl
  have N0 := Fr.nil n0
  have K0 : Keep h0 h0 [] := Keep.refl _ _
  refine own_go (S' := s₁.setTop (mkF m 0 #[.val (.ref a), .val (.ref b), .val (.ref d)] [])) (fun tq kq => castTop (own_ef_rmArg m a b d ka) kq) ?_
  obtain ⟨T1, h1, X1, e1, E1, A1, D1, -, st1⟩ := newO X0 hx hZ hown (hw _ (own_mi 30 rfl)) (hw _ (own_mi 31 rfl)) (hw _ (own_mi 28 rfl)) e0 (g := (mkF m 0 #[.val (.ref a), .val (.ref b), .val (.ref d)] [])) rfl (hb hby own_d4_0) (by decide) (by decide)
  obtain ⟨b1, g1⟩ : ∃ z, z = h0.size := ⟨_, rfl⟩
  rw [← g1] at A1 D1 st1
  refine own_go st1 ?_
  have sz2 : h0.size ≤ h1.size := E1.1
  have K2 := K0.ext E1
  have lt3 : @LT.lt Nat _ b1 h1.size := A1.lt
  have gn1 : n0 ≤ b1 := by omega
  have D1_kind : Fld Z h1 b1 "com/example/elodea/elodea/cli/Parameter" "kind" "Lcom/example/elodea/elodea/cli/Parameter$Kind;" .null := D1 (Or.inr (hw _ (own_mi 40 rfl))) (ty := (.object "com/example/elodea/elodea/cli/Parameter$Kind")) own_fd_Lcom2fexample2felodea2felodea2fcli2fParameter24Kind3b
  have D1_name : Fld Z h1 b1 "com/example/elodea/elodea/cli/Parameter" "name" "Ljava/lang/String;" .null := D1 (Or.inr (hw _ (own_mi 42 rfl))) (ty := (.object "java/lang/String")) own_fd_Ljava2flang2fString3b
  have D1_placeholder : Fld Z h1 b1 "com/example/elodea/elodea/cli/Parameter" "placeholder" "Ljava/lang/String;" .null := D1 (Or.inr (hw _ (own_mi 44 rfl))) (ty := (.object "java/lang/String")) own_fd_Ljava2flang2fString3b
  have D1_required : Fld Z h1 b1 "com/example/elodea/elodea/cli/Parameter" "required" "Z" (.int (0 : Int32)) := D1 (Or.inr (hw _ (own_mi 46 rfl))) (ty := .boolean) own_fd_Z
  have D1_least : Fld Z h1 b1 "com/example/elodea/elodea/cli/Parameter" "least" "I" (.int (0 : Int32)) := D1 (Or.inr (hw _ (own_mi 48 rfl))) (ty := .int) own_fd_I
  have D1_repeated : Fld Z h1 b1 "com/example/elodea/elodea/cli/Parameter" "repeated" "Z" (.int (0 : Int32)) := D1 (Or.inr (hw _ (own_mi 50 rfl))) (ty := .boolean) own_fd_Z
  have D1_standIn : Fld Z h1 b1 "com/example/elodea/elodea/cli/Parameter" "standIn" "Z" (.int (0 : Int32)) := D1 (Or.inr (hw _ (own_mi 52 rfl))) (ty := .boolean) own_fd_Z
  have D1_description : Fld Z h1 b1 "com/example/elodea/elodea/cli/Parameter" "description" "Ljava/lang/String;" .null := D1 (Or.inr (hw _ (own_mi 54 rfl))) (ty := (.object "java/lang/String")) own_fd_Ljava2flang2fString3b
  show own_Rn p e below _ (T1.setTop (mkF m 3 #[.val (.ref a), .val (.ref b), .val (.ref d)] [(.ref b1)]))
  refine own_go (fun tq kq => XS.dup X1.here hx rfl (hb hby own_d4_3) rfl rfl kq) ?_
  show own_Rn p e below _ (T1.setTop (mkF m 4 #[.val (.ref a), .val (.ref b), .val (.ref d)] [(.ref b1), (.ref b1)]))
  have F4 : Old Z n0 h1 := (X00.ext E1)
  obtain ⟨T5, X5, e5, st5⟩ := getS2 X1 hx hZ hown (host := "") (Or.inl (hw _ (own_mi 32 rfl))) Via.refl e1 (OA.ext F4.2) (g := (mkF m 4 #[.val (.ref a), .val (.ref b), .val (.ref d)] [(.ref b1), (.ref b1)])) rfl (hb hby own_d4_4)
  refine own_go st5 ?_
  show own_Rn p e below _ (T5.setTop (mkF m 7 #[.val (.ref a), .val (.ref b), .val (.ref d)] [(.ref ka), (.ref b1), (.ref b1)]))
  refine own_go (fun tq kq => XS.aloadN X5.here hx rfl (hb hby own_d4_7) rfl rfl kq) ?_
  show own_Rn p e below _ (T5.setTop (mkF m 8 #[.val (.ref a), .val (.ref b), .val (.ref d)] [(.ref a), (.ref ka), (.ref b1), (.ref b1)]))
  refine own_go (fun tq kq => XS.aloadN X5.here hx rfl (hb hby own_d4_8) rfl rfl kq) ?_
  show own_Rn p e below _ (T5.setTop (mkF m 9 #[.val (.ref a), .val (.ref b), .val (.ref d)] [(.ref b), (.ref a), (.ref ka), (.ref b1), (.ref b1)]))
  refine own_go (fun tq kq => XS.iconst X5.here hx rfl (hb hby own_d4_9) kq) ?_
  show own_Rn p e below _ (T5.setTop (mkF m 10 #[.val (.ref a), .val (.ref b), .val (.ref d)] [(.int (1 : Int32)), (.ref b), (.ref a), (.ref ka), (.ref b1), (.ref b1)]))
  refine own_go (fun tq kq => XS.iconst X5.here hx rfl (hb hby own_d4_10) kq) ?_
  show own_Rn p e below _ (T5.setTop (mkF m 11 #[.val (.ref a), .val (.ref b), .val (.ref d)] [(.int (1 : Int32)), (.int (1 : Int32)), (.ref b), (.ref a), (.ref ka), (.ref b1), (.ref b1)]))
  refine own_go (fun tq kq => XS.iconst X5.here hx rfl (hb hby own_d4_11) kq) ?_
  show own_Rn p e below _ (T5.setTop (mkF m 12 #[.val (.ref a), .val (.ref b), .val (.ref d)] [(.int (0 : Int32)), (.int (1 : Int32)), (.int (1 : Int32)), (.ref b), (.ref a), (.ref ka), (.ref b1), (.ref b1)]))
  refine own_go (fun tq kq => XS.iconst X5.here hx rfl (hb hby own_d4_12) kq) ?_
  show own_Rn p e below _ (T5.setTop (mkF m 13 #[.val (.ref a), .val (.ref b), .val (.ref d)] [(.int (0 : Int32)), (.int (0 : Int32)), (.int (1 : Int32)), (.int (1 : Int32)), (.ref b), (.ref a), (.ref ka), (.ref b1), (.ref b1)]))
  refine own_go (fun tq kq => XS.aloadN X5.here hx rfl (hb hby own_d4_13) rfl rfl kq) ?_
  show own_Rn p e below _ (T5.setTop (mkF m 14 #[.val (.ref a), .val (.ref b), .val (.ref d)] [(.ref d), (.int (0 : Int32)), (.int (0 : Int32)), (.int (1 : Int32)), (.int (1 : Int32)), (.ref b), (.ref a), (.ref ka), (.ref b1), (.ref b1)]))
  have Zn6 : n0 ≤ h1.size := by omega
  obtain ⟨rv6, _, ⟨T6, L6, k6, n6⟩, -, X6, ⟨Lc6, hQ6, l6, y6, z6⟩, st6⟩ := X5.specialBack hx (y := (⟨"com/example/elodea/elodea/cli/Parameter", "<init>", "(Lcom/example/elodea/elodea/cli/Parameter$Kind;Ljava/lang/String;Ljava/lang/String;ZIZZLjava/lang/String;)V"⟩ : MethodName)) rfl hown (mvT hZ (hw _ (own_mi 35 rfl))) (mvT hZ (hw _ (own_mi 36 rfl))) (mvT hZ (hw _ (own_mi 37 rfl))) (by decide) (backOf (W := 1) (rmPI l Z a0 hw [] (b1) (ka) (a) (b) (d) h1 n0 Zn6 A1 gn1 D1_kind D1_name D1_placeholder D1_required D1_least D1_repeated D1_standIn D1_description) hZ (hw _ (own_mi 37 rfl)) (hw _ (own_mi 28 rfl)) (by decide) (by decide)) (g := (mkF m 14 #[.val (.ref a), .val (.ref b), .val (.ref d)] [(.ref d), (.int (0 : Int32)), (.int (0 : Int32)), (.int (1 : Int32)), (.int (1 : Int32)), (.ref b), (.ref a), (.ref ka), (.ref b1), (.ref b1)])) rfl (by rw [hml]; rfl) (Steps.refl _) (a := b1) (argsL := [(.ref ka), (.ref a), (.ref b), (.int (1 : Int32)), (.int (1 : Int32)), (.int (0 : Int32)), (.int (0 : Int32)), (.ref d)]) (rest := [(.ref b1)]) (lenOf own_pd_28Lcom2fexample2felodea2felodea2fcli2fParameter24Kind3bLjava2flang2fString3bLjava2flang2fString3bZIZZLjava2flang2fString3b29V rfl) rfl (by show 2 * 0 + _ ≤ _; exact Nat.le_of_eq rfl) (hb hby own_d4_14) (fun _ _ => ⟨rfl, e5, (by decide : 1 + 0 ≤ _), (by decide : 8 + 0 ≤ _)⟩)
  dsimp only [Pt.U, Pt.locs, Pt.cells, Pt.slots] at X6 l6 y6 z6 st6 hQ6
  subst l6 y6 z6
  obtain ⟨rfl, Nq6, Kq6, G0_6, G1_6, G2_6, G3_6, G4_6, G5_6, G6_6, G7_6⟩ := hQ6
  have N6 := Fr.app N0 Nq6
  have sz7 : h1.size ≤ T6.heap.size := Kq6.1
  have K7 := K2.trans Kq6 (allS (Or.inr (by omega)) all0)
  refine own_go (fun tq kq => st6.trans kq) ?_
  show own_Rn p e below _ (T6.setTop (mkF m 17 #[.val (.ref a), .val (.ref b), .val (.ref d)] [(.ref b1)]))
  have F8 : Exa Z T6.heap b1 "com/example/elodea/elodea/cli/Parameter" := (A1.keep Kq6)
  exact own_ret X6 (v := some (.ref b1)) (fun h => by rw [Bd.returns] at h; cases h) (fun fs hr => X6.areturnOut hx rfl Bd.returns rfl (hb hby own_d4_17) hr) (⟨b1, rfl, N6, K7, F8, G0_6, G1_6, G2_6, G3_6, G4_6, G5_6, G6_6, G7_6⟩) (by decide) (by decide)
theorem own_ef_rmGK (m : MethodId) (o : Addr) (v : Addr) : entryFrame m #[(.ref o)] 1 = mkF m 0 #[.val (.ref o)] [] := by first | (simp [entryFrame, mkF, argsToLocals, Value.category]; done) | rfl
theorem own_d6_0 : decode prog_4_method_8_code 0 = .ok (.aload_n 0, 1) := by decide +kernel
theorem own_d6_1 : decode prog_4_method_8_code 1 = .ok (.getfield 7, 3) := by decide +kernel
theorem own_d6_4 : decode prog_4_method_8_code 4 = .ok (.areturn, 1) := by decide +kernel
def Q_rmGK (Z : State) (o : Addr) (v : Addr) (h0 : Heap) (n0 : Nat) (vq : Option Value) (hhq : Heap) (Lq : List Loc) : Prop := vq = some (.ref v) ∧ Fr n0 Lq ∧ hhq = h0
set_option maxRecDepth 65536 in
set_option maxHeartbeats 40000000 in
theorem rmGK (l : Launch) (Z : State) (a0 : Array Value) (hw : ∀ d ∈ tables_1, d.before a0 Z = true) (ws : List Jvm.Cond) (o : Addr) (v : Addr) (h0 : Heap) (n0 : Nat) (Z0 : n0 ≤ h0.size) (Pm0 : Fld Z h0 o "com/example/elodea/elodea/cli/Parameter" "kind" "Lcom/example/elodea/elodea/cli/Parameter$Kind;" (.ref v)) :
    MetFree l (⟨"com/example/elodea/elodea/cli/Parameter", "getKind", "()Lcom/example/elodea/elodea/cli/Parameter$Kind;"⟩ : MethodName) (head1 (Jvm.Cond.code (⟨"com/example/elodea/elodea/cli/Parameter", "getKind", "()Lcom/example/elodea/elodea/cli/Parameter$Kind;"⟩ : MethodName) prog_4_method_8_code 1 (some (.object "com/example/elodea/elodea/cli/Parameter$Kind")) :: ws) ({ frames := 0, cells := 0, slots := 0, locals := 0 } : Room)) (fun aq U => aq = #[(.ref o)] ∧ Z.Warmed39 U.vm ∧ U.heap = h0) (fun _ _ _ _ _ => True) (fun _ U oq U' => ∃ vq Lq, oq = .returned vq ∧ Q_rmGK Z o v h0 n0 vq U'.heap Lq ∧ FrameEnd U oq U' Lq ({ frames := 0, cells := 0, slots := 0, locals := 0 } : Room).cells ({ frames := 0, cells := 0, slots := 0, locals := 0 } : Room).slots) := by
  refine MetFree.of_bodySF (plainFor_of_name own_pn_com_example_elodea_elodea_cli_Parameter) hisR ?_
  intro p e s m args below meth c s₁ Bd hml0 hP hK
  obtain ⟨rfl, hZ, hh⟩ := hP
  have hx := Bd.exec
  have hby := Bd.bytes
  have hml : c.maxLocals = 1 := hml0
  have hown : s.vm.findClass "com/example/elodea/elodea/cli/Parameter" = some m.cls := findClass_of_methodNamed Bd.named
  have hnm := (name_of_methodNamed Bd.named Bd.method).1
  have X0 : Stand p l e ({ frames := 0, cells := 0, slots := 0, locals := 0 } : Room) s m #[(.ref o)] below meth c s₁ [] 0 0 := Stand.of_body Bd
  have e0 : s₁.heap = h0 := by rw [← hh, Bd.state]; rfl
  have N0 := Fr.nil n0
  have K0 : Keep h0 h0 [] := Keep.refl _ _
  refine own_go (S' := s₁.setTop (mkF m 0 #[.val (.ref o)] [])) (fun tq kq => castTop (own_ef_rmGK m o v) kq) ?_
  have lt1 : @LT.lt Nat _ o h0.size := Pm0.lt
  refine own_go (fun tq kq => XS.aloadN X0.here hx rfl (hb hby own_d6_0) rfl rfl kq) ?_
  show own_Rn p e below _ (s₁.setTop (mkF m 1 #[.val (.ref o)] [(.ref o)]))
  obtain ⟨T2, X2, e2, st2⟩ := getF X0 hx hZ hown (host := "") (Or.inl (hw _ (own_mi 39 rfl))) Via.refl e0 Pm0 (g := (mkF m 1 #[.val (.ref o)] [(.ref o)])) rfl rfl (hb hby own_d6_1)
  refine own_go st2 ?_
  show own_Rn p e below _ (T2.setTop (mkF m 4 #[.val (.ref o)] [(.ref v)]))
  exact own_ret X2 (v := some (.ref v)) (fun h => by rw [Bd.returns] at h; cases h) (fun fs hr => X2.areturnOut hx rfl Bd.returns rfl (hb hby own_d6_4) hr) (by rw [e2]; exact ⟨rfl, N0, rfl⟩) (by decide) (by decide)
theorem own_ef_rmGN (m : MethodId) (o : Addr) (v : Addr) : entryFrame m #[(.ref o)] 1 = mkF m 0 #[.val (.ref o)] [] := by first | (simp [entryFrame, mkF, argsToLocals, Value.category]; done) | rfl
theorem own_d7_0 : decode prog_4_method_9_code 0 = .ok (.aload_n 0, 1) := by decide +kernel
theorem own_d7_1 : decode prog_4_method_9_code 1 = .ok (.getfield 13, 3) := by decide +kernel
theorem own_d7_4 : decode prog_4_method_9_code 4 = .ok (.areturn, 1) := by decide +kernel
def Q_rmGN (Z : State) (o : Addr) (v : Addr) (h0 : Heap) (n0 : Nat) (vq : Option Value) (hhq : Heap) (Lq : List Loc) : Prop := vq = some (.ref v) ∧ Fr n0 Lq ∧ hhq = h0
set_option maxRecDepth 65536 in
set_option maxHeartbeats 40000000 in
theorem rmGN (l : Launch) (Z : State) (a0 : Array Value) (hw : ∀ d ∈ tables_1, d.before a0 Z = true) (ws : List Jvm.Cond) (o : Addr) (v : Addr) (h0 : Heap) (n0 : Nat) (Z0 : n0 ≤ h0.size) (Pm0 : Fld Z h0 o "com/example/elodea/elodea/cli/Parameter" "name" "Ljava/lang/String;" (.ref v)) :
    MetFree l (⟨"com/example/elodea/elodea/cli/Parameter", "getName", "()Ljava/lang/String;"⟩ : MethodName) (head1 (Jvm.Cond.code (⟨"com/example/elodea/elodea/cli/Parameter", "getName", "()Ljava/lang/String;"⟩ : MethodName) prog_4_method_9_code 1 (some (.object "java/lang/String")) :: ws) ({ frames := 0, cells := 0, slots := 0, locals := 0 } : Room)) (fun aq U => aq = #[(.ref o)] ∧ Z.Warmed39 U.vm ∧ U.heap = h0) (fun _ _ _ _ _ => True) (fun _ U oq U' => ∃ vq Lq, oq = .returned vq ∧ Q_rmGN Z o v h0 n0 vq U'.heap Lq ∧ FrameEnd U oq U' Lq ({ frames := 0, cells := 0, slots := 0, locals := 0 } : Room).cells ({ frames := 0, cells := 0, slots := 0, locals := 0 } : Room).slots) := by
  refine MetFree.of_bodySF (plainFor_of_name own_pn_com_example_elodea_elodea_cli_Parameter) hisR ?_
  intro p e s m args below meth c s₁ Bd hml0 hP hK
  obtain ⟨rfl, hZ, hh⟩ := hP
  have hx := Bd.exec
  have hby := Bd.bytes
  have hml : c.maxLocals = 1 := hml0
  have hown : s.vm.findClass "com/example/elodea/elodea/cli/Parameter" = some m.cls := findClass_of_methodNamed Bd.named
  have hnm := (name_of_methodNamed Bd.named Bd.method).1
  have X0 : Stand p l e ({ frames := 0, cells := 0, slots := 0, locals := 0 } : Room) s m #[(.ref o)] below meth c s₁ [] 0 0 := Stand.of_body Bd
  have e0 : s₁.heap = h0 := by rw [← hh, Bd.state]; rfl
  have N0 := Fr.nil n0
  have K0 : Keep h0 h0 [] := Keep.refl _ _
  refine own_go (S' := s₁.setTop (mkF m 0 #[.val (.ref o)] [])) (fun tq kq => castTop (own_ef_rmGN m o v) kq) ?_
  have lt1 : @LT.lt Nat _ o h0.size := Pm0.lt
  refine own_go (fun tq kq => XS.aloadN X0.here hx rfl (hb hby own_d7_0) rfl rfl kq) ?_
  show own_Rn p e below _ (s₁.setTop (mkF m 1 #[.val (.ref o)] [(.ref o)]))
  obtain ⟨T2, X2, e2, st2⟩ := getF X0 hx hZ hown (host := "") (Or.inl (hw _ (own_mi 41 rfl))) Via.refl e0 Pm0 (g := (mkF m 1 #[.val (.ref o)] [(.ref o)])) rfl rfl (hb hby own_d7_1)
  refine own_go st2 ?_
  show own_Rn p e below _ (T2.setTop (mkF m 4 #[.val (.ref o)] [(.ref v)]))
  exact own_ret X2 (v := some (.ref v)) (fun h => by rw [Bd.returns] at h; cases h) (fun fs hr => X2.areturnOut hx rfl Bd.returns rfl (hb hby own_d7_4) hr) (by rw [e2]; exact ⟨rfl, N0, rfl⟩) (by decide) (by decide)
theorem own_ef_rmGD (m : MethodId) (o : Addr) (v : Addr) : entryFrame m #[(.ref o)] 1 = mkF m 0 #[.val (.ref o)] [] := by first | (simp [entryFrame, mkF, argsToLocals, Value.category]; done) | rfl
theorem own_d9_0 : decode prog_4_method_13_code 0 = .ok (.aload_n 0, 1) := by decide +kernel
theorem own_d9_1 : decode prog_4_method_13_code 1 = .ok (.getfield 34, 3) := by decide +kernel
theorem own_d9_4 : decode prog_4_method_13_code 4 = .ok (.areturn, 1) := by decide +kernel
def Q_rmGD (Z : State) (o : Addr) (v : Addr) (h0 : Heap) (n0 : Nat) (vq : Option Value) (hhq : Heap) (Lq : List Loc) : Prop := vq = some (.ref v) ∧ Fr n0 Lq ∧ hhq = h0
set_option maxRecDepth 65536 in
set_option maxHeartbeats 40000000 in
theorem rmGD (l : Launch) (Z : State) (a0 : Array Value) (hw : ∀ d ∈ tables_1, d.before a0 Z = true) (ws : List Jvm.Cond) (o : Addr) (v : Addr) (h0 : Heap) (n0 : Nat) (Z0 : n0 ≤ h0.size) (Pm0 : Fld Z h0 o "com/example/elodea/elodea/cli/Parameter" "description" "Ljava/lang/String;" (.ref v)) :
    MetFree l (⟨"com/example/elodea/elodea/cli/Parameter", "getDescription", "()Ljava/lang/String;"⟩ : MethodName) (head1 (Jvm.Cond.code (⟨"com/example/elodea/elodea/cli/Parameter", "getDescription", "()Ljava/lang/String;"⟩ : MethodName) prog_4_method_13_code 1 (some (.object "java/lang/String")) :: ws) ({ frames := 0, cells := 0, slots := 0, locals := 0 } : Room)) (fun aq U => aq = #[(.ref o)] ∧ Z.Warmed39 U.vm ∧ U.heap = h0) (fun _ _ _ _ _ => True) (fun _ U oq U' => ∃ vq Lq, oq = .returned vq ∧ Q_rmGD Z o v h0 n0 vq U'.heap Lq ∧ FrameEnd U oq U' Lq ({ frames := 0, cells := 0, slots := 0, locals := 0 } : Room).cells ({ frames := 0, cells := 0, slots := 0, locals := 0 } : Room).slots) := by
  refine MetFree.of_bodySF (plainFor_of_name own_pn_com_example_elodea_elodea_cli_Parameter) hisR ?_
  intro p e s m args below meth c s₁ Bd hml0 hP hK
  obtain ⟨rfl, hZ, hh⟩ := hP
  have hx := Bd.exec
  have hby := Bd.bytes
  have hml : c.maxLocals = 1 := hml0
  have hown : s.vm.findClass "com/example/elodea/elodea/cli/Parameter" = some m.cls := findClass_of_methodNamed Bd.named
  have hnm := (name_of_methodNamed Bd.named Bd.method).1
  have X0 : Stand p l e ({ frames := 0, cells := 0, slots := 0, locals := 0 } : Room) s m #[(.ref o)] below meth c s₁ [] 0 0 := Stand.of_body Bd
  have e0 : s₁.heap = h0 := by rw [← hh, Bd.state]; rfl
  have N0 := Fr.nil n0
  have K0 : Keep h0 h0 [] := Keep.refl _ _
  refine own_go (S' := s₁.setTop (mkF m 0 #[.val (.ref o)] [])) (fun tq kq => castTop (own_ef_rmGD m o v) kq) ?_
  have lt1 : @LT.lt Nat _ o h0.size := Pm0.lt
  refine own_go (fun tq kq => XS.aloadN X0.here hx rfl (hb hby own_d9_0) rfl rfl kq) ?_
  show own_Rn p e below _ (s₁.setTop (mkF m 1 #[.val (.ref o)] [(.ref o)]))
  obtain ⟨T2, X2, e2, st2⟩ := getF X0 hx hZ hown (host := "") (Or.inl (hw _ (own_mi 53 rfl))) Via.refl e0 Pm0 (g := (mkF m 1 #[.val (.ref o)] [(.ref o)])) rfl rfl (hb hby own_d9_1)
  refine own_go st2 ?_
  show own_Rn p e below _ (T2.setTop (mkF m 4 #[.val (.ref o)] [(.ref v)]))
  exact own_ret X2 (v := some (.ref v)) (fun h => by rw [Bd.returns] at h; cases h) (fun fs hr => X2.areturnOut hx rfl Bd.returns rfl (hb hby own_d9_4) hr) (by rw [e2]; exact ⟨rfl, N0, rfl⟩) (by decide) (by decide)
theorem own_ef_rmGL (m : MethodId) (o : Addr) : entryFrame m #[(.ref o)] 1 = mkF m 0 #[.val (.ref o)] [] := by first | (simp [entryFrame, mkF, argsToLocals, Value.category]; done) | rfl
theorem own_d10_0 : decode prog_4_method_10_code 0 = .ok (.aload_n 0, 1) := by decide +kernel
theorem own_d10_1 : decode prog_4_method_10_code 1 = .ok (.getfield 24, 3) := by decide +kernel
theorem own_d10_4 : decode prog_4_method_10_code 4 = .ok (.ireturn, 1) := by decide +kernel
def Q_rmGL (Z : State) (o : Addr) (h0 : Heap) (n0 : Nat) (vq : Option Value) (hhq : Heap) (Lq : List Loc) : Prop := vq = some (.int (1 : Int32)) ∧ Fr n0 Lq ∧ hhq = h0
set_option maxRecDepth 65536 in
set_option maxHeartbeats 40000000 in
theorem rmGL (l : Launch) (Z : State) (a0 : Array Value) (hw : ∀ d ∈ tables_1, d.before a0 Z = true) (ws : List Jvm.Cond) (o : Addr) (h0 : Heap) (n0 : Nat) (Z0 : n0 ≤ h0.size) (Pm0 : Fld Z h0 o "com/example/elodea/elodea/cli/Parameter" "least" "I" (.int (1 : Int32))) :
    MetFree l (⟨"com/example/elodea/elodea/cli/Parameter", "getLeast", "()I"⟩ : MethodName) (head1 (Jvm.Cond.code (⟨"com/example/elodea/elodea/cli/Parameter", "getLeast", "()I"⟩ : MethodName) prog_4_method_10_code 1 (some .int) :: ws) ({ frames := 0, cells := 0, slots := 0, locals := 0 } : Room)) (fun aq U => aq = #[(.ref o)] ∧ Z.Warmed39 U.vm ∧ U.heap = h0) (fun _ _ _ _ _ => True) (fun _ U oq U' => ∃ vq Lq, oq = .returned vq ∧ Q_rmGL Z o h0 n0 vq U'.heap Lq ∧ FrameEnd U oq U' Lq ({ frames := 0, cells := 0, slots := 0, locals := 0 } : Room).cells ({ frames := 0, cells := 0, slots := 0, locals := 0 } : Room).slots) := by
  refine MetFree.of_bodySF (plainFor_of_name own_pn_com_example_elodea_elodea_cli_Parameter) hisR ?_
  intro p e s m args below meth c s₁ Bd hml0 hP hK
  obtain ⟨rfl, hZ, hh⟩ := hP
  have hx := Bd.exec
  have hby := Bd.bytes
  have hml : c.maxLocals = 1 := hml0
  have hown : s.vm.findClass "com/example/elodea/elodea/cli/Parameter" = some m.cls := findClass_of_methodNamed Bd.named
  have hnm := (name_of_methodNamed Bd.named Bd.method).1
  have X0 : Stand p l e ({ frames := 0, cells := 0, slots := 0, locals := 0 } : Room) s m #[(.ref o)] below meth c s₁ [] 0 0 := Stand.of_body Bd
  have e0 : s₁.heap = h0 := by rw [← hh, Bd.state]; rfl
  have N0 := Fr.nil n0
  have K0 : Keep h0 h0 [] := Keep.refl _ _
  refine own_go (S' := s₁.setTop (mkF m 0 #[.val (.ref o)] [])) (fun tq kq => castTop (own_ef_rmGL m o) kq) ?_
  have lt1 : @LT.lt Nat _ o h0.size := Pm0.lt
  refine own_go (fun tq kq => XS.aloadN X0.here hx rfl (hb hby own_d10_0) rfl rfl kq) ?_
  show own_Rn p e below _ (s₁.setTop (mkF m 1 #[.val (.ref o)] [(.ref o)]))
  obtain ⟨T2, X2, e2, st2⟩ := getF X0 hx hZ hown (host := "") (Or.inl (hw _ (own_mi 47 rfl))) Via.refl e0 Pm0 (g := (mkF m 1 #[.val (.ref o)] [(.ref o)])) rfl rfl (hb hby own_d10_1)
  refine own_go st2 ?_
  show own_Rn p e below _ (T2.setTop (mkF m 4 #[.val (.ref o)] [(.int (1 : Int32))]))
  exact own_ret X2 (v := some (.int (1 : Int32))) (fun h => by rw [Bd.returns] at h; cases h) (fun fs hr => retI X2 hx Bd.returns (hb hby own_d10_4) hr) (by rw [e2]; exact ⟨rfl, N0, rfl⟩) (by decide) (by decide)
theorem own_ef_rmGR (m : MethodId) (o : Addr) : entryFrame m #[(.ref o)] 1 = mkF m 0 #[.val (.ref o)] [] := by first | (simp [entryFrame, mkF, argsToLocals, Value.category]; done) | rfl
theorem own_d11_0 : decode prog_4_method_11_code 0 = .ok (.aload_n 0, 1) := by decide +kernel
theorem own_d11_1 : decode prog_4_method_11_code 1 = .ok (.getfield 28, 3) := by decide +kernel
theorem own_d11_4 : decode prog_4_method_11_code 4 = .ok (.ireturn, 1) := by decide +kernel
def Q_rmGR (Z : State) (o : Addr) (h0 : Heap) (n0 : Nat) (vq : Option Value) (hhq : Heap) (Lq : List Loc) : Prop := vq = some (.int (0 : Int32)) ∧ Fr n0 Lq ∧ hhq = h0
set_option maxRecDepth 65536 in
set_option maxHeartbeats 40000000 in
theorem rmGR (l : Launch) (Z : State) (a0 : Array Value) (hw : ∀ d ∈ tables_1, d.before a0 Z = true) (ws : List Jvm.Cond) (o : Addr) (h0 : Heap) (n0 : Nat) (Z0 : n0 ≤ h0.size) (Pm0 : Fld Z h0 o "com/example/elodea/elodea/cli/Parameter" "repeated" "Z" (.int (0 : Int32))) :
    MetFree l (⟨"com/example/elodea/elodea/cli/Parameter", "isRepeated", "()Z"⟩ : MethodName) (head1 (Jvm.Cond.code (⟨"com/example/elodea/elodea/cli/Parameter", "isRepeated", "()Z"⟩ : MethodName) prog_4_method_11_code 1 (some .boolean) :: ws) ({ frames := 0, cells := 0, slots := 0, locals := 0 } : Room)) (fun aq U => aq = #[(.ref o)] ∧ Z.Warmed39 U.vm ∧ U.heap = h0) (fun _ _ _ _ _ => True) (fun _ U oq U' => ∃ vq Lq, oq = .returned vq ∧ Q_rmGR Z o h0 n0 vq U'.heap Lq ∧ FrameEnd U oq U' Lq ({ frames := 0, cells := 0, slots := 0, locals := 0 } : Room).cells ({ frames := 0, cells := 0, slots := 0, locals := 0 } : Room).slots) := by
  refine MetFree.of_bodySF (plainFor_of_name own_pn_com_example_elodea_elodea_cli_Parameter) hisR ?_
  intro p e s m args below meth c s₁ Bd hml0 hP hK
  obtain ⟨rfl, hZ, hh⟩ := hP
  have hx := Bd.exec
  have hby := Bd.bytes
  have hml : c.maxLocals = 1 := hml0
  have hown : s.vm.findClass "com/example/elodea/elodea/cli/Parameter" = some m.cls := findClass_of_methodNamed Bd.named
  have hnm := (name_of_methodNamed Bd.named Bd.method).1
  have X0 : Stand p l e ({ frames := 0, cells := 0, slots := 0, locals := 0 } : Room) s m #[(.ref o)] below meth c s₁ [] 0 0 := Stand.of_body Bd
  have e0 : s₁.heap = h0 := by rw [← hh, Bd.state]; rfl
  have N0 := Fr.nil n0
  have K0 : Keep h0 h0 [] := Keep.refl _ _
  refine own_go (S' := s₁.setTop (mkF m 0 #[.val (.ref o)] [])) (fun tq kq => castTop (own_ef_rmGR m o) kq) ?_
  have lt1 : @LT.lt Nat _ o h0.size := Pm0.lt
  refine own_go (fun tq kq => XS.aloadN X0.here hx rfl (hb hby own_d11_0) rfl rfl kq) ?_
  show own_Rn p e below _ (s₁.setTop (mkF m 1 #[.val (.ref o)] [(.ref o)]))
  obtain ⟨T2, X2, e2, st2⟩ := getF X0 hx hZ hown (host := "") (Or.inl (hw _ (own_mi 49 rfl))) Via.refl e0 Pm0 (g := (mkF m 1 #[.val (.ref o)] [(.ref o)])) rfl rfl (hb hby own_d11_1)
  refine own_go st2 ?_
  show own_Rn p e below _ (T2.setTop (mkF m 4 #[.val (.ref o)] [(.int (0 : Int32))]))
  exact own_ret X2 (v := some (.int (nar .boolean (0 : Int32)))) (fun h => by rw [Bd.returns] at h; cases h) (fun fs hr => retN X2 hx (t := .boolean) Bd.returns (by simp) (hb hby own_d11_4) hr) (by rw [e2]; exact ⟨rfl, N0, rfl⟩) (by decide) (by decide)
theorem own_ef_rmGS (m : MethodId) (o : Addr) : entryFrame m #[(.ref o)] 1 = mkF m 0 #[.val (.ref o)] [] := by first | (simp [entryFrame, mkF, argsToLocals, Value.category]; done) | rfl
theorem own_d12_0 : decode prog_4_method_12_code 0 = .ok (.aload_n 0, 1) := by decide +kernel
theorem own_d12_1 : decode prog_4_method_12_code 1 = .ok (.getfield 31, 3) := by decide +kernel
theorem own_d12_4 : decode prog_4_method_12_code 4 = .ok (.ireturn, 1) := by decide +kernel
def Q_rmGS (Z : State) (o : Addr) (h0 : Heap) (n0 : Nat) (vq : Option Value) (hhq : Heap) (Lq : List Loc) : Prop := vq = some (.int (0 : Int32)) ∧ Fr n0 Lq ∧ hhq = h0
set_option maxRecDepth 65536 in
set_option maxHeartbeats 40000000 in
theorem rmGS (l : Launch) (Z : State) (a0 : Array Value) (hw : ∀ d ∈ tables_1, d.before a0 Z = true) (ws : List Jvm.Cond) (o : Addr) (h0 : Heap) (n0 : Nat) (Z0 : n0 ≤ h0.size) (Pm0 : Fld Z h0 o "com/example/elodea/elodea/cli/Parameter" "standIn" "Z" (.int (0 : Int32))) :
    MetFree l (⟨"com/example/elodea/elodea/cli/Parameter", "isStandIn", "()Z"⟩ : MethodName) (head1 (Jvm.Cond.code (⟨"com/example/elodea/elodea/cli/Parameter", "isStandIn", "()Z"⟩ : MethodName) prog_4_method_12_code 1 (some .boolean) :: ws) ({ frames := 0, cells := 0, slots := 0, locals := 0 } : Room)) (fun aq U => aq = #[(.ref o)] ∧ Z.Warmed39 U.vm ∧ U.heap = h0) (fun _ _ _ _ _ => True) (fun _ U oq U' => ∃ vq Lq, oq = .returned vq ∧ Q_rmGS Z o h0 n0 vq U'.heap Lq ∧ FrameEnd U oq U' Lq ({ frames := 0, cells := 0, slots := 0, locals := 0 } : Room).cells ({ frames := 0, cells := 0, slots := 0, locals := 0 } : Room).slots) := by
  refine MetFree.of_bodySF (plainFor_of_name own_pn_com_example_elodea_elodea_cli_Parameter) hisR ?_
  intro p e s m args below meth c s₁ Bd hml0 hP hK
  obtain ⟨rfl, hZ, hh⟩ := hP
  have hx := Bd.exec
  have hby := Bd.bytes
  have hml : c.maxLocals = 1 := hml0
  have hown : s.vm.findClass "com/example/elodea/elodea/cli/Parameter" = some m.cls := findClass_of_methodNamed Bd.named
  have hnm := (name_of_methodNamed Bd.named Bd.method).1
  have X0 : Stand p l e ({ frames := 0, cells := 0, slots := 0, locals := 0 } : Room) s m #[(.ref o)] below meth c s₁ [] 0 0 := Stand.of_body Bd
  have e0 : s₁.heap = h0 := by rw [← hh, Bd.state]; rfl
  have N0 := Fr.nil n0
  have K0 : Keep h0 h0 [] := Keep.refl _ _
  refine own_go (S' := s₁.setTop (mkF m 0 #[.val (.ref o)] [])) (fun tq kq => castTop (own_ef_rmGS m o) kq) ?_
  have lt1 : @LT.lt Nat _ o h0.size := Pm0.lt
  refine own_go (fun tq kq => XS.aloadN X0.here hx rfl (hb hby own_d12_0) rfl rfl kq) ?_
  show own_Rn p e below _ (s₁.setTop (mkF m 1 #[.val (.ref o)] [(.ref o)]))
  obtain ⟨T2, X2, e2, st2⟩ := getF X0 hx hZ hown (host := "") (Or.inl (hw _ (own_mi 51 rfl))) Via.refl e0 Pm0 (g := (mkF m 1 #[.val (.ref o)] [(.ref o)])) rfl rfl (hb hby own_d12_1)
  refine own_go st2 ?_
  show own_Rn p e below _ (T2.setTop (mkF m 4 #[.val (.ref o)] [(.int (0 : Int32))]))
  exact own_ret X2 (v := some (.int (nar .boolean (0 : Int32)))) (fun h => by rw [Bd.returns] at h; cases h) (fun fs hr => retN X2 hx (t := .boolean) Bd.returns (by simp) (hb hby own_d12_4) hr) (by rw [e2]; exact ⟨rfl, N0, rfl⟩) (by decide) (by decide)
theorem own_ef_rmLab (m : MethodId) (o : Addr) (v : Addr) (ka : Addr) (ko : Addr) (kf : Addr) : entryFrame m #[(.ref o)] 2 = mkF m 0 #[.val (.ref o), .unset] [] := by first | (simp [entryFrame, mkF, argsToLocals, Value.category]; done) | rfl
theorem own_d14_0 : decode prog_4_method_14_code 0 = .ok (.aload_n 0, 1) := by decide +kernel
theorem own_d14_1 : decode prog_4_method_14_code 1 = .ok (.getfield 7, 3) := by decide +kernel
theorem own_d14_4 : decode prog_4_method_14_code 4 = .ok (.getstatic 37, 3) := by decide +kernel
theorem own_d14_7 : decode prog_4_method_14_code 7 = .ok (.if_acmp .ne 20, 3) := by decide +kernel
theorem own_d14_27 : decode prog_4_method_14_code 27 = .ok (.aload_n 0, 1) := by decide +kernel
theorem own_d14_28 : decode prog_4_method_14_code 28 = .ok (.getfield 7, 3) := by decide +kernel
theorem own_d14_31 : decode prog_4_method_14_code 31 = .ok (.getstatic 45, 3) := by decide +kernel
theorem own_d14_34 : decode prog_4_method_14_code 34 = .ok (.if_acmp .ne 16, 3) := by decide +kernel
theorem own_d14_50 : decode prog_4_method_14_code 50 = .ok (.aload_n 0, 1) := by decide +kernel
theorem own_d14_51 : decode prog_4_method_14_code 51 = .ok (.getfield 28, 3) := by decide +kernel
theorem own_d14_54 : decode prog_4_method_14_code 54 = .ok (.ifCond .eq 44, 3) := by decide +kernel
theorem own_d14_98 : decode prog_4_method_14_code 98 = .ok (.aload_n 0, 1) := by decide +kernel
theorem own_d14_99 : decode prog_4_method_14_code 99 = .ok (.getfield 17, 3) := by decide +kernel
theorem own_d14_102 : decode prog_4_method_14_code 102 = .ok (.astore_n 1, 1) := by decide +kernel
theorem own_d14_103 : decode prog_4_method_14_code 103 = .ok (.aload_n 1, 1) := by decide +kernel
theorem own_d14_104 : decode prog_4_method_14_code 104 = .ok (.areturn, 1) := by decide +kernel
def Q_rmLab (Z : State) (o : Addr) (v : Addr) (ka : Addr) (ko : Addr) (kf : Addr) (h0 : Heap) (n0 : Nat) (vq : Option Value) (hhq : Heap) (Lq : List Loc) : Prop := vq = some (.ref v) ∧ Fr n0 Lq ∧ hhq = h0
set_option maxRecDepth 65536 in
set_option maxHeartbeats 40000000 in
theorem rmLab (l : Launch) (Z : State) (a0 : Array Value) (hw : ∀ d ∈ tables_1, d.before a0 Z = true) (ws : List Jvm.Cond) (o : Addr) (v : Addr) (ka : Addr) (ko : Addr) (kf : Addr) (h0 : Heap) (n0 : Nat) (Z0 : n0 ≤ h0.size) (Pm0 : Fld Z h0 o "com/example/elodea/elodea/cli/Parameter" "kind" "Lcom/example/elodea/elodea/cli/Parameter$Kind;" (.ref ka)) (Pm1 : Fld Z h0 o "com/example/elodea/elodea/cli/Parameter" "repeated" "Z" (.int (0 : Int32))) (Pm2 : Fld Z h0 o "com/example/elodea/elodea/cli/Parameter" "placeholder" "Ljava/lang/String;" (.ref v)) (OA : Sta Z Z.heap "com/example/elodea/elodea/cli/Parameter$Kind" "ARGUMENT" "Lcom/example/elodea/elodea/cli/Parameter$Kind;" (.ref ka)) (OO : Sta Z Z.heap "com/example/elodea/elodea/cli/Parameter$Kind" "OPTION" "Lcom/example/elodea/elodea/cli/Parameter$Kind;" (.ref ko)) (OF : Sta Z Z.heap "com/example/elodea/elodea/cli/Parameter$Kind" "FLAG" "Lcom/example/elodea/elodea/cli/Parameter$Kind;" (.ref kf)) (X00 : Old Z n0 h0) (nko : (ka ≠ ko)) (nkf : (ka ≠ kf)) :
    MetFree l (⟨"com/example/elodea/elodea/cli/Parameter", "getLabel", "()Ljava/lang/String;"⟩ : MethodName) (head1 (Jvm.Cond.code (⟨"com/example/elodea/elodea/cli/Parameter", "getLabel", "()Ljava/lang/String;"⟩ : MethodName) prog_4_method_14_code 2 (some (.object "java/lang/String")) :: ws) ({ frames := 0, cells := 0, slots := 0, locals := 0 } : Room)) (fun aq U => aq = #[(.ref o)] ∧ Z.Warmed39 U.vm ∧ U.heap = h0) (fun _ _ _ _ _ => True) (fun _ U oq U' => ∃ vq Lq, oq = .returned vq ∧ Q_rmLab Z o v ka ko kf h0 n0 vq U'.heap Lq ∧ FrameEnd U oq U' Lq ({ frames := 0, cells := 0, slots := 0, locals := 0 } : Room).cells ({ frames := 0, cells := 0, slots := 0, locals := 0 } : Room).slots) := by
  refine MetFree.of_bodySF (plainFor_of_name own_pn_com_example_elodea_elodea_cli_Parameter) hisR ?_
  intro p e s m args below meth c s₁ Bd hml0 hP hK
  obtain ⟨rfl, hZ, hh⟩ := hP
  have hx := Bd.exec
  have hby := Bd.bytes
  have hml : c.maxLocals = 2 := hml0
  have hown : s.vm.findClass "com/example/elodea/elodea/cli/Parameter" = some m.cls := findClass_of_methodNamed Bd.named
  have hnm := (name_of_methodNamed Bd.named Bd.method).1
  have X0 : Stand p l e ({ frames := 0, cells := 0, slots := 0, locals := 0 } : Room) s m #[(.ref o)] below meth c s₁ [] 0 0 := Stand.of_body Bd
  have e0 : s₁.heap = h0 := by rw [← hh, Bd.state]; rfl
  have N0 := Fr.nil n0
  have K0 : Keep h0 h0 [] := Keep.refl _ _
  refine own_go (S' := s₁.setTop (mkF m 0 #[.val (.ref o), .unset] [])) (fun tq kq => castTop (own_ef_rmLab m o v ka ko kf) kq) ?_
  have lt1 : @LT.lt Nat _ o h0.size := Pm0.lt
  refine own_go (fun tq kq => XS.aloadN X0.here hx rfl (hb hby own_d14_0) rfl rfl kq) ?_
  show own_Rn p e below _ (s₁.setTop (mkF m 1 #[.val (.ref o), .unset] [(.ref o)]))
  obtain ⟨T2, X2, e2, st2⟩ := getF X0 hx hZ hown (host := "") (Or.inl (hw _ (own_mi 39 rfl))) Via.refl e0 Pm0 (g := (mkF m 1 #[.val (.ref o), .unset] [(.ref o)])) rfl rfl (hb hby own_d14_1)
  refine own_go st2 ?_
  show own_Rn p e below _ (T2.setTop (mkF m 4 #[.val (.ref o), .unset] [(.ref ka)]))
  obtain ⟨T3, X3, e3, st3⟩ := getS2 X2 hx hZ hown (host := "") (Or.inl (hw _ (own_mi 101 rfl))) Via.refl e2 (OO.ext X00.2) (g := (mkF m 4 #[.val (.ref o), .unset] [(.ref ka)])) rfl (hb hby own_d14_4)
  refine own_go st3 ?_
  show own_Rn p e below _ (T3.setTop (mkF m 7 #[.val (.ref o), .unset] [(.ref ko), (.ref ka)]))
  refine own_go (fun tq kq => Jvm.RoadKit.acmp (g := (mkF m 7 #[.val (.ref o), .unset] [(.ref ko), (.ref ka)])) X3 hx rfl rfl rfl (pc0 := 7) (pc' := 27) (same := false) rfl (hb hby own_d14_7) rfl (decide_eq_false fun q => nko (Value.ref.inj q)) (by decide) (by decide) kq) ?_
  show own_Rn p e below _ (T3.setTop (mkF m 27 #[.val (.ref o), .unset] []))
  refine own_go (fun tq kq => XS.aloadN X3.here hx rfl (hb hby own_d14_27) rfl rfl kq) ?_
  show own_Rn p e below _ (T3.setTop (mkF m 28 #[.val (.ref o), .unset] [(.ref o)]))
  obtain ⟨T4, X4, e4, st4⟩ := getF X3 hx hZ hown (host := "") (Or.inl (hw _ (own_mi 39 rfl))) Via.refl e3 Pm0 (g := (mkF m 28 #[.val (.ref o), .unset] [(.ref o)])) rfl rfl (hb hby own_d14_28)
  refine own_go st4 ?_
  show own_Rn p e below _ (T4.setTop (mkF m 31 #[.val (.ref o), .unset] [(.ref ka)]))
  obtain ⟨T5, X5, e5, st5⟩ := getS2 X4 hx hZ hown (host := "") (Or.inl (hw _ (own_mi 103 rfl))) Via.refl e4 (OF.ext X00.2) (g := (mkF m 31 #[.val (.ref o), .unset] [(.ref ka)])) rfl (hb hby own_d14_31)
  refine own_go st5 ?_
  show own_Rn p e below _ (T5.setTop (mkF m 34 #[.val (.ref o), .unset] [(.ref kf), (.ref ka)]))
  refine own_go (fun tq kq => Jvm.RoadKit.acmp (g := (mkF m 34 #[.val (.ref o), .unset] [(.ref kf), (.ref ka)])) X5 hx rfl rfl rfl (pc0 := 34) (pc' := 50) (same := false) rfl (hb hby own_d14_34) rfl (decide_eq_false fun q => nkf (Value.ref.inj q)) (by decide) (by decide) kq) ?_
  show own_Rn p e below _ (T5.setTop (mkF m 50 #[.val (.ref o), .unset] []))
  refine own_go (fun tq kq => XS.aloadN X5.here hx rfl (hb hby own_d14_50) rfl rfl kq) ?_
  show own_Rn p e below _ (T5.setTop (mkF m 51 #[.val (.ref o), .unset] [(.ref o)]))
  obtain ⟨T6, X6, e6, st6⟩ := getF X5 hx hZ hown (host := "") (Or.inl (hw _ (own_mi 49 rfl))) Via.refl e5 Pm1 (g := (mkF m 51 #[.val (.ref o), .unset] [(.ref o)])) rfl rfl (hb hby own_d14_51)
  refine own_go st6 ?_
  show own_Rn p e below _ (T6.setTop (mkF m 54 #[.val (.ref o), .unset] [(.int (0 : Int32))]))
  refine own_go (fun tq kq => XS.ifYes X6.here hx rfl (pc0 := 54) (pc' := 98) rfl (hb hby own_d14_54) rfl ((if0 _ _).trans (teq ((by decide : (0 : Int32) = (0 : Int32)) : (0 : Int32) = (0 : Int32))).1) (by decide) (by decide) kq) ?_
  show own_Rn p e below _ (T6.setTop (mkF m 98 #[.val (.ref o), .unset] []))
  refine own_go (fun tq kq => XS.aloadN X6.here hx rfl (hb hby own_d14_98) rfl rfl kq) ?_
  show own_Rn p e below _ (T6.setTop (mkF m 99 #[.val (.ref o), .unset] [(.ref o)]))
  obtain ⟨T7, X7, e7, st7⟩ := getF X6 hx hZ hown (host := "") (Or.inl (hw _ (own_mi 43 rfl))) Via.refl e6 Pm2 (g := (mkF m 99 #[.val (.ref o), .unset] [(.ref o)])) rfl rfl (hb hby own_d14_99)
  refine own_go st7 ?_
  show own_Rn p e below _ (T7.setTop (mkF m 102 #[.val (.ref o), .unset] [(.ref v)]))
  refine own_go (fun tq kq => XS.astoreN X7.here hx rfl (hb hby own_d14_102) rfl rfl (l' := #[.val (.ref o), .val (.ref v)]) rfl kq) ?_
  show own_Rn p e below _ (T7.setTop (mkF m 103 #[.val (.ref o), .val (.ref v)] []))
  refine own_go (fun tq kq => XS.aloadN X7.here hx rfl (hb hby own_d14_103) rfl rfl kq) ?_
  show own_Rn p e below _ (T7.setTop (mkF m 104 #[.val (.ref o), .val (.ref v)] [(.ref v)]))
  exact own_ret X7 (v := some (.ref v)) (fun h => by rw [Bd.returns] at h; cases h) (fun fs hr => X7.areturnOut hx rfl Bd.returns rfl (hb hby own_d14_104) hr) (by rw [e7]; exact ⟨rfl, N0, rfl⟩) (by decide) (by decide)
theorem own_ef_rmUs (m : MethodId) (o : Addr) (v : Addr) (ka : Addr) (ko : Addr) (kf : Addr) : entryFrame m #[(.ref o)] 1 = mkF m 0 #[.val (.ref o)] [] := by first | (simp [entryFrame, mkF, argsToLocals, Value.category]; done) | rfl
theorem own_d13_0 : decode prog_4_method_16_code 0 = .ok (.aload_n 0, 1) := by decide +kernel
theorem own_d13_1 : decode prog_4_method_16_code 1 = .ok (.getfield 20, 3) := by decide +kernel
theorem own_d13_4 : decode prog_4_method_16_code 4 = .ok (.ifCond .eq 10, 3) := by decide +kernel
theorem own_d13_7 : decode prog_4_method_16_code 7 = .ok (.aload_n 0, 1) := by decide +kernel
theorem own_d13_8 : decode prog_4_method_16_code 8 = .ok (.invokevirtual 100, 3) := by decide +kernel
theorem own_pd_2829Ljava2flang2fString3b : parseMethodDescriptor "()Ljava/lang/String;" = some ⟨[], some (.object "java/lang/String")⟩ := by decide +kernel
theorem own_d13_11 : decode prog_4_method_16_code 11 = .ok (.goto 12, 3) := by decide +kernel
theorem own_d13_23 : decode prog_4_method_16_code 23 = .ok (.areturn, 1) := by decide +kernel
def Q_rmUs (Z : State) (o : Addr) (v : Addr) (ka : Addr) (ko : Addr) (kf : Addr) (h0 : Heap) (n0 : Nat) (vq : Option Value) (hhq : Heap) (Lq : List Loc) : Prop := vq = some (.ref v) ∧ Fr n0 Lq ∧ hhq = h0
set_option maxRecDepth 65536 in
set_option maxHeartbeats 40000000 in
theorem rmUs (l : Launch) (Z : State) (a0 : Array Value) (hw : ∀ d ∈ tables_1, d.before a0 Z = true) (ws : List Jvm.Cond) (o : Addr) (v : Addr) (ka : Addr) (ko : Addr) (kf : Addr) (h0 : Heap) (n0 : Nat) (Z0 : n0 ≤ h0.size) (PE : Exa Z h0 o "com/example/elodea/elodea/cli/Parameter") (PR : Fld Z h0 o "com/example/elodea/elodea/cli/Parameter" "required" "Z" (.int (1 : Int32))) (Pm0 : Fld Z h0 o "com/example/elodea/elodea/cli/Parameter" "kind" "Lcom/example/elodea/elodea/cli/Parameter$Kind;" (.ref ka)) (Pm1 : Fld Z h0 o "com/example/elodea/elodea/cli/Parameter" "repeated" "Z" (.int (0 : Int32))) (Pm2 : Fld Z h0 o "com/example/elodea/elodea/cli/Parameter" "placeholder" "Ljava/lang/String;" (.ref v)) (OA : Sta Z Z.heap "com/example/elodea/elodea/cli/Parameter$Kind" "ARGUMENT" "Lcom/example/elodea/elodea/cli/Parameter$Kind;" (.ref ka)) (OO : Sta Z Z.heap "com/example/elodea/elodea/cli/Parameter$Kind" "OPTION" "Lcom/example/elodea/elodea/cli/Parameter$Kind;" (.ref ko)) (OF : Sta Z Z.heap "com/example/elodea/elodea/cli/Parameter$Kind" "FLAG" "Lcom/example/elodea/elodea/cli/Parameter$Kind;" (.ref kf)) (X00 : Old Z n0 h0) (nko : (ka ≠ ko)) (nkf : (ka ≠ kf)) :
    MetFree l (⟨"com/example/elodea/elodea/cli/Parameter", "getUsage", "()Ljava/lang/String;"⟩ : MethodName) (head1 (Jvm.Cond.code (⟨"com/example/elodea/elodea/cli/Parameter", "getUsage", "()Ljava/lang/String;"⟩ : MethodName) prog_4_method_16_code 1 (some (.object "java/lang/String")) :: ws) ({ frames := 1, cells := 0, slots := 0, locals := 13 } : Room)) (fun aq U => aq = #[(.ref o)] ∧ Z.Warmed39 U.vm ∧ U.heap = h0) (fun _ _ _ _ _ => True) (fun _ U oq U' => ∃ vq Lq, oq = .returned vq ∧ Q_rmUs Z o v ka ko kf h0 n0 vq U'.heap Lq ∧ FrameEnd U oq U' Lq ({ frames := 1, cells := 0, slots := 0, locals := 13 } : Room).cells ({ frames := 1, cells := 0, slots := 0, locals := 13 } : Room).slots) := by
  refine MetFree.of_bodySF (plainFor_of_name own_pn_com_example_elodea_elodea_cli_Parameter) hisR ?_
  intro p e s m args below meth c s₁ Bd hml0 hP hK
  obtain ⟨rfl, hZ, hh⟩ := hP
  have hx := Bd.exec
  have hby := Bd.bytes
  have hml : c.maxLocals = 1 := hml0
  have hown : s.vm.findClass "com/example/elodea/elodea/cli/Parameter" = some m.cls := findClass_of_methodNamed Bd.named
  have hnm := (name_of_methodNamed Bd.named Bd.method).1
  have X0 : Stand p l e ({ frames := 1, cells := 0, slots := 0, locals := 13 } : Room) s m #[(.ref o)] below meth c s₁ [] 0 0 := Stand.of_body Bd
  have e0 : s₁.heap = h0 := by rw [← hh, Bd.state]; rfl
  have N0 := Fr.nil n0
  have K0 : Keep h0 h0 [] := Keep.refl _ _
  refine own_go (S' := s₁.setTop (mkF m 0 #[.val (.ref o)] [])) (fun tq kq => castTop (own_ef_rmUs m o v ka ko kf) kq) ?_
  have lt1 : @LT.lt Nat _ o h0.size := PE.lt
  refine own_go (fun tq kq => XS.aloadN X0.here hx rfl (hb hby own_d13_0) rfl rfl kq) ?_
  show own_Rn p e below _ (s₁.setTop (mkF m 1 #[.val (.ref o)] [(.ref o)]))
  obtain ⟨T2, X2, e2, st2⟩ := getF X0 hx hZ hown (host := "") (Or.inl (hw _ (own_mi 45 rfl))) Via.refl e0 PR (g := (mkF m 1 #[.val (.ref o)] [(.ref o)])) rfl rfl (hb hby own_d13_1)
  refine own_go st2 ?_
  show own_Rn p e below _ (T2.setTop (mkF m 4 #[.val (.ref o)] [(.int (1 : Int32))]))
  refine own_go (fun tq kq => XS.ifNo X2.here hx rfl (hb hby own_d13_4) rfl ((if0 _ _).trans (feq ((by decide : ¬ ((1 : Int32) = (0 : Int32))) : ¬ ((1 : Int32) = (0 : Int32)))).1) kq) ?_
  show own_Rn p e below _ (T2.setTop (mkF m 7 #[.val (.ref o)] []))
  refine own_go (fun tq kq => XS.aloadN X2.here hx rfl (hb hby own_d13_7) rfl rfl kq) ?_
  show own_Rn p e below _ (T2.setTop (mkF m 8 #[.val (.ref o)] [(.ref o)]))
  have Zn3 : n0 ≤ h0.size := by omega
  obtain ⟨cq3, kq3, qa3, qb3, qc3⟩ := isOf hZ e2 PE
  obtain ⟨rv3, _, ⟨T3, L3, k3, n3⟩, -, X3, ⟨Lc3, hQ3, l3, y3, z3⟩, st3⟩ := X2.virtualBack hx (y := (⟨"com/example/elodea/elodea/cli/Parameter", "getLabel", "()Ljava/lang/String;"⟩ : MethodName)) (z := (⟨"com/example/elodea/elodea/cli/Parameter", "getLabel", "()Ljava/lang/String;"⟩ : MethodName)) hown (mvT hZ (hw _ (own_mi 96 rfl))) (mvT hZ (hw _ (own_mi 97 rfl))) (notFace_of_selects (args := #[]) (mvT hZ (hw _ (own_mi 99 rfl)))) (mvT hZ (hw _ (own_mi 99 rfl))) (mvT hZ (hw _ (own_mi 98 rfl))) (by decide) (backOf (W := 0) (rmLab l Z a0 hw [] (o) (v) (ka) (ko) (kf) h0 n0 Zn3 Pm0 Pm1 Pm2 (OA) (OO) (OF) X00 (nko) (nkf)) hZ (hw _ (own_mi 100 rfl)) (hw _ (own_mi 28 rfl)) (by decide) (by decide)) qa3 qc3 (g := (mkF m 8 #[.val (.ref o)] [(.ref o)])) rfl (by rw [hml]; rfl) (Steps.refl _) (argsL := []) (rest := []) (lenOf own_pd_2829Ljava2flang2fString3b rfl) rfl (by show 2 * 0 + _ ≤ _; exact Nat.le_of_eq rfl) (hb hby own_d13_8) (fun _ _ => ⟨rfl, e2, (by decide : 0 + 0 ≤ _), (by decide : 0 + 0 ≤ _)⟩)
  dsimp only [Pt.U, Pt.locs, Pt.cells, Pt.slots] at X3 l3 y3 z3 st3 hQ3
  subst l3 y3 z3
  obtain ⟨rfl, Nq3, eh3⟩ := hQ3
  have N3 := Fr.app N0 Nq3
  refine own_go (fun tq kq => st3.trans kq) ?_
  show own_Rn p e below _ (T3.setTop (mkF m 11 #[.val (.ref o)] [(.ref v)]))
  refine own_go (fun tq kq => XS.goto X3.here hx rfl (pc0 := 11) (pc' := 23) rfl (hb hby own_d13_11) (by decide) (by decide) kq) ?_
  show own_Rn p e below _ (T3.setTop (mkF m 23 #[.val (.ref o)] [(.ref v)]))
  exact own_ret X3 (v := some (.ref v)) (fun h => by rw [Bd.returns] at h; cases h) (fun fs hr => X3.areturnOut hx rfl Bd.returns rfl (hb hby own_d13_23) hr) (by rw [eh3]; exact ⟨rfl, N3, rfl⟩) (by decide) (by decide)
theorem own_ef_rmWN (m : MethodId) (o : Addr) (v : Addr) (ix : Int32) : entryFrame m #[(.ref o), (.int ix)] 2 = mkF m 0 #[.val (.ref o), .val (.int ix)] [] := by first | (simp [entryFrame, mkF, argsToLocals, Value.category]; done) | rfl
theorem own_d15_0 : decode prog_4_method_15_code 0 = .ok (.aload_n 0, 1) := by decide +kernel
theorem own_d15_1 : decode prog_4_method_15_code 1 = .ok (.getfield 28, 3) := by decide +kernel
theorem own_d15_4 : decode prog_4_method_15_code 4 = .ok (.ifCond .eq 18, 3) := by decide +kernel
theorem own_d15_22 : decode prog_4_method_15_code 22 = .ok (.aload_n 0, 1) := by decide +kernel
theorem own_d15_23 : decode prog_4_method_15_code 23 = .ok (.getfield 17, 3) := by decide +kernel
theorem own_d15_26 : decode prog_4_method_15_code 26 = .ok (.areturn, 1) := by decide +kernel
def Q_rmWN (Z : State) (o : Addr) (v : Addr) (ix : Int32) (h0 : Heap) (n0 : Nat) (vq : Option Value) (hhq : Heap) (Lq : List Loc) : Prop := vq = some (.ref v) ∧ Fr n0 Lq ∧ hhq = h0
set_option maxRecDepth 65536 in
set_option maxHeartbeats 40000000 in
theorem rmWN (l : Launch) (Z : State) (a0 : Array Value) (hw : ∀ d ∈ tables_1, d.before a0 Z = true) (ws : List Jvm.Cond) (o : Addr) (v : Addr) (ix : Int32) (h0 : Heap) (n0 : Nat) (Z0 : n0 ≤ h0.size) (Pm0 : Fld Z h0 o "com/example/elodea/elodea/cli/Parameter" "repeated" "Z" (.int (0 : Int32))) (Pm1 : Fld Z h0 o "com/example/elodea/elodea/cli/Parameter" "placeholder" "Ljava/lang/String;" (.ref v)) :
    MetFree l (⟨"com/example/elodea/elodea/cli/Parameter", "getWordName", "(I)Ljava/lang/String;"⟩ : MethodName) (head1 (Jvm.Cond.code (⟨"com/example/elodea/elodea/cli/Parameter", "getWordName", "(I)Ljava/lang/String;"⟩ : MethodName) prog_4_method_15_code 2 (some (.object "java/lang/String")) :: ws) ({ frames := 0, cells := 0, slots := 0, locals := 0 } : Room)) (fun aq U => aq = #[(.ref o), (.int ix)] ∧ Z.Warmed39 U.vm ∧ U.heap = h0) (fun _ _ _ _ _ => True) (fun _ U oq U' => ∃ vq Lq, oq = .returned vq ∧ Q_rmWN Z o v ix h0 n0 vq U'.heap Lq ∧ FrameEnd U oq U' Lq ({ frames := 0, cells := 0, slots := 0, locals := 0 } : Room).cells ({ frames := 0, cells := 0, slots := 0, locals := 0 } : Room).slots) := by
  refine MetFree.of_bodySF (plainFor_of_name own_pn_com_example_elodea_elodea_cli_Parameter) hisR ?_
  intro p e s m args below meth c s₁ Bd hml0 hP hK
  obtain ⟨rfl, hZ, hh⟩ := hP
  have hx := Bd.exec
  have hby := Bd.bytes
  have hml : c.maxLocals = 2 := hml0
  have hown : s.vm.findClass "com/example/elodea/elodea/cli/Parameter" = some m.cls := findClass_of_methodNamed Bd.named
  have hnm := (name_of_methodNamed Bd.named Bd.method).1
  have X0 : Stand p l e ({ frames := 0, cells := 0, slots := 0, locals := 0 } : Room) s m #[(.ref o), (.int ix)] below meth c s₁ [] 0 0 := Stand.of_body Bd
  have e0 : s₁.heap = h0 := by rw [← hh, Bd.state]; rfl
  have N0 := Fr.nil n0
  have K0 : Keep h0 h0 [] := Keep.refl _ _
  refine own_go (S' := s₁.setTop (mkF m 0 #[.val (.ref o), .val (.int ix)] [])) (fun tq kq => castTop (own_ef_rmWN m o v ix) kq) ?_
  have lt1 : @LT.lt Nat _ o h0.size := Pm0.lt
  refine own_go (fun tq kq => XS.aloadN X0.here hx rfl (hb hby own_d15_0) rfl rfl kq) ?_
  show own_Rn p e below _ (s₁.setTop (mkF m 1 #[.val (.ref o), .val (.int ix)] [(.ref o)]))
  obtain ⟨T2, X2, e2, st2⟩ := getF X0 hx hZ hown (host := "") (Or.inl (hw _ (own_mi 49 rfl))) Via.refl e0 Pm0 (g := (mkF m 1 #[.val (.ref o), .val (.int ix)] [(.ref o)])) rfl rfl (hb hby own_d15_1)
  refine own_go st2 ?_
  show own_Rn p e below _ (T2.setTop (mkF m 4 #[.val (.ref o), .val (.int ix)] [(.int (0 : Int32))]))
  refine own_go (fun tq kq => XS.ifYes X2.here hx rfl (pc0 := 4) (pc' := 22) rfl (hb hby own_d15_4) rfl ((if0 _ _).trans (teq ((by decide : (0 : Int32) = (0 : Int32)) : (0 : Int32) = (0 : Int32))).1) (by decide) (by decide) kq) ?_
  show own_Rn p e below _ (T2.setTop (mkF m 22 #[.val (.ref o), .val (.int ix)] []))
  refine own_go (fun tq kq => XS.aloadN X2.here hx rfl (hb hby own_d15_22) rfl rfl kq) ?_
  show own_Rn p e below _ (T2.setTop (mkF m 23 #[.val (.ref o), .val (.int ix)] [(.ref o)]))
  obtain ⟨T3, X3, e3, st3⟩ := getF X2 hx hZ hown (host := "") (Or.inl (hw _ (own_mi 43 rfl))) Via.refl e2 Pm1 (g := (mkF m 23 #[.val (.ref o), .val (.int ix)] [(.ref o)])) rfl rfl (hb hby own_d15_23)
  refine own_go st3 ?_
  show own_Rn p e below _ (T3.setTop (mkF m 26 #[.val (.ref o), .val (.int ix)] [(.ref v)]))
  exact own_ret X3 (v := some (.ref v)) (fun h => by rw [Bd.returns] at h; cases h) (fun fs hr => X3.areturnOut hx rfl Bd.returns rfl (hb hby own_d15_26) hr) (by rw [e3]; exact ⟨rfl, N0, rfl⟩) (by decide) (by decide)
theorem own_ef_rm0 (m : MethodId) (i0 : Int32) (i1 : Int32) (i2 : Int32) (i3 : Int32) (G1 : Int32) (ka : Addr) (ko : Addr) (kf : Addr) : entryFrame m #[(.int i0), (.int i1), (.int i2), (.int i3)] maxLocals = mkF m 0 #[.val (.int i0), .val (.int i1), .val (.int i2), .val (.int i3), .unset, .unset, .unset, .unset] [] := by first | (simp [entryFrame, mkF, argsToLocals, Value.category, maxLocals]; done) | rfl
theorem own_pd_28I29Ljava2flang2fString3b : parseMethodDescriptor "(I)Ljava/lang/String;" = some ⟨[.int], some (.object "java/lang/String")⟩ := by decide +kernel
theorem own_pd_28Ljava2flang2fString3bLjava2flang2fString3bLjava2flang2fString3b29Lcom2fexample2felodea2felodea2fcli2fParameter3b : parseMethodDescriptor "(Ljava/lang/String;Ljava/lang/String;Ljava/lang/String;)Lcom/example/elodea/elodea/cli/Parameter;" = some ⟨[(.object "java/lang/String"), (.object "java/lang/String"), (.object "java/lang/String")], some (.object "com/example/elodea/elodea/cli/Parameter")⟩ := by decide +kernel
theorem own_pd_2829Lcom2fexample2felodea2felodea2fcli2fParameter24Kind3b : parseMethodDescriptor "()Lcom/example/elodea/elodea/cli/Parameter$Kind;" = some ⟨[], some (.object "com/example/elodea/elodea/cli/Parameter$Kind")⟩ := by decide +kernel
theorem own_pd_28Ljava2flang2fObject3b29Z : parseMethodDescriptor "(Ljava/lang/Object;)Z" = some ⟨[(.object "java/lang/Object")], some .boolean⟩ := by decide +kernel
theorem own_pd_2829I : parseMethodDescriptor "()I" = some ⟨[], some .int⟩ := by decide +kernel
theorem own_pd_2829Z : parseMethodDescriptor "()Z" = some ⟨[], some .boolean⟩ := by decide +kernel
def Q_rm0 (Z : State) (i0 : Int32) (i1 : Int32) (i2 : Int32) (i3 : Int32) (G1 : Int32) (ka : Addr) (ko : Addr) (kf : Addr) (h0 : Heap) (n0 : Nat) (vq : Option Value) (hhq : Heap) (Lq : List Loc) : Prop := vq = some (.int (1 : Int32)) ∧ Fr n0 Lq
set_option maxRecDepth 65536 in
set_option maxHeartbeats 40000000 in
theorem rm0 (l : Launch) (Z : State) (a0 : Array Value) (hw : ∀ d ∈ tables_1, d.before a0 Z = true) (ws : List Jvm.Cond) (i0 : Int32) (i1 : Int32) (i2 : Int32) (i3 : Int32) (G1 : Int32) (ka : Addr) (ko : Addr) (kf : Addr) (h0 : Heap) (n0 : Nat) (Z0 : n0 ≤ h0.size) (hEL : EW Z a0 consts_1) (O2 : Sta Z Z.heap "java/lang/String" "COMPACT_STRINGS" "Z" (.int G1)) (P5 : (¬ (G1 = (0 : Int32)))) (X00 : Old Z n0 h0) (OA : Sta Z Z.heap "com/example/elodea/elodea/cli/Parameter$Kind" "ARGUMENT" "Lcom/example/elodea/elodea/cli/Parameter$Kind;" (.ref ka)) (OO : Sta Z Z.heap "com/example/elodea/elodea/cli/Parameter$Kind" "OPTION" "Lcom/example/elodea/elodea/cli/Parameter$Kind;" (.ref ko)) (OF : Sta Z Z.heap "com/example/elodea/elodea/cli/Parameter$Kind" "FLAG" "Lcom/example/elodea/elodea/cli/Parameter$Kind;" (.ref kf)) (nko : (ka ≠ ko)) (nkf : (ka ≠ kf)) :
    MetFree l x (head1 (Jvm.Cond.code x code maxLocals ret :: ws) room_1) (fun aq U => aq = #[(.int i0), (.int i1), (.int i2), (.int i3)] ∧ Z.Warmed39 U.vm ∧ U.heap = h0 ∧ CHv Z consts_1 U.vm h0 ∧ ∀ ax ∈ ([] : List Addr), Safe Z consts_1 U.vm h0 ax) (fun _ _ _ _ _ => True) (fun _ U oq U' => ∃ vq Lq, oq = .returned vq ∧ Q_rm0 Z i0 i1 i2 i3 G1 ka ko kf h0 n0 vq U'.heap Lq ∧ CHr Z consts_1 U.vm U.heap U'.vm U'.heap ∧ ReturnedEndW U oq U' Lq 32 1216) := by
  refine MetFree.of_bodySF (plainFor_of_name own_pn_com_example_elodea_elodea_cli_ParameterArgumentPinLaw) hisR ?_
  intro p e s m args below meth c s₁ Bd hml0 hP hK
  obtain ⟨rfl, hZ, hh, hH, hSf⟩ := hP
  have hx := Bd.exec
  have hby := Bd.bytes
  have hml : c.maxLocals = 8 := hml0
  have hown : s.vm.findClass "com/example/elodea/elodea/cli/ParameterArgumentPinLaw" = some m.cls := findClass_of_methodNamed Bd.named
  have hnm := (name_of_methodNamed Bd.named Bd.method).1
  have X0 : Stand p l e room_1 (s.setVm s.vm) m #[(.int i0), (.int i1), (.int i2), (.int i3)] below meth c s₁ [] 0 0 := Stand.of_body Bd
  have e0 : s₁.heap = h0 := by rw [← hh, Bd.state]; rfl
  have N0 := Fr.nil n0
  have K0 : Keep h0 h0 [] := Keep.refl _ _
  refine own_go (S' := s₁.setTop (mkF m 0 #[.val (.int i0), .val (.int i1), .val (.int i2), .val (.int i3), .unset, .unset, .unset, .unset] [])) (fun tq kq => castTop (own_ef_rm0 m i0 i1 i2 i3 G1 ka ko kf) kq) ?_
  have hS0 : s.Since s.vm h0.size := (State.WarmedH.refl s).since _
  have CR0 : CHr Z consts_1 s.vm h0 s.vm h0 := CHr.refl hH
  have hwS : ∀ d ∈ Bundle.stringAtoms, d.before a0 Z = true := fun d hd => hw d ((by decide +kernel : ∀ d ∈ Bundle.stringAtoms, d ∈ tables_1) d hd)
  refine own_go (fun tq kq => XS.iloadN X0.here hx rfl (hb hby at_0) rfl kq) ?_
  show own_Rn p e below _ (s₁.setTop (mkF m 1 #[.val (.int i0), .val (.int i1), .val (.int i2), .val (.int i3), .unset, .unset, .unset, .unset] [(.int i0)]))
  have Zn1 : n0 ≤ h0.size := by omega
  obtain ⟨rv1, _, ⟨T1, L1, k1, n1⟩, -, X1, hS1, hG1, ⟨Lc1, hQ1, l1, y1, z1, CR1q⟩, st1⟩ := Jvm.RoadKit.callSS X0 hx (y := (⟨"com/example/elodea/elodea/cli/ParameterArgumentPinLaw", "draw", "(I)Ljava/lang/String;"⟩ : MethodName)) hown (mvT hZ (hw _ (own_mi 0 rfl))) (mvT hZ (hw _ (own_mi 1 rfl))) (mvT hZ (hw _ (own_mi 2 rfl))) (mvT hZ (hw _ (own_mi 3 rfl))) (by decide) (own_backSH (W := 0) (rm := ({ frames := 4, cells := 6, slots := 12, locals := 66 } : Room)) (sf := []) (h := h0) (rmDraw l Z a0 hw [] (i0) (G1) h0 n0 Zn1 hEL (O2) (P5) X00) hZ (hw _ (own_mi 3 rfl)) (hw _ (own_mi 2 rfl)) (by decide) (by decide) hEL CR0.1 sf0) (g := (mkF m 1 #[.val (.int i0), .val (.int i1), .val (.int i2), .val (.int i3), .unset, .unset, .unset, .unset] [(.int i0)])) rfl (by rw [hml]; rfl) (argsL := [(.int i0)]) (rest := []) (lenOf own_pd_28I29Ljava2flang2fString3b rfl) rfl (by show 2 * 0 + _ ≤ _; exact Nat.le_of_eq rfl) (hb hby at_1) (fun _ _ => ⟨rfl, e0, (by decide : 0 + 6 ≤ _), (by decide : 0 + 12 ≤ _)⟩)
  dsimp only [Pt.U, Pt.locs, Pt.cells, Pt.slots] at X1 l1 y1 z1 st1 hQ1 hS1 hG1 CR1q
  subst l1 y1 z1
  obtain ⟨na, rfl, Nq1, Kq1, G0_1⟩ := hQ1
  have N1 := Fr.app N0 Nq1
  obtain ⟨Xr1, hSr1, hZ1, hown1⟩ := rebS hS0 (n1 := s₁.heap.size) (by rw [e0]; omega) X1 hS1 hG1 hZ hown
  have sz2 : h0.size ≤ T1.heap.size := Kq1.1
  have cr2 : CHr Z consts_1 s.vm h0 T1.vm T1.heap := CR1q
  have CR2 := CR0.trans cr2
  have lt3 : @LT.lt Nat _ na T1.heap.size := G0_1.lt
  refine own_go (fun tq kq => st1.trans kq) ?_
  show own_Rn p e below _ (T1.setTop (mkF m 4 #[.val (.int i0), .val (.int i1), .val (.int i2), .val (.int i3), .unset, .unset, .unset, .unset] [(.ref na)]))
  refine own_go (fun tq kq => XS.astore Xr1.here hx rfl (hb hby at_4) rfl rfl (l' := #[.val (.int i0), .val (.int i1), .val (.int i2), .val (.int i3), .val (.ref na), .unset, .unset, .unset]) rfl kq) ?_
  show own_Rn p e below _ (T1.setTop (mkF m 6 #[.val (.int i0), .val (.int i1), .val (.int i2), .val (.int i3), .val (.ref na), .unset, .unset, .unset] []))
  refine own_go (fun tq kq => XS.iloadN Xr1.here hx rfl (hb hby at_6) rfl kq) ?_
  show own_Rn p e below _ (T1.setTop (mkF m 7 #[.val (.int i0), .val (.int i1), .val (.int i2), .val (.int i3), .val (.ref na), .unset, .unset, .unset] [(.int i1)]))
  have Zn4 : n0 ≤ T1.heap.size := by omega
  have F5 : Old Z n0 T1.heap := (X00.keep Kq1 all0)
  obtain ⟨rv4, _, ⟨T4, L4, k4, n4⟩, -, X4, hS4, hG4, ⟨Lc4, hQ4, l4, y4, z4, CR4q⟩, st4⟩ := Jvm.RoadKit.callSS Xr1 hx (y := (⟨"com/example/elodea/elodea/cli/ParameterArgumentPinLaw", "draw", "(I)Ljava/lang/String;"⟩ : MethodName)) hown1 (mvT hZ1 (hw _ (own_mi 0 rfl))) (mvT hZ1 (hw _ (own_mi 1 rfl))) (mvT hZ1 (hw _ (own_mi 2 rfl))) (mvT hZ1 (hw _ (own_mi 3 rfl))) (by decide) (own_backSH (W := 0) (rm := ({ frames := 4, cells := 6, slots := 12, locals := 66 } : Room)) (sf := []) (h := T1.heap) (rmDraw l Z a0 hw [] (i1) (G1) T1.heap n0 Zn4 hEL (O2) (P5) F5) hZ1 (hw _ (own_mi 3 rfl)) (hw _ (own_mi 2 rfl)) (by decide) (by decide) hEL CR2.1 sf0) (g := (mkF m 7 #[.val (.int i0), .val (.int i1), .val (.int i2), .val (.int i3), .val (.ref na), .unset, .unset, .unset] [(.int i1)])) rfl (by rw [hml]; rfl) (argsL := [(.int i1)]) (rest := []) (lenOf own_pd_28I29Ljava2flang2fString3b rfl) rfl (by show 2 * 0 + _ ≤ _; exact Nat.le_of_eq rfl) (hb hby at_7) (fun _ _ => ⟨rfl, rfl, (by decide : 6 + 6 ≤ _), (by decide : 12 + 12 ≤ _)⟩)
  dsimp only [Pt.U, Pt.locs, Pt.cells, Pt.slots] at X4 l4 y4 z4 st4 hQ4 hS4 hG4 CR4q
  subst l4 y4 z4
  obtain ⟨pl, rfl, Nq4, Kq4, G0_4⟩ := hQ4
  have N4 := Fr.app N1 Nq4
  obtain ⟨Xr4, hSr4, hZ4, hown4⟩ := rebS hSr1 (n1 := T1.heap.size) (by omega) X4 hS4 hG4 hZ1 hown1
  have sz6 : T1.heap.size ≤ T4.heap.size := Kq4.1
  have cr6 : CHr Z consts_1 T1.vm T1.heap T4.vm T4.heap := CR4q
  have CR6 := CR2.trans cr6
  have lt7 : @LT.lt Nat _ pl T4.heap.size := G0_4.lt
  refine own_go (fun tq kq => st4.trans kq) ?_
  show own_Rn p e below _ (T4.setTop (mkF m 10 #[.val (.int i0), .val (.int i1), .val (.int i2), .val (.int i3), .val (.ref na), .unset, .unset, .unset] [(.ref pl)]))
  refine own_go (fun tq kq => XS.astore Xr4.here hx rfl (hb hby at_10) rfl rfl (l' := #[.val (.int i0), .val (.int i1), .val (.int i2), .val (.int i3), .val (.ref na), .val (.ref pl), .unset, .unset]) rfl kq) ?_
  show own_Rn p e below _ (T4.setTop (mkF m 12 #[.val (.int i0), .val (.int i1), .val (.int i2), .val (.int i3), .val (.ref na), .val (.ref pl), .unset, .unset] []))
  refine own_go (fun tq kq => XS.iloadN Xr4.here hx rfl (hb hby at_12) rfl kq) ?_
  show own_Rn p e below _ (T4.setTop (mkF m 13 #[.val (.int i0), .val (.int i1), .val (.int i2), .val (.int i3), .val (.ref na), .val (.ref pl), .unset, .unset] [(.int i2)]))
  have Zn8 : n0 ≤ T4.heap.size := by omega
  have F9 : Old Z n0 T4.heap := (F5.keep Kq4 all0)
  obtain ⟨rv8, _, ⟨T8, L8, k8, n8⟩, -, X8, hS8, hG8, ⟨Lc8, hQ8, l8, y8, z8, CR8q⟩, st8⟩ := Jvm.RoadKit.callSS Xr4 hx (y := (⟨"com/example/elodea/elodea/cli/ParameterArgumentPinLaw", "draw", "(I)Ljava/lang/String;"⟩ : MethodName)) hown4 (mvT hZ4 (hw _ (own_mi 0 rfl))) (mvT hZ4 (hw _ (own_mi 1 rfl))) (mvT hZ4 (hw _ (own_mi 2 rfl))) (mvT hZ4 (hw _ (own_mi 3 rfl))) (by decide) (own_backSH (W := 0) (rm := ({ frames := 4, cells := 6, slots := 12, locals := 66 } : Room)) (sf := []) (h := T4.heap) (rmDraw l Z a0 hw [] (i2) (G1) T4.heap n0 Zn8 hEL (O2) (P5) F9) hZ4 (hw _ (own_mi 3 rfl)) (hw _ (own_mi 2 rfl)) (by decide) (by decide) hEL CR6.1 sf0) (g := (mkF m 13 #[.val (.int i0), .val (.int i1), .val (.int i2), .val (.int i3), .val (.ref na), .val (.ref pl), .unset, .unset] [(.int i2)])) rfl (by rw [hml]; rfl) (argsL := [(.int i2)]) (rest := []) (lenOf own_pd_28I29Ljava2flang2fString3b rfl) rfl (by show 2 * 0 + _ ≤ _; exact Nat.le_of_eq rfl) (hb hby at_13) (fun _ _ => ⟨rfl, rfl, (by decide : 12 + 6 ≤ _), (by decide : 24 + 12 ≤ _)⟩)
  dsimp only [Pt.U, Pt.locs, Pt.cells, Pt.slots] at X8 l8 y8 z8 st8 hQ8 hS8 hG8 CR8q
  subst l8 y8 z8
  obtain ⟨de, rfl, Nq8, Kq8, G0_8⟩ := hQ8
  have N8 := Fr.app N4 Nq8
  obtain ⟨Xr8, hSr8, hZ8, hown8⟩ := rebS hSr4 (n1 := T4.heap.size) (by omega) X8 hS8 hG8 hZ4 hown4
  have sz10 : T4.heap.size ≤ T8.heap.size := Kq8.1
  have cr10 : CHr Z consts_1 T4.vm T4.heap T8.vm T8.heap := CR8q
  have CR10 := CR6.trans cr10
  have lt11 : @LT.lt Nat _ de T8.heap.size := G0_8.lt
  refine own_go (fun tq kq => st8.trans kq) ?_
  show own_Rn p e below _ (T8.setTop (mkF m 16 #[.val (.int i0), .val (.int i1), .val (.int i2), .val (.int i3), .val (.ref na), .val (.ref pl), .unset, .unset] [(.ref de)]))
  refine own_go (fun tq kq => XS.astore Xr8.here hx rfl (hb hby at_16) rfl rfl (l' := #[.val (.int i0), .val (.int i1), .val (.int i2), .val (.int i3), .val (.ref na), .val (.ref pl), .val (.ref de), .unset]) rfl kq) ?_
  show own_Rn p e below _ (T8.setTop (mkF m 18 #[.val (.int i0), .val (.int i1), .val (.int i2), .val (.int i3), .val (.ref na), .val (.ref pl), .val (.ref de), .unset] []))
  refine own_go (fun tq kq => XS.aload Xr8.here hx rfl (hb hby at_18) rfl rfl kq) ?_
  show own_Rn p e below _ (T8.setTop (mkF m 20 #[.val (.int i0), .val (.int i1), .val (.int i2), .val (.int i3), .val (.ref na), .val (.ref pl), .val (.ref de), .unset] [(.ref na)]))
  refine own_go (fun tq kq => XS.aload Xr8.here hx rfl (hb hby at_20) rfl rfl kq) ?_
  show own_Rn p e below _ (T8.setTop (mkF m 22 #[.val (.int i0), .val (.int i1), .val (.int i2), .val (.int i3), .val (.ref na), .val (.ref pl), .val (.ref de), .unset] [(.ref pl), (.ref na)]))
  refine own_go (fun tq kq => XS.aload Xr8.here hx rfl (hb hby at_22) rfl rfl kq) ?_
  show own_Rn p e below _ (T8.setTop (mkF m 24 #[.val (.int i0), .val (.int i1), .val (.int i2), .val (.int i3), .val (.ref na), .val (.ref pl), .val (.ref de), .unset] [(.ref de), (.ref pl), (.ref na)]))
  have Zn12 : n0 ≤ T8.heap.size := by omega
  have F13 : Old Z n0 T8.heap := (F9.keep Kq8 all0)
  obtain ⟨rv12, _, ⟨T12, L12, k12, n12⟩, -, X12, ⟨Lc12, hQ12, l12, y12, z12⟩, st12⟩ := Jvm.LawKit.callS Xr8 hx (y := (⟨"com/example/elodea/elodea/cli/Parameter", "argument", "(Ljava/lang/String;Ljava/lang/String;Ljava/lang/String;)Lcom/example/elodea/elodea/cli/Parameter;"⟩ : MethodName)) hown8 (mvT hZ8 (hw _ (own_mi 26 rfl))) (mvT hZ8 (hw _ (own_mi 27 rfl))) (mvT hZ8 (hw _ (own_mi 28 rfl))) (mvT hZ8 (hw _ (own_mi 29 rfl))) (by decide) (backOf (W := 0) (rmArg l Z a0 hw [] (na) (pl) (de) (ka) T8.heap n0 Zn12 (OA) F13) hZ8 (hw _ (own_mi 29 rfl)) (hw _ (own_mi 28 rfl)) (by decide) (by decide)) (g := (mkF m 24 #[.val (.int i0), .val (.int i1), .val (.int i2), .val (.int i3), .val (.ref na), .val (.ref pl), .val (.ref de), .unset] [(.ref de), (.ref pl), (.ref na)])) rfl (by rw [hml]; rfl) (argsL := [(.ref na), (.ref pl), (.ref de)]) (rest := []) (lenOf own_pd_28Ljava2flang2fString3bLjava2flang2fString3bLjava2flang2fString3b29Lcom2fexample2felodea2felodea2fcli2fParameter3b rfl) rfl (by show 2 * 0 + _ ≤ _; exact Nat.le_of_eq rfl) (hb hby at_24) (fun _ _ => ⟨rfl, rfl, (by decide : 18 + 1 ≤ _), (by decide : 36 + 8 ≤ _)⟩)
  dsimp only [Pt.U, Pt.locs, Pt.cells, Pt.slots] at X12 l12 y12 z12 st12 hQ12
  subst l12 y12 z12
  obtain ⟨pp, rfl, Nq12, Kq12, G0_12, G1_12, G2_12, G3_12, G4_12, G5_12, G6_12, G7_12, G8_12⟩ := hQ12
  have N12 := Fr.app N8 Nq12
  have sz14 : T8.heap.size ≤ T12.heap.size := Kq12.1
  have cr14 : CHr Z consts_1 T8.vm T8.heap T8.vm T12.heap := CHr.keep Kq12 sf0 CR10.1
  have CR14 := CR10.trans cr14
  have lt15 : @LT.lt Nat _ pp T12.heap.size := G0_12.lt
  refine own_go st12 ?_
  show own_Rn p e below _ (T12.setTop (mkF m 27 #[.val (.int i0), .val (.int i1), .val (.int i2), .val (.int i3), .val (.ref na), .val (.ref pl), .val (.ref de), .unset] [(.ref pp)]))
  refine own_go (fun tq kq => XS.astore X12.here hx rfl (hb hby at_27) rfl rfl (l' := #[.val (.int i0), .val (.int i1), .val (.int i2), .val (.int i3), .val (.ref na), .val (.ref pl), .val (.ref de), .val (.ref pp)]) rfl kq) ?_
  show own_Rn p e below _ (T12.setTop (mkF m 29 #[.val (.int i0), .val (.int i1), .val (.int i2), .val (.int i3), .val (.ref na), .val (.ref pl), .val (.ref de), .val (.ref pp)] []))
  refine own_go (fun tq kq => XS.aload X12.here hx rfl (hb hby at_29) rfl rfl kq) ?_
  show own_Rn p e below _ (T12.setTop (mkF m 31 #[.val (.int i0), .val (.int i1), .val (.int i2), .val (.int i3), .val (.ref na), .val (.ref pl), .val (.ref de), .val (.ref pp)] [(.ref pp)]))
  have Zn16 : n0 ≤ T12.heap.size := by omega
  obtain ⟨cq16, kq16, qa16, qb16, qc16⟩ := isOf hZ8 rfl G0_12
  obtain ⟨rv16, _, ⟨T16, L16, k16, n16⟩, -, X16, ⟨Lc16, hQ16, l16, y16, z16⟩, st16⟩ := X12.virtualBack hx (y := (⟨"com/example/elodea/elodea/cli/Parameter", "getKind", "()Lcom/example/elodea/elodea/cli/Parameter$Kind;"⟩ : MethodName)) (z := (⟨"com/example/elodea/elodea/cli/Parameter", "getKind", "()Lcom/example/elodea/elodea/cli/Parameter$Kind;"⟩ : MethodName)) hown8 (mvT hZ8 (hw _ (own_mi 55 rfl))) (mvT hZ8 (hw _ (own_mi 56 rfl))) (notFace_of_selects (args := #[]) (mvT hZ8 (hw _ (own_mi 58 rfl)))) (mvT hZ8 (hw _ (own_mi 58 rfl))) (mvT hZ8 (hw _ (own_mi 57 rfl))) (by decide) (backOf (W := 0) (rmGK l Z a0 hw [] (pp) (ka) T12.heap n0 Zn16 G1_12) hZ8 (hw _ (own_mi 59 rfl)) (hw _ (own_mi 28 rfl)) (by decide) (by decide)) qa16 qc16 (g := (mkF m 31 #[.val (.int i0), .val (.int i1), .val (.int i2), .val (.int i3), .val (.ref na), .val (.ref pl), .val (.ref de), .val (.ref pp)] [(.ref pp)])) rfl (by rw [hml]; rfl) (Steps.refl _) (argsL := []) (rest := []) (lenOf own_pd_2829Lcom2fexample2felodea2felodea2fcli2fParameter24Kind3b rfl) rfl (by show 2 * 0 + _ ≤ _; exact Nat.le_of_eq rfl) (hb hby at_31) (fun _ _ => ⟨rfl, rfl, (by decide : 19 + 0 ≤ _), (by decide : 44 + 0 ≤ _)⟩)
  dsimp only [Pt.U, Pt.locs, Pt.cells, Pt.slots] at X16 l16 y16 z16 st16 hQ16
  subst l16 y16 z16
  obtain ⟨rfl, Nq16, eh16⟩ := hQ16
  have N16 := Fr.app N12 Nq16
  refine own_go (fun tq kq => st16.trans kq) ?_
  show own_Rn p e below _ (T16.setTop (mkF m 34 #[.val (.int i0), .val (.int i1), .val (.int i2), .val (.int i3), .val (.ref na), .val (.ref pl), .val (.ref de), .val (.ref pp)] [(.ref ka)]))
  have F17 : Old Z n0 T12.heap := (F13.keep Kq12 all0)
  obtain ⟨T18, X18, e18, st18⟩ := getS2 X16 hx hZ8 hown8 (host := "") (Or.inl (hw _ (own_mi 60 rfl))) Via.refl eh16 (OA.ext F17.2) (g := (mkF m 34 #[.val (.int i0), .val (.int i1), .val (.int i2), .val (.int i3), .val (.ref na), .val (.ref pl), .val (.ref de), .val (.ref pp)] [(.ref ka)])) rfl (hb hby at_34)
  refine own_go st18 ?_
  show own_Rn p e below _ (T18.setTop (mkF m 37 #[.val (.int i0), .val (.int i1), .val (.int i2), .val (.int i3), .val (.ref na), .val (.ref pl), .val (.ref de), .val (.ref pp)] [(.ref ka), (.ref ka)]))
  refine own_go (fun tq kq => Jvm.RoadKit.acmp (g := (mkF m 37 #[.val (.int i0), .val (.int i1), .val (.int i2), .val (.int i3), .val (.ref na), .val (.ref pl), .val (.ref de), .val (.ref pp)] [(.ref ka), (.ref ka)])) X18 hx rfl rfl rfl (pc0 := 37) (pc' := 40) (same := true) rfl (hb hby at_37) rfl (decide_eq_true rfl) (by decide) (by decide) kq) ?_
  show own_Rn p e below _ (T18.setTop (mkF m 40 #[.val (.int i0), .val (.int i1), .val (.int i2), .val (.int i3), .val (.ref na), .val (.ref pl), .val (.ref de), .val (.ref pp)] []))
  refine own_go (fun tq kq => XS.aload X18.here hx rfl (hb hby at_40) rfl rfl kq) ?_
  show own_Rn p e below _ (T18.setTop (mkF m 42 #[.val (.int i0), .val (.int i1), .val (.int i2), .val (.int i3), .val (.ref na), .val (.ref pl), .val (.ref de), .val (.ref pp)] [(.ref pp)]))
  have Zn19 : n0 ≤ T12.heap.size := by omega
  obtain ⟨cq19, kq19, qa19, qb19, qc19⟩ := isOf hZ8 e18 G0_12
  obtain ⟨rv19, _, ⟨T19, L19, k19, n19⟩, -, X19, ⟨Lc19, hQ19, l19, y19, z19⟩, st19⟩ := X18.virtualBack hx (y := (⟨"com/example/elodea/elodea/cli/Parameter", "getName", "()Ljava/lang/String;"⟩ : MethodName)) (z := (⟨"com/example/elodea/elodea/cli/Parameter", "getName", "()Ljava/lang/String;"⟩ : MethodName)) hown8 (mvT hZ8 (hw _ (own_mi 61 rfl))) (mvT hZ8 (hw _ (own_mi 62 rfl))) (notFace_of_selects (args := #[]) (mvT hZ8 (hw _ (own_mi 64 rfl)))) (mvT hZ8 (hw _ (own_mi 64 rfl))) (mvT hZ8 (hw _ (own_mi 63 rfl))) (by decide) (backOf (W := 0) (rmGN l Z a0 hw [] (pp) (na) T12.heap n0 Zn19 G2_12) hZ8 (hw _ (own_mi 65 rfl)) (hw _ (own_mi 28 rfl)) (by decide) (by decide)) qa19 qc19 (g := (mkF m 42 #[.val (.int i0), .val (.int i1), .val (.int i2), .val (.int i3), .val (.ref na), .val (.ref pl), .val (.ref de), .val (.ref pp)] [(.ref pp)])) rfl (by rw [hml]; rfl) (Steps.refl _) (argsL := []) (rest := []) (lenOf own_pd_2829Ljava2flang2fString3b rfl) rfl (by show 2 * 0 + _ ≤ _; exact Nat.le_of_eq rfl) (hb hby at_42) (fun _ _ => ⟨rfl, e18, (by decide : 19 + 0 ≤ _), (by decide : 44 + 0 ≤ _)⟩)
  dsimp only [Pt.U, Pt.locs, Pt.cells, Pt.slots] at X19 l19 y19 z19 st19 hQ19
  subst l19 y19 z19
  obtain ⟨rfl, Nq19, eh19⟩ := hQ19
  have N19 := Fr.app N16 Nq19
  refine own_go (fun tq kq => st19.trans kq) ?_
  show own_Rn p e below _ (T19.setTop (mkF m 45 #[.val (.int i0), .val (.int i1), .val (.int i2), .val (.int i3), .val (.ref na), .val (.ref pl), .val (.ref de), .val (.ref pp)] [(.ref na)]))
  refine own_go (fun tq kq => XS.aload X19.here hx rfl (hb hby at_45) rfl rfl kq) ?_
  show own_Rn p e below _ (T19.setTop (mkF m 47 #[.val (.int i0), .val (.int i1), .val (.int i2), .val (.int i3), .val (.ref na), .val (.ref pl), .val (.ref de), .val (.ref pp)] [(.ref na), (.ref na)]))
  have Zn20 : n0 ≤ T12.heap.size := by omega
  have F21 : Exa Z T12.heap na "java/lang/String" := (((G0_1.keep Kq4).keep Kq8).keep Kq12)
  obtain ⟨cq20, kq20, qa20, qb20, qc20⟩ := isOf hZ8 eh19 F21
  obtain ⟨rv20, _, ⟨T20, L20, k20, n20⟩, -, X20, ⟨Lc20, hQ20, l20, y20, z20⟩, st20⟩ := X19.virtualBack hx (y := (⟨"java/lang/String", "equals", "(Ljava/lang/Object;)Z"⟩ : MethodName)) (z := (⟨"java/lang/String", "equals", "(Ljava/lang/Object;)Z"⟩ : MethodName)) hown8 (mvT hZ8 (hw _ (own_mi 66 rfl))) (mvT hZ8 (hw _ (own_mi 67 rfl))) (notFace_of_selects (args := #[]) (mvT hZ8 (hw _ (own_mi 69 rfl)))) (mvT hZ8 (hw _ (own_mi 69 rfl))) (mvT hZ8 (hw _ (own_mi 68 rfl))) (by decide) (backOf (W := 0) (rmEqS l Z a0 hw [] (na) T12.heap n0 Zn20 ) hZ8 (hw _ (own_mi 70 rfl)) (hw _ (own_mi 6 rfl)) (by decide) (by decide)) qa20 qc20 (g := (mkF m 47 #[.val (.int i0), .val (.int i1), .val (.int i2), .val (.int i3), .val (.ref na), .val (.ref pl), .val (.ref de), .val (.ref pp)] [(.ref na), (.ref na)])) rfl (by rw [hml]; rfl) (Steps.refl _) (argsL := [(.ref na)]) (rest := []) (lenOf own_pd_28Ljava2flang2fObject3b29Z rfl) rfl (by show 2 * 0 + _ ≤ _; exact Nat.le_of_eq rfl) (hb hby at_47) (fun _ _ => ⟨rfl, eh19, (by decide : 19 + 0 ≤ _), (by decide : 44 + 0 ≤ _)⟩)
  dsimp only [Pt.U, Pt.locs, Pt.cells, Pt.slots] at X20 l20 y20 z20 st20 hQ20
  subst l20 y20 z20
  obtain ⟨rfl, Nq20, eh20⟩ := hQ20
  have N20 := Fr.app N19 Nq20
  refine own_go (fun tq kq => st20.trans kq) ?_
  show own_Rn p e below _ (T20.setTop (mkF m 50 #[.val (.int i0), .val (.int i1), .val (.int i2), .val (.int i3), .val (.ref na), .val (.ref pl), .val (.ref de), .val (.ref pp)] [(.int (1 : Int32))]))
  refine own_go (fun tq kq => XS.ifNo X20.here hx rfl (hb hby at_50) rfl ((if0 _ _).trans (feq ((by decide : ¬ ((1 : Int32) = (0 : Int32))) : ¬ ((1 : Int32) = (0 : Int32)))).1) kq) ?_
  show own_Rn p e below _ (T20.setTop (mkF m 53 #[.val (.int i0), .val (.int i1), .val (.int i2), .val (.int i3), .val (.ref na), .val (.ref pl), .val (.ref de), .val (.ref pp)] []))
  refine own_go (fun tq kq => XS.aload X20.here hx rfl (hb hby at_53) rfl rfl kq) ?_
  show own_Rn p e below _ (T20.setTop (mkF m 55 #[.val (.int i0), .val (.int i1), .val (.int i2), .val (.int i3), .val (.ref na), .val (.ref pl), .val (.ref de), .val (.ref pp)] [(.ref pp)]))
  have Zn22 : n0 ≤ T12.heap.size := by omega
  obtain ⟨cq22, kq22, qa22, qb22, qc22⟩ := isOf hZ8 eh20 G0_12
  obtain ⟨rv22, _, ⟨T22, L22, k22, n22⟩, -, X22, ⟨Lc22, hQ22, l22, y22, z22⟩, st22⟩ := X20.virtualBack hx (y := (⟨"com/example/elodea/elodea/cli/Parameter", "getDescription", "()Ljava/lang/String;"⟩ : MethodName)) (z := (⟨"com/example/elodea/elodea/cli/Parameter", "getDescription", "()Ljava/lang/String;"⟩ : MethodName)) hown8 (mvT hZ8 (hw _ (own_mi 71 rfl))) (mvT hZ8 (hw _ (own_mi 72 rfl))) (notFace_of_selects (args := #[]) (mvT hZ8 (hw _ (own_mi 74 rfl)))) (mvT hZ8 (hw _ (own_mi 74 rfl))) (mvT hZ8 (hw _ (own_mi 73 rfl))) (by decide) (backOf (W := 0) (rmGD l Z a0 hw [] (pp) (de) T12.heap n0 Zn22 G8_12) hZ8 (hw _ (own_mi 75 rfl)) (hw _ (own_mi 28 rfl)) (by decide) (by decide)) qa22 qc22 (g := (mkF m 55 #[.val (.int i0), .val (.int i1), .val (.int i2), .val (.int i3), .val (.ref na), .val (.ref pl), .val (.ref de), .val (.ref pp)] [(.ref pp)])) rfl (by rw [hml]; rfl) (Steps.refl _) (argsL := []) (rest := []) (lenOf own_pd_2829Ljava2flang2fString3b rfl) rfl (by show 2 * 0 + _ ≤ _; exact Nat.le_of_eq rfl) (hb hby at_55) (fun _ _ => ⟨rfl, eh20, (by decide : 19 + 0 ≤ _), (by decide : 44 + 0 ≤ _)⟩)
  dsimp only [Pt.U, Pt.locs, Pt.cells, Pt.slots] at X22 l22 y22 z22 st22 hQ22
  subst l22 y22 z22
  obtain ⟨rfl, Nq22, eh22⟩ := hQ22
  have N22 := Fr.app N20 Nq22
  refine own_go (fun tq kq => st22.trans kq) ?_
  show own_Rn p e below _ (T22.setTop (mkF m 58 #[.val (.int i0), .val (.int i1), .val (.int i2), .val (.int i3), .val (.ref na), .val (.ref pl), .val (.ref de), .val (.ref pp)] [(.ref de)]))
  refine own_go (fun tq kq => XS.aload X22.here hx rfl (hb hby at_58) rfl rfl kq) ?_
  show own_Rn p e below _ (T22.setTop (mkF m 60 #[.val (.int i0), .val (.int i1), .val (.int i2), .val (.int i3), .val (.ref na), .val (.ref pl), .val (.ref de), .val (.ref pp)] [(.ref de), (.ref de)]))
  have Zn23 : n0 ≤ T12.heap.size := by omega
  have F24 : Exa Z T12.heap de "java/lang/String" := (G0_8.keep Kq12)
  obtain ⟨cq23, kq23, qa23, qb23, qc23⟩ := isOf hZ8 eh22 F24
  obtain ⟨rv23, _, ⟨T23, L23, k23, n23⟩, -, X23, ⟨Lc23, hQ23, l23, y23, z23⟩, st23⟩ := X22.virtualBack hx (y := (⟨"java/lang/String", "equals", "(Ljava/lang/Object;)Z"⟩ : MethodName)) (z := (⟨"java/lang/String", "equals", "(Ljava/lang/Object;)Z"⟩ : MethodName)) hown8 (mvT hZ8 (hw _ (own_mi 66 rfl))) (mvT hZ8 (hw _ (own_mi 67 rfl))) (notFace_of_selects (args := #[]) (mvT hZ8 (hw _ (own_mi 69 rfl)))) (mvT hZ8 (hw _ (own_mi 69 rfl))) (mvT hZ8 (hw _ (own_mi 68 rfl))) (by decide) (backOf (W := 0) (rmEqS l Z a0 hw [] (de) T12.heap n0 Zn23 ) hZ8 (hw _ (own_mi 70 rfl)) (hw _ (own_mi 6 rfl)) (by decide) (by decide)) qa23 qc23 (g := (mkF m 60 #[.val (.int i0), .val (.int i1), .val (.int i2), .val (.int i3), .val (.ref na), .val (.ref pl), .val (.ref de), .val (.ref pp)] [(.ref de), (.ref de)])) rfl (by rw [hml]; rfl) (Steps.refl _) (argsL := [(.ref de)]) (rest := []) (lenOf own_pd_28Ljava2flang2fObject3b29Z rfl) rfl (by show 2 * 0 + _ ≤ _; exact Nat.le_of_eq rfl) (hb hby at_60) (fun _ _ => ⟨rfl, eh22, (by decide : 19 + 0 ≤ _), (by decide : 44 + 0 ≤ _)⟩)
  dsimp only [Pt.U, Pt.locs, Pt.cells, Pt.slots] at X23 l23 y23 z23 st23 hQ23
  subst l23 y23 z23
  obtain ⟨rfl, Nq23, eh23⟩ := hQ23
  have N23 := Fr.app N22 Nq23
  refine own_go (fun tq kq => st23.trans kq) ?_
  show own_Rn p e below _ (T23.setTop (mkF m 63 #[.val (.int i0), .val (.int i1), .val (.int i2), .val (.int i3), .val (.ref na), .val (.ref pl), .val (.ref de), .val (.ref pp)] [(.int (1 : Int32))]))
  refine own_go (fun tq kq => XS.ifNo X23.here hx rfl (hb hby at_63) rfl ((if0 _ _).trans (feq ((by decide : ¬ ((1 : Int32) = (0 : Int32))) : ¬ ((1 : Int32) = (0 : Int32)))).1) kq) ?_
  show own_Rn p e below _ (T23.setTop (mkF m 66 #[.val (.int i0), .val (.int i1), .val (.int i2), .val (.int i3), .val (.ref na), .val (.ref pl), .val (.ref de), .val (.ref pp)] []))
  refine own_go (fun tq kq => XS.aload X23.here hx rfl (hb hby at_66) rfl rfl kq) ?_
  show own_Rn p e below _ (T23.setTop (mkF m 68 #[.val (.int i0), .val (.int i1), .val (.int i2), .val (.int i3), .val (.ref na), .val (.ref pl), .val (.ref de), .val (.ref pp)] [(.ref pp)]))
  have Zn25 : n0 ≤ T12.heap.size := by omega
  obtain ⟨cq25, kq25, qa25, qb25, qc25⟩ := isOf hZ8 eh23 G0_12
  obtain ⟨rv25, _, ⟨T25, L25, k25, n25⟩, -, X25, ⟨Lc25, hQ25, l25, y25, z25⟩, st25⟩ := X23.virtualBack hx (y := (⟨"com/example/elodea/elodea/cli/Parameter", "getLeast", "()I"⟩ : MethodName)) (z := (⟨"com/example/elodea/elodea/cli/Parameter", "getLeast", "()I"⟩ : MethodName)) hown8 (mvT hZ8 (hw _ (own_mi 76 rfl))) (mvT hZ8 (hw _ (own_mi 77 rfl))) (notFace_of_selects (args := #[]) (mvT hZ8 (hw _ (own_mi 79 rfl)))) (mvT hZ8 (hw _ (own_mi 79 rfl))) (mvT hZ8 (hw _ (own_mi 78 rfl))) (by decide) (backOf (W := 0) (rmGL l Z a0 hw [] (pp) T12.heap n0 Zn25 G5_12) hZ8 (hw _ (own_mi 80 rfl)) (hw _ (own_mi 28 rfl)) (by decide) (by decide)) qa25 qc25 (g := (mkF m 68 #[.val (.int i0), .val (.int i1), .val (.int i2), .val (.int i3), .val (.ref na), .val (.ref pl), .val (.ref de), .val (.ref pp)] [(.ref pp)])) rfl (by rw [hml]; rfl) (Steps.refl _) (argsL := []) (rest := []) (lenOf own_pd_2829I rfl) rfl (by show 2 * 0 + _ ≤ _; exact Nat.le_of_eq rfl) (hb hby at_68) (fun _ _ => ⟨rfl, eh23, (by decide : 19 + 0 ≤ _), (by decide : 44 + 0 ≤ _)⟩)
  dsimp only [Pt.U, Pt.locs, Pt.cells, Pt.slots] at X25 l25 y25 z25 st25 hQ25
  subst l25 y25 z25
  obtain ⟨rfl, Nq25, eh25⟩ := hQ25
  have N25 := Fr.app N23 Nq25
  refine own_go (fun tq kq => st25.trans kq) ?_
  show own_Rn p e below _ (T25.setTop (mkF m 71 #[.val (.int i0), .val (.int i1), .val (.int i2), .val (.int i3), .val (.ref na), .val (.ref pl), .val (.ref de), .val (.ref pp)] [(.int (1 : Int32))]))
  refine own_go (fun tq kq => XS.iconst X25.here hx rfl (hb hby at_71) kq) ?_
  show own_Rn p e below _ (T25.setTop (mkF m 72 #[.val (.int i0), .val (.int i1), .val (.int i2), .val (.int i3), .val (.ref na), .val (.ref pl), .val (.ref de), .val (.ref pp)] [(.int (1 : Int32)), (.int (1 : Int32))]))
  refine own_go (fun tq kq => XS.icmpNo X25.here hx rfl (hb hby at_72) rfl (teq ((rfl : (1 : Int32) = (1 : Int32)) : (1 : Int32) = (1 : Int32))).2 kq) ?_
  show own_Rn p e below _ (T25.setTop (mkF m 75 #[.val (.int i0), .val (.int i1), .val (.int i2), .val (.int i3), .val (.ref na), .val (.ref pl), .val (.ref de), .val (.ref pp)] []))
  refine own_go (fun tq kq => XS.aload X25.here hx rfl (hb hby at_75) rfl rfl kq) ?_
  show own_Rn p e below _ (T25.setTop (mkF m 77 #[.val (.int i0), .val (.int i1), .val (.int i2), .val (.int i3), .val (.ref na), .val (.ref pl), .val (.ref de), .val (.ref pp)] [(.ref pp)]))
  have Zn26 : n0 ≤ T12.heap.size := by omega
  obtain ⟨cq26, kq26, qa26, qb26, qc26⟩ := isOf hZ8 eh25 G0_12
  obtain ⟨rv26, _, ⟨T26, L26, k26, n26⟩, -, X26, ⟨Lc26, hQ26, l26, y26, z26⟩, st26⟩ := X25.virtualBack hx (y := (⟨"com/example/elodea/elodea/cli/Parameter", "isRepeated", "()Z"⟩ : MethodName)) (z := (⟨"com/example/elodea/elodea/cli/Parameter", "isRepeated", "()Z"⟩ : MethodName)) hown8 (mvT hZ8 (hw _ (own_mi 81 rfl))) (mvT hZ8 (hw _ (own_mi 82 rfl))) (notFace_of_selects (args := #[]) (mvT hZ8 (hw _ (own_mi 84 rfl)))) (mvT hZ8 (hw _ (own_mi 84 rfl))) (mvT hZ8 (hw _ (own_mi 83 rfl))) (by decide) (backOf (W := 0) (rmGR l Z a0 hw [] (pp) T12.heap n0 Zn26 G6_12) hZ8 (hw _ (own_mi 85 rfl)) (hw _ (own_mi 28 rfl)) (by decide) (by decide)) qa26 qc26 (g := (mkF m 77 #[.val (.int i0), .val (.int i1), .val (.int i2), .val (.int i3), .val (.ref na), .val (.ref pl), .val (.ref de), .val (.ref pp)] [(.ref pp)])) rfl (by rw [hml]; rfl) (Steps.refl _) (argsL := []) (rest := []) (lenOf own_pd_2829Z rfl) rfl (by show 2 * 0 + _ ≤ _; exact Nat.le_of_eq rfl) (hb hby at_77) (fun _ _ => ⟨rfl, eh25, (by decide : 19 + 0 ≤ _), (by decide : 44 + 0 ≤ _)⟩)
  dsimp only [Pt.U, Pt.locs, Pt.cells, Pt.slots] at X26 l26 y26 z26 st26 hQ26
  subst l26 y26 z26
  obtain ⟨rfl, Nq26, eh26⟩ := hQ26
  have N26 := Fr.app N25 Nq26
  refine own_go (fun tq kq => st26.trans kq) ?_
  show own_Rn p e below _ (T26.setTop (mkF m 80 #[.val (.int i0), .val (.int i1), .val (.int i2), .val (.int i3), .val (.ref na), .val (.ref pl), .val (.ref de), .val (.ref pp)] [(.int (0 : Int32))]))
  refine own_go (fun tq kq => XS.ifNo X26.here hx rfl (hb hby at_80) rfl ((if0 _ _).trans (teq ((by decide : (0 : Int32) = (0 : Int32)) : (0 : Int32) = (0 : Int32))).2) kq) ?_
  show own_Rn p e below _ (T26.setTop (mkF m 83 #[.val (.int i0), .val (.int i1), .val (.int i2), .val (.int i3), .val (.ref na), .val (.ref pl), .val (.ref de), .val (.ref pp)] []))
  refine own_go (fun tq kq => XS.aload X26.here hx rfl (hb hby at_83) rfl rfl kq) ?_
  show own_Rn p e below _ (T26.setTop (mkF m 85 #[.val (.int i0), .val (.int i1), .val (.int i2), .val (.int i3), .val (.ref na), .val (.ref pl), .val (.ref de), .val (.ref pp)] [(.ref pp)]))
  have Zn27 : n0 ≤ T12.heap.size := by omega
  obtain ⟨cq27, kq27, qa27, qb27, qc27⟩ := isOf hZ8 eh26 G0_12
  obtain ⟨rv27, _, ⟨T27, L27, k27, n27⟩, -, X27, ⟨Lc27, hQ27, l27, y27, z27⟩, st27⟩ := X26.virtualBack hx (y := (⟨"com/example/elodea/elodea/cli/Parameter", "isStandIn", "()Z"⟩ : MethodName)) (z := (⟨"com/example/elodea/elodea/cli/Parameter", "isStandIn", "()Z"⟩ : MethodName)) hown8 (mvT hZ8 (hw _ (own_mi 86 rfl))) (mvT hZ8 (hw _ (own_mi 87 rfl))) (notFace_of_selects (args := #[]) (mvT hZ8 (hw _ (own_mi 89 rfl)))) (mvT hZ8 (hw _ (own_mi 89 rfl))) (mvT hZ8 (hw _ (own_mi 88 rfl))) (by decide) (backOf (W := 0) (rmGS l Z a0 hw [] (pp) T12.heap n0 Zn27 G7_12) hZ8 (hw _ (own_mi 90 rfl)) (hw _ (own_mi 28 rfl)) (by decide) (by decide)) qa27 qc27 (g := (mkF m 85 #[.val (.int i0), .val (.int i1), .val (.int i2), .val (.int i3), .val (.ref na), .val (.ref pl), .val (.ref de), .val (.ref pp)] [(.ref pp)])) rfl (by rw [hml]; rfl) (Steps.refl _) (argsL := []) (rest := []) (lenOf own_pd_2829Z rfl) rfl (by show 2 * 0 + _ ≤ _; exact Nat.le_of_eq rfl) (hb hby at_85) (fun _ _ => ⟨rfl, eh26, (by decide : 19 + 0 ≤ _), (by decide : 44 + 0 ≤ _)⟩)
  dsimp only [Pt.U, Pt.locs, Pt.cells, Pt.slots] at X27 l27 y27 z27 st27 hQ27
  subst l27 y27 z27
  obtain ⟨rfl, Nq27, eh27⟩ := hQ27
  have N27 := Fr.app N26 Nq27
  refine own_go (fun tq kq => st27.trans kq) ?_
  show own_Rn p e below _ (T27.setTop (mkF m 88 #[.val (.int i0), .val (.int i1), .val (.int i2), .val (.int i3), .val (.ref na), .val (.ref pl), .val (.ref de), .val (.ref pp)] [(.int (0 : Int32))]))
  refine own_go (fun tq kq => XS.ifNo X27.here hx rfl (hb hby at_88) rfl ((if0 _ _).trans (teq ((by decide : (0 : Int32) = (0 : Int32)) : (0 : Int32) = (0 : Int32))).2) kq) ?_
  show own_Rn p e below _ (T27.setTop (mkF m 91 #[.val (.int i0), .val (.int i1), .val (.int i2), .val (.int i3), .val (.ref na), .val (.ref pl), .val (.ref de), .val (.ref pp)] []))
  refine own_go (fun tq kq => XS.aload X27.here hx rfl (hb hby at_91) rfl rfl kq) ?_
  show own_Rn p e below _ (T27.setTop (mkF m 93 #[.val (.int i0), .val (.int i1), .val (.int i2), .val (.int i3), .val (.ref na), .val (.ref pl), .val (.ref de), .val (.ref pp)] [(.ref pp)]))
  have Zn28 : n0 ≤ T12.heap.size := by omega
  obtain ⟨cq28, kq28, qa28, qb28, qc28⟩ := isOf hZ8 eh27 G0_12
  obtain ⟨rv28, _, ⟨T28, L28, k28, n28⟩, -, X28, ⟨Lc28, hQ28, l28, y28, z28⟩, st28⟩ := X27.virtualBack hx (y := (⟨"com/example/elodea/elodea/cli/Parameter", "getUsage", "()Ljava/lang/String;"⟩ : MethodName)) (z := (⟨"com/example/elodea/elodea/cli/Parameter", "getUsage", "()Ljava/lang/String;"⟩ : MethodName)) hown8 (mvT hZ8 (hw _ (own_mi 91 rfl))) (mvT hZ8 (hw _ (own_mi 92 rfl))) (notFace_of_selects (args := #[]) (mvT hZ8 (hw _ (own_mi 94 rfl)))) (mvT hZ8 (hw _ (own_mi 94 rfl))) (mvT hZ8 (hw _ (own_mi 93 rfl))) (by decide) (backOf (W := 0) (rmUs l Z a0 hw [] (pp) (pl) (ka) (ko) (kf) T12.heap n0 Zn28 G0_12 G4_12 G1_12 G6_12 G3_12 (OA) (OO) (OF) F17 (nko) (nkf)) hZ8 (hw _ (own_mi 95 rfl)) (hw _ (own_mi 28 rfl)) (by decide) (by decide)) qa28 qc28 (g := (mkF m 93 #[.val (.int i0), .val (.int i1), .val (.int i2), .val (.int i3), .val (.ref na), .val (.ref pl), .val (.ref de), .val (.ref pp)] [(.ref pp)])) rfl (by rw [hml]; rfl) (Steps.refl _) (argsL := []) (rest := []) (lenOf own_pd_2829Ljava2flang2fString3b rfl) rfl (by show 2 * 0 + _ ≤ _; exact Nat.le_of_eq rfl) (hb hby at_93) (fun _ _ => ⟨rfl, eh27, (by decide : 19 + 0 ≤ _), (by decide : 44 + 0 ≤ _)⟩)
  dsimp only [Pt.U, Pt.locs, Pt.cells, Pt.slots] at X28 l28 y28 z28 st28 hQ28
  subst l28 y28 z28
  obtain ⟨rfl, Nq28, eh28⟩ := hQ28
  have N28 := Fr.app N27 Nq28
  refine own_go (fun tq kq => st28.trans kq) ?_
  show own_Rn p e below _ (T28.setTop (mkF m 96 #[.val (.int i0), .val (.int i1), .val (.int i2), .val (.int i3), .val (.ref na), .val (.ref pl), .val (.ref de), .val (.ref pp)] [(.ref pl)]))
  refine own_go (fun tq kq => XS.aload X28.here hx rfl (hb hby at_96) rfl rfl kq) ?_
  show own_Rn p e below _ (T28.setTop (mkF m 98 #[.val (.int i0), .val (.int i1), .val (.int i2), .val (.int i3), .val (.ref na), .val (.ref pl), .val (.ref de), .val (.ref pp)] [(.ref pl), (.ref pl)]))
  have Zn29 : n0 ≤ T12.heap.size := by omega
  have F30 : Exa Z T12.heap pl "java/lang/String" := ((G0_4.keep Kq8).keep Kq12)
  obtain ⟨cq29, kq29, qa29, qb29, qc29⟩ := isOf hZ8 eh28 F30
  obtain ⟨rv29, _, ⟨T29, L29, k29, n29⟩, -, X29, ⟨Lc29, hQ29, l29, y29, z29⟩, st29⟩ := X28.virtualBack hx (y := (⟨"java/lang/String", "equals", "(Ljava/lang/Object;)Z"⟩ : MethodName)) (z := (⟨"java/lang/String", "equals", "(Ljava/lang/Object;)Z"⟩ : MethodName)) hown8 (mvT hZ8 (hw _ (own_mi 66 rfl))) (mvT hZ8 (hw _ (own_mi 67 rfl))) (notFace_of_selects (args := #[]) (mvT hZ8 (hw _ (own_mi 69 rfl)))) (mvT hZ8 (hw _ (own_mi 69 rfl))) (mvT hZ8 (hw _ (own_mi 68 rfl))) (by decide) (backOf (W := 0) (rmEqS l Z a0 hw [] (pl) T12.heap n0 Zn29 ) hZ8 (hw _ (own_mi 70 rfl)) (hw _ (own_mi 6 rfl)) (by decide) (by decide)) qa29 qc29 (g := (mkF m 98 #[.val (.int i0), .val (.int i1), .val (.int i2), .val (.int i3), .val (.ref na), .val (.ref pl), .val (.ref de), .val (.ref pp)] [(.ref pl), (.ref pl)])) rfl (by rw [hml]; rfl) (Steps.refl _) (argsL := [(.ref pl)]) (rest := []) (lenOf own_pd_28Ljava2flang2fObject3b29Z rfl) rfl (by show 2 * 0 + _ ≤ _; exact Nat.le_of_eq rfl) (hb hby at_98) (fun _ _ => ⟨rfl, eh28, (by decide : 19 + 0 ≤ _), (by decide : 44 + 0 ≤ _)⟩)
  dsimp only [Pt.U, Pt.locs, Pt.cells, Pt.slots] at X29 l29 y29 z29 st29 hQ29
  subst l29 y29 z29
  obtain ⟨rfl, Nq29, eh29⟩ := hQ29
  have N29 := Fr.app N28 Nq29
  refine own_go (fun tq kq => st29.trans kq) ?_
  show own_Rn p e below _ (T29.setTop (mkF m 101 #[.val (.int i0), .val (.int i1), .val (.int i2), .val (.int i3), .val (.ref na), .val (.ref pl), .val (.ref de), .val (.ref pp)] [(.int (1 : Int32))]))
  refine own_go (fun tq kq => XS.ifNo X29.here hx rfl (hb hby at_101) rfl ((if0 _ _).trans (feq ((by decide : ¬ ((1 : Int32) = (0 : Int32))) : ¬ ((1 : Int32) = (0 : Int32)))).1) kq) ?_
  show own_Rn p e below _ (T29.setTop (mkF m 104 #[.val (.int i0), .val (.int i1), .val (.int i2), .val (.int i3), .val (.ref na), .val (.ref pl), .val (.ref de), .val (.ref pp)] []))
  refine own_go (fun tq kq => XS.aload X29.here hx rfl (hb hby at_104) rfl rfl kq) ?_
  show own_Rn p e below _ (T29.setTop (mkF m 106 #[.val (.int i0), .val (.int i1), .val (.int i2), .val (.int i3), .val (.ref na), .val (.ref pl), .val (.ref de), .val (.ref pp)] [(.ref pp)]))
  refine own_go (fun tq kq => XS.iloadN X29.here hx rfl (hb hby at_106) rfl kq) ?_
  show own_Rn p e below _ (T29.setTop (mkF m 107 #[.val (.int i0), .val (.int i1), .val (.int i2), .val (.int i3), .val (.ref na), .val (.ref pl), .val (.ref de), .val (.ref pp)] [(.int i3), (.ref pp)]))
  have Zn31 : n0 ≤ T12.heap.size := by omega
  obtain ⟨cq31, kq31, qa31, qb31, qc31⟩ := isOf hZ8 eh29 G0_12
  obtain ⟨rv31, _, ⟨T31, L31, k31, n31⟩, -, X31, ⟨Lc31, hQ31, l31, y31, z31⟩, st31⟩ := X29.virtualBack hx (y := (⟨"com/example/elodea/elodea/cli/Parameter", "getWordName", "(I)Ljava/lang/String;"⟩ : MethodName)) (z := (⟨"com/example/elodea/elodea/cli/Parameter", "getWordName", "(I)Ljava/lang/String;"⟩ : MethodName)) hown8 (mvT hZ8 (hw _ (own_mi 105 rfl))) (mvT hZ8 (hw _ (own_mi 106 rfl))) (notFace_of_selects (args := #[]) (mvT hZ8 (hw _ (own_mi 108 rfl)))) (mvT hZ8 (hw _ (own_mi 108 rfl))) (mvT hZ8 (hw _ (own_mi 107 rfl))) (by decide) (backOf (W := 0) (rmWN l Z a0 hw [] (pp) (pl) (i3) T12.heap n0 Zn31 G6_12 G3_12) hZ8 (hw _ (own_mi 109 rfl)) (hw _ (own_mi 28 rfl)) (by decide) (by decide)) qa31 qc31 (g := (mkF m 107 #[.val (.int i0), .val (.int i1), .val (.int i2), .val (.int i3), .val (.ref na), .val (.ref pl), .val (.ref de), .val (.ref pp)] [(.int i3), (.ref pp)])) rfl (by rw [hml]; rfl) (Steps.refl _) (argsL := [(.int i3)]) (rest := []) (lenOf own_pd_28I29Ljava2flang2fString3b rfl) rfl (by show 2 * 0 + _ ≤ _; exact Nat.le_of_eq rfl) (hb hby at_107) (fun _ _ => ⟨rfl, eh29, (by decide : 19 + 0 ≤ _), (by decide : 44 + 0 ≤ _)⟩)
  dsimp only [Pt.U, Pt.locs, Pt.cells, Pt.slots] at X31 l31 y31 z31 st31 hQ31
  subst l31 y31 z31
  obtain ⟨rfl, Nq31, eh31⟩ := hQ31
  have N31 := Fr.app N29 Nq31
  refine own_go (fun tq kq => st31.trans kq) ?_
  show own_Rn p e below _ (T31.setTop (mkF m 110 #[.val (.int i0), .val (.int i1), .val (.int i2), .val (.int i3), .val (.ref na), .val (.ref pl), .val (.ref de), .val (.ref pp)] [(.ref pl)]))
  refine own_go (fun tq kq => XS.aload X31.here hx rfl (hb hby at_110) rfl rfl kq) ?_
  show own_Rn p e below _ (T31.setTop (mkF m 112 #[.val (.int i0), .val (.int i1), .val (.int i2), .val (.int i3), .val (.ref na), .val (.ref pl), .val (.ref de), .val (.ref pp)] [(.ref pl), (.ref pl)]))
  have Zn32 : n0 ≤ T12.heap.size := by omega
  obtain ⟨cq32, kq32, qa32, qb32, qc32⟩ := isOf hZ8 eh31 F30
  obtain ⟨rv32, _, ⟨T32, L32, k32, n32⟩, -, X32, ⟨Lc32, hQ32, l32, y32, z32⟩, st32⟩ := X31.virtualBack hx (y := (⟨"java/lang/String", "equals", "(Ljava/lang/Object;)Z"⟩ : MethodName)) (z := (⟨"java/lang/String", "equals", "(Ljava/lang/Object;)Z"⟩ : MethodName)) hown8 (mvT hZ8 (hw _ (own_mi 66 rfl))) (mvT hZ8 (hw _ (own_mi 67 rfl))) (notFace_of_selects (args := #[]) (mvT hZ8 (hw _ (own_mi 69 rfl)))) (mvT hZ8 (hw _ (own_mi 69 rfl))) (mvT hZ8 (hw _ (own_mi 68 rfl))) (by decide) (backOf (W := 0) (rmEqS l Z a0 hw [] (pl) T12.heap n0 Zn32 ) hZ8 (hw _ (own_mi 70 rfl)) (hw _ (own_mi 6 rfl)) (by decide) (by decide)) qa32 qc32 (g := (mkF m 112 #[.val (.int i0), .val (.int i1), .val (.int i2), .val (.int i3), .val (.ref na), .val (.ref pl), .val (.ref de), .val (.ref pp)] [(.ref pl), (.ref pl)])) rfl (by rw [hml]; rfl) (Steps.refl _) (argsL := [(.ref pl)]) (rest := []) (lenOf own_pd_28Ljava2flang2fObject3b29Z rfl) rfl (by show 2 * 0 + _ ≤ _; exact Nat.le_of_eq rfl) (hb hby at_112) (fun _ _ => ⟨rfl, eh31, (by decide : 19 + 0 ≤ _), (by decide : 44 + 0 ≤ _)⟩)
  dsimp only [Pt.U, Pt.locs, Pt.cells, Pt.slots] at X32 l32 y32 z32 st32 hQ32
  subst l32 y32 z32
  obtain ⟨rfl, Nq32, eh32⟩ := hQ32
  have N32 := Fr.app N31 Nq32
  refine own_go (fun tq kq => st32.trans kq) ?_
  show own_Rn p e below _ (T32.setTop (mkF m 115 #[.val (.int i0), .val (.int i1), .val (.int i2), .val (.int i3), .val (.ref na), .val (.ref pl), .val (.ref de), .val (.ref pp)] [(.int (1 : Int32))]))
  refine own_go (fun tq kq => XS.ifNo X32.here hx rfl (hb hby at_115) rfl ((if0 _ _).trans (feq ((by decide : ¬ ((1 : Int32) = (0 : Int32))) : ¬ ((1 : Int32) = (0 : Int32)))).1) kq) ?_
  show own_Rn p e below _ (T32.setTop (mkF m 118 #[.val (.int i0), .val (.int i1), .val (.int i2), .val (.int i3), .val (.ref na), .val (.ref pl), .val (.ref de), .val (.ref pp)] []))
  refine own_go (fun tq kq => XS.iconst X32.here hx rfl (hb hby at_118) kq) ?_
  show own_Rn p e below _ (T32.setTop (mkF m 119 #[.val (.int i0), .val (.int i1), .val (.int i2), .val (.int i3), .val (.ref na), .val (.ref pl), .val (.ref de), .val (.ref pp)] [(.int (1 : Int32))]))
  refine own_go (fun tq kq => XS.goto X32.here hx rfl (pc0 := 119) (pc' := 123) rfl (hb hby at_119) (by decide) (by decide) kq) ?_
  show own_Rn p e below _ (T32.setTop (mkF m 123 #[.val (.int i0), .val (.int i1), .val (.int i2), .val (.int i3), .val (.ref na), .val (.ref pl), .val (.ref de), .val (.ref pp)] [(.int (1 : Int32))]))
  exact own_retS X32 hSr8 (by rw [eh32]; omega) (v := some (.int (nar .boolean (1 : Int32)))) (fun h => by rw [Bd.returns] at h; cases h) (fun fs hr => retN X32 hx (t := .boolean) Bd.returns (by simp) (hb hby at_123) hr) (by rw [eh32]; exact ⟨rfl, N32⟩) (by rw [hh, eh32]; exact CR14.trans (CHv.at X32 hZ8 hEL CR14.1)) (by decide) (by decide)
set_option maxRecDepth 65536 in
set_option maxHeartbeats 40000000 in
theorem comes_1 {Post : Tables → Env → Array Value → State → Outcome → State → Prop} (hpost : ∀ tb e args s v u, (limb_1_1.after args s (.returned v) u = true ∧ limb_1_2.after args s (.returned v) u = true ∧ True) → ReturnedEndW s (.returned v) u (Jvm.fieldLocs frame_1_writes args s ++ Jvm.arrayLocs frame_1_arrays args s ++ Jvm.staticLocs frame_1_statics s) 32 1216 → Post tb e args s (.returned v) u) :
    ArmFor flags0 classFile x code maxLocals ret World_1 tables_1 room_1 Calls_1 rest_1 Pre_1 Post := by
  intro l hfl _ _ p e ha hc hk s m args below hf hA hF happ hP
  obtain ⟨hcalls, hrest, hpre⟩ := hP
  obtain ⟨-, -, -, hnamed, -, -, -, hat⟩ := (Spec.applies_iff hf).mp happ
  obtain ⟨hg, hn⟩ := and_e (Cond.before_iff.mp (show (Jvm.Cond.and given_1 narrow_1).before args s = true from hpre))
  obtain ⟨h1, hr⟩ := and_e hg
  obtain ⟨w0, w1, w2, w3, rfl⟩ : ∃ w0 w1 w2 w3 : Value, args = #[w0, w1, w2, w3] := by
    have hs : args.size = 4 := by simpa [Cond.value, given_1] using h1
    obtain ⟨L⟩ := args
    match L, hs with
    | [w0, w1, w2, w3], _ => exact ⟨w0, w1, w2, w3, rfl⟩
  have hw := fun d (hd : d ∈ tables_1) => atoms_spec (ws := Jvm.Cond.code x code maxLocals ret :: tables_1) hat d (List.mem_cons_of_mem _ hd)
  have hfit : Fit s := fun {y c} hc i hi => by
    obtain ⟨ha, rfl⟩ := Array.getElem?_eq_some_iff.mp hc
    have q := List.all_eq_true.mp ((Array.all_eq_true_iff_forall_mem.mp hF) _ (Array.getElem_mem ha)) i (List.mem_range.mpr hi)
    simpa [Array.getElem?_eq_getElem hi] using q
  obtain ⟨ha0, hr⟩ := and_e hr
  obtain ⟨i0, ee0⟩ := is_v ha0
  obtain rfl : w0 = (.int i0) := Option.some.inj ee0
  obtain ⟨ha1, hr⟩ := and_e hr
  obtain ⟨i1, ee1⟩ := is_v ha1
  obtain rfl : w1 = (.int i1) := Option.some.inj ee1
  obtain ⟨ha2, hr⟩ := and_e hr
  obtain ⟨i2, ee2⟩ := is_v ha2
  obtain rfl : w2 = (.int i2) := Option.some.inj ee2
  obtain ⟨i3, ee3⟩ := is_v hr
  obtain rfl : w3 = (.int i3) := Option.some.inj ee3
  obtain ⟨hsets, hown0⟩ := atoms_of _ (rest_1_c_eq ▸ (show rest_1_c.before _ s = true from hrest))
  have n5 := not_v (Cond.before_iff.mp (hsets _ (List.mem_of_getElem? (i := 2) rfl)))
  obtain ⟨G1, e10⟩ := is_v (Cond.before_iff.mp (hsets _ (List.mem_of_getElem? (i := 1) rfl)))
  have O2 : Sta s s.heap "java/lang/String" "COMPACT_STRINGS" "Z" (.int G1) := Sta.start e10 (Or.inl (hsets _ (List.mem_of_getElem? (i := 0) rfl)))
  obtain ⟨G3, e14, rG3⟩ := isR_v (Cond.before_iff.mp (hsets _ (List.mem_of_getElem? (i := 8) rfl)))
  have O4 : Sta s s.heap "jdk/internal/util/Preconditions" "SIOOBE_FORMATTER" "Ljava/util/function/BiFunction;" G3 := Sta.start e14 (Or.inl (hsets _ (List.mem_of_getElem? (i := 7) rfl)))
  have P5 : ¬ (G1 = (0 : Int32)) := gotF (Cond.eq_ints e10 (Term.int_eval (0))) n5
  obtain ⟨b1, hn⟩ := and_e hn
  obtain ⟨b2, hn⟩ := and_e hn
  obtain ⟨b3, hn⟩ := and_e hn
  obtain ⟨b4, hn⟩ := and_e hn
  obtain ⟨b5, b6⟩ := and_e hn
  obtain ⟨ka, ea⟩ := exa_v b1
  obtain ⟨ko, eo⟩ := exa_v b2
  obtain ⟨kf, ef⟩ := exa_v b5
  have OA : Sta s s.heap "com/example/elodea/elodea/cli/Parameter$Kind" "ARGUMENT" "Lcom/example/elodea/elodea/cli/Parameter$Kind;" (.ref ka) := Sta.start ea (Or.inr ⟨(hw _ (own_mi 33 rfl)), (hw _ (own_mi 34 rfl))⟩)
  have OO : Sta s s.heap "com/example/elodea/elodea/cli/Parameter$Kind" "OPTION" "Lcom/example/elodea/elodea/cli/Parameter$Kind;" (.ref ko) := Sta.start eo (Or.inr ⟨(hw _ (own_mi 33 rfl)), (hw _ (own_mi 102 rfl))⟩)
  have OF : Sta s s.heap "com/example/elodea/elodea/cli/Parameter$Kind" "FLAG" "Lcom/example/elodea/elodea/cli/Parameter$Kind;" (.ref kf) := Sta.start ef (Or.inr ⟨(hw _ (own_mi 33 rfl)), (hw _ (own_mi 104 rfl))⟩)
  have f1 := eqv_i (Term.int_eval 2) b3
  have f2 := eqv_i (Term.int_eval 0) b4
  have f3 := eqv_i (Term.int_eval 1) b6
  rw [fld_at ea] at f1
  rw [fld_at eo] at f2
  rw [fld_at ef] at f3
  have nko : ka ≠ ko := by
    intro h
    rw [h, f2] at f1
    exact absurd (Value.int.inj (Option.some.inj f1)) (by decide)
  have nkf : ka ≠ kf := by
    intro h
    rw [h, f3] at f1
    exact absurd (Value.int.inj (Option.some.inj f1)) (by decide)
  have hEL : EW s #[(.int i0), (.int i1), (.int i2), (.int i3)] consts_1 := (EW.cons (hw _ (own_mi 18 rfl)) (by decide) EW.nil)
  have hH : CHv s consts_1 s.vm s.heap := CHv.start hEL (fun p hp => hcalls.1 p hp) (hsets _ (List.mem_of_getElem? (i := 2) rfl)) (hw _ (own_mi 19 rfl)) (hw _ (own_mi 5 rfl))
  obtain ⟨n, o, h1, h2, h3, _, L, rfl, ⟨rfl, N⟩, -, hq⟩ := rm0 l s _ hw tables_1 i0 i1 i2 i3 G1 ka ko kf s.heap s.heap.size (Nat.le_refl _) hEL O2 P5 (Old.start s) OA OO OF nko nkf p e ha hc hk s m _ below hf ((Spec.applies_iff_loose hf).mp happ).1 ⟨rfl, State.Warmed39.refl s, rfl, hH, fun x hx => nomatch hx⟩ trivial
  refine ⟨n, _, h1, h2, h3, hpost _ _ _ _ _ _ ⟨Cond.after_iff.mpr rfl, Cond.after_iff.mpr (eq_i res_at (Term.int_eval (1)) rfl), trivial⟩ ⟨hq.1, hq.2.1, hq.2.2.1, (hq.2.2.2.sift fun y hy => Or.inr (N y hy)).mono (by decide) (by decide)⟩⟩
theorem main_1_1 : Claimed_1_1 := comes_1 fun _ _ _ _ _ _ h hF => ⟨h.1, hF⟩
theorem main_1_2 : Claimed_1_2 := comes_1 fun _ _ _ _ _ _ h hF => ⟨h.2.1, hF⟩
end Jvm.Pilot.@@N@@
namespace Jvm.Pilot.@@N@@
open Jvm Jvm.ClassFile Sem Op Lib Jvm.Free Jvm.Stand Jvm.Pilot.@@N@@.Jvm.D
/-! MADE BY PROGRAM (witnessworld.py) out of the Statement's table words and the real class files: 22 classes; the members and pool entries that the words name. The judged class is class 1, her method 1. -/
namespace start1
open Jvm.ClassFile
def u (s : String) : CpInfo := .utf8 (stringToUtf16 s)
/-- a pool by its gaps: so many unusable entries, then the entry; so many at the end -/
def gap : Nat → List CpInfo → List CpInfo
  | 0, r => r
  | n + 1, r => .unusable :: gap n r
def poolList (es : List (Nat × CpInfo)) (last : Nat) : List CpInfo := es.foldr (fun e r => gap e.1 (e.2 :: r)) (gap last [])
def pool (es : List (Nat × CpInfo)) (last : Nat) : Array CpInfo := ⟨poolList es last⟩
def fileOf (pool : Array CpInfo) (this : Nat) (attrs : Array Attribute := #[]) (ms : Array MethodInfo := #[]) (fl : Nat := 33) (sup : Nat := 0) (ifs : Array Nat := #[]) (fds : Array FieldInfo := #[]) : ClassFile where
  minorVersion := 0
  majorVersion := 65
  constantPool := pool
  accessFlags := fl
  thisClass := this
  superClass := sup
  interfaces := ifs
  fields := fds
  methods := ms
  attributes := attrs
def plain (name : String) (sup : Option ClassId) : Class where
  name := name
  kind := .ordinary
  loader := none
  accessFlags := 33
  super := sup
  interfaces := #[]
  cf := none
  fields := #[]
  methods := #[]
  instanceTypes := #[]
  staticTypes := #[]
  resolved := #[]
  callSites := []
  init := .initialized
  statics := none
  mirror := none

def pool0 : Array CpInfo := pool [(5, u "<init>"), (0, u "()V"), (1, .class_ 10), (1, u "java/lang/Object")] 113

def k0c0 : Code := { maxStack := 0, maxLocals := 1, code := object_method_1_code, exceptionTable := #[], attributes := #[] }
def k0m0 : Method := { name := "<init>", desc := "()V", sig := { parameters := [], returnType := none }, accessFlags := 1, code := some k0c0 }
/-- java/lang/Object -/
def k0 : Class := { plain "java/lang/Object" none with
  accessFlags := 33
  interfaces := #[]
  cf := some (fileOf pool0 8 #[] #[{ accessFlags := 1, nameIndex := 5, descriptorIndex := 6, attributes := #[] }] 33 0 #[] #[])
  fields := #[]
  methods := #[k0m0]
  instanceTypes := #[]
  staticTypes := #[]
  resolved := Array.replicate 124 none
  statics := none }

def pool1 : Array CpInfo := pool [(2, .class_ 4), (1, u "java/lang/Object"), (0, u "<init>"), (0, u "()V"), (0, .methodref 8 9), (0, .class_ 10), (0, .nameAndType 11 12), (0, u "com/example/elodea/elodea/cli/ParameterArgumentPinLaw"), (0, u "draw"), (0, u "(I)Ljava/lang/String;"), (0, .methodref 14 15), (0, .class_ 16), (0, .nameAndType 17 18), (0, u "com/example/elodea/elodea/cli/Parameter"), (0, u "argument"), (0, u "(Ljava/lang/String;Ljava/lang/String;Ljava/lang/String;)Lcom/example/elodea/elodea/cli/Parameter;"), (0, .methodref 14 20), (0, .nameAndType 21 22), (0, u "getKind"), (0, u "()Lcom/example/elodea/elodea/cli/Parameter$Kind;"), (0, .fieldref 24 25), (0, .class_ 26), (0, .nameAndType 27 28), (0, u "com/example/elodea/elodea/cli/Parameter$Kind"), (0, u "ARGUMENT"), (0, u "Lcom/example/elodea/elodea/cli/Parameter$Kind;"), (0, .methodref 14 30), (0, .nameAndType 31 32), (0, u "getName"), (0, u "()Ljava/lang/String;"), (0, .methodref 34 35), (0, .class_ 36), (0, .nameAndType 37 38), (0, u "java/lang/String"), (0, u "equals"), (0, u "(Ljava/lang/Object;)Z"), (0, .methodref 14 40), (0, .nameAndType 41 32), (0, u "getDescription"), (0, .methodref 14 43), (0, .nameAndType 44 45), (0, u "getLeast"), (0, u "()I"), (0, .methodref 14 47), (0, .nameAndType 48 49), (0, u "isRepeated"), (0, u "()Z"), (0, .methodref 14 51), (0, .nameAndType 52 49), (0, u "isStandIn"), (0, .methodref 14 54), (0, .nameAndType 55 32), (0, u "getUsage"), (0, .methodref 14 57), (0, .nameAndType 58 12), (0, u "getWordName"), (0, .methodref 34 60), (0, .nameAndType 5 61), (0, u "([C)V"), (0, .methodref 34 63), (0, .nameAndType 64 65), (0, u "valueOf"), (0, u "(C)Ljava/lang/String;"), (2, u "law"), (0, u "(IIII)Z")] 5

def k1m0 : Method := { name := "<init>", desc := "()V", sig := { parameters := [], returnType := none }, accessFlags := 1, code := none }
def k1c1 : Code := { maxStack := 3, maxLocals := 8, code := code, exceptionTable := #[], attributes := #[] }
def k1m1 : Method := { name := "law", desc := "(IIII)Z", sig := { parameters := [.int, .int, .int, .int], returnType := some .boolean }, accessFlags := 9, code := some k1c1 }
def k1c2 : Code := { maxStack := 3, maxLocals := 5, code := method_3_code, exceptionTable := #[], attributes := #[] }
def k1m2 : Method := { name := "draw", desc := "(I)Ljava/lang/String;", sig := { parameters := [.int], returnType := some (.object "java/lang/String") }, accessFlags := 10, code := some k1c2 }
/-- com/example/elodea/elodea/cli/ParameterArgumentPinLaw -/
def k1 : Class := { plain "com/example/elodea/elodea/cli/ParameterArgumentPinLaw" (some 0) with
  accessFlags := 49
  interfaces := #[]
  cf := some (fileOf pool1 8 #[] #[{ accessFlags := 1, nameIndex := 5, descriptorIndex := 6, attributes := #[] }, { accessFlags := 9, nameIndex := 68, descriptorIndex := 69, attributes := #[] }, { accessFlags := 10, nameIndex := 11, descriptorIndex := 12, attributes := #[] }] 49 2 #[] #[])
  fields := #[]
  methods := #[k1m0, k1m1, k1m2]
  instanceTypes := #[]
  staticTypes := #[]
  resolved := Array.replicate 75 none
  statics := none }

def pool2 : Array CpInfo := pool [(1, .class_ 2), (0, u "java/io/Serializable"), (0, .class_ 4), (0, u "java/lang/Object")] 2

/-- java/io/Serializable -/
def k2 : Class := { plain "java/io/Serializable" (some 0) with
  accessFlags := 1537
  interfaces := #[]
  cf := some (fileOf pool2 1 #[] #[] 1537 3 #[] #[])
  fields := #[]
  methods := #[]
  instanceTypes := #[]
  staticTypes := #[]
  resolved := Array.replicate 7 none
  statics := none }

def pool3 : Array CpInfo := pool [(1, .class_ 2), (0, u "java/lang/Comparable"), (0, .class_ 4), (0, u "java/lang/Object")] 7

/-- java/lang/Comparable -/
def k3 : Class := { plain "java/lang/Comparable" (some 0) with
  accessFlags := 1537
  interfaces := #[]
  cf := some (fileOf pool3 1 #[] #[] 1537 3 #[] #[])
  fields := #[]
  methods := #[]
  instanceTypes := #[]
  staticTypes := #[]
  resolved := Array.replicate 12 none
  statics := none }

def pool4 : Array CpInfo := pool [(2, .class_ 4), (1, u "java/lang/CharSequence"), (42, .class_ 48), (0, u "java/lang/CharSequence$1CodePointIterator"), (10, .class_ 60), (0, u "java/lang/CharSequence$1CharIterator"), (5, .class_ 67), (0, u "java/lang/Object")] 63

/-- java/lang/CharSequence -/
def k4 : Class := { plain "java/lang/CharSequence" (some 0) with
  accessFlags := 1537
  interfaces := #[]
  cf := some (fileOf pool4 2 #[.nestMembers #[47, 59]] #[] 1537 66 #[] #[])
  fields := #[]
  methods := #[]
  instanceTypes := #[]
  staticTypes := #[]
  resolved := Array.replicate 131 none
  statics := none }

def pool5 : Array CpInfo := pool [(1, .class_ 2), (0, u "java/lang/constant/Constable"), (0, .class_ 4), (0, u "java/lang/Object")] 6

/-- java/lang/constant/Constable -/
def k5 : Class := { plain "java/lang/constant/Constable" (some 0) with
  accessFlags := 1537
  interfaces := #[]
  cf := some (fileOf pool5 1 #[] #[] 1537 3 #[] #[])
  fields := #[]
  methods := #[]
  instanceTypes := #[]
  staticTypes := #[]
  resolved := Array.replicate 11 none
  statics := none }

def pool6 : Array CpInfo := pool [(1, .class_ 2), (0, u "java/lang/constant/ConstantDesc"), (0, .class_ 4), (0, u "java/lang/Object")] 32

/-- java/lang/constant/ConstantDesc -/
def k6 : Class := { plain "java/lang/constant/ConstantDesc" (some 0) with
  accessFlags := 1537
  interfaces := #[]
  cf := some (fileOf pool6 1 #[] #[] 1537 3 #[] #[])
  fields := #[]
  methods := #[]
  instanceTypes := #[]
  staticTypes := #[]
  resolved := Array.replicate 37 none
  statics := none }

def pool7 : Array CpInfo := pool [(1, .methodref 2 3), (0, .class_ 4), (0, .nameAndType 5 6), (0, u "java/lang/Object"), (0, u "<init>"), (0, u "()V"), (0, .string 8), (0, u ""), (0, .fieldref 10 11), (0, .class_ 12), (0, .nameAndType 13 14), (0, u "java/lang/String"), (0, u "value"), (0, u "[B"), (0, .fieldref 10 16), (0, .nameAndType 17 18), (0, u "coder"), (0, u "B"), (2, u "hash"), (0, u "I"), (2, u "hashIsZero"), (0, u "Z"), (0, .methodref 10 28), (0, .nameAndType 5 29), (0, u "([CIILjava/lang/Void;)V"), (8, .fieldref 10 39), (0, .nameAndType 40 26), (0, u "COMPACT_STRINGS"), (1, .class_ 44), (1, u "java/lang/StringUTF16"), (0, u "compress"), (1, .methodref 42 48), (0, .nameAndType 49 50), (0, u "coderFromArrayLen"), (0, u "([BI)B"), (2, u "toBytes"), (53, .class_ 109), (1, u "java/lang/StringLatin1"), (67, .methodref 42 178), (0, .nameAndType 45 179), (0, u "([CII)[B"), (29, .methodref 10 210), (0, .nameAndType 5 211), (0, u "([BB)V"), (157, u "(C)Z"), (173, u "equals"), (29, u "(Ljava/lang/Object;)Z"), (1, .class_ 576), (0, u "java/lang/CharSequence"), (22, u "CASE_INSENSITIVE_ORDER"), (0, u "Ljava/util/Comparator;"), (181, u "valueOf"), (0, u "(C)Ljava/lang/String;"), (226, u "([C)V"), (4, .methodref 107 1016), (0, .nameAndType 1017 369), (0, u "canEncode"), (0, .methodref 107 1019), (0, .nameAndType 53 1020), (0, u "(C)[B"), (80, u "serialPersistentFields"), (0, u "[Ljava/io/ObjectStreamField;"), (0, .class_ 1104), (0, u "java/lang/String$CaseInsensitiveComparator"), (1, .class_ 1107), (0, u "java/io/Serializable"), (0, .class_ 1109), (0, u "java/lang/Comparable"), (0, .class_ 1111), (0, u "java/lang/constant/Constable"), (0, .class_ 1113), (0, u "java/lang/constant/ConstantDesc"), (2, u "serialVersionUID"), (0, u "J"), (3, u "REPL"), (0, u "C"), (2, u "LATIN1"), (1, u "UTF16")] 323

def k7m0 : Method := { name := "<init>", desc := "()V", sig := { parameters := [], returnType := none }, accessFlags := 1, code := none }
def k7c1 : Code := { maxStack := 5, maxLocals := 2, code := jdk_42_method_3_code, exceptionTable := #[], attributes := #[] }
def k7m1 : Method := { name := "<init>", desc := "([C)V", sig := { parameters := [(.array .char)], returnType := none }, accessFlags := 1, code := some k7c1 }
def k7c2 : Code := { maxStack := 2, maxLocals := 3, code := jdk_42_method_66_code, exceptionTable := #[], attributes := #[] }
def k7m2 : Method := { name := "equals", desc := "(Ljava/lang/Object;)Z", sig := { parameters := [(.object "java/lang/Object")], returnType := some .boolean }, accessFlags := 1, code := some k7c2 }
def k7c3 : Code := { maxStack := 4, maxLocals := 1, code := jdk_42_method_139_code, exceptionTable := #[], attributes := #[] }
def k7m3 : Method := { name := "valueOf", desc := "(C)Ljava/lang/String;", sig := { parameters := [.char], returnType := some (.object "java/lang/String") }, accessFlags := 9, code := some k7c3 }
def k7c4 : Code := { maxStack := 4, maxLocals := 6, code := jdk_42_method_149_code, exceptionTable := #[], attributes := #[] }
def k7m4 : Method := { name := "<init>", desc := "([CIILjava/lang/Void;)V", sig := { parameters := [(.array .char), .int, .int, (.object "java/lang/Void")], returnType := none }, accessFlags := 2, code := some k7c4 }
def k7c5 : Code := { maxStack := 2, maxLocals := 3, code := jdk_42_method_151_code, exceptionTable := #[], attributes := #[] }
def k7m5 : Method := { name := "<init>", desc := "([BB)V", sig := { parameters := [(.array .byte), .byte], returnType := none }, accessFlags := 0, code := some k7c5 }
/-- java/lang/String -/
def k7 : Class := { plain "java/lang/String" (some 0) with
  accessFlags := 49
  interfaces := #[2, 3, 4, 5, 6]
  cf := some (fileOf pool7 10 #[.nestMembers #[1103]] #[{ accessFlags := 1, nameIndex := 5, descriptorIndex := 6, attributes := #[] }, { accessFlags := 1, nameIndex := 5, descriptorIndex := 1010, attributes := #[] }, { accessFlags := 1, nameIndex := 543, descriptorIndex := 573, attributes := #[] }, { accessFlags := 9, nameIndex := 782, descriptorIndex := 783, attributes := #[] }, { accessFlags := 2, nameIndex := 5, descriptorIndex := 29, attributes := #[] }, { accessFlags := 0, nameIndex := 5, descriptorIndex := 211, attributes := #[] }] 49 2 #[1106, 1108, 575, 1110, 1112] #[{ accessFlags := 18, nameIndex := 13, descriptorIndex := 14, attributes := #[] }, { accessFlags := 18, nameIndex := 17, descriptorIndex := 18, attributes := #[] }, { accessFlags := 2, nameIndex := 21, descriptorIndex := 22, attributes := #[] }, { accessFlags := 2, nameIndex := 25, descriptorIndex := 26, attributes := #[] }, { accessFlags := 26, nameIndex := 1116, descriptorIndex := 1117, attributes := #[] }, { accessFlags := 24, nameIndex := 40, descriptorIndex := 26, attributes := #[] }, { accessFlags := 26, nameIndex := 1101, descriptorIndex := 1102, attributes := #[] }, { accessFlags := 26, nameIndex := 1121, descriptorIndex := 1122, attributes := #[] }, { accessFlags := 25, nameIndex := 599, descriptorIndex := 600, attributes := #[] }, { accessFlags := 24, nameIndex := 1125, descriptorIndex := 18, attributes := #[] }, { accessFlags := 24, nameIndex := 1127, descriptorIndex := 18, attributes := #[] }])
  fields := #[{ name := "value", type := (.array .byte), accessFlags := 18, slot := 0, constantValue := 0 }, { name := "coder", type := .byte, accessFlags := 18, slot := 1, constantValue := 0 }, { name := "hash", type := .int, accessFlags := 2, slot := 2, constantValue := 0 }, { name := "hashIsZero", type := .boolean, accessFlags := 2, slot := 3, constantValue := 0 }, { name := "serialVersionUID", type := .long, accessFlags := 26, slot := 0, constantValue := 0 }, { name := "COMPACT_STRINGS", type := .boolean, accessFlags := 24, slot := 1, constantValue := 0 }, { name := "serialPersistentFields", type := (.array (.object "java/io/ObjectStreamField")), accessFlags := 26, slot := 2, constantValue := 0 }, { name := "REPL", type := .char, accessFlags := 26, slot := 3, constantValue := 0 }, { name := "CASE_INSENSITIVE_ORDER", type := (.object "java/util/Comparator"), accessFlags := 25, slot := 4, constantValue := 0 }, { name := "LATIN1", type := .byte, accessFlags := 24, slot := 5, constantValue := 0 }, { name := "UTF16", type := .byte, accessFlags := 24, slot := 6, constantValue := 0 }]
  methods := #[k7m0, k7m1, k7m2, k7m3, k7m4, k7m5]
  instanceTypes := #[(.array .byte), .byte, .int, .boolean]
  staticTypes := #[.long, .boolean, (.array (.object "java/io/ObjectStreamField")), .char, (.object "java/util/Comparator"), .byte, .byte]
  resolved := Array.replicate 1451 none
  statics := some 0 }

def pool8 : Array CpInfo := pool [(1, .methodref 2 3), (0, .class_ 4), (0, .nameAndType 5 6), (0, u "java/lang/Object"), (0, u "<init>"), (0, u "()V"), (0, .fieldref 8 9), (0, .class_ 10), (0, .nameAndType 11 12), (0, u "com/example/elodea/elodea/cli/Parameter"), (0, u "kind"), (0, u "Lcom/example/elodea/elodea/cli/Parameter$Kind;"), (0, .fieldref 8 14), (0, .nameAndType 15 16), (0, u "name"), (0, u "Ljava/lang/String;"), (0, .fieldref 8 18), (0, .nameAndType 19 16), (0, u "placeholder"), (0, .fieldref 8 21), (0, .nameAndType 22 23), (0, u "required"), (0, u "Z"), (0, .fieldref 8 25), (0, .nameAndType 26 27), (0, u "least"), (0, u "I"), (0, .fieldref 8 29), (0, .nameAndType 30 23), (0, u "repeated"), (0, .fieldref 8 32), (0, .nameAndType 33 23), (0, u "standIn"), (0, .fieldref 8 35), (0, .nameAndType 36 16), (0, u "description"), (0, .fieldref 38 39), (0, .class_ 40), (0, .nameAndType 41 12), (0, u "com/example/elodea/elodea/cli/Parameter$Kind"), (0, u "OPTION"), (0, .methodref 8 43), (0, .nameAndType 5 44), (0, u "(Lcom/example/elodea/elodea/cli/Parameter$Kind;Ljava/lang/String;Ljava/lang/String;ZIZZLjava/lang/String;)V"), (0, .fieldref 38 46), (0, .nameAndType 47 12), (0, u "FLAG"), (0, .fieldref 38 49), (0, .nameAndType 50 12), (0, u "ARGUMENT"), (5, u "(I)Ljava/lang/String;"), (43, .methodref 8 101), (0, .nameAndType 102 103), (0, u "getLabel"), (0, u "()Ljava/lang/String;"), (4, u "(Ljava/lang/String;Ljava/lang/String;Ljava/lang/String;)Lcom/example/elodea/elodea/cli/Parameter;"), (3, u "argument"), (2, u "getKind"), (0, u "()Lcom/example/elodea/elodea/cli/Parameter$Kind;"), (0, u "getName"), (0, u "getLeast"), (0, u "()I"), (0, u "isRepeated"), (0, u "()Z"), (0, u "isStandIn"), (0, u "getDescription"), (0, u "getWordName"), (0, u "getUsage")] 42

def k8c0 : Code := { maxStack := 2, maxLocals := 9, code := prog_4_method_1_code, exceptionTable := #[], attributes := #[] }
def k8m0 : Method := { name := "<init>", desc := "(Lcom/example/elodea/elodea/cli/Parameter$Kind;Ljava/lang/String;Ljava/lang/String;ZIZZLjava/lang/String;)V", sig := { parameters := [(.object "com/example/elodea/elodea/cli/Parameter$Kind"), (.object "java/lang/String"), (.object "java/lang/String"), .boolean, .int, .boolean, .boolean, (.object "java/lang/String")], returnType := none }, accessFlags := 2, code := some k8c0 }
def k8c1 : Code := { maxStack := 10, maxLocals := 3, code := prog_4_method_6_code, exceptionTable := #[], attributes := #[] }
def k8m1 : Method := { name := "argument", desc := "(Ljava/lang/String;Ljava/lang/String;Ljava/lang/String;)Lcom/example/elodea/elodea/cli/Parameter;", sig := { parameters := [(.object "java/lang/String"), (.object "java/lang/String"), (.object "java/lang/String")], returnType := some (.object "com/example/elodea/elodea/cli/Parameter") }, accessFlags := 8, code := some k8c1 }
def k8c2 : Code := { maxStack := 1, maxLocals := 1, code := prog_4_method_8_code, exceptionTable := #[], attributes := #[] }
def k8m2 : Method := { name := "getKind", desc := "()Lcom/example/elodea/elodea/cli/Parameter$Kind;", sig := { parameters := [], returnType := some (.object "com/example/elodea/elodea/cli/Parameter$Kind") }, accessFlags := 0, code := some k8c2 }
def k8c3 : Code := { maxStack := 1, maxLocals := 1, code := prog_4_method_9_code, exceptionTable := #[], attributes := #[] }
def k8m3 : Method := { name := "getName", desc := "()Ljava/lang/String;", sig := { parameters := [], returnType := some (.object "java/lang/String") }, accessFlags := 0, code := some k8c3 }
def k8c4 : Code := { maxStack := 1, maxLocals := 1, code := prog_4_method_10_code, exceptionTable := #[], attributes := #[] }
def k8m4 : Method := { name := "getLeast", desc := "()I", sig := { parameters := [], returnType := some .int }, accessFlags := 0, code := some k8c4 }
def k8c5 : Code := { maxStack := 1, maxLocals := 1, code := prog_4_method_11_code, exceptionTable := #[], attributes := #[] }
def k8m5 : Method := { name := "isRepeated", desc := "()Z", sig := { parameters := [], returnType := some .boolean }, accessFlags := 0, code := some k8c5 }
def k8c6 : Code := { maxStack := 1, maxLocals := 1, code := prog_4_method_12_code, exceptionTable := #[], attributes := #[] }
def k8m6 : Method := { name := "isStandIn", desc := "()Z", sig := { parameters := [], returnType := some .boolean }, accessFlags := 0, code := some k8c6 }
def k8c7 : Code := { maxStack := 1, maxLocals := 1, code := prog_4_method_13_code, exceptionTable := #[], attributes := #[] }
def k8m7 : Method := { name := "getDescription", desc := "()Ljava/lang/String;", sig := { parameters := [], returnType := some (.object "java/lang/String") }, accessFlags := 0, code := some k8c7 }
def k8c8 : Code := { maxStack := 2, maxLocals := 2, code := prog_4_method_14_code, exceptionTable := #[], attributes := #[] }
def k8m8 : Method := { name := "getLabel", desc := "()Ljava/lang/String;", sig := { parameters := [], returnType := some (.object "java/lang/String") }, accessFlags := 0, code := some k8c8 }
def k8c9 : Code := { maxStack := 3, maxLocals := 2, code := prog_4_method_15_code, exceptionTable := #[], attributes := #[] }
def k8m9 : Method := { name := "getWordName", desc := "(I)Ljava/lang/String;", sig := { parameters := [.int], returnType := some (.object "java/lang/String") }, accessFlags := 0, code := some k8c9 }
def k8c10 : Code := { maxStack := 1, maxLocals := 1, code := prog_4_method_16_code, exceptionTable := #[], attributes := #[] }
def k8m10 : Method := { name := "getUsage", desc := "()Ljava/lang/String;", sig := { parameters := [], returnType := some (.object "java/lang/String") }, accessFlags := 0, code := some k8c10 }
/-- com/example/elodea/elodea/cli/Parameter -/
def k8 : Class := { plain "com/example/elodea/elodea/cli/Parameter" (some 0) with
  accessFlags := 48
  interfaces := #[]
  cf := some (fileOf pool8 8 #[.nestMembers #[38]] #[{ accessFlags := 2, nameIndex := 5, descriptorIndex := 44, attributes := #[] }, { accessFlags := 8, nameIndex := 112, descriptorIndex := 108, attributes := #[] }, { accessFlags := 0, nameIndex := 115, descriptorIndex := 116, attributes := #[] }, { accessFlags := 0, nameIndex := 117, descriptorIndex := 103, attributes := #[] }, { accessFlags := 0, nameIndex := 118, descriptorIndex := 119, attributes := #[] }, { accessFlags := 0, nameIndex := 120, descriptorIndex := 121, attributes := #[] }, { accessFlags := 0, nameIndex := 122, descriptorIndex := 121, attributes := #[] }, { accessFlags := 0, nameIndex := 123, descriptorIndex := 103, attributes := #[] }, { accessFlags := 0, nameIndex := 102, descriptorIndex := 103, attributes := #[] }, { accessFlags := 0, nameIndex := 124, descriptorIndex := 56, attributes := #[] }, { accessFlags := 0, nameIndex := 125, descriptorIndex := 103, attributes := #[] }] 48 2 #[] #[{ accessFlags := 18, nameIndex := 11, descriptorIndex := 12, attributes := #[] }, { accessFlags := 18, nameIndex := 15, descriptorIndex := 16, attributes := #[] }, { accessFlags := 18, nameIndex := 19, descriptorIndex := 16, attributes := #[] }, { accessFlags := 18, nameIndex := 22, descriptorIndex := 23, attributes := #[] }, { accessFlags := 18, nameIndex := 26, descriptorIndex := 27, attributes := #[] }, { accessFlags := 18, nameIndex := 30, descriptorIndex := 23, attributes := #[] }, { accessFlags := 18, nameIndex := 33, descriptorIndex := 23, attributes := #[] }, { accessFlags := 18, nameIndex := 36, descriptorIndex := 16, attributes := #[] }])
  fields := #[{ name := "kind", type := (.object "com/example/elodea/elodea/cli/Parameter$Kind"), accessFlags := 18, slot := 0, constantValue := 0 }, { name := "name", type := (.object "java/lang/String"), accessFlags := 18, slot := 1, constantValue := 0 }, { name := "placeholder", type := (.object "java/lang/String"), accessFlags := 18, slot := 2, constantValue := 0 }, { name := "required", type := .boolean, accessFlags := 18, slot := 3, constantValue := 0 }, { name := "least", type := .int, accessFlags := 18, slot := 4, constantValue := 0 }, { name := "repeated", type := .boolean, accessFlags := 18, slot := 5, constantValue := 0 }, { name := "standIn", type := .boolean, accessFlags := 18, slot := 6, constantValue := 0 }, { name := "description", type := (.object "java/lang/String"), accessFlags := 18, slot := 7, constantValue := 0 }]
  methods := #[k8m0, k8m1, k8m2, k8m3, k8m4, k8m5, k8m6, k8m7, k8m8, k8m9, k8m10]
  instanceTypes := #[(.object "com/example/elodea/elodea/cli/Parameter$Kind"), (.object "java/lang/String"), (.object "java/lang/String"), .boolean, .int, .boolean, .boolean, (.object "java/lang/String")]
  staticTypes := #[]
  resolved := Array.replicate 168 none
  statics := none }

def pool9 : Array CpInfo := pool [(2, .class_ 4), (1, u "java/lang/Enum"), (0, u "name"), (0, u "Ljava/lang/String;"), (2, u "ordinal"), (0, u "I"), (1, .class_ 14), (1, u "java/lang/Object"), (4, u "hash"), (86, .class_ 108), (1, u "java/lang/Enum$EnumDesc"), (2, .class_ 112), (0, u "java/lang/constant/Constable"), (0, .class_ 114), (0, u "java/lang/Comparable"), (0, .class_ 116), (0, u "java/io/Serializable")] 87

/-- java/lang/Enum -/
def k9 : Class := { plain "java/lang/Enum" (some 0) with
  accessFlags := 1057
  interfaces := #[5, 3, 2]
  cf := some (fileOf pool9 2 #[.nestMembers #[106]] #[] 1057 12 #[111, 113, 115] #[{ accessFlags := 18, nameIndex := 5, descriptorIndex := 6, attributes := #[] }, { accessFlags := 18, nameIndex := 9, descriptorIndex := 10, attributes := #[] }, { accessFlags := 2, nameIndex := 19, descriptorIndex := 10, attributes := #[] }])
  fields := #[{ name := "name", type := (.object "java/lang/String"), accessFlags := 18, slot := 0, constantValue := 0 }, { name := "ordinal", type := .int, accessFlags := 18, slot := 1, constantValue := 0 }, { name := "hash", type := .int, accessFlags := 2, slot := 2, constantValue := 0 }]
  methods := #[]
  instanceTypes := #[(.object "java/lang/String"), .int, .int]
  staticTypes := #[]
  resolved := Array.replicate 204 none
  statics := none }

def pool10 : Array CpInfo := pool [(1, .class_ 2), (0, u "com/example/elodea/elodea/cli/Parameter$Kind"), (2, u "OPTION"), (0, u "Lcom/example/elodea/elodea/cli/Parameter$Kind;"), (2, u "FLAG"), (2, u "ARGUMENT"), (2, u "$VALUES"), (0, u "[Lcom/example/elodea/elodea/cli/Parameter$Kind;"), (6, .class_ 25), (1, u "java/lang/Enum"), (26, .class_ 53), (0, u "com/example/elodea/elodea/cli/Parameter")] 2

/-- com/example/elodea/elodea/cli/Parameter$Kind -/
def k10 : Class := { plain "com/example/elodea/elodea/cli/Parameter$Kind" (some 9) with
  accessFlags := 16432
  interfaces := #[]
  cf := some (fileOf pool10 1 #[.nestHost 52] #[] 16432 23 #[] #[{ accessFlags := 16409, nameIndex := 5, descriptorIndex := 6, attributes := #[] }, { accessFlags := 16409, nameIndex := 9, descriptorIndex := 6, attributes := #[] }, { accessFlags := 16409, nameIndex := 12, descriptorIndex := 6, attributes := #[] }, { accessFlags := 4122, nameIndex := 15, descriptorIndex := 16, attributes := #[] }])
  fields := #[{ name := "OPTION", type := (.object "com/example/elodea/elodea/cli/Parameter$Kind"), accessFlags := 16409, slot := 0, constantValue := 0 }, { name := "FLAG", type := (.object "com/example/elodea/elodea/cli/Parameter$Kind"), accessFlags := 16409, slot := 1, constantValue := 0 }, { name := "ARGUMENT", type := (.object "com/example/elodea/elodea/cli/Parameter$Kind"), accessFlags := 16409, slot := 2, constantValue := 0 }, { name := "$VALUES", type := (.array (.object "com/example/elodea/elodea/cli/Parameter$Kind")), accessFlags := 4122, slot := 3, constantValue := 0 }]
  methods := #[]
  instanceTypes := #[(.object "java/lang/String"), .int, .int]
  staticTypes := #[(.object "com/example/elodea/elodea/cli/Parameter$Kind"), (.object "com/example/elodea/elodea/cli/Parameter$Kind"), (.object "com/example/elodea/elodea/cli/Parameter$Kind"), (.array (.object "com/example/elodea/elodea/cli/Parameter$Kind"))]
  resolved := Array.replicate 56 none
  statics := some 1 }

def pool11 : Array CpInfo := pool [(4, .class_ 6), (1, u "java/lang/Object"), (0, u "<init>"), (0, u "()V"), (5, .class_ 16), (1, u "java/lang/StringLatin1"), (73, u "canEncode"), (14, u "(C)Z"), (15, u "$assertionsDisabled"), (0, u "Z"), (98, .class_ 223), (1, u "java/lang/StringLatin1$LinesSpliterator"), (156, u "toBytes"), (1, u "(C)[B"), (7, .class_ 391), (0, u "java/lang/StringLatin1$CharsSpliterator")] 3

def k11m0 : Method := { name := "<init>", desc := "()V", sig := { parameters := [], returnType := none }, accessFlags := 0, code := none }
def k11c1 : Code := { maxStack := 2, maxLocals := 1, code := jdk_43_method_3_code, exceptionTable := #[], attributes := #[] }
def k11m1 : Method := { name := "canEncode", desc := "(C)Z", sig := { parameters := [.char], returnType := some .boolean }, accessFlags := 9, code := some k11c1 }
def k11c2 : Code := { maxStack := 4, maxLocals := 1, code := jdk_43_method_46_code, exceptionTable := #[], attributes := #[] }
def k11m2 : Method := { name := "toBytes", desc := "(C)[B", sig := { parameters := [.char], returnType := some (.array .byte) }, accessFlags := 9, code := some k11c2 }
/-- java/lang/StringLatin1 -/
def k11 : Class := { plain "java/lang/StringLatin1" (some 0) with
  accessFlags := 48
  interfaces := #[]
  cf := some (fileOf pool11 14 #[.nestMembers #[390, 221]] #[{ accessFlags := 0, nameIndex := 7, descriptorIndex := 8, attributes := #[] }, { accessFlags := 9, nameIndex := 90, descriptorIndex := 105, attributes := #[] }, { accessFlags := 9, nameIndex := 380, descriptorIndex := 382, attributes := #[] }] 48 4 #[] #[{ accessFlags := 4120, nameIndex := 121, descriptorIndex := 122, attributes := #[] }])
  fields := #[{ name := "$assertionsDisabled", type := .boolean, accessFlags := 4120, slot := 0, constantValue := 0 }]
  methods := #[k11m0, k11m1, k11m2]
  instanceTypes := #[]
  staticTypes := #[.boolean]
  resolved := Array.replicate 395 none
  statics := none }

def pool12 : Array CpInfo := pool [(6, .class_ 8), (1, u "java/lang/Object"), (0, u "<init>"), (0, u "()V"), (1, .class_ 14), (1, u "java/lang/StringUTF16"), (31, u "$assertionsDisabled"), (0, u "Z"), (13, u "HI_BYTE_SHIFT"), (0, u "I"), (2, u "LO_BYTE_SHIFT"), (49, .methodref 12 116), (0, .nameAndType 117 118), (0, u "compress"), (0, u "([CI[BII)I"), (3, u "([CII)[B"), (138, u "coderFromArrayLen"), (0, u "([BI)B"), (106, .class_ 371), (1, u "java/lang/StringUTF16$LinesSpliterator"), (58, u "MAX_LENGTH"), (196, .class_ 628), (0, u "java/lang/StringUTF16$CodePointsSpliterator"), (0, .class_ 630), (0, u "java/lang/StringUTF16$CharsSpliterator")] 4

def k12m0 : Method := { name := "<init>", desc := "()V", sig := { parameters := [], returnType := none }, accessFlags := 0, code := none }
def k12c1 : Code := { maxStack := 2, maxLocals := 2, code := jdk_52_method_15_code, exceptionTable := #[], attributes := #[] }
def k12m1 : Method := { name := "coderFromArrayLen", desc := "([BI)B", sig := { parameters := [(.array .byte), .int], returnType := some .byte }, accessFlags := 8, code := some k12c1 }
def k12c2 : Code := { maxStack := 5, maxLocals := 6, code := jdk_52_method_16_code, exceptionTable := #[], attributes := #[] }
def k12m2 : Method := { name := "compress", desc := "([CII)[B", sig := { parameters := [(.array .char), .int, .int], returnType := some (.array .byte) }, accessFlags := 9, code := some k12c2 }
def k12c3 : Code := { maxStack := 3, maxLocals := 7, code := jdk_52_method_21_code, exceptionTable := #[], attributes := #[] }
def k12m3 : Method := { name := "compress", desc := "([CI[BII)I", sig := { parameters := [(.array .char), .int, (.array .byte), .int, .int], returnType := some .int }, accessFlags := 9, code := some k12c3 }
/-- java/lang/StringUTF16 -/
def k12 : Class := { plain "java/lang/StringUTF16" (some 0) with
  accessFlags := 48
  interfaces := #[]
  cf := some (fileOf pool12 12 #[.nestMembers #[627, 629, 369]] #[{ accessFlags := 0, nameIndex := 9, descriptorIndex := 10, attributes := #[] }, { accessFlags := 8, nameIndex := 261, descriptorIndex := 262, attributes := #[] }, { accessFlags := 9, nameIndex := 117, descriptorIndex := 122, attributes := #[] }, { accessFlags := 9, nameIndex := 117, descriptorIndex := 118, attributes := #[] }] 48 6 #[] #[{ accessFlags := 26, nameIndex := 61, descriptorIndex := 62, attributes := #[] }, { accessFlags := 26, nameIndex := 65, descriptorIndex := 62, attributes := #[] }, { accessFlags := 24, nameIndex := 430, descriptorIndex := 62, attributes := #[] }, { accessFlags := 4120, nameIndex := 46, descriptorIndex := 47, attributes := #[] }])
  fields := #[{ name := "HI_BYTE_SHIFT", type := .int, accessFlags := 26, slot := 0, constantValue := 0 }, { name := "LO_BYTE_SHIFT", type := .int, accessFlags := 26, slot := 1, constantValue := 0 }, { name := "MAX_LENGTH", type := .int, accessFlags := 24, slot := 2, constantValue := 0 }, { name := "$assertionsDisabled", type := .boolean, accessFlags := 4120, slot := 3, constantValue := 0 }]
  methods := #[k12m0, k12m1, k12m2, k12m3]
  instanceTypes := #[]
  staticTypes := #[.int, .int, .int, .boolean]
  resolved := Array.replicate 635 none
  statics := none }

def pool13 : Array CpInfo := pool [(2, .class_ 4), (1, u "java/lang/Object"), (0, u "<init>"), (0, u "()V"), (17, .class_ 26), (1, u "jdk/internal/util/Preconditions"), (28, .class_ 56), (0, u "jdk/internal/util/Preconditions$4"), (57, .class_ 115), (0, u "jdk/internal/util/Preconditions$1"), (7, u "SIOOBE_FORMATTER"), (0, u "Ljava/util/function/BiFunction;"), (0, .class_ 126), (0, u "jdk/internal/util/Preconditions$2"), (3, u "AIOOBE_FORMATTER"), (0, .class_ 132), (0, u "jdk/internal/util/Preconditions$3"), (3, u "IOOBE_FORMATTER")] 57

def k13m0 : Method := { name := "<init>", desc := "()V", sig := { parameters := [], returnType := none }, accessFlags := 1, code := none }
/-- jdk/internal/util/Preconditions -/
def k13 : Class := { plain "jdk/internal/util/Preconditions" (some 0) with
  accessFlags := 33
  interfaces := #[]
  cf := some (fileOf pool13 24 #[.nestMembers #[55, 131, 125, 114]] #[{ accessFlags := 1, nameIndex := 5, descriptorIndex := 6, attributes := #[] }] 33 2 #[] #[{ accessFlags := 25, nameIndex := 123, descriptorIndex := 124, attributes := #[] }, { accessFlags := 25, nameIndex := 130, descriptorIndex := 124, attributes := #[] }, { accessFlags := 25, nameIndex := 136, descriptorIndex := 124, attributes := #[] }])
  fields := #[{ name := "SIOOBE_FORMATTER", type := (.object "java/util/function/BiFunction"), accessFlags := 25, slot := 0, constantValue := 0 }, { name := "AIOOBE_FORMATTER", type := (.object "java/util/function/BiFunction"), accessFlags := 25, slot := 1, constantValue := 0 }, { name := "IOOBE_FORMATTER", type := (.object "java/util/function/BiFunction"), accessFlags := 25, slot := 2, constantValue := 0 }]
  methods := #[k13m0]
  instanceTypes := #[]
  staticTypes := #[(.object "java/util/function/BiFunction"), (.object "java/util/function/BiFunction"), (.object "java/util/function/BiFunction")]
  resolved := Array.replicate 194 none
  statics := some 2 }

def pool14 : Array CpInfo := pool [(9, u "<init>"), (6, .class_ 18), (1, u "java/lang/Object"), (0, u "()V"), (1, .class_ 23), (1, u "jdk/internal/util/ArraysSupport"), (0, u "LOG2_ARRAY_LONG_INDEX_SCALE"), (0, u "I"), (2, u "U"), (0, u "Ljdk/internal/misc/Unsafe;"), (8, u "BIG_ENDIAN"), (0, u "Z"), (8, u "LOG2_BYTE_BIT_SIZE"), (4, u "LOG2_ARRAY_INT_INDEX_SCALE"), (54, u "JLA"), (0, u "Ljdk/internal/access/JavaLangAccess;"), (11, u "LOG2_ARRAY_BOOLEAN_INDEX_SCALE"), (9, u "LOG2_ARRAY_BYTE_INDEX_SCALE"), (5, u "LOG2_ARRAY_CHAR_INDEX_SCALE"), (5, u "LOG2_ARRAY_SHORT_INDEX_SCALE"), (18, u "LOG2_ARRAY_FLOAT_INDEX_SCALE"), (24, u "LOG2_ARRAY_DOUBLE_INDEX_SCALE"), (89, u "T_BOOLEAN"), (2, u "T_CHAR"), (1, u "T_FLOAT"), (1, u "T_DOUBLE"), (1, u "T_BYTE"), (1, u "T_SHORT"), (1, u "T_INT"), (1, u "T_LONG"), (1, u "SOFT_MAX_ARRAY_LENGTH")] 83

def k14m0 : Method := { name := "<init>", desc := "()V", sig := { parameters := [], returnType := none }, accessFlags := 2, code := none }
/-- jdk/internal/util/ArraysSupport -/
def k14 : Class := { plain "jdk/internal/util/ArraysSupport" (some 0) with
  accessFlags := 33
  interfaces := #[]
  cf := some (fileOf pool14 21 #[] #[{ accessFlags := 2, nameIndex := 9, descriptorIndex := 19, attributes := #[] }] 33 16 #[] #[{ accessFlags := 24, nameIndex := 28, descriptorIndex := 29, attributes := #[] }, { accessFlags := 26, nameIndex := 38, descriptorIndex := 39, attributes := #[] }, { accessFlags := 25, nameIndex := 121, descriptorIndex := 25, attributes := #[] }, { accessFlags := 25, nameIndex := 131, descriptorIndex := 25, attributes := #[] }, { accessFlags := 25, nameIndex := 137, descriptorIndex := 25, attributes := #[] }, { accessFlags := 25, nameIndex := 143, descriptorIndex := 25, attributes := #[] }, { accessFlags := 25, nameIndex := 53, descriptorIndex := 25, attributes := #[] }, { accessFlags := 25, nameIndex := 24, descriptorIndex := 25, attributes := #[] }, { accessFlags := 25, nameIndex := 162, descriptorIndex := 25, attributes := #[] }, { accessFlags := 25, nameIndex := 187, descriptorIndex := 25, attributes := #[] }, { accessFlags := 26, nameIndex := 48, descriptorIndex := 25, attributes := #[] }, { accessFlags := 25, nameIndex := 277, descriptorIndex := 25, attributes := #[] }, { accessFlags := 25, nameIndex := 280, descriptorIndex := 25, attributes := #[] }, { accessFlags := 25, nameIndex := 282, descriptorIndex := 25, attributes := #[] }, { accessFlags := 25, nameIndex := 284, descriptorIndex := 25, attributes := #[] }, { accessFlags := 25, nameIndex := 286, descriptorIndex := 25, attributes := #[] }, { accessFlags := 25, nameIndex := 288, descriptorIndex := 25, attributes := #[] }, { accessFlags := 25, nameIndex := 290, descriptorIndex := 25, attributes := #[] }, { accessFlags := 25, nameIndex := 292, descriptorIndex := 25, attributes := #[] }, { accessFlags := 26, nameIndex := 108, descriptorIndex := 109, attributes := #[] }, { accessFlags := 25, nameIndex := 294, descriptorIndex := 25, attributes := #[] }])
  fields := #[{ name := "U", type := (.object "jdk/internal/misc/Unsafe"), accessFlags := 24, slot := 0, constantValue := 0 }, { name := "BIG_ENDIAN", type := .boolean, accessFlags := 26, slot := 1, constantValue := 0 }, { name := "LOG2_ARRAY_BOOLEAN_INDEX_SCALE", type := .int, accessFlags := 25, slot := 2, constantValue := 0 }, { name := "LOG2_ARRAY_BYTE_INDEX_SCALE", type := .int, accessFlags := 25, slot := 3, constantValue := 0 }, { name := "LOG2_ARRAY_CHAR_INDEX_SCALE", type := .int, accessFlags := 25, slot := 4, constantValue := 0 }, { name := "LOG2_ARRAY_SHORT_INDEX_SCALE", type := .int, accessFlags := 25, slot := 5, constantValue := 0 }, { name := "LOG2_ARRAY_INT_INDEX_SCALE", type := .int, accessFlags := 25, slot := 6, constantValue := 0 }, { name := "LOG2_ARRAY_LONG_INDEX_SCALE", type := .int, accessFlags := 25, slot := 7, constantValue := 0 }, { name := "LOG2_ARRAY_FLOAT_INDEX_SCALE", type := .int, accessFlags := 25, slot := 8, constantValue := 0 }, { name := "LOG2_ARRAY_DOUBLE_INDEX_SCALE", type := .int, accessFlags := 25, slot := 9, constantValue := 0 }, { name := "LOG2_BYTE_BIT_SIZE", type := .int, accessFlags := 26, slot := 10, constantValue := 0 }, { name := "T_BOOLEAN", type := .int, accessFlags := 25, slot := 11, constantValue := 0 }, { name := "T_CHAR", type := .int, accessFlags := 25, slot := 12, constantValue := 0 }, { name := "T_FLOAT", type := .int, accessFlags := 25, slot := 13, constantValue := 0 }, { name := "T_DOUBLE", type := .int, accessFlags := 25, slot := 14, constantValue := 0 }, { name := "T_BYTE", type := .int, accessFlags := 25, slot := 15, constantValue := 0 }, { name := "T_SHORT", type := .int, accessFlags := 25, slot := 16, constantValue := 0 }, { name := "T_INT", type := .int, accessFlags := 25, slot := 17, constantValue := 0 }, { name := "T_LONG", type := .int, accessFlags := 25, slot := 18, constantValue := 0 }, { name := "JLA", type := (.object "jdk/internal/access/JavaLangAccess"), accessFlags := 26, slot := 19, constantValue := 0 }, { name := "SOFT_MAX_ARRAY_LENGTH", type := .int, accessFlags := 25, slot := 20, constantValue := 0 }]
  methods := #[k14m0]
  instanceTypes := #[]
  staticTypes := #[(.object "jdk/internal/misc/Unsafe"), .boolean, .int, .int, .int, .int, .int, .int, .int, .int, .int, .int, .int, .int, .int, .int, .int, .int, .int, (.object "jdk/internal/access/JavaLangAccess"), .int]
  resolved := Array.replicate 378 none
  statics := none }

def pool15 : Array CpInfo := pool [(1, u "java/lang/Cloneable"), (0, .class_ 1), (0, u "java/lang/Object"), (0, .class_ 3)] 3

/-- java/lang/Cloneable -/
def k15 : Class := { plain "java/lang/Cloneable" (some 0) with
  accessFlags := 1537
  interfaces := #[]
  cf := some (fileOf pool15 2 #[] #[] 1537 4 #[] #[])
  fields := #[]
  methods := #[]
  instanceTypes := #[]
  staticTypes := #[]
  resolved := Array.replicate 8 none
  statics := none }

/-- the primitive byte -/
def k16 : Class := { plain "byte" none with kind := .primitive 'B', accessFlags := 0x411 }
/-- [B -/
def k17 : Class := { plain "[B" (some 0) with kind := .array 16 .byte, interfaces := #[15, 2], accessFlags := 1041 }

/-- the primitive char -/
def k18 : Class := { plain "char" none with kind := .primitive 'C', accessFlags := 0x411 }
/-- [C -/
def k19 : Class := { plain "[C" (some 0) with kind := .array 18 .char, interfaces := #[15, 2], accessFlags := 1041 }

/-- the primitive int -/
def k20 : Class := { plain "int" none with kind := .primitive 'I', accessFlags := 0x411 }
/-- [I -/
def k21 : Class := { plain "[I" (some 0) with kind := .array 20 .int, interfaces := #[15, 2], accessFlags := 1041 }

def heap : Heap := #[{ cls := 7, slots := #[.long 0, .int 1, .null, .int 0, .null, .int 0, .int 0], vm := .statics 7 },
  { cls := 10, slots := #[.ref 4, .ref 5, .ref 3, .null], vm := .statics 10 },
  { cls := 13, slots := #[.null, .null, .null], vm := .statics 13 },
  { cls := 10, slots := #[.null, .int 2, .int 0], vm := .none },
  { cls := 10, slots := #[.null, .int 0, .int 0], vm := .none },
  { cls := 10, slots := #[.null, .int 1, .int 0], vm := .none }]
def classes : Array Class := #[k0, k1, k2, k3, k4, k5, k6, k7, k8, k9, k10, k11, k12, k13, k14, k15, k16, k17, k18, k19, k20, k21]
def interned : List (Array UInt16 × Addr) := []
def slotsUsed : Nat := 23
def theMethod : MethodId := ⟨1, 1⟩
def args0 : Array Value := #[.int 5, .int 3, .int 7, .int 8]
def aboutOver (below : List Frame) : State where
  vm := { classes := classes, interned := interned.toArray }
  heap := heap
  slotsUsed := slotsUsed
  threads := #[{ frames := .invoking theMethod args0 :: below }]
def below0 : List Frame := [.native { method := ⟨0, 0⟩, args := #[] }]
def about1 : State := aboutOver below0
def p0 : Program := .bare "" "" ""
def e0 : Env := launch0.env 0 0 0
theorem w_frames : about1.frames = Frame.invoking theMethod args0 :: below0 := rfl
set_option maxRecDepth 65536 in
theorem w_args : argsFit about1.vm theMethod args0 = true := by decide +kernel
set_option maxRecDepth 65536 in
theorem w_heap : heapFits about1 = true := by decide +kernel
set_option maxRecDepth 65536 in
theorem w_runnable : about1.curStatus? = some .runnable := by decide +kernel
set_option maxRecDepth 65536 in
theorem w_alone : about1.alone = true := by decide +kernel
set_option maxRecDepth 65536 in
theorem w_named : about1.methodNamed? x = some theMethod := by decide +kernel
set_option maxRecDepth 65536 in
theorem w_hears : about1.hears theMethod below0 = true := by decide +kernel
set_option maxRecDepth 65536 in
theorem w_ripe : about1.ripe theMethod args0 below0 = true := by decide +kernel
theorem w_running : about1.status = .running := rfl
set_option maxRecDepth 65536 in
theorem w_room : about1.hasRoom e0.platform room_1 = true :=
  launch0.hasRoom_least _ room_1 (by decide +kernel) (by decide +kernel) (by decide +kernel) (by decide +kernel) (by decide +kernel) (by decide +kernel)
theorem allAtoms_all (ts : List Jvm.Cond) (a : Array Jvm.Value) (st : Jvm.State) : (allAtoms ts).before a st = ts.all (fun c => c.before a st) := by
  induction ts with
  | nil => rfl
  | cons c t ih =>
    show (Jvm.Cond.and c (allAtoms t)).before a st = _
    rw [Jvm.Cond.before_and, ih, List.all_cons]
def words1 : List Jvm.Cond := Jvm.Cond.code x code maxLocals ret :: tables_1
/-- a 'code' word, met by the world's own term for the bytes: nothing is compared byte by byte -/
theorem code_word {y : MethodName} {bytes : ByteArray} {mx : Nat} {rt : Option FieldType} {a : Array Value} {s : State} {m : MethodId} {meth : Method} {c : Code} (h1 : s.methodNamed? y = some m) (h2 : s.vm.method? m = some meth) (h3 : meth.code = some c) (h4 : c.code = bytes)
    (h5 : (c.maxLocals == mx && c.exceptionTable.isEmpty && decide (c.maxStack ≤ mostOperands) && decide (meth.sig.returnType = rt) && !meth.locks && decide (parseMethodDescriptor y.desc = some meth.sig)) = true) : (Jvm.Cond.code y bytes mx rt).before a s = true := by
  simp only [Bool.and_eq_true, beq_iff_eq, Bool.not_eq_true', decide_eq_true_eq] at h5
  obtain ⟨⟨⟨⟨⟨g1, g2⟩, g3⟩, g4⟩, g5⟩, g6⟩ := h5
  simp [Cond.before, Cond.holds, Cond.value, h1, h2, h3, h4, g1, g2, g3, g4, g5, g6]
def isCode : Jvm.Cond → Bool
  | .code _ _ _ _ => true
  | _ => false
theorem all_split {L : List Jvm.Cond} {P : Jvm.Cond → Bool} (h1 : L.all (fun c => isCode c || P c) = true) (h2 : ∀ c ∈ L.filter isCode, P c = true) : L.all P = true := by
  refine List.all_eq_true.mpr fun c hc => ?_
  have h := List.all_eq_true.mp h1 c hc
  rcases Bool.eq_false_or_eq_true (isCode c) with hi | hi
  · exact h2 c (List.mem_filter.mpr ⟨hc, hi⟩)
  · simpa [hi] using h
set_option maxRecDepth 65536 in
theorem w_c0 : (Jvm.Cond.code x code maxLocals ret).before args0 about1 = true := code_word (m := ⟨1, 1⟩) (meth := k1m1) (c := k1c1) (by decide +kernel) rfl rfl rfl (by decide +kernel)
set_option maxRecDepth 65536 in
theorem w_c1 : (Jvm.Cond.code ({ cls := "com/example/elodea/elodea/cli/ParameterArgumentPinLaw", name := "draw", desc := "(I)Ljava/lang/String;" } : Jvm.MethodName) method_3_code (5 : Nat) (Option.some (Jvm.ClassFile.FieldType.object "java/lang/String"))).before args0 about1 = true := code_word (m := ⟨1, 2⟩) (meth := k1m2) (c := k1c2) (by decide +kernel) rfl rfl rfl (by decide +kernel)
set_option maxRecDepth 65536 in
theorem w_c2 : (Jvm.Cond.code ({ cls := "java/lang/String", name := "<init>", desc := "([C)V" } : Jvm.MethodName) jdk_42_method_3_code (2 : Nat) (Option.none : Option Jvm.ClassFile.FieldType)).before args0 about1 = true := code_word (m := ⟨7, 1⟩) (meth := k7m1) (c := k7c1) (by decide +kernel) rfl rfl rfl (by decide +kernel)
set_option maxRecDepth 65536 in
theorem w_c3 : (Jvm.Cond.code ({ cls := "java/lang/String", name := "<init>", desc := "([CIILjava/lang/Void;)V" } : Jvm.MethodName) jdk_42_method_149_code (6 : Nat) (Option.none : Option Jvm.ClassFile.FieldType)).before args0 about1 = true := code_word (m := ⟨7, 4⟩) (meth := k7m4) (c := k7c4) (by decide +kernel) rfl rfl rfl (by decide +kernel)
set_option maxRecDepth 65536 in
theorem w_c4 : (Jvm.Cond.code ({ cls := "java/lang/Object", name := "<init>", desc := "()V" } : Jvm.MethodName) object_method_1_code (1 : Nat) (Option.none : Option Jvm.ClassFile.FieldType)).before args0 about1 = true := code_word (m := ⟨0, 0⟩) (meth := k0m0) (c := k0c0) (by decide +kernel) rfl rfl rfl (by decide +kernel)
set_option maxRecDepth 65536 in
theorem w_c5 : (Jvm.Cond.code ({ cls := "com/example/elodea/elodea/cli/Parameter", name := "argument", desc := "(Ljava/lang/String;Ljava/lang/String;Ljava/lang/String;)Lcom/example/elodea/elodea/cli/Parameter;" } : Jvm.MethodName) prog_4_method_6_code (3 : Nat) (Option.some (Jvm.ClassFile.FieldType.object "com/example/elodea/elodea/cli/Parameter"))).before args0 about1 = true := code_word (m := ⟨8, 1⟩) (meth := k8m1) (c := k8c1) (by decide +kernel) rfl rfl rfl (by decide +kernel)
set_option maxRecDepth 65536 in
theorem w_c6 : (Jvm.Cond.code ({ cls := "com/example/elodea/elodea/cli/Parameter", name := "<init>", desc := "(Lcom/example/elodea/elodea/cli/Parameter$Kind;Ljava/lang/String;Ljava/lang/String;ZIZZLjava/lang/String;)V" } : Jvm.MethodName) prog_4_method_1_code (9 : Nat) (Option.none : Option Jvm.ClassFile.FieldType)).before args0 about1 = true := code_word (m := ⟨8, 0⟩) (meth := k8m0) (c := k8c0) (by decide +kernel) rfl rfl rfl (by decide +kernel)
set_option maxRecDepth 65536 in
theorem w_c7 : (Jvm.Cond.code ({ cls := "com/example/elodea/elodea/cli/Parameter", name := "getKind", desc := "()Lcom/example/elodea/elodea/cli/Parameter$Kind;" } : Jvm.MethodName) prog_4_method_8_code (1 : Nat) (Option.some (Jvm.ClassFile.FieldType.object "com/example/elodea/elodea/cli/Parameter$Kind"))).before args0 about1 = true := code_word (m := ⟨8, 2⟩) (meth := k8m2) (c := k8c2) (by decide +kernel) rfl rfl rfl (by decide +kernel)
set_option maxRecDepth 65536 in
theorem w_c8 : (Jvm.Cond.code ({ cls := "com/example/elodea/elodea/cli/Parameter", name := "getName", desc := "()Ljava/lang/String;" } : Jvm.MethodName) prog_4_method_9_code (1 : Nat) (Option.some (Jvm.ClassFile.FieldType.object "java/lang/String"))).before args0 about1 = true := code_word (m := ⟨8, 3⟩) (meth := k8m3) (c := k8c3) (by decide +kernel) rfl rfl rfl (by decide +kernel)
set_option maxRecDepth 65536 in
theorem w_c9 : (Jvm.Cond.code ({ cls := "java/lang/String", name := "equals", desc := "(Ljava/lang/Object;)Z" } : Jvm.MethodName) jdk_42_method_66_code (3 : Nat) (Option.some Jvm.ClassFile.FieldType.boolean)).before args0 about1 = true := code_word (m := ⟨7, 2⟩) (meth := k7m2) (c := k7c2) (by decide +kernel) rfl rfl rfl (by decide +kernel)
set_option maxRecDepth 65536 in
theorem w_c10 : (Jvm.Cond.code ({ cls := "com/example/elodea/elodea/cli/Parameter", name := "getDescription", desc := "()Ljava/lang/String;" } : Jvm.MethodName) prog_4_method_13_code (1 : Nat) (Option.some (Jvm.ClassFile.FieldType.object "java/lang/String"))).before args0 about1 = true := code_word (m := ⟨8, 7⟩) (meth := k8m7) (c := k8c7) (by decide +kernel) rfl rfl rfl (by decide +kernel)
set_option maxRecDepth 65536 in
theorem w_c11 : (Jvm.Cond.code ({ cls := "com/example/elodea/elodea/cli/Parameter", name := "getLeast", desc := "()I" } : Jvm.MethodName) prog_4_method_10_code (1 : Nat) (Option.some Jvm.ClassFile.FieldType.int)).before args0 about1 = true := code_word (m := ⟨8, 4⟩) (meth := k8m4) (c := k8c4) (by decide +kernel) rfl rfl rfl (by decide +kernel)
set_option maxRecDepth 65536 in
theorem w_c12 : (Jvm.Cond.code ({ cls := "com/example/elodea/elodea/cli/Parameter", name := "isRepeated", desc := "()Z" } : Jvm.MethodName) prog_4_method_11_code (1 : Nat) (Option.some Jvm.ClassFile.FieldType.boolean)).before args0 about1 = true := code_word (m := ⟨8, 5⟩) (meth := k8m5) (c := k8c5) (by decide +kernel) rfl rfl rfl (by decide +kernel)
set_option maxRecDepth 65536 in
theorem w_c13 : (Jvm.Cond.code ({ cls := "com/example/elodea/elodea/cli/Parameter", name := "isStandIn", desc := "()Z" } : Jvm.MethodName) prog_4_method_12_code (1 : Nat) (Option.some Jvm.ClassFile.FieldType.boolean)).before args0 about1 = true := code_word (m := ⟨8, 6⟩) (meth := k8m6) (c := k8c6) (by decide +kernel) rfl rfl rfl (by decide +kernel)
set_option maxRecDepth 65536 in
theorem w_c14 : (Jvm.Cond.code ({ cls := "com/example/elodea/elodea/cli/Parameter", name := "getUsage", desc := "()Ljava/lang/String;" } : Jvm.MethodName) prog_4_method_16_code (1 : Nat) (Option.some (Jvm.ClassFile.FieldType.object "java/lang/String"))).before args0 about1 = true := code_word (m := ⟨8, 10⟩) (meth := k8m10) (c := k8c10) (by decide +kernel) rfl rfl rfl (by decide +kernel)
set_option maxRecDepth 65536 in
theorem w_c15 : (Jvm.Cond.code ({ cls := "com/example/elodea/elodea/cli/Parameter", name := "getLabel", desc := "()Ljava/lang/String;" } : Jvm.MethodName) prog_4_method_14_code (2 : Nat) (Option.some (Jvm.ClassFile.FieldType.object "java/lang/String"))).before args0 about1 = true := code_word (m := ⟨8, 8⟩) (meth := k8m8) (c := k8c8) (by decide +kernel) rfl rfl rfl (by decide +kernel)
set_option maxRecDepth 65536 in
theorem w_c16 : (Jvm.Cond.code ({ cls := "com/example/elodea/elodea/cli/Parameter", name := "getWordName", desc := "(I)Ljava/lang/String;" } : Jvm.MethodName) prog_4_method_15_code (2 : Nat) (Option.some (Jvm.ClassFile.FieldType.object "java/lang/String"))).before args0 about1 = true := code_word (m := ⟨8, 9⟩) (meth := k8m9) (c := k8c9) (by decide +kernel) rfl rfl rfl (by decide +kernel)
set_option maxRecDepth 65536 in
theorem w_c17 : (Jvm.Cond.code ({ cls := "java/lang/String", name := "valueOf", desc := "(C)Ljava/lang/String;" } : Jvm.MethodName) jdk_42_method_139_code (1 : Nat) (Option.some (Jvm.ClassFile.FieldType.object "java/lang/String"))).before args0 about1 = true := code_word (m := ⟨7, 3⟩) (meth := k7m3) (c := k7c3) (by decide +kernel) rfl rfl rfl (by decide +kernel)
set_option maxRecDepth 65536 in
theorem w_c18 : (Jvm.Cond.code ({ cls := "java/lang/StringLatin1", name := "canEncode", desc := "(C)Z" } : Jvm.MethodName) jdk_43_method_3_code (1 : Nat) (Option.some Jvm.ClassFile.FieldType.boolean)).before args0 about1 = true := code_word (m := ⟨11, 1⟩) (meth := k11m1) (c := k11c1) (by decide +kernel) rfl rfl rfl (by decide +kernel)
set_option maxRecDepth 65536 in
theorem w_c19 : (Jvm.Cond.code ({ cls := "java/lang/StringLatin1", name := "toBytes", desc := "(C)[B" } : Jvm.MethodName) jdk_43_method_46_code (1 : Nat) (Option.some (Jvm.ClassFile.FieldType.array Jvm.ClassFile.FieldType.byte))).before args0 about1 = true := code_word (m := ⟨11, 2⟩) (meth := k11m2) (c := k11c2) (by decide +kernel) rfl rfl rfl (by decide +kernel)
set_option maxRecDepth 65536 in
theorem w_c20 : (Jvm.Cond.code ({ cls := "java/lang/String", name := "<init>", desc := "([BB)V" } : Jvm.MethodName) jdk_42_method_151_code (3 : Nat) (Option.none : Option Jvm.ClassFile.FieldType)).before args0 about1 = true := code_word (m := ⟨7, 5⟩) (meth := k7m5) (c := k7c5) (by decide +kernel) rfl rfl rfl (by decide +kernel)
set_option maxRecDepth 65536 in
theorem w_c21 : (Jvm.Cond.code ({ cls := "java/lang/StringUTF16", name := "compress", desc := "([CII)[B" } : Jvm.MethodName) jdk_52_method_16_code (6 : Nat) (Option.some (Jvm.ClassFile.FieldType.array Jvm.ClassFile.FieldType.byte))).before args0 about1 = true := code_word (m := ⟨12, 2⟩) (meth := k12m2) (c := k12c2) (by decide +kernel) rfl rfl rfl (by decide +kernel)
set_option maxRecDepth 65536 in
theorem w_c22 : (Jvm.Cond.code ({ cls := "java/lang/StringUTF16", name := "compress", desc := "([CI[BII)I" } : Jvm.MethodName) jdk_52_method_21_code (7 : Nat) (Option.some Jvm.ClassFile.FieldType.int)).before args0 about1 = true := code_word (m := ⟨12, 3⟩) (meth := k12m3) (c := k12c3) (by decide +kernel) rfl rfl rfl (by decide +kernel)
set_option maxRecDepth 65536 in
theorem w_c23 : (Jvm.Cond.code ({ cls := "java/lang/StringUTF16", name := "coderFromArrayLen", desc := "([BI)B" } : Jvm.MethodName) jdk_52_method_15_code (2 : Nat) (Option.some Jvm.ClassFile.FieldType.byte)).before args0 about1 = true := code_word (m := ⟨12, 1⟩) (meth := k12m1) (c := k12c1) (by decide +kernel) rfl rfl rfl (by decide +kernel)
def codes1 : List Jvm.Cond := [Jvm.Cond.code x code maxLocals ret, Jvm.Cond.code ({ cls := "com/example/elodea/elodea/cli/ParameterArgumentPinLaw", name := "draw", desc := "(I)Ljava/lang/String;" } : Jvm.MethodName) method_3_code (5 : Nat) (Option.some (Jvm.ClassFile.FieldType.object "java/lang/String")), Jvm.Cond.code ({ cls := "java/lang/String", name := "<init>", desc := "([C)V" } : Jvm.MethodName) jdk_42_method_3_code (2 : Nat) (Option.none : Option Jvm.ClassFile.FieldType), Jvm.Cond.code ({ cls := "java/lang/String", name := "<init>", desc := "([CIILjava/lang/Void;)V" } : Jvm.MethodName) jdk_42_method_149_code (6 : Nat) (Option.none : Option Jvm.ClassFile.FieldType), Jvm.Cond.code ({ cls := "java/lang/Object", name := "<init>", desc := "()V" } : Jvm.MethodName) object_method_1_code (1 : Nat) (Option.none : Option Jvm.ClassFile.FieldType), Jvm.Cond.code ({ cls := "com/example/elodea/elodea/cli/Parameter", name := "argument", desc := "(Ljava/lang/String;Ljava/lang/String;Ljava/lang/String;)Lcom/example/elodea/elodea/cli/Parameter;" } : Jvm.MethodName) prog_4_method_6_code (3 : Nat) (Option.some (Jvm.ClassFile.FieldType.object "com/example/elodea/elodea/cli/Parameter")), Jvm.Cond.code ({ cls := "com/example/elodea/elodea/cli/Parameter", name := "<init>", desc := "(Lcom/example/elodea/elodea/cli/Parameter$Kind;Ljava/lang/String;Ljava/lang/String;ZIZZLjava/lang/String;)V" } : Jvm.MethodName) prog_4_method_1_code (9 : Nat) (Option.none : Option Jvm.ClassFile.FieldType), Jvm.Cond.code ({ cls := "com/example/elodea/elodea/cli/Parameter", name := "getKind", desc := "()Lcom/example/elodea/elodea/cli/Parameter$Kind;" } : Jvm.MethodName) prog_4_method_8_code (1 : Nat) (Option.some (Jvm.ClassFile.FieldType.object "com/example/elodea/elodea/cli/Parameter$Kind")), Jvm.Cond.code ({ cls := "com/example/elodea/elodea/cli/Parameter", name := "getName", desc := "()Ljava/lang/String;" } : Jvm.MethodName) prog_4_method_9_code (1 : Nat) (Option.some (Jvm.ClassFile.FieldType.object "java/lang/String")), Jvm.Cond.code ({ cls := "java/lang/String", name := "equals", desc := "(Ljava/lang/Object;)Z" } : Jvm.MethodName) jdk_42_method_66_code (3 : Nat) (Option.some Jvm.ClassFile.FieldType.boolean), Jvm.Cond.code ({ cls := "com/example/elodea/elodea/cli/Parameter", name := "getDescription", desc := "()Ljava/lang/String;" } : Jvm.MethodName) prog_4_method_13_code (1 : Nat) (Option.some (Jvm.ClassFile.FieldType.object "java/lang/String")), Jvm.Cond.code ({ cls := "com/example/elodea/elodea/cli/Parameter", name := "getLeast", desc := "()I" } : Jvm.MethodName) prog_4_method_10_code (1 : Nat) (Option.some Jvm.ClassFile.FieldType.int), Jvm.Cond.code ({ cls := "com/example/elodea/elodea/cli/Parameter", name := "isRepeated", desc := "()Z" } : Jvm.MethodName) prog_4_method_11_code (1 : Nat) (Option.some Jvm.ClassFile.FieldType.boolean), Jvm.Cond.code ({ cls := "com/example/elodea/elodea/cli/Parameter", name := "isStandIn", desc := "()Z" } : Jvm.MethodName) prog_4_method_12_code (1 : Nat) (Option.some Jvm.ClassFile.FieldType.boolean), Jvm.Cond.code ({ cls := "com/example/elodea/elodea/cli/Parameter", name := "getUsage", desc := "()Ljava/lang/String;" } : Jvm.MethodName) prog_4_method_16_code (1 : Nat) (Option.some (Jvm.ClassFile.FieldType.object "java/lang/String")), Jvm.Cond.code ({ cls := "com/example/elodea/elodea/cli/Parameter", name := "getLabel", desc := "()Ljava/lang/String;" } : Jvm.MethodName) prog_4_method_14_code (2 : Nat) (Option.some (Jvm.ClassFile.FieldType.object "java/lang/String")), Jvm.Cond.code ({ cls := "com/example/elodea/elodea/cli/Parameter", name := "getWordName", desc := "(I)Ljava/lang/String;" } : Jvm.MethodName) prog_4_method_15_code (2 : Nat) (Option.some (Jvm.ClassFile.FieldType.object "java/lang/String")), Jvm.Cond.code ({ cls := "java/lang/String", name := "valueOf", desc := "(C)Ljava/lang/String;" } : Jvm.MethodName) jdk_42_method_139_code (1 : Nat) (Option.some (Jvm.ClassFile.FieldType.object "java/lang/String")), Jvm.Cond.code ({ cls := "java/lang/StringLatin1", name := "canEncode", desc := "(C)Z" } : Jvm.MethodName) jdk_43_method_3_code (1 : Nat) (Option.some Jvm.ClassFile.FieldType.boolean), Jvm.Cond.code ({ cls := "java/lang/StringLatin1", name := "toBytes", desc := "(C)[B" } : Jvm.MethodName) jdk_43_method_46_code (1 : Nat) (Option.some (Jvm.ClassFile.FieldType.array Jvm.ClassFile.FieldType.byte)), Jvm.Cond.code ({ cls := "java/lang/String", name := "<init>", desc := "([BB)V" } : Jvm.MethodName) jdk_42_method_151_code (3 : Nat) (Option.none : Option Jvm.ClassFile.FieldType), Jvm.Cond.code ({ cls := "java/lang/StringUTF16", name := "compress", desc := "([CII)[B" } : Jvm.MethodName) jdk_52_method_16_code (6 : Nat) (Option.some (Jvm.ClassFile.FieldType.array Jvm.ClassFile.FieldType.byte)), Jvm.Cond.code ({ cls := "java/lang/StringUTF16", name := "compress", desc := "([CI[BII)I" } : Jvm.MethodName) jdk_52_method_21_code (7 : Nat) (Option.some Jvm.ClassFile.FieldType.int), Jvm.Cond.code ({ cls := "java/lang/StringUTF16", name := "coderFromArrayLen", desc := "([BI)B" } : Jvm.MethodName) jdk_52_method_15_code (2 : Nat) (Option.some Jvm.ClassFile.FieldType.byte)]
set_option maxRecDepth 65536 in
theorem codes_eq : words1.filter isCode = codes1 := rfl
theorem w_codes : ∀ c ∈ words1.filter isCode, c.before args0 about1 = true := by
  rw [codes_eq]
  intro c hc
  simp only [codes1, List.mem_cons, List.not_mem_nil, or_false] at hc
  rcases hc with rfl | rfl | rfl | rfl | rfl | rfl | rfl | rfl | rfl | rfl | rfl | rfl | rfl | rfl | rfl | rfl | rfl | rfl | rfl | rfl | rfl | rfl | rfl | rfl
  · exact w_c0
  · exact w_c1
  · exact w_c2
  · exact w_c3
  · exact w_c4
  · exact w_c5
  · exact w_c6
  · exact w_c7
  · exact w_c8
  · exact w_c9
  · exact w_c10
  · exact w_c11
  · exact w_c12
  · exact w_c13
  · exact w_c14
  · exact w_c15
  · exact w_c16
  · exact w_c17
  · exact w_c18
  · exact w_c19
  · exact w_c20
  · exact w_c21
  · exact w_c22
  · exact w_c23
set_option maxRecDepth 65536 in
theorem w_t1 : (words1.take 24).all (fun c => isCode c || c.before args0 about1) = true := by decide +kernel
set_option maxRecDepth 65536 in
theorem w_t2 : ((words1.drop 24).take 24).all (fun c => isCode c || c.before args0 about1) = true := by decide +kernel
set_option maxRecDepth 65536 in
theorem w_t3 : (((words1.drop 24).drop 24).take 24).all (fun c => isCode c || c.before args0 about1) = true := by decide +kernel
set_option maxRecDepth 65536 in
theorem w_t4 : ((((words1.drop 24).drop 24).drop 24).take 24).all (fun c => isCode c || c.before args0 about1) = true := by decide +kernel
set_option maxRecDepth 65536 in
theorem w_t5 : (((((words1.drop 24).drop 24).drop 24).drop 24).take 24).all (fun c => isCode c || c.before args0 about1) = true := by decide +kernel
set_option maxRecDepth 65536 in
theorem w_t6 : (((((words1.drop 24).drop 24).drop 24).drop 24).drop 24).all (fun c => isCode c || c.before args0 about1) = true := by decide +kernel
theorem w_tables : (allAtoms (Jvm.Cond.code x code maxLocals ret :: tables_1)).before args0 about1 = true := by
  rw [allAtoms_all]
  show words1.all (fun c => c.before args0 about1) = true
  refine all_split ?_ w_codes
  rw [← List.take_append_drop 24 words1, List.all_append, w_t1, ← List.take_append_drop 24 (words1.drop 24), List.all_append, w_t2, ← List.take_append_drop 24 ((words1.drop 24).drop 24), List.all_append, w_t3, ← List.take_append_drop 24 (((words1.drop 24).drop 24).drop 24), List.all_append, w_t4, ← List.take_append_drop 24 ((((words1.drop 24).drop 24).drop 24).drop 24), List.all_append, w_t5, w_t6]
  rfl
set_option maxRecDepth 65536 in
theorem w_rest : rest_1_c.before args0 about1 = true := by decide +kernel
set_option maxRecDepth 65536 in
theorem w_case : (Jvm.Cond.and given_1 narrow_1).before args0 about1 = true := by decide +kernel
set_option maxRecDepth 65536 in
theorem w_consts : constsHeld consts_1 about1 := Jvm.Lit.constsHeldB_iff.mp (by decide +kernel)
theorem w_applies : (headSpec (Jvm.Cond.code x code maxLocals ret :: tables_1) room_1).applies x e0.platform about1 = true :=
  (Spec.applies_iff w_frames).mpr ⟨w_running, w_runnable, w_alone, w_named, w_hears, w_ripe, w_room, w_tables⟩
theorem atStart : AtStart classFile x code maxLocals ret World_1 tables_1 room_1 Calls_1 rest_1 Pre_1 launch0 p0 e0 about1 theMethod args0 below0 :=
  ⟨lists_1, trivial, launch0.admits_env _ _ _, launch0.least_env, fairChoices_fair.cas, fairChoices_fair.clock, w_frames, w_args, w_heap, w_applies, ⟨w_consts, trivial⟩, w_rest, w_case⟩
end start1
theorem witness_1 : WitnessClaimed_1 := ⟨start1.p0, start1.e0, start1.about1, start1.theMethod, start1.args0, start1.below0, start1.atStart⟩
end Jvm.Pilot.@@N@@
